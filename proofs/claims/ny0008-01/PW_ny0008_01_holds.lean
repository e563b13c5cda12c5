import PyProof.Rows.All
import Wide.All
import OpenK.AllK
import Wide.FinOn
import PySem.Challenge.RW_ny0008_01
open PySem PySem.W PyProof.Rows PySem.Calls
set_option Elab.async false
set_option maxRecDepth 100000
/-! # P1 -/
open PySem PySem.W PyProof.Rows PySem.NumText PySem.Builtin.Str
namespace Mine

/-! ## the plain texts -/
def und : Str := Str.ofString "_"
def fig0 (n : Int) : Str := Str.ofString (toString (if n < 0 then -n else n))
def fig1 (n way : Int) : Str := if way = 2 then Str.ofString "00" ++ fig0 n else fig0 n
def fig2 (n way : Int) : Str := if way = 3 then Txt.join (Str.ofString "_") (signs (fig1 n way)) else fig1 n way
def fig3 (n way : Int) : Str := if n < 0 then Str.ofString "-" ++ fig2 n way else if way = 1 then Str.ofString "+" ++ fig2 n way else fig2 n way
def spelled (n way : Int) : Str := if way = 4 then Str.ofString "  " ++ fig3 n way ++ Str.ofString " " else fig3 n way

theorem abs_nat (n : Int) : (if n < 0 then -n else n) = ((n.natAbs : Nat) : Int) := by split <;> omega

theorem fig0_list (n : Int) : (fig0 n).cps.toList = (Nat.toDigits 10 n.natAbs).map Char.toNat := by
  unfold fig0; rw [abs_nat]; exact KIN.signs_num _

theorem fig0_digits (n : Int) : AllDigits (fig0 n).cps.toList := by
  intro c hc
  rw [fig0_list] at hc
  obtain ⟨ch, hch, e⟩ := List.mem_map.mp hc
  have r := digit_range (Nat.isDigit_of_mem_toDigits (by decide) (by decide) hch)
  rw [← e]; exact r

theorem fig0_ne (n : Int) : (fig0 n).cps.toList ≠ [] := by
  rw [fig0_list]
  intro e
  have h := toDigits_len_ge 10 n.natAbs
  rw [List.map_eq_nil_iff.mp e] at h
  exact absurd h (by decide)

theorem fig0_val (n : Int) : digitsVal (fig0 n).cps.toList = n.natAbs := by
  rw [fig0_list]; exact KIN.val_back _

theorem toDigits_len_le (m : Nat) : ∀ k, 1 ≤ k → m < 10 ^ k → (Nat.toDigits 10 m).length ≤ k := by
  intro k
  induction k generalizing m with
  | zero => intro h; omega
  | succ k ih =>
    intro _ hm
    by_cases h : m < 10
    · rw [Nat.toDigits_of_lt_base h]; simp
    · have hk : 1 ≤ k := by
        rcases Nat.eq_zero_or_pos k with e | e
        · subst e; simp at hm; omega
        · exact e
      have hmod : m % 10 < 10 := Nat.mod_lt m (by decide)
      have t : Nat.toDigits 10 (m / 10) ++ Nat.toDigits 10 (m % 10) = Nat.toDigits 10 (10 * (m / 10) + m % 10) := Nat.toDigits_append_toDigits (by decide) (by omega) hmod
      rw [Nat.div_add_mod] at t
      rw [← t, List.length_append, Nat.toDigits_of_lt_base hmod]
      have : m / 10 < 10 ^ k := by
        rw [Nat.div_lt_iff_lt_mul (by decide)]
        rw [Nat.pow_succ] at hm; exact hm
      have := ih (m / 10) hk this
      simp only [List.length_singleton]; omega

theorem fig0_len {n : Int} (h : n.natAbs < 10 ^ 20) : (fig0 n).length ≤ 20 := by
  have e : (fig0 n).length = (fig0 n).cps.toList.length := Array.length_toList.symm
  rw [e, fig0_list, List.length_map]
  exact toDigits_len_le _ 20 (by decide) h

theorem cps_app (a b : Str) : (a ++ b).cps.toList = a.cps.toList ++ b.cps.toList := by
  rw [Str.cps_append, Array.toList_append]

/-- underscores between -/
def inter : List Nat → List Nat
  | [] => []
  | c :: r => c :: r.flatMap fun d => [95, d]

theorem join_signs_list (c : Nat) (r : List Nat) : (Str.join (Str.ofString "_") ((c :: r).map fun n => (⟨#[n]⟩ : Str))).cps.toList = inter (c :: r) := by
  induction r generalizing c with
  | nil => rfl
  | cons d r ih =>
    have e : Str.join (Str.ofString "_") ((c :: d :: r).map fun n => (⟨#[n]⟩ : Str)) = (⟨#[c]⟩ : Str) ++ Str.ofString "_" ++ Str.join (Str.ofString "_") ((d :: r).map fun n => (⟨#[n]⟩ : Str)) := rfl
    rw [e, cps_app, cps_app, ih d]
    rfl

theorem join_list (x : Str) (h : x.cps.toList ≠ []) : (Txt.join (Str.ofString "_") (signs x)).cps.toList = inter x.cps.toList := by
  have e : Txt.join (Str.ofString "_") (signs x) = Str.join (Str.ofString "_") (signs x) := StrLaws.glued_eq_join _ _
  rw [e]
  unfold signs
  cases hx : x.cps.toList with
  | nil => exact absurd hx h
  | cons c r => exact join_signs_list c r

theorem inter_ne {l : List Nat} (h : l ≠ []) : inter l ≠ [] := by
  cases l with
  | nil => exact absurd rfl h
  | cons c r => simp [inter]
theorem inter_len (l : List Nat) : (inter l).length ≤ 2 * l.length := by
  cases l with
  | nil => simp [inter]
  | cons c r =>
    have : ∀ r : List Nat, (r.flatMap fun d => [95, d]).length = 2 * r.length := by
      intro r
      induction r with
      | nil => rfl
      | cons d r ih => rw [List.flatMap_cons, List.length_append, ih]; simp; omega
    simp only [inter, List.length_cons, this]; omega
theorem inter_mem {l : List Nat} {d : Nat} (h : d ∈ inter l) : d = 95 ∨ d ∈ l := by
  cases l with
  | nil => simp [inter] at h
  | cons c r =>
    simp only [inter, List.mem_cons, List.mem_flatMap] at h
    rcases h with h | ⟨e, he, h⟩
    · exact Or.inr (by simp [h])
    · simp at h
      rcases h with h | h
      · exact Or.inl h
      · exact Or.inr (by simp [h, he])

theorem foldl_inter : ∀ (cs : List Nat) (ds : Array Nat), AllDigits cs → (cs.flatMap fun d => [95, d]).foldlM (step 10) (ds, true) = some (cs.foldl (fun acc c => acc.push (c - 48)) ds, true)
  | [], _, _ => rfl
  | c :: cs, ds, h => by
    have e : ((c :: cs).flatMap fun d => [95, d]) = 95 :: c :: (cs.flatMap fun d => [95, d]) := rfl
    rw [e, List.foldlM_cons]
    have e1 : step 10 (ds, true) 95 = some (ds, false) := rfl
    rw [e1]
    show (List.foldlM (step 10) (ds, false) (c :: _)) = _
    rw [List.foldlM_cons, step_digit h.head]
    exact foldl_inter cs (ds.push (c - 48)) h.tail

theorem digits_inter {cs : List Nat} (h : AllDigits cs) (hne : cs ≠ []) : digits? 10 (inter cs) = some (cs.foldl (fun acc c => acc.push (c - 48)) #[]) := by
  cases cs with
  | nil => exact absurd rfl hne
  | cons c cs =>
    unfold digits?
    rw [inter, List.foldlM_cons, step_digit h.head]
    show ((cs.flatMap fun d => [95, d]).foldlM (step 10) ((#[] : Array Nat).push (c - 48), true)).bind _ = _
    rw [foldl_inter cs _ h.tail]
    rfl

/-- a body: read by digits? as m, its signs digits or underscores, first and last no underscore -/
structure Body (l : List Nat) (m : Nat) : Prop where
  ne : l ≠ []
  digs : ∃ ds, digits? 10 l = some ds ∧ ds.size ≤ 4300 ∧ ds.foldl (fun acc d => acc * 10 + d) 0 = m
  mem : ∀ c ∈ l, c = 95 ∨ (48 ≤ c ∧ c ≤ 57)

theorem body_plain {cs : List Nat} (h : AllDigits cs) (hne : cs ≠ []) (hl : cs.length ≤ 4300) : Body cs (digitsVal cs) := by
  refine ⟨hne, ⟨_, digits_of h hne, ?_, ?_⟩, fun c hc => Or.inr (h c hc)⟩
  · rw [push_size]; simpa using hl
  · rw [push_foldl]; rfl
theorem body_inter {cs : List Nat} (h : AllDigits cs) (hne : cs ≠ []) (hl : cs.length ≤ 4300) : Body (inter cs) (digitsVal cs) := by
  refine ⟨inter_ne hne, ⟨_, digits_inter h hne, ?_, ?_⟩, fun c hc => ?_⟩
  · rw [push_size]; simpa using hl
  · rw [push_foldl]; rfl
  · rcases inter_mem hc with h1 | h1
    · exact Or.inl h1
    · exact Or.inr (h c h1)

theorem zeros_val (cs : List Nat) : digitsVal (48 :: 48 :: cs) = digitsVal cs := rfl

theorem dropWhile_ge {l : List Nat} (h : ∀ c ∈ l, 33 ≤ c) : l.dropWhile blank = l := by
  cases l with
  | nil => rfl
  | cons c cs => exact dropWhile_of (h c (List.mem_cons_self ..))

theorem sign_body {l : List Nat} (h : ∀ c ∈ l, c = 95 ∨ (48 ≤ c ∧ c ≤ 57)) : sign l = (false, l) := by
  cases l with
  | nil => rfl
  | cons c r =>
    have := h c (List.mem_cons_self ..)
    exact sign_of (by omega) (by omega)

/-- reading, given the parts -/
theorem read_parts {x : Str} {pre sg body post : List Nat} {neg : Bool} {m : Nat} (hx : x.cps.toList = pre ++ (sg ++ (body ++ post)))
    (hpre : ∀ c ∈ pre, c = 32) (hpost : ∀ c ∈ post, c = 32) (hsg : (sg = [] ∧ neg = false) ∨ (sg = [45] ∧ neg = true) ∨ (sg = [43] ∧ neg = false)) (hb : Body body m) :
    PySem.intText? x = some (if neg then -(m : Int) else (m : Int)) := by
  have hall : ∀ c ∈ x.cps.toList, c ≠ 0 ∧ c < 128 := by
    rw [hx]; intro c hc
    simp only [List.mem_append] at hc
    rcases hc with h | h | h | h
    · have := hpre c h; omega
    · rcases hsg with ⟨e, _⟩ | ⟨e, _⟩ | ⟨e, _⟩ <;> (rw [e] at h; simp at h; try omega)
    · have := hb.mem c h; omega
    · have := hpost c h; omega
  have e1 : numTextOf x = x.cps.toList := by
    refine if_pos ?_
    rw [← Array.all_toList, List.all_eq_true]
    intro c hc
    exact decide_eq_true (hall c hc).2
  have e2 : numSeenOf x = x.cps.toList := by
    show (numTextOf x).takeWhile _ = _
    rw [e1]
    exact takeWhile_all fun c hc => bne_iff_ne.mpr (hall c hc).1
  have blk : blank 32 = true := rfl
  have hpre' : ∀ (p r : List Nat), (∀ c ∈ p, c = 32) → (p ++ r).dropWhile blank = r.dropWhile blank := by
    intro p r hp
    induction p with
    | nil => rfl
    | cons c p ih =>
      have ec := hp c (List.mem_cons_self ..)
      subst ec
      rw [List.cons_append, List.dropWhile_cons, blk]
      exact ih fun d hd => hp d (List.mem_cons_of_mem _ hd)
  obtain ⟨hne, ⟨ds, hds, hsz, hval⟩, hmem⟩ := hb
  have hge : ∀ c ∈ body, 33 ≤ c := fun c hc => by have := hmem c hc; omega
  have core1 : ((body ++ post).reverse.dropWhile blank).reverse = body := by
    rw [List.reverse_append, hpre' _ _ (fun c hc => hpost c (List.mem_reverse.mp hc)), dropWhile_ge (fun c hc => hge c (List.mem_reverse.mp hc)), List.reverse_reverse]
  obtain ⟨b0, br, eb⟩ : ∃ c r, body = c :: r := by
    cases body with
    | nil => exact absurd rfl hne
    | cons c r => exact ⟨c, r, rfl⟩
  have hb0 := hmem b0 (by rw [eb]; exact List.mem_cons_self ..)
  have sg1 : sign ((x.cps.toList).dropWhile blank) = (neg, body ++ post) := by
    rw [hx, hpre' _ _ hpre]
    rcases hsg with ⟨e, e'⟩ | ⟨e, e'⟩ | ⟨e, e'⟩
    · subst e e'
      rw [List.nil_append, eb, List.cons_append, dropWhile_of (by omega)]
      exact sign_of (by omega) (by omega)
    · subst e e'
      rw [List.cons_append, List.nil_append, dropWhile_of (by decide)]; rfl
    · subst e e'
      rw [List.cons_append, List.nil_append, dropWhile_of (by decide)]; rfl
  have hcore : core x.cps.toList = body := by
    unfold core; rw [sg1]; exact core1
  unfold PySem.intText?
  rw [e1, e2, hcore, hds, sg1, if_pos (beq_self_eq_true _)]
  show (if ds.size ≤ 4300 then some (worth neg ds) else none) = _
  rw [if_pos hsz]
  unfold worth
  rw [hval]

theorem fig2_body {n : Int} (way : Int) (h : n.natAbs < 10 ^ 20) : Body (fig2 n way).cps.toList n.natAbs := by
  have hd := fig0_digits n
  have hne := fig0_ne n
  have hv := fig0_val n
  have hl : (fig0 n).cps.toList.length ≤ 20 := by have := fig0_len h; have e : (fig0 n).length = (fig0 n).cps.toList.length := Array.length_toList.symm; omega
  unfold fig2 fig1
  by_cases h3 : way = 3
  · subst h3
    rw [if_pos rfl, if_neg (by decide), join_list _ hne]
    have := body_inter hd hne (by omega)
    rwa [hv] at this
  · rw [if_neg h3]
    by_cases h2 : way = 2
    · rw [if_pos h2, cps_app]
      have e0 : (Str.ofString "00").cps.toList = [48, 48] := by decide +kernel
      rw [e0]
      have hd' : AllDigits ([48, 48] ++ (fig0 n).cps.toList) := by
        intro c hc
        simp only [List.mem_append] at hc
        rcases hc with h | h
        · simp at h; omega
        · exact hd c h
      have := body_plain hd' (by simp) (by rw [List.length_append]; simp only [List.length_cons, List.length_nil]; omega)
      have e1 : digitsVal ([48, 48] ++ (fig0 n).cps.toList) = n.natAbs := (zeros_val _).trans hv
      rwa [e1] at this
    · rw [if_neg h2]
      have := body_plain hd hne (by omega)
      rwa [hv] at this

theorem spelled_parts {n : Int} (way : Int) (h : n.natAbs < 10 ^ 20) : ∃ pre sg body post neg, (spelled n way).cps.toList = pre ++ (sg ++ (body ++ post)) ∧ (∀ c ∈ pre, c = 32) ∧ (∀ c ∈ post, c = 32) ∧
    ((sg = [] ∧ neg = false) ∨ (sg = [45] ∧ neg = true) ∨ (sg = [43] ∧ neg = false)) ∧ Body body n.natAbs ∧ (if neg then -(n.natAbs : Int) else (n.natAbs : Int)) = n ∧ pre.length + sg.length + post.length ≤ 4 ∧ body = (fig2 n way).cps.toList := by
  have hb := fig2_body way h
  have em : (Str.ofString "-").cps.toList = [45] := by decide +kernel
  have ep : (Str.ofString "+").cps.toList = [43] := by decide +kernel
  have e2 : (Str.ofString "  ").cps.toList = [32, 32] := by decide +kernel
  have e1 : (Str.ofString " ").cps.toList = [32] := by decide +kernel
  obtain ⟨sg, neg, hs, hsg, hn, hsl⟩ : ∃ sg neg, (fig3 n way).cps.toList = sg ++ (fig2 n way).cps.toList ∧ ((sg = [] ∧ neg = false) ∨ (sg = [45] ∧ neg = true) ∨ (sg = [43] ∧ neg = false)) ∧ (if neg then -(n.natAbs : Int) else (n.natAbs : Int)) = n ∧ sg.length ≤ 1 := by
    unfold fig3
    by_cases h0 : n < 0
    · rw [if_pos h0, cps_app, em]
      exact ⟨[45], true, rfl, Or.inr (Or.inl ⟨rfl, rfl⟩), by simp only [if_true]; omega, by simp⟩
    · rw [if_neg h0]
      by_cases h1 : way = 1
      · rw [if_pos h1, cps_app, ep]
        exact ⟨[43], false, rfl, Or.inr (Or.inr ⟨rfl, rfl⟩), by simp only [Bool.false_eq_true, if_false]; omega, by simp⟩
      · rw [if_neg h1]
        exact ⟨[], false, rfl, Or.inl ⟨rfl, rfl⟩, by simp only [Bool.false_eq_true, if_false]; omega, by simp⟩
  unfold spelled
  by_cases h4 : way = 4
  · rw [if_pos h4, cps_app, cps_app, e2, e1, hs]
    refine ⟨[32, 32], sg, _, [32], neg, ?_, by simp, by simp, hsg, hb, hn, by simp; omega, rfl⟩
    simp only [List.append_assoc]
  · rw [if_neg h4, hs]
    exact ⟨[], sg, _, [], neg, by simp, by simp, by simp, hsg, hb, hn, by simp; omega, rfl⟩

theorem spelled_reads {n : Int} (way : Int) (h : n.natAbs < 10 ^ 20)   : PySem.intText? (spelled n way) = some n := by
  obtain ⟨pre, sg, body, post, neg, hx, h1, h2, h3, hb, hn, _, _⟩ := spelled_parts way h
  rw [read_parts hx h1 h2 h3 hb, hn]

theorem fig2_len {n : Int} (way : Int) (h : n.natAbs < 10 ^ 20) : (fig2 n way).cps.toList.length ≤ 40 := by
  have hl : (fig0 n).cps.toList.length ≤ 20 := by have := fig0_len h; have e : (fig0 n).length = (fig0 n).cps.toList.length := Array.length_toList.symm; omega
  unfold fig2 fig1
  by_cases h3 : way = 3
  · subst h3
    rw [if_pos rfl, if_neg (by decide), join_list _ (fig0_ne n)]
    have := inter_len (fig0 n).cps.toList; omega
  · rw [if_neg h3]
    split
    · rw [cps_app]
      have e0 : (Str.ofString "00").cps.toList = [48, 48] := by decide +kernel
      rw [e0, List.length_append]; simp only [List.length_cons, List.length_nil]; omega
    · omega

theorem spelled_len {n : Int} (way : Int) (h : n.natAbs < 10 ^ 20) : (spelled n way).length ≤ 50 := by
  obtain ⟨pre, sg, body, post, neg, hx, _, _, _, _, _, hl, hbd⟩ := spelled_parts way h
  have e : (spelled n way).length = (spelled n way).cps.toList.length := Array.length_toList.symm
  have := fig2_len way h
  rw [e, hx]
  simp only [List.length_append]
  rw [hbd]; omega

theorem spelled_nodot {n : Int} (way : Int) (h : n.natAbs < 10 ^ 20) : 46 ∉ (spelled n way).cps.toList := by
  obtain ⟨pre, sg, body, post, neg, hx, h1, h2, h3, hb, _, _, _⟩ := spelled_parts way h
  rw [hx]
  intro hc
  simp only [List.mem_append] at hc
  rcases hc with h | h | h | h
  · have := h1 _ h; omega
  · rcases h3 with ⟨e, _⟩ | ⟨e, _⟩ | ⟨e, _⟩ <;> (rw [e] at h; simp at h)
  · have := hb.mem _ h; omega
  · have := h2 _ h; omega

/-! ## the split -/
def dot : Str := Str.ofString "."
theorem dot_list : (Str.ofString ".").cps.toList = [46] := by decide +kernel
theorem dot_mk : Str.ofString "." = ⟨#[46]⟩ := by decide +kernel

theorem uniq_dot : ∀ {a b p q : List Nat}, 46 ∉ a → 46 ∉ p → a ++ 46 :: b = p ++ 46 :: q → a = p ∧ b = q
  | [], b, [], q, _, _, h => by simp at h; exact ⟨rfl, h⟩
  | [], b, c :: p, q, _, hp, h => by
    simp at h; exact absurd (List.mem_cons.mpr (Or.inl h.1)) hp
  | c :: a, b, [], q, ha, _, h => by
    simp at h; exact absurd (List.mem_cons.mpr (Or.inl h.1.symm)) ha
  | c :: a, b, d :: p, q, ha, hp, h => by
    simp at h
    have := uniq_dot (fun x => ha (List.mem_cons_of_mem _ x)) (fun x => hp (List.mem_cons_of_mem _ x)) h.2
    exact ⟨by rw [h.1, this.1], this.2⟩

theorem cnt_nonneg (c : Nat) : ∀ l : List Nat, 0 ≤ cnt c l
  | [] => by rw [cnt_nil]; omega
  | n :: r => by rw [cnt_cons]; have := cnt_nonneg c r; split <;> omega
theorem cnt_pos (c : Nat) : ∀ l : List Nat, c ∈ l → 1 ≤ cnt c l
  | [], h => by simp at h
  | n :: r, h => by
    rw [cnt_cons]
    have h0 := cnt_nonneg c r
    rcases List.mem_cons.mp h with e | h
    · rw [if_pos e.symm]; omega
    · have := cnt_pos c r h; split <;> omega

theorem split_dot {a b : Str} (ha : 46 ∉ a.cps.toList) (hb : 46 ∉ b.cps.toList) : Txt.split (a ++ Str.ofString "." ++ b) (Str.ofString ".") = [a, b] := by
  have hl := split_len (a ++ Str.ofString "." ++ b) 46
  have hj := StrLaws.join_split (a ++ Str.ofString "." ++ b) (Str.ofString ".")
  rw [← dot_mk] at hl
  have hc : cnt 46 (a ++ Str.ofString "." ++ b).cps.toList = 1 := by
    rw [cps_app, cps_app, dot_list, cnt_append, cnt_append, cnt_none 46 _ ha, cnt_none 46 _ hb, cnt_cons, cnt_nil]; rfl
  rw [hc] at hl
  generalize Txt.split (a ++ Str.ofString "." ++ b) (Str.ofString ".") = l at hl hj
  match l, hl, hj with
  | [p, q], _, hj =>
    have hj' : p ++ Str.ofString "." ++ q = a ++ Str.ofString "." ++ b := hj
    have h1 := congrArg (fun x : Str => cnt 46 x.cps.toList) hj'
    have h2 := congrArg (fun x : Str => x.cps.toList) hj'
    rw [hc, cps_app, cps_app, dot_list, cnt_append, cnt_append, cnt_cons, cnt_nil, if_pos rfl] at h1
    rw [cps_app, cps_app, dot_list, cps_app, cps_app, dot_list] at h2
    have hp : 46 ∉ p.cps.toList := fun h => by
      have := cnt_pos 46 _ h; have := cnt_nonneg 46 q.cps.toList; omega
    simp only [List.append_assoc, List.singleton_append] at h2
    obtain ⟨e1, e2⟩ := uniq_dot hp ha h2
    have e1' : p = a := Str.ext' (Array.toList_inj.mp e1)
    have e2' : q = b := Str.ext' (Array.toList_inj.mp e2)
    rw [e1', e2']
  | [], hl, _ => simp at hl
  | [p], hl, _ => simp at hl
  | p :: q :: r :: t, hl, _ => simp only [List.length_cons] at hl; omega

/-- the key's text -/
def keyText (col n w1 w2 : Int) : Str := spelled col w1 ++ Str.ofString "." ++ spelled n w2
theorem keyText_split {c n : Int} (w1 w2 : Int) (hc : c.natAbs < 10 ^ 20) (hn : n.natAbs < 10 ^ 20) : Txt.split (keyText c n w1 w2) (Str.ofString ".") = [spelled c w1, spelled n w2] :=
  split_dot (spelled_nodot w1 hc) (spelled_nodot w2 hn)
theorem keyText_len {c n : Int} (w1 w2 : Int) (hc : c.natAbs < 10 ^ 20) (hn : n.natAbs < 10 ^ 20) : (keyText c n w1 w2).length ≤ 101 := by
  have h1 := spelled_len w1 hc
  have h2 := spelled_len w2 hn
  have e : (Str.ofString ".").length = 1 := by decide +kernel
  unfold keyText
  rw [Str.length_append, Str.length_append, e]; omega
end Mine

/-! # RM -/
namespace Mine
/-! ## map: the type and its slots -/
theorem mro_map : mroOf (.type "map") = pure [.type "map", .type "object"] := by rw [mroOf_type]; kernel_rfl
theorem lookup_map_new : typeLookup (.type "map") "__new__" = pure (some (.builtin "map.__new__")) := by rw [typeLookup_type, builtinLookup_eq_fast]; kernel_rfl
theorem slot_map_init : Slot "map" "__init__" "object.__init__" :=
  .of (owner := "object") (n := "__init__") (by rw [typeLookup_type, builtinLookup_eq_fast]; kernel_rfl) (by decide +kernel) (by decide +kernel) (by decide +kernel)
    (by first | exact .inl (by decide +kernel) | exact .inr (by decide +kernel)) (by rw [isSubtype_type]; kernel_rfl)
theorem slot_map_iter : Slot "map" "__iter__" "map.__iter__" :=
  .of (owner := "map") (n := "__iter__") (by rw [typeLookup_type, builtinLookup_eq_fast]; kernel_rfl) (by decide +kernel) (by decide +kernel) (by decide +kernel)
    (by first | exact .inl (by decide +kernel) | exact .inr (by decide +kernel)) (by rw [isSubtype_type]; kernel_rfl)
theorem slot_map_next : Slot "map" "__next__" "map.__next__" :=
  .of (owner := "map") (n := "__next__") (by rw [typeLookup_type, builtinLookup_eq_fast]; kernel_rfl) (by decide +kernel) (by decide +kernel) (by decide +kernel)
    (by first | exact .inl (by decide +kernel) | exact .inr (by decide +kernel)) (by rw [isSubtype_type]; kernel_rfl)
theorem owner_map : Manifest.owners.lookup (String.ofList ['p', 'a', 'm'].reverse) = some Manifest.sig_map := by kernel_rfl
theorem args_map_iter_1 (a : Value) : argsOk "map.__iter__" ⟨[a], []⟩ := by
  unfold argsOk; rw [signature?_of (id := "map.__iter__") (n := ['_', '_', 'r', 'e', 't', 'i', '_', '_']) (o := ['p', 'a', 'm']) (by kernel_rfl) owner_map]; kernel_rfl
theorem args_map_next_1 (a : Value) : argsOk "map.__next__" ⟨[a], []⟩ := by
  unfold argsOk; rw [signature?_of (id := "map.__next__") (n := ['_', '_', 't', 'x', 'e', 'n', '_', '_']) (o := ['p', 'a', 'm']) (by kernel_rfl) owner_map]; kernel_rfl
theorem entry_map_new : entryFor table "map.__new__" = some Builtin.«map.__new__» := entryFor_of_tree (by kernel_rfl)
theorem entry_map_next : entryFor table "map.__next__" = some Builtin.«map.__next__» := entryFor_of_tree (by kernel_rfl)
theorem entry_map_iter : entryFor table "map.__iter__" = some Builtin.«dict_keyiterator.__iter__» :=
  entryFor_alias (id' := "dict_keyiterator.__iter__") (by kernel_rfl) (by first | rfl | decide +kernel | (unfold String.splitOn; simp +decide [String.splitOnAux])) (by decide +kernel) (by kernel_rfl)
theorem called_map : TypeCalled "map" "map.__new__" "object.__init__" :=
  ⟨by decide +kernel, by decide +kernel, ⟨_, _, mro_map⟩, madeBy_type mro_map lookup_map_new (by decide +kernel), by decide +kernel, by rw [isSubtype_type]; kernel_rfl, slot_map_init⟩
theorem typeCall_map_2 (a b : Value) : checkTypeCall "map" ⟨[a, b], []⟩ = pure () := by kernel_rfl
theorem newCall_map_2 (a b : Value) : checkBuiltinCall "map.__new__" ⟨[.type "map", a, b], []⟩ = pure () := by kernel_rfl
theorem sub_map : isSubtype (.type "map") (.type "map") = pure true := by rw [isSubtype_type]; kernel_rfl

abbrev IsMap (h : Heap) (e T : Addr) (f : Value) : Prop := h.get? e = some { cls := .type "map", dict := none, data := .fields #[.ref T, f], slots := #[] }
abbrev IsOne (h : Heap) (T : Addr) (a : Value) : Prop := h.get? T = some { cls := .type "tuple", data := .seq #[a] }
abbrev mapH1 (h : Heap) (l : Addr) : Heap := h.push { cls := .type "list_iterator", data := .fields #[.ref l, .int 0 0] }
abbrev mapH2 (h : Heap) (l : Addr) : Heap := (mapH1 h l).push { cls := .type "tuple", data := .seq #[.ref h.objs.size] }
abbrev mapH3 (h : Heap) (l : Addr) (f : Value) : Heap := (mapH2 h l).push { cls := .type "map", data := .fields #[.ref (mapH1 h l).objs.size, f] }

theorem meets_map_new (f : Value) (l : Addr) (xs : Array Value) :
    Meets (Builtin.«map.__new__» ⟨[.type "map", f, .ref l], []⟩) (fun _ R s => s.heap.IsList l xs ∧ R (.ok (.ret (.ref (mapH2 s.heap l).objs.size))) { s with heap := mapH3 s.heap l f }) :=
  .of_wp fun prog w A R s h => by
    obtain ⟨hp, g, d, tk, os⟩ := s; obtain ⟨hl1, h⟩ := h
    have hsub := sub_map
    have hL1 : Heap.IsList (Shared.heap ⟨hp, g, d, tk, os⟩) l xs := hl1
    wp_walk using wpAny_pyIter_list hL1
    exact ⟨_, rfl, h⟩

section
variable {prog : Program} {w : World} {A : Around} {E : Value → Shared → Prop} {s : Shared}

theorem call_map_2 {f : Value} {l : Addr} {xs : Array Value} {Q : Value → Shared → Prop} (hl : s.heap.IsList l xs)
    (h : ∀ h', IsMap h' (s.heap.objs.size + 2) (s.heap.objs.size + 1) f → IsOne h' (s.heap.objs.size + 1) (.ref s.heap.objs.size) → h'.IsListIter s.heap.objs.size l 0 → h'.objs.size = s.heap.objs.size + 3 →
      (∀ c o, s.heap.get? c = some o → h'.get? c = some o) → Q (.ref (s.heap.objs.size + 2)) { s with heap := h' }) :
    wpAny (model prog w) A (call (.type "map") [f, .ref l]) Q E s := by
  refine callType_new called_map (by decide) (typeCall_map_2 _ _) (newCall_map_2 _ _) (fun obj => F.args_object_init_3 obj _ _) entry_map_new (meets_map_new f l xs) ⟨hl, ?_⟩
  have z1 : (mapH1 s.heap l).objs.size = s.heap.objs.size + 1 := Heap.size_push ..
  have z2 : (mapH2 s.heap l).objs.size = s.heap.objs.size + 2 := by rw [Heap.size_push, z1]
  have z3 : (mapH3 s.heap l f).objs.size = s.heap.objs.size + 3 := by rw [Heap.size_push, z2]
  have g3 : (mapH3 s.heap l f).get? (mapH2 s.heap l).objs.size = some _ := Heap.get?_push_size _ rfl
  have g2 : (mapH3 s.heap l f).get? (mapH1 s.heap l).objs.size = some _ := Heap.get?_push_of_some _ (Heap.get?_push_size _ rfl)
  have g1 : (mapH3 s.heap l f).get? s.heap.objs.size = some _ := Heap.get?_push_of_some _ (Heap.get?_push_of_some _ (Heap.get?_push_size _ rfl))
  show _ ∧ _
  rw [z1, z2] at g3
  rw [z1] at g2
  rw [z2]
  exact ⟨⟨_, g3, rfl⟩, h _ g3 g2 ⟨_, g1, rfl, rfl⟩ z3 fun c o x => Heap.get?_push_of_some _ (Heap.get?_push_of_some _ (Heap.get?_push_of_some _ x))⟩

theorem map_next_item {e T it l : Addr} {f : Value} {i : Nat} {items : Array Value} {x : Value} {Q : Value → Shared → Prop} (he : IsMap s.heap e T f) (hT : IsOne s.heap T (.ref it))
    (hit : s.heap.IsListIter it l i) (hl : s.heap.IsList l items) (hx : items[i]? = some x) (hne : e ≠ it)
    (h : ∀ h', h'.IsListIter it l (i + 1) → Heap.SameBut it s.heap h' → wpAny (model prog w) A (call f [x]) Q E { s with heap := h' }) :
    wpAny (model prog w) A (Builtin.«map.__next__» ⟨[.ref e], []⟩) (fun fin s' => ∃ v, fin = .done (.ret v) ∧ Q v s') E s := by
  show wpAny _ _ (field (.ref e) 0 >>= _) _ _ _
  refine wpAny_bind (wpAny_field he rfl (x := .ref T) rfl ?_)
  refine wpAny_bind (wpAny_seqItems hT rfl ?_)
  show wpAny _ _ (forIn (#[.ref it] : Array Value) (#[] : Array Value) _ >>= _) _ _ _
  refine wpAny_bind ?_
  rw [← Array.forIn_toList]
  simp only [List.forIn_cons, List.forIn_nil]
  refine wpAny_bind (wpAny_bind (wpAny_holding (wpAny_nextOf_list_item hit hl hx fun h₁ hit₁ hs₁ => wpAny_pure ?_)))
  refine wpAny_pure ?_
  have he₁ : IsMap h₁ e T f := hs₁.extBut _ _ hne he
  show wpAny _ _ (field (.ref e) 1 >>= _) _ _ _
  refine wpAny_bind (wpAny_field he₁ rfl (x := f) rfl ?_)
  refine wpAny_bind (wpAny_holding (wpAny_mono (h h₁ hit₁ hs₁) (fun v s' hv => ?_) fun _ _ y => y))
  exact wpAny_bind (wpAny_letGo (wpAny_pure ⟨_, rfl, hv⟩))

theorem map_next_end {e T it l : Addr} {f : Value} {i : Nat} {items : Array Value} {Q : PySem.Fin → Shared → Prop} (hh : A.handled = none) (he : IsMap s.heap e T f) (hT : IsOne s.heap T (.ref it))
    (hit : s.heap.IsListIter it l i) (hl : s.heap.IsList l items) (hx : items[i]? = none)
    (hE : ∀ h' x, Heap.ExtBut it s.heap h' → (∃ o, h'.get? x = some o ∧ o.cls = .type "StopIteration") → E (.ref x) { s with heap := h' }) :
    wpAny (model prog w) A (Builtin.«map.__next__» ⟨[.ref e], []⟩) Q E s := by
  show wpAny _ _ (field (.ref e) 0 >>= _) _ _ _
  refine wpAny_bind (wpAny_field he rfl (x := .ref T) rfl ?_)
  refine wpAny_bind (wpAny_seqItems hT rfl ?_)
  show wpAny _ _ (forIn (#[.ref it] : Array Value) (#[] : Array Value) _ >>= _) _ _ _
  refine wpAny_bind ?_
  rw [← Array.forIn_toList]
  simp only [List.forIn_cons, List.forIn_nil]
  exact wpAny_bind (wpAny_bind (wpAny_holding (wpAny_nextOf_list_end hh hit hl hx hE)))

theorem pyNext_map_item {e T it l : Addr} {f : Value} {i : Nat} {items : Array Value} {x : Value} {Q : Option Value → Shared → Prop} (he : IsMap s.heap e T f) (hT : IsOne s.heap T (.ref it))
    (hit : s.heap.IsListIter it l i) (hl : s.heap.IsList l items) (hx : items[i]? = some x) (hne : e ≠ it)
    (h : ∀ h', h'.IsListIter it l (i + 1) → Heap.SameBut it s.heap h' → wpAny (model prog w) A.in1 (call f [x]) (fun v s' => Q (some v) s')
      (fun y s' => wpAny (model prog w) A (isInstance y (.type "StopIteration") >>= fun b => if b then pure none else throw y) Q E s') { s with heap := h' }) :
    wpAny (model prog w) A (pyNext (.ref e)) Q E s := by
  have hTy : s.TypeIs (.ref e) "map" := ⟨_, he, rfl⟩
  unfold pyNext
  refine wpAny_bind (wpAny_attempt (wpAny_callSpecial?_slot (name := Str.ofString "__next__") hTy slot_map_next
    (wpAny_call_entry slot_map_next hTy entry_map_next (map_next_item he hT hit hl hx hne fun h' a b => wpAny_mono (h h' a b) (fun v s' q => wpAny_pure q) fun y s' q => ?_) (args_map_next_1 _))))
  exact q

theorem pyNext_map_end {e T it l : Addr} {f : Value} {i : Nat} {items : Array Value} {Q : Option Value → Shared → Prop} (hh : A.handled = none) (he : IsMap s.heap e T f) (hT : IsOne s.heap T (.ref it))
    (hit : s.heap.IsListIter it l i) (hl : s.heap.IsList l items) (hx : items[i]? = none)
    (h : ∀ h', Heap.ExtBut it s.heap h' → Q none { s with heap := h' }) :
    wpAny (model prog w) A (pyNext (.ref e)) Q E s := by
  have hTy : s.TypeIs (.ref e) "map" := ⟨_, he, rfl⟩
  unfold pyNext
  refine wpAny_bind (wpAny_attempt (wpAny_callSpecial?_slot (name := Str.ofString "__next__") hTy slot_map_next
    (wpAny_call_entry slot_map_next hTy entry_map_next (map_next_end hh he hT hit hl hx fun h' x hk hx' => ?_) (args_map_next_1 _))))
  obtain ⟨o, ho, hc⟩ := hx'
  refine wpAny_bind (wpAny_isInstance (T := "StopIteration") (b := true) ⟨o, ho, hc⟩ isSubtype_stop ?_)
  exact wpAny_pure (h _ hk)

theorem pyIter_map {e T : Addr} {f : Value} {Q : Value → Shared → Prop} (he : IsMap s.heap e T f) (h : Q (.ref e) s) : wpAny (model prog w) A (pyIter (.ref e)) Q E s := by
  have hTy : s.TypeIs (.ref e) "map" := ⟨_, he, rfl⟩
  refine wpAny_pyIter_slot hTy slot_map_iter (wpAny_call_entry slot_map_iter hTy entry_map_iter ?_ (args_map_iter_1 _))
  show wpAny _ _ (ret (.ref e)) _ _ s
  exact wpAny_pure ⟨_, rfl, "map", _, hTy, slot_map_next.lookup, h⟩
end
end Mine

/-! # RB -/
namespace Mine

/-! ## heaps that keep -/
abbrev Ext (h h' : Heap) : Prop := ∀ b o, h.get? b = some o → h'.get? b = some o
theorem Ext.rfl' {h : Heap} : Ext h h := fun _ _ e => e
theorem Ext.tr {a b c : Heap} (x : Ext a b) (y : Ext b c) : Ext a c := fun d o e => y d o (x d o e)
theorem Ext.push (h : Heap) (o : Obj) : Ext h (h.push o) := fun _ _ e => Heap.get?_push_of_some _ e
/-- a store into a place that the elder heap did not have -/
theorem Ext.same {h₀ h h' : Heap} {L : Addr} (x : Ext h₀ h) (hL : h₀.get? L = none) (hs : Heap.SameBut L h h') : Ext h₀ h' := fun b o e =>
  hs.extBut b o (fun q => by rw [q, hL] at e; cases e) (x b o e)
theorem Ext.but {h₀ h h' : Heap} {L : Addr} (x : Ext h₀ h) (hL : h₀.get? L = none) (hs : Heap.ExtBut L h h') : Ext h₀ h' := fun b o e =>
  hs b o (fun q => by rw [q, hL] at e; cases e) (x b o e)
theorem none_at (h : Heap) {a : Addr} (ha : h.objs.size ≤ a) : h.get? a = none := by
  cases e : h.get? a with
  | none => rfl
  | some o => exact absurd (Heap.lt_size e) (Nat.not_lt.mpr ha)
theorem Ext.lt {h h' : Heap} {a : Addr} {o : Obj} (x : Ext h h') (e : h.get? a = some o) : a < h'.objs.size := Heap.lt_size (x a o e)

/-- from `lo` on nothing is lost -/
abbrev ExtA (lo : Nat) (h h' : Heap) : Prop := ∀ b o, lo ≤ b → h.get? b = some o → h'.get? b = some o
theorem Ext.a {h h' : Heap} (lo : Nat) (x : Ext h h') : ExtA lo h h' := fun b o _ e => x b o e
theorem ExtA.tr {lo : Nat} {a b c : Heap} (x : ExtA lo a b) (y : ExtA lo b c) : ExtA lo a c := fun d o hd e => y d o hd (x d o hd e)
theorem ExtA.same {lo : Nat} {h h' : Heap} {L : Nat} (hL : L < lo) (hs : Heap.SameBut L h h') : ExtA lo h h' := fun b o hb e => hs.extBut b o (fun q => Nat.lt_irrefl _ (Nat.lt_of_lt_of_le hL (q ▸ hb))) e
theorem ExtA.but {lo : Nat} {h h' : Heap} {L : Nat} (hL : L < lo) (hs : Heap.ExtBut L h h') : ExtA lo h h' := fun b o hb e => hs b o (fun q => Nat.lt_irrefl _ (Nat.lt_of_lt_of_le hL (q ▸ hb))) e

/-! ## the names -/
structure W0 (mg mb : Str → Option Value) (h : Heap) : Prop where
  g : h.Ns mainGlobals mg
  b : h.Ns builtinsNs mb
  nolimit : h.NoLimit
theorem W0.keeps {mg mb : Str → Option Value} {h h' : Heap} (x : W0 mg mb h) (k : Ext h h') : W0 mg mb h' := ⟨x.g.keeps k, x.b.keeps k, x.nolimit.keeps k⟩

/-- a def of the text's -/
def FnAt (h : Heap) (f : Addr) (name qual : Str) (params : Arguments) (body : List Stmt) (scope : Scope) (cdv : Value) : Prop :=
  ∃ o doc pm an ct, h.get? f = some o ∧ o.data = .func (fnOf name qual params body scope .none .none doc pm an cdv ct) ∧ h.CodeRec cdv qual
theorem FnAt.keeps {h h' : Heap} {f : Addr} {name qual : Str} {params : Arguments} {body : List Stmt} {scope : Scope} {cdv : Value} (x : FnAt h f name qual params body scope cdv) (k : Ext h h') :
    FnAt h' f name qual params body scope cdv := let ⟨o, d, p, an, ct, h1, h2, h3⟩ := x; ⟨o, d, p, an, ct, k _ _ h1, h2, h3.keeps k⟩

def fName : Stmt → Str | .FunctionDef (name := n) .. => n | _ => Str.empty
def fArgs : Stmt → Arguments | .FunctionDef (args := a) .. => a | _ => { posonlyargs := [], args := [], vararg := none, kwonlyargs := [], kw_defaults := [], kwarg := none, defaults := [] }
def fBody : Stmt → List Stmt | .FunctionDef (body := b) .. => b | _ => []
def fScope : Stmt → Scope | .FunctionDef (scope := s) .. => s | _ => default
def cBody : Stmt → List Stmt | .ClassDef (body := b) .. => b | _ => []
def top (k : Nat) : Stmt := PySem.Challenge.pw_ny0008_01.main.body.getD k (.Pass default)
def meth (k : Nat) : Stmt := (cBody (top 3)).getD k (.Pass default)

/-- the def `st` at f, its qualname q -/
abbrev Def (h : Heap) (f : Addr) (st : Stmt) (q : Str) (cdv : Value) : Prop := FnAt h f (fName st) q (fArgs st) (fBody st) (fScope st) cdv
abbrev envF (st : Stmt) (q : Str) (L f : Addr) (cdv : Value) : Env := envX q (fScope st) L f cdv []

def retOf : Flow → Value
  | .ret v => v
  | _ => .none

section
variable {prog : Program} {w : World} {A : Around} {E : Value → Shared → Prop} {s : Shared}

theorem enter {mg mb : Str → Option Value} {st : Stmt} {f : Addr} {q : Str} {cdv : Value} {args : List Value} {binds : List (Str × Value)} {Q : Value → Shared → Prop}
    (W : W0 mg mb s.heap) (D : Def s.heap f st q cdv) (hroom : A.depth < recursionLimit)
    (hbind : ∀ doc pm an ct, bindArgs (fnOf (fName st) q (fArgs st) (fBody st) (fScope st) .none .none doc pm an cdv ct) ⟨args, []⟩ = pure binds)
    (hcell : ∀ x ∈ (fScope st).names, x.2 ≠ .cell) (hloc : ∀ x ∈ binds, (fScope st).names.lookup x.1 = some .local)
    (hco : (fScope st).isCoroutine = false) (hgen : (fScope st).isGenerator = false) (hk : (fScope st).kind = .function)
    (h : ∀ h₁ tk, h₁.Ns s.heap.objs.size (fun x => binds.reverse.lookup x) → Ext s.heap h₁ →
      wpAny (model prog w) (A.deeper (envF st q s.heap.objs.size f cdv)) (execs (fBody st) (envF st q s.heap.objs.size f cdv)) (fun fl s' => Q (retOf fl) s')
        (fun e s' => wpAny (model prog w) (A.deeper (envF st q s.heap.objs.size f cdv)) (leaving (envF st q s.heap.objs.size f cdv) e) (fun _ s'' => E e s'') (fun e' s'' => E e' s'') s')
        { s with heap := h₁, toks := tk }) :
    wpAny (model prog w) A (call (.ref f) args) Q E s := by
  obtain ⟨o, doc, pm, an, ct, ho, hd, hcd⟩ := D
  refine wpAny_call (codeAny_call_def (fd := fnOf (fName st) q (fArgs st) (fBody st) (fScope st) .none .none doc pm an cdv ct) (body := fBody st) (binds := binds) hroom ho hd W.nolimit hcd rfl (BindsTo.of_eq (hbind doc pm an ct)) hcell hloc (fun h₁ hns hk₁ => ?_) hco hgen hk)
  refine wpAny_mono (h h₁ _ hns hk₁) (fun fl s' q => ?_) fun _ _ y => y
  cases fl <;> exact q
end

section
variable {M : Model} {A : Around} {E : Value → Shared → Prop} {s : Shared} {env : Env} {x : Str} {pos : Pos} {v : Value} {Q : Value → Shared → Prop} {m mg mb : Str → Option Value}
theorem nmL (hn : s.heap.Ns env.locals m) (hv : m x = some v) (hk : env.scope.kind = .function) (hx : env.kindOf x = some .local) (hd : (x == ("__debug__" : Str)) = false) (h : Q v s) :
    wpAny M A (eval (.Name x pos) env) Q E s := wpAny_Name (wpAny_loadName_local hk hx hn hv h) hd
theorem nmG (W : W0 mg mb s.heap) (hg : env.globals = mainGlobals) (hv : mg x = some v) (hk : env.scope.kind = .function) (hx : env.kindOf x = some .globalImplicit) (hd : (x == ("__debug__" : Str)) = false) (h : Q v s) :
    wpAny M A (eval (.Name x pos) env) Q E s := Name_function_global hk hx (loadGlobal_global (by rw [hg]; exact W.g) hv h) hd
theorem nmB (W : W0 mg mb s.heap) (hg : env.globals = mainGlobals) (hb : env.builtins = builtinsNs) (hn : mg x = none) (hv : mb x = some v) (hk : env.scope.kind = .function) (hx : env.kindOf x = some .globalImplicit) (hd : (x == ("__debug__" : Str)) = false) (h : Q v s) :
    wpAny M A (eval (.Name x pos) env) Q E s := Name_function_global hk hx (loadGlobal_builtin (by rw [hg]; exact W.g) hn (by rw [hb]; exact W.b) hv h) hd
/-- a call's arguments -/
theorem cwF {a : Addr} {y : Sem Value} {rest : List (Bool × Sem Value)} {o : Obj} {fd : FuncData}
    (h : wpAny M A (spliced ((false, y) :: rest)) (fun vs s₁ => (s₁.heap.get? a = some o ∧ o.data = .func fd) ∧ wpAny M A (call (.ref a) vs) Q E s₁) E s) :
    wpAny M A (callWith pos (.ref a) [] ((false, y) :: rest) []) Q E s := callWith_function (first := []) (evalArgs_plain h)
theorem cwT {T : String} {y : Sem Value} {rest : List (Bool × Sem Value)} (hp : rest.any (·.1) = false)
    (h : wpAny M A (spliced ((false, y) :: rest)) (fun vs s₁ => wpAny M A (call (.type T) vs) Q E s₁) E s) :
    wpAny M A (callWith pos (.type T) [] ((false, y) :: rest) []) Q E s := PySem.callWith_type (first := []) (by show (false || rest.any (·.1)) = false; rw [hp]; rfl) (evalArgs_plain h)
theorem cwB {T : String} {first : List Value} {y : Sem Value} {rest : List (Bool × Sem Value)} (hp : rest.any (·.1) = false)
    (h : wpAny M A (spliced ((false, y) :: rest)) (fun vs s₁ => wpAny M A (call (.builtin T) (first ++ vs)) Q E s₁) E s) :
    wpAny M A (callWith pos (.builtin T) first ((false, y) :: rest) []) Q E s := callWith_builtin (by show (false || rest.any (·.1)) = false; rw [hp]; rfl) (evalArgs_plain h)
theorem sp1 {y : Sem Value} {R : List Value → Shared → Prop} (h : wpAny M A y (fun v s₁ => R [v] s₁) E s) : wpAny M A (spliced [(false, y)]) R E s :=
  spliced_cons (wpAny_mono h (fun _ _ k => spliced_nil k) fun _ _ e => e)
theorem sp2 {y z : Sem Value} {R : List Value → Shared → Prop} (h : wpAny M A y (fun v s₁ => wpAny M A z (fun u s₂ => R [v, u] s₂) E s₁) E s) : wpAny M A (spliced [(false, y), (false, z)]) R E s :=
  spliced_cons (wpAny_mono h (fun _ _ k => sp1 k) fun _ _ e => e)
theorem sp3 {y z t : Sem Value} {R : List Value → Shared → Prop} (h : wpAny M A y (fun v s₁ => wpAny M A z (fun u s₂ => wpAny M A t (fun r s₃ => R [v, u, r] s₃) E s₂) E s₁) E s) : wpAny M A (spliced [(false, y), (false, z), (false, t)]) R E s :=
  spliced_cons (wpAny_mono h (fun _ _ k => sp2 k) fun _ _ e => e)
theorem sp4 {y z t p : Sem Value} {R : List Value → Shared → Prop} (h : wpAny M A y (fun v s₁ => wpAny M A z (fun u s₂ => wpAny M A t (fun r s₃ => wpAny M A p (fun r' s₄ => R [v, u, r, r'] s₄) E s₃) E s₂) E s₁) E s) : wpAny M A (spliced [(false, y), (false, z), (false, t), (false, p)]) R E s :=
  spliced_cons (wpAny_mono h (fun _ _ k => sp3 k) fun _ _ e => e)
end

section
variable {M : Model} {A : Around} {E : Value → Shared → Prop} {s : Shared} {env : Env} {m : Str → Option Value}
/-- a name of the frame's stored -/
theorem stL {x : Str} {p : Pos} {v : Value} {Q : Unit → Shared → Prop} (hn : s.heap.Ns env.locals m) (hx : env.kindOf x = some .local) (hp : (env.scope.kind == .class || (env.scope.kind == .module && env.locals != env.globals)) = false)
    (h : ∀ h' tk, h'.Ns env.locals (fun y => if y = x then some v else m y) → Heap.SameBut env.locals s.heap h' → Q () { s with heap := h', toks := tk }) :
    wpAny M A (assign (.Name x p) env v) Q E s := wpAny_assign_Name (wpAny_storeName_local hx hn (fun h' a b => h h' _ a b) hp)
theorem stS {x : Str} {v : Value} {Q : Unit → Shared → Prop} (hn : s.heap.Ns env.locals m) (hx : env.kindOf x = some .local) (hp : (env.scope.kind == .class || (env.scope.kind == .module && env.locals != env.globals)) = false)
    (h : ∀ h' tk, h'.Ns env.locals (fun y => if y = x then some v else m y) → Heap.SameBut env.locals s.heap h' → Q () { s with heap := h', toks := tk }) :
    wpAny M A (storeName env x v) Q E s := wpAny_storeName_local hx hn (fun h' a b => h h' _ a b) hp
theorem asg2 {x₁ x₂ : Str} {p₁ p₂ : Pos} {v₁ v₂ : Value} {Q : Unit → Shared → Prop} (hn : s.heap.Ns env.locals m) (hx₁ : env.kindOf x₁ = some .local) (hx₂ : env.kindOf x₂ = some .local) (hp : (env.scope.kind == .class || (env.scope.kind == .module && env.locals != env.globals)) = false)
    (h : ∀ h' tk, h'.Ns env.locals (fun y => if y = x₂ then some v₂ else if y = x₁ then some v₁ else m y) → Heap.SameBut env.locals s.heap h' → Q () { s with heap := h', toks := tk }) :
    wpAny M A (assignInOrder [assign (.Name x₁ p₁) env, assign (.Name x₂ p₂) env] [v₁, v₂]) Q E s := by
  show wpAny _ _ (holding [v₂] (assign (.Name x₁ p₁) env v₁) >>= fun _ => assignInOrder [assign (.Name x₂ p₂) env] [v₂]) _ _ _
  refine wpAny_bind (wpAny_holding (stL hn hx₁ hp fun h₁ tk₁ n₁ s₁ => ?_))
  show wpAny _ _ (holding [] (assign (.Name x₂ p₂) env v₂) >>= fun _ => pure ()) _ _ _
  exact wpAny_bind (wpAny_holding (stL n₁ hx₂ hp fun h₂ tk₂ n₂ s₂ => wpAny_pure (h h₂ tk₂ n₂ (s₁.trans s₂))))
theorem asg3 {x₁ x₂ x₃ : Str} {p₁ p₂ p₃ : Pos} {v₁ v₂ v₃ : Value} {Q : Unit → Shared → Prop} (hn : s.heap.Ns env.locals m) (hx₁ : env.kindOf x₁ = some .local) (hx₂ : env.kindOf x₂ = some .local) (hx₃ : env.kindOf x₃ = some .local) (hp : (env.scope.kind == .class || (env.scope.kind == .module && env.locals != env.globals)) = false)
    (h : ∀ h' tk, h'.Ns env.locals (fun y => if y = x₃ then some v₃ else if y = x₂ then some v₂ else if y = x₁ then some v₁ else m y) → Heap.SameBut env.locals s.heap h' → Q () { s with heap := h', toks := tk }) :
    wpAny M A (assignInOrder [assign (.Name x₁ p₁) env, assign (.Name x₂ p₂) env, assign (.Name x₃ p₃) env] [v₁, v₂, v₃]) Q E s := by
  show wpAny _ _ (holding [v₂, v₃] (assign (.Name x₁ p₁) env v₁) >>= fun _ => assignInOrder [assign (.Name x₂ p₂) env, assign (.Name x₃ p₃) env] [v₂, v₃]) _ _ _
  exact wpAny_bind (wpAny_holding (stL hn hx₁ hp fun h₁ tk₁ n₁ s₁ => asg2 n₁ hx₂ hx₃ hp fun h₂ tk₂ n₂ s₂ => h h₂ tk₂ n₂ (s₁.trans s₂)))
end

/-! ## tuples made -/
section
variable {prog : Program} {w : World} {A : Around} {E : Value → Shared → Prop} {s : Shared} {env : Env}
theorem tup_push (h : Heap) (vs : List Value) : (h.push { cls := .type "tuple", data := .seq vs.toArray }).IsTuple h.objs.size vs.toArray := ⟨_, Heap.get?_push_size _ rfl, rfl, _, rfl⟩
theorem tupN {elts : List Expr} {k : Nat} {pos : Pos} {Q : Value → Shared → Prop} {trees : List (Bool × Sem Value)} (ht : backTo pos (starEach elts env) = trees)
    (h : wpAny (model prog w) A (spliced trees) (fun vs s₁ => vs.length ≤ 100 ∧ ∀ h', h'.IsTuple s₁.heap.objs.size vs.toArray → Ext s₁.heap h' → Q (.ref s₁.heap.objs.size) { s₁ with heap := h' }) E s) :
    wpAny (model prog w) A (eval (.Tuple elts k pos) env) Q E s := by
  subst ht
  exact wpAny_Tuple_spliced (wpAny_mono h (fun vs s₁ q => ⟨by rw [sizeLine_eq]; omega, q.2 _ (tup_push _ _) (Ext.push _ _)⟩) fun _ _ e => e)
end

section
variable {M : Model} {A : Around} {E : Value → Shared → Prop} {s : Shared} {pos : Pos} {Q : Value → Shared → Prop}
/-- a def of the text's called, its arguments evaluated first -/
theorem cwD {h₀ : Heap} {st : Stmt} {q : Str} {cdv : Value} {a : Addr} {first : List Value} {y : Sem Value} {rest : List (Bool × Sem Value)} (D : Def h₀ a st q cdv)
    (h : wpAny M A (spliced ((false, y) :: rest)) (fun vs s₁ => Ext h₀ s₁.heap ∧ wpAny M A (call (.ref a) (first ++ vs)) Q E s₁) E s) :
    wpAny M A (callWith pos (.ref a) first ((false, y) :: rest) []) Q E s := by
  obtain ⟨o, doc, pm, an, ct, ho, hd, _⟩ := D
  exact callWith_function (evalArgs_plain (wpAny_mono h (fun vs s₁ k => ⟨⟨k.1 _ _ ho, hd⟩, k.2⟩) fun _ _ e => e))
end
end Mine

/-! # P2 -/
namespace Mine
/-! ## rows, keys, the order -/
def abk : Nat → Str
  | 0 => Str.ofString ""
  | 1 => Str.ofString "a"
  | _ => Str.ofString "ab"
inductive Item where
  | i (x : Int)
  | s (k : Nat)
  | p (a b : Int)
structure Row where
  a : Int
  k : Nat
  p : Int
  q : Int
  d : Int
def Row.item (r : Row) : Nat → Item
  | 0 => .i r.a
  | 1 => .s r.k
  | 2 => .p r.p r.q
  | _ => .i r.d
def rowOf (n : Int) : Row := ⟨n.fmod 2, ((n.fdiv 2).fmod 3).toNat, (n.fdiv 6).fmod 2, n.fmod 3, n.fdiv 12⟩
def colIx (c : Int) : Nat := if c < 0 then (c + 4).toNat else c.toNat

def ltI : Item → Item → Bool
  | .i x, .i y => decide (x < y)
  | .s k, .s l => decide (min k 2 < min l 2)
  | .p a b, .p c d => if a = c then decide (b < d) else decide (a < c)
  | _, _ => false
def neI : Item → Item → Bool
  | .i x, .i y => decide (x ≠ y)
  | .s k, .s l => decide (min k 2 ≠ min l 2)
  | .p a b, .p c d => decide (¬ (a = c ∧ b = d))
  | _, _ => false

theorem tri (L R : Row) (j : Nat) : neI (L.item j) (R.item j) = (ltI (L.item j) (R.item j) || ltI (R.item j) (L.item j)) ∧ (ltI (L.item j) (R.item j) && ltI (R.item j) (L.item j)) = false := by
  have hi : ∀ x y : Int, neI (.i x) (.i y) = (ltI (.i x) (.i y) || ltI (.i y) (.i x)) ∧ (ltI (.i x) (.i y) && ltI (.i y) (.i x)) = false := by
    intro x y
    simp only [neI, ltI]
    constructor
    · rw [Bool.eq_iff_iff]; simp only [Bool.or_eq_true, decide_eq_true_eq]; omega
    · rw [Bool.and_eq_false_iff]; simp only [decide_eq_false_iff_not]; omega
  have hs : ∀ k l : Nat, neI (.s k) (.s l) = (ltI (.s k) (.s l) || ltI (.s l) (.s k)) ∧ (ltI (.s k) (.s l) && ltI (.s l) (.s k)) = false := by
    intro x y
    simp only [neI, ltI]
    constructor
    · rw [Bool.eq_iff_iff]; simp only [Bool.or_eq_true, decide_eq_true_eq]; omega
    · rw [Bool.and_eq_false_iff]; simp only [decide_eq_false_iff_not]; omega
  have hp : ∀ a b c d : Int, neI (.p a b) (.p c d) = (ltI (.p a b) (.p c d) || ltI (.p c d) (.p a b)) ∧ (ltI (.p a b) (.p c d) && ltI (.p c d) (.p a b)) = false := by
    intro a b c d
    simp only [neI, ltI]
    by_cases h : a = c
    · subst h
      simp only [if_true, true_and]
      constructor
      · rw [Bool.eq_iff_iff]; simp only [Bool.or_eq_true, decide_eq_true_eq]; omega
      · rw [Bool.and_eq_false_iff]; simp only [decide_eq_false_iff_not]; omega
    · rw [if_neg h, if_neg (fun e => h e.symm)]
      constructor
      · rw [Bool.eq_iff_iff]; simp only [Bool.or_eq_true, decide_eq_true_eq]; omega
      · rw [Bool.and_eq_false_iff]; simp only [decide_eq_false_iff_not]; omega
  match j with
  | 0 => exact hi _ _
  | 1 => exact hs _ _
  | 2 => exact hp _ _ _ _
  | n + 3 => exact hi _ _

def cmpF (L R : Row) : List (Int × Int) → Int
  | [] => 0
  | (c, d) :: ks => if ltI (L.item (colIx c)) (R.item (colIx c)) then -d else if ltI (R.item (colIx c)) (L.item (colIx c)) then d else cmpF L R ks
def ruleStep (L R : Row) (v : Int) (k : Int × Int) : Int :=
  if neI (L.item (colIx k.1)) (R.item (colIx k.1)) then (if ltI (R.item (colIx k.1)) (L.item (colIx k.1)) then k.2 else -k.2) else v
def ruleF (L R : Row) (ks : List (Int × Int)) : Int := ks.reverse.foldl (ruleStep L R) 0

theorem rule_eq (L R : Row) : ∀ ks : List (Int × Int), ruleF L R ks = cmpF L R ks
  | [] => rfl
  | (c, d) :: ks => by
    have ih := rule_eq L R ks
    unfold ruleF at ih ⊢
    rw [List.reverse_cons, List.foldl_append, ih]
    show ruleStep L R (cmpF L R ks) (c, d) = (if ltI (L.item (colIx c)) (R.item (colIx c)) then -d else if ltI (R.item (colIx c)) (L.item (colIx c)) then d else cmpF L R ks)
    obtain ⟨h1, h2⟩ := tri L R (colIx c)
    clear ih
    generalize cmpF L R ks = g
    unfold ruleStep
    dsimp only
    rw [h1]
    cases hl : ltI (L.item (colIx c)) (R.item (colIx c)) <;> cases hr : ltI (R.item (colIx c)) (L.item (colIx c)) <;> simp_all

/-! ## on the heap -/
def PairAt (lo : Nat) (h : Heap) (v : Value) (a b : Int) : Prop := ∃ (r : Nat) (t1 t2 : Tok), v = .ref r ∧ lo ≤ r ∧ h.IsTuple r #[.int a t1, .int b t2]
def RowAt (lo : Nat) (h : Heap) (v : Value) (R : Row) : Prop :=
  ∃ (r : Nat) (u : Value) (t1 t2 t3 : Tok), v = .ref r ∧ lo ≤ r ∧ h.IsTuple r #[.int R.a t1, .str (abk R.k) t2, u, .int R.d t3] ∧ PairAt lo h u R.p R.q
def KeyAt (lo : Nat) (h : Heap) (v : Value) (c n : Int) (x : Str) : Prop := ∃ (r : Nat) (t1 t2 t3 : Tok), v = .ref r ∧ lo ≤ r ∧ h.IsTuple r #[.int c t1, .int n t2, .str x t3]
def ItemAt (h : Heap) (v : Value) : Item → Prop
  | .i x => ∃ t, v = .int x t
  | .s k => ∃ t, v = .str (abk k) t
  | .p a b => PairAt 0 h v a b

theorem isTuple_a {lo r : Nat} {h h' : Heap} {xs : Array Value} (x : h.IsTuple r xs) (hr : lo ≤ r) (k : ExtA lo h h') : h'.IsTuple r xs := let ⟨o, ho, q⟩ := x; ⟨o, k _ _ hr ho, q⟩
theorem isList_a {lo r : Nat} {h h' : Heap} {xs : Array Value} (x : h.IsList r xs) (hr : lo ≤ r) (k : ExtA lo h h') : h'.IsList r xs := let ⟨o, ho, q⟩ := x; ⟨o, k _ _ hr ho, q⟩
theorem isTuple_x {r : Nat} {h h' : Heap} {xs : Array Value} (x : h.IsTuple r xs) (k : Ext h h') : h'.IsTuple r xs := let ⟨o, ho, q⟩ := x; ⟨o, k _ _ ho, q⟩
theorem isList_x {r : Nat} {h h' : Heap} {xs : Array Value} (x : h.IsList r xs) (k : Ext h h') : h'.IsList r xs := let ⟨o, ho, q⟩ := x; ⟨o, k _ _ ho, q⟩
theorem PairAt.a {lo : Nat} {h h' : Heap} {v : Value} {a b : Int} (x : PairAt lo h v a b) (k : ExtA lo h h') : PairAt lo h' v a b := let ⟨r, t1, t2, e, hr, q⟩ := x; ⟨r, t1, t2, e, hr, isTuple_a q hr k⟩
theorem PairAt.lo {lo lo' : Nat} {h : Heap} {v : Value} {a b : Int} (x : PairAt lo h v a b) (k : lo' ≤ lo) : PairAt lo' h v a b := let ⟨r, t1, t2, e, hr, q⟩ := x; ⟨r, t1, t2, e, Nat.le_trans k hr, q⟩
theorem RowAt.a {lo : Nat} {h h' : Heap} {v : Value} {R : Row} (x : RowAt lo h v R) (k : ExtA lo h h') : RowAt lo h' v R := let ⟨r, u, t1, t2, t3, e, hr, q, p⟩ := x; ⟨r, u, t1, t2, t3, e, hr, isTuple_a q hr k, p.a k⟩
theorem RowAt.lo {lo lo' : Nat} {h : Heap} {v : Value} {R : Row} (x : RowAt lo h v R) (k : lo' ≤ lo) : RowAt lo' h v R := let ⟨r, u, t1, t2, t3, e, hr, q, p⟩ := x; ⟨r, u, t1, t2, t3, e, Nat.le_trans k hr, q, p.lo k⟩
theorem KeyAt.a {lo : Nat} {h h' : Heap} {v : Value} {c n : Int} {y : Str} (x : KeyAt lo h v c n y) (k : ExtA lo h h') : KeyAt lo h' v c n y := let ⟨r, t1, t2, t3, e, hr, q⟩ := x; ⟨r, t1, t2, t3, e, hr, isTuple_a q hr k⟩
theorem KeyAt.lo {lo lo' : Nat} {h : Heap} {v : Value} {c n : Int} {y : Str} (x : KeyAt lo h v c n y) (k : lo' ≤ lo) : KeyAt lo' h v c n y := let ⟨r, t1, t2, t3, e, hr, q⟩ := x; ⟨r, t1, t2, t3, e, Nat.le_trans k hr, q⟩
theorem ItemAt.x {h h' : Heap} {v : Value} : ∀ {it : Item}, ItemAt h v it → Ext h h' → ItemAt h' v it
  | .i _, x, _ => x
  | .s _, x, _ => x
  | .p _ _, x, k => PairAt.a x (k.a 0)

theorem colIx_seq {c : Int} (h1 : -4 ≤ c) (h2 : c ≤ 3) : seqIndex? c 4 = some (colIx c) ∧ colIx c < 4 := by
  have : c = -4 ∨ c = -3 ∨ c = -2 ∨ c = -1 ∨ c = 0 ∨ c = 1 ∨ c = 2 ∨ c = 3 := by omega
  rcases this with h | h | h | h | h | h | h | h <;> subst h <;> decide +kernel

section
variable {prog : Program} {w : World} {A : Around} {E : Value → Shared → Prop} {s : Shared} {Q : Value → Shared → Prop}
/-- a row's item at a column -/
theorem row_item {h₀ : Heap} {lo : Nat} {v : Value} {R : Row} {c : Int} {u : Tok} (h : RowAt lo h₀ v R) (hx : Ext h₀ s.heap) (h1 : -4 ≤ c) (h2 : c ≤ 3) (hQ : ∀ y, ItemAt h₀ y (R.item (colIx c)) → Q y s) : ItemOn (model prog w) A E v (.int c u) Q s := by
  obtain ⟨r, p, t1, t2, t3, rfl, hr, ht, hp⟩ := h
  obtain ⟨e, hlt⟩ := colIx_seq h1 h2
  have ht' := isTuple_x ht hx
  refine ⟨"tuple", _, F.slot_tuple_getitem.lookup, ht'.typeIs, ?_⟩
  have hx : ∃ y, (#[Value.int R.a t1, .str (abk R.k) t2, p, .int R.d t3] : Array Value)[colIx c]? = some y ∧ ItemAt h₀ y (R.item (colIx c)) := by
    have : colIx c = 0 ∨ colIx c = 1 ∨ colIx c = 2 ∨ colIx c = 3 := by omega
    rcases this with h | h | h | h <;> rw [h]
    · exact ⟨_, rfl, _, rfl⟩
    · exact ⟨_, rfl, _, rfl⟩
    · exact ⟨_, rfl, hp.lo (Nat.zero_le _)⟩
    · exact ⟨_, rfl, _, rfl⟩
  obtain ⟨y, hy, hi⟩ := hx
  exact PyProof.Rows.getItem_tuple ht' (by omega) (by omega) e hy (hQ y hi)
end
end Mine

/-! # RC -/
namespace Mine
/-! ## two pairs of ints compared -/
abbrev pairObj (dd : Option Addr) (sl : Array (Option Value)) (n : Nat) (a b : Int) (t u : Tok) : Obj := { cls := .type "tuple", dict := dd, data := .seq #[.int a t, .int b u] n, slots := sl }
section
variable {prog : Program} {w : World} {A : Around} {E : Value → Shared → Prop} {s : Shared} {Q : Value → Shared → Prop} {a b : Int} {t u : Tok}
theorem rc_lt (h : Q (.bool (decide (a < b))) s) : wpAny (model prog w) A (richCompare .Lt (.int a t) (.int b u)) Q E s := PyProof.Rows.lt_int h
theorem rc_gt (h : Q (.bool (decide (b < a))) s) : wpAny (model prog w) A (richCompare .Gt (.int a t) (.int b u)) Q E s := PyProof.Rows.gt_int h
theorem eqB {Q : Bool → Shared → Prop} (h : Q (a == b) s) : wpAny (model prog w) A (eqBool (.int a t) (.int b u)) Q E s := MeetsSeq.EqGives.int a b t u prog w A E s Q h
end

set_option maxHeartbeats 1000000 in
theorem pair_lt (l r : Addr) (dd ee : Option Addr) (sl sr : Array (Option Value)) (n m : Nat) (a b c d : Int) (t u v x : Tok) :
    Meets (Builtin.«tuple.__lt__» ⟨[.ref l, .ref r], []⟩) (fun _ R s => s.heap.get? l = some (pairObj dd sl n a b t u) ∧ s.heap.get? r = some (pairObj ee sr m c d v x) ∧
      R (.ok (.ret (.bool (ltI (.p a b) (.p c d))))) s) :=
  .of_wp fun prog w A R s h => by
    obtain ⟨hp, g, dr, tk, os⟩ := s; obtain ⟨hl, hr, h⟩ := h
    have f2 := AutoSeq1.sub_tuple_tuple
    try simp only [ltI] at h
    try simp only [neI] at h
    wp_walk using wpAny_loadPart' hl, wpAny_loadPart' hr, eqB
    by_cases hac : a = c
    · subst hac
      rw [if_neg (by simp)]
      wp_walk using eqB
      by_cases hbd : b = d
      · subst hbd
        rw [if_neg (by simp)]
        wp_walk
        exact ⟨_, rfl, by simpa [Builtin.Tuple.tupleCompareSizes] using h⟩
      · rw [if_pos (by simpa using hbd)]
        wp_walk using rc_lt
        exact ⟨_, rfl, by simpa [hbd, Ne.symm hbd] using h⟩
    · rw [if_pos (by simpa using hac)]
      wp_walk using rc_lt
      exact ⟨_, rfl, by simpa [hac, Ne.symm hac] using h⟩

set_option maxHeartbeats 1000000 in
theorem pair_gt (l r : Addr) (dd ee : Option Addr) (sl sr : Array (Option Value)) (n m : Nat) (a b c d : Int) (t u v x : Tok) :
    Meets (Builtin.«tuple.__gt__» ⟨[.ref l, .ref r], []⟩) (fun _ R s => s.heap.get? l = some (pairObj dd sl n a b t u) ∧ s.heap.get? r = some (pairObj ee sr m c d v x) ∧
      R (.ok (.ret (.bool (ltI (.p c d) (.p a b))))) s) :=
  .of_wp fun prog w A R s h => by
    obtain ⟨hp, g, dr, tk, os⟩ := s; obtain ⟨hl, hr, h⟩ := h
    have f2 := AutoSeq1.sub_tuple_tuple
    try simp only [ltI] at h
    try simp only [neI] at h
    wp_walk using wpAny_loadPart' hl, wpAny_loadPart' hr, eqB
    by_cases hac : a = c
    · subst hac
      rw [if_neg (by simp)]
      wp_walk using eqB
      by_cases hbd : b = d
      · subst hbd
        rw [if_neg (by simp)]
        wp_walk
        exact ⟨_, rfl, by simpa [Builtin.Tuple.tupleCompareSizes] using h⟩
      · rw [if_pos (by simpa using hbd)]
        wp_walk using rc_gt
        exact ⟨_, rfl, by simpa [hbd, Ne.symm hbd] using h⟩
    · rw [if_pos (by simpa using hac)]
      wp_walk using rc_gt
      exact ⟨_, rfl, by simpa [hac, Ne.symm hac] using h⟩

set_option maxHeartbeats 1000000 in
theorem pair_ne (l r : Addr) (dd ee : Option Addr) (sl sr : Array (Option Value)) (n m : Nat) (a b c d : Int) (t u v x : Tok) :
    Meets (Builtin.«tuple.__ne__» ⟨[.ref l, .ref r], []⟩) (fun _ R s => s.heap.get? l = some (pairObj dd sl n a b t u) ∧ s.heap.get? r = some (pairObj ee sr m c d v x) ∧
      R (.ok (.ret (.bool (neI (.p a b) (.p c d))))) s) :=
  .of_wp fun prog w A R s h => by
    obtain ⟨hp, g, dr, tk, os⟩ := s; obtain ⟨hl, hr, h⟩ := h
    have f2 := AutoSeq1.sub_tuple_tuple
    try simp only [ltI] at h
    try simp only [neI] at h
    wp_walk using wpAny_loadPart' hl, wpAny_loadPart' hr, eqB
    by_cases hac : a = c
    · subst hac
      rw [if_neg (by simp)]
      wp_walk using eqB
      by_cases hbd : b = d
      · subst hbd
        rw [if_neg (by simp)]
        wp_walk
        exact ⟨_, rfl, by simpa [Builtin.Tuple.tupleCompareSizes] using h⟩
      · rw [if_pos (by simpa using hbd)]
        wp_walk using rc_gt
        exact ⟨_, rfl, by simpa [hbd, Ne.symm hbd] using h⟩
    · rw [if_pos (by simpa using hac)]
      wp_walk using rc_gt
      exact ⟨_, rfl, by simpa [hac, Ne.symm hac] using h⟩

theorem abk_lt (k l : Nat) : decide ((abk k).cps.toList < (abk l).cps.toList) = decide (min k 2 < min l 2) := by
  match k, l with
  | 0, 0 => decide +kernel
  | 0, 1 => decide +kernel
  | 0, l + 2 => rw [show min (l + 2) 2 = 2 by omega]; show decide ((abk 0).cps.toList < (abk 2).cps.toList) = _; decide +kernel
  | 1, 0 => decide +kernel
  | 1, 1 => decide +kernel
  | 1, l + 2 => rw [show min (l + 2) 2 = 2 by omega]; show decide ((abk 1).cps.toList < (abk 2).cps.toList) = _; decide +kernel
  | k + 2, 0 => rw [show min (k + 2) 2 = 2 by omega]; show decide ((abk 2).cps.toList < (abk 0).cps.toList) = _; decide +kernel
  | k + 2, 1 => rw [show min (k + 2) 2 = 2 by omega]; show decide ((abk 2).cps.toList < (abk 1).cps.toList) = _; decide +kernel
  | k + 2, l + 2 => rw [show min (l + 2) 2 = 2 by omega, show min (k + 2) 2 = 2 by omega]; show decide ((abk 2).cps.toList < (abk 2).cps.toList) = _; decide +kernel
theorem abk_ne (k l : Nat) : (abk k != abk l) = decide (min k 2 ≠ min l 2) := by
  match k, l with
  | 0, 0 => decide +kernel
  | 0, 1 => decide +kernel
  | 0, l + 2 => rw [show min (l + 2) 2 = 2 by omega]; show (abk 0 != abk 2) = _; decide +kernel
  | 1, 0 => decide +kernel
  | 1, 1 => decide +kernel
  | 1, l + 2 => rw [show min (l + 2) 2 = 2 by omega]; show (abk 1 != abk 2) = _; decide +kernel
  | k + 2, 0 => rw [show min (k + 2) 2 = 2 by omega]; show (abk 2 != abk 0) = _; decide +kernel
  | k + 2, 1 => rw [show min (k + 2) 2 = 2 by omega]; show (abk 2 != abk 1) = _; decide +kernel
  | k + 2, l + 2 => rw [show min (l + 2) 2 = 2 by omega, show min (k + 2) 2 = 2 by omega]; show (abk 2 != abk 2) = _; decide +kernel

section
variable {prog : Program} {w : World} {A : Around} {E : Value → Shared → Prop} {s : Shared} {Q : Value → Shared → Prop}
theorem pairs_cmp {lo lo' : Nat} {v u : Value} {a b c d : Int} (hv : PairAt lo s.heap v a b) (hu : PairAt lo' s.heap u c d) :
    ∃ l r dd ee sl sr n m t1 t2 t3 t4, v = .ref l ∧ u = .ref r ∧ s.heap.get? l = some (pairObj dd sl n a b t1 t2) ∧ s.heap.get? r = some (pairObj ee sr m c d t3 t4) := by
  obtain ⟨l, t1, t2, rfl, _, ⟨cls, dd, data, sl⟩, ho, hc, n, hd⟩ := hv
  obtain ⟨r, t3, t4, rfl, _, ⟨cls2, ee, data2, sr⟩, ho2, hc2, m, hd2⟩ := hu
  simp only at hc hd hc2 hd2
  subst hc hd hc2 hd2
  exact ⟨l, r, dd, ee, sl, sr, n, m, t1, t2, t3, t4, rfl, rfl, ho, ho2⟩

theorem item_lt {v u : Value} {L R : Row} {j : Nat} (hv : ItemAt s.heap v (L.item j)) (hu : ItemAt s.heap u (R.item j)) (hun : A.units < cLine) (hQ : Q (.bool (ltI (L.item j) (R.item j))) s) :
    wpAny (model prog w) A (compareOp .Lt v u) Q E s := by
  match j with
  | 0 => obtain ⟨t, rfl⟩ := hv; obtain ⟨t', rfl⟩ := hu; exact PyProof.Rows.lt_int hQ
  | 1 => obtain ⟨t, rfl⟩ := hv; obtain ⟨t', rfl⟩ := hu; exact PyProof.Rows.lt_str (by rw [abk_lt]; exact hQ)
  | 2 =>
    obtain ⟨l, r, dd, ee, sl, sr, n, m, t1, t2, t3, t4, rfl, rfl, h1, h2⟩ := pairs_cmp hv hu
    exact richCompare_meets_room (op := .Lt) ⟨_, h1, rfl⟩ ⟨_, h2, rfl⟩ F.slot_tuple_lt F.entry_tuple_lt (F.args_tuple_lt_2 _ _) (pair_lt l r dd ee sl sr n m _ _ _ _ t1 t2 t3 t4)
      ⟨h1, h2, (fun x => nomatch x), hQ⟩ hun
  | k + 3 => obtain ⟨t, rfl⟩ := hv; obtain ⟨t', rfl⟩ := hu; exact PyProof.Rows.lt_int hQ
theorem item_gt {v u : Value} {L R : Row} {j : Nat} (hv : ItemAt s.heap v (L.item j)) (hu : ItemAt s.heap u (R.item j)) (hun : A.units < cLine) (hQ : Q (.bool (ltI (R.item j) (L.item j))) s) :
    wpAny (model prog w) A (compareOp .Gt v u) Q E s := by
  match j with
  | 0 => obtain ⟨t, rfl⟩ := hv; obtain ⟨t', rfl⟩ := hu; exact PyProof.Rows.gt_int hQ
  | 1 => obtain ⟨t, rfl⟩ := hv; obtain ⟨t', rfl⟩ := hu; exact P.gt_str (by rw [abk_lt]; exact hQ)
  | 2 =>
    obtain ⟨l, r, dd, ee, sl, sr, n, m, t1, t2, t3, t4, rfl, rfl, h1, h2⟩ := pairs_cmp hv hu
    exact richCompare_meets_room (op := .Gt) ⟨_, h1, rfl⟩ ⟨_, h2, rfl⟩ F.slot_tuple_gt F.entry_tuple_gt (F.args_tuple_gt_2 _ _) (pair_gt l r dd ee sl sr n m _ _ _ _ t1 t2 t3 t4)
      ⟨h1, h2, (fun x => nomatch x), hQ⟩ hun
  | k + 3 => obtain ⟨t, rfl⟩ := hv; obtain ⟨t', rfl⟩ := hu; exact PyProof.Rows.gt_int hQ
theorem item_ne {v u : Value} {L R : Row} {j : Nat} (hv : ItemAt s.heap v (L.item j)) (hu : ItemAt s.heap u (R.item j)) (hun : A.units < cLine) (hQ : Q (.bool (neI (L.item j) (R.item j))) s) :
    wpAny (model prog w) A (compareOp .NotEq v u) Q E s := by
  have hint : ∀ (x y : Int), (x != y) = decide (x ≠ y) := fun x y => by rw [Bool.eq_iff_iff]; simp
  match j with
  | 0 => obtain ⟨t, rfl⟩ := hv; obtain ⟨t', rfl⟩ := hu; exact PyProof.Rows.ne_int (by rw [hint]; exact hQ)
  | 1 => obtain ⟨t, rfl⟩ := hv; obtain ⟨t', rfl⟩ := hu; exact PyProof.Rows.ne_str (by rw [abk_ne]; exact hQ)
  | 2 =>
    obtain ⟨l, r, dd, ee, sl, sr, n, m, t1, t2, t3, t4, rfl, rfl, h1, h2⟩ := pairs_cmp hv hu
    exact richCompare_meets_room (op := .NotEq) ⟨_, h1, rfl⟩ ⟨_, h2, rfl⟩ F.slot_tuple_ne F.entry_tuple_ne (F.args_tuple_ne_2 _ _) (pair_ne l r dd ee sl sr n m _ _ _ _ t1 t2 t3 t4)
      ⟨h1, h2, (fun x => nomatch x), hQ⟩ hun
  | k + 3 => obtain ⟨t, rfl⟩ := hv; obtain ⟨t', rfl⟩ := hu; exact PyProof.Rows.ne_int (by rw [hint]; exact hQ)
end
end Mine

/-! # RL -/
namespace Mine
/-! ## a for loop over any iterator -/
section
variable {prog : Program} {w : World} {A : Around} {s : Shared}
theorem forWalk {R : Result → Shared → Prop} {I : Addr} {fp : List Addr} {n : Nat} {P : Nat → Value → Prop} {St : Nat → Heap → Prop} {target : Expr} {body : List Stmt} {env : Env}
    (W : Walks prog w A I fp [I] n P St) (J : Nat → Heap → Prop) (wr : List Addr) (hwr : ∀ b ∈ fp, b ∉ wr)
    (Jst : ∀ i h h', J i h → Heap.ExtBut I h h' → J i h') (h0 : St 0 s.heap) (hJ0 : J 0 s.heap)
    (go : ∀ i v h tk (Q' : Unit → Shared → Prop) (E' : Value → Shared → Prop), P i v → St (i + 1) h → Q' () { s with heap := h, toks := tk } → wpAny (model prog w) A (letOwnedTupleGo target (.ref I) v) Q' E' { s with heap := h, toks := tk })
    (turn : ∀ i v h tk (E' : Value → Shared → Prop), i < n → P i v → J i h → (∃ o, h.get? I = some o) →
      wpAny (model prog w) A (assign target env v) (fun _ s₂ => wpAny (model prog w) A (execs body env) (fun f s₃ => match f with
        | .next | .cont => ∃ h' tk', s₃ = { s with heap := h', toks := tk' } ∧ J (i + 1) h' ∧ ∀ b o, b ∉ wr → h.get? b = some o → h'.get? b = some o
        | .brk => R (.ok .next) s₃
        | .ret v => R (.ok (.ret v)) s₃) E' s₂) E' { s with heap := h, toks := tk })
    (hI : ∀ i h, St i h → ∃ o, h.get? I = some o)
    (done : ∀ h tk, J n h → R (.ok .next) { s with heap := h, toks := tk }) :
    codeAny (model prog w) A (.forLoop target (.ref I) body [] env) R s := by
  refine codeAny_forLoop_any (fun k s' => ∃ h tk i, s' = { s with heap := h, toks := tk } ∧ i ≤ n ∧ k = n + 1 - i ∧ St i h ∧ J i h) ?_ (n + 1) ⟨s.heap, s.toks, 0, rfl, Nat.zero_le _, rfl, h0, hJ0⟩
  rintro k s' ⟨h, tk, i, rfl, hi, rfl, hst, hJ⟩
  by_cases hlt : i < n
  · refine W.item i _ _ _ hlt hst fun v h₁ tk₁ hP hst₁ hk₁ => ?_
    have hx₁ : Heap.ExtBut I h h₁ := fun b o hb e => hk₁ b o (by simpa using hb) e
    refine go i v h₁ tk₁ _ _ hP hst₁ ?_
    obtain ⟨oI, hoI⟩ := hI _ _ hst₁
    refine wpAny_mono (turn i v h₁ tk₁ _ hlt hP (Jst _ _ _ hJ hx₁) ⟨oI, hoI⟩) (fun _ s₂ q₂ => wpAny_mono q₂ (fun f s₃ q₃ => ?_) fun _ _ e => e) fun _ _ e => e
    have fin : (∃ h' tk', s₃ = { s with heap := h', toks := tk' } ∧ J (i + 1) h' ∧ ∀ b o, b ∉ wr → h₁.get? b = some o → h'.get? b = some o) → ∃ m, m < n + 1 - i ∧ ∃ h tk i', s₃ = { s with heap := h, toks := tk } ∧ i' ≤ n ∧ m = n + 1 - i' ∧ St i' h ∧ J i' h := by
      rintro ⟨h', tk', rfl, hJ', hk'⟩
      exact ⟨n + 1 - (i + 1), by omega, h', tk', i + 1, rfl, hlt, rfl, W.frame _ _ _ hst₁ fun b hb o e => hk' b o (hwr b hb) e, hJ'⟩
    cases f with
    | next => exact fin q₃
    | cont => exact fin q₃
    | brk => exact q₃
    | ret v => exact q₃
  · obtain rfl : i = n := Nat.le_antisymm hi (Nat.not_lt.mp hlt)
    refine W.done _ _ _ hst fun h₁ tk₁ hk₁ => wpAny_execs_nil ?_
    exact done h₁ tk₁ (Jst _ _ _ hJ fun b o hb e => hk₁ b o (by simpa using hb) e)

theorem listIter_ex {I l : Addr} {its : Array Value} : ∀ i (h : Heap), (h.IsListIter I l i ∧ h.IsList l its) → ∃ o, h.get? I = some o := fun _ _ x => let ⟨o, e, _⟩ := x.1; ⟨o, e⟩
theorem listIter_go {I l : Addr} {its : Array Value} {elts : List Expr} {x1 : Nat} {p : Pos} {P : Nat → Value → Prop} (hP : ∀ i v, P i v → ∃ T, v = .ref T) : ∀ i v h tk (Q' : Unit → Shared → Prop) (E' : Value → Shared → Prop), P i v → (h.IsListIter I l (i + 1) ∧ h.IsList l its) →
    Q' () { s with heap := h, toks := tk } → wpAny (model prog w) A (letOwnedTupleGo (.Tuple elts x1 p) (.ref I) v) Q' E' { s with heap := h, toks := tk } := by
  intro i v h tk Q' E' hp hst hq
  obtain ⟨T, rfl⟩ := hP i v hp
  exact wpAny_letOwnedTupleGo_listiter hst.1 hq
theorem name_go {I : Addr} {x : Str} {p : Pos} {P : Nat → Value → Prop} {St : Nat → Heap → Prop} : ∀ i v h tk (Q' : Unit → Shared → Prop) (E' : Value → Shared → Prop), P i v → St (i + 1) h →
    Q' () { s with heap := h, toks := tk } → wpAny (model prog w) A (letOwnedTupleGo (.Name x p) (.ref I) v) Q' E' { s with heap := h, toks := tk } := fun _ _ _ _ _ _ _ _ hq => wpAny_pure hq

/-- a tuple of two, three unpacked into names -/
theorem asgT2 {E : Value → Shared → Prop} {env : Env} {m : Str → Option Value} {t : Addr} {x₁ x₂ : Str} {p₁ p₂ pos : Pos} {k : Nat} {v₁ v₂ : Value} {Q : Unit → Shared → Prop} (hh : A.handled = none) (ht : s.heap.IsTuple t #[v₁, v₂])
    (hn : s.heap.Ns env.locals m) (hx₁ : env.kindOf x₁ = some .local) (hx₂ : env.kindOf x₂ = some .local) (hp : (env.scope.kind == .class || (env.scope.kind == .module && env.locals != env.globals)) = false)
    (h : ∀ h' tk, h'.Ns env.locals (fun y => if y = x₂ then some v₂ else if y = x₁ then some v₁ else m y) → Heap.ExtBut env.locals s.heap h' → Q () { s with heap := h', toks := tk }) :
    wpAny (model prog w) A (assign (.Tuple [.Name x₁ p₁, .Name x₂ p₂] k pos) env (.ref t)) Q E s := by
  refine wpAny_assign_Tuple hh ht rfl rfl fun h₁ hx => ?_
  have x₁' : Ext s.heap h₁ := fun b o e => hx b o (Nat.ne_of_lt (Heap.lt_size e)) e
  exact asg2 (hn.keeps x₁') hx₁ hx₂ hp fun h₂ tk₂ n₂ s₂ => h h₂ tk₂ n₂ fun b o hb e => s₂.extBut b o hb (x₁' b o e)
theorem asgT3 {E : Value → Shared → Prop} {env : Env} {m : Str → Option Value} {t : Addr} {x₁ x₂ x₃ : Str} {p₁ p₂ p₃ pos : Pos} {k : Nat} {v₁ v₂ v₃ : Value} {Q : Unit → Shared → Prop} (hh : A.handled = none) (ht : s.heap.IsTuple t #[v₁, v₂, v₃])
    (hn : s.heap.Ns env.locals m) (hx₁ : env.kindOf x₁ = some .local) (hx₂ : env.kindOf x₂ = some .local) (hx₃ : env.kindOf x₃ = some .local) (hp : (env.scope.kind == .class || (env.scope.kind == .module && env.locals != env.globals)) = false)
    (h : ∀ h' tk, h'.Ns env.locals (fun y => if y = x₃ then some v₃ else if y = x₂ then some v₂ else if y = x₁ then some v₁ else m y) → Heap.ExtBut env.locals s.heap h' → Q () { s with heap := h', toks := tk }) :
    wpAny (model prog w) A (assign (.Tuple [.Name x₁ p₁, .Name x₂ p₂, .Name x₃ p₃] k pos) env (.ref t)) Q E s := by
  refine wpAny_assign_Tuple hh ht rfl rfl fun h₁ hx => ?_
  have x₁' : Ext s.heap h₁ := fun b o e => hx b o (Nat.ne_of_lt (Heap.lt_size e)) e
  exact asg3 (hn.keeps x₁') hx₁ hx₂ hx₃ hp fun h₂ tk₂ n₂ s₂ => h h₂ tk₂ n₂ fun b o hb e => s₂.extBut b o hb (x₁' b o e)
end
end Mine

/-! # CG -/
namespace Mine
structure Nm (mg mb : Str → Option Value) : Prop where
  map0 : mg (Str.ofString "map") = none
  map1 : mb (Str.ofString "map") = some (.type "map")
  int0 : mg (Str.ofString "int") = none
  int1 : mb (Str.ofString "int") = some (.type "int")
  str0 : mg (Str.ofString "str") = none
  str1 : mb (Str.ofString "str") = some (.type "str")
  abs0 : mg (Str.ofString "abs") = none
  abs1 : mb (Str.ofString "abs") = some (.builtin "abs")
  len0 : mg (Str.ofString "len") = none
  len1 : mb (Str.ofString "len") = some (.builtin "len")
  range0 : mg (Str.ofString "range") = none
  range1 : mb (Str.ofString "range") = some (.type "range")
  type0 : mg (Str.ofString "type") = none
  type1 : mb (Str.ofString "type") = some (.type "type")
  ve0 : mg (Str.ofString "ValueError") = none
  ve1 : mb (Str.ofString "ValueError") = some (.type "ValueError")

section
variable {prog : Program} {w : World} {A : Around} {E : Value → Shared → Prop} {s : Shared} {mg mb : Str → Option Value}

theorem isOne_same {h h' : Heap} {T it : Addr} {a : Value} (x : IsOne h T a) (hs : Heap.ExtBut it h h') (hne : T ≠ it) : IsOne h' T a := hs _ _ hne x
theorem isMap_same {h h' : Heap} {e T it : Addr} {f : Value} (x : IsMap h e T f) (hs : Heap.ExtBut it h h') (hne : e ≠ it) : IsMap h' e T f := hs _ _ hne x

/-- two texts read by map(int, ..), unpacked -/
theorem unpackItems_mapint {e T it l : Addr} {a b : Str} {ta tb : Tok} {i j : Int} {Q : List Value → Shared → Prop} (hh : A.handled = none) (he : IsMap s.heap e T (.type "int")) (hT : IsOne s.heap T (.ref it))
    (hit : s.heap.IsListIter it l 0) (hl : s.heap.IsList l #[.str a ta, .str b tb]) (h1 : e ≠ it) (h2 : T ≠ it) (h3 : l ≠ it)
    (ha : PySem.intText? a = some i) (hb : PySem.intText? b = some j) (hla : a.length ≤ 640) (hlb : b.length ≤ 640)
    (h : ∀ h' tk t1 t2, Heap.ExtBut it s.heap h' → Q [.int i t1, .int j t2] { s with heap := h', toks := tk }) :
    wpAny (model prog w) A (unpackItems (.ref e) 2 none) Q E s := by
  have hTy : s.TypeIs (.ref e) "map" := ⟨_, he, rfl⟩
  unfold unpackItems
  refine wpAny_bind ?_
  unfold notIterableAtAll
  refine wpAny_bind (wpAny_specialOf hTy slot_map_iter.lookup (wpAny_pure ?_))
  simp only [Bool.false_eq_true, if_false]
  refine wpAny_bind (wpAny_holding (pyIter_map he ?_))
  refine wpAny_bind (wpAny_holding ?_)
  show wpAny _ _ (pyNext (.ref e) >>= _) _ _ s
  refine wpAny_bind (pyNext_map_item he hT hit hl (x := .str a ta) rfl h1 fun g1 it1 s1 => ?_)
  refine KIN.call_text ha hla ?_
  refine wpAny_bind (wpAny_holding ?_)
  show wpAny _ _ (pyNext (.ref e) >>= _) _ _ _
  refine wpAny_bind (pyNext_map_item (isMap_same he s1.extBut h1) (isOne_same hT s1.extBut h2) it1 (hl.extBut s1.extBut h3) (x := .str b tb) rfl h1 fun g2 it2 s2 => ?_)
  refine KIN.call_text hb hlb ?_
  refine wpAny_bind (wpAny_holding (wpAny_pure (wpAny_pure (wpAny_pure ?_))))
  simp only [List.length_cons, List.length_nil, Nat.lt_irrefl, if_false]
  refine wpAny_bind (wpAny_holding (pyNext_map_end hh (isMap_same (isMap_same he s1.extBut h1) s2.extBut h1) (isOne_same (isOne_same hT s1.extBut h2) s2.extBut h2) it2 ((hl.extBut s1.extBut h3).extBut s2.extBut h3) rfl fun g3 s3 => ?_))
  simp only [Option.isSome_none, Bool.false_eq_true, if_false]
  exact wpAny_pure (h g3 _ _ _ fun b o hb e => s3 b o hb (s2.extBut b o hb (s1.extBut b o hb e)))

set_option maxHeartbeats 4000000 in
theorem glc_ok {f : Addr} {cdv : Value} {x a b : Str} {t : Tok} {i j : Int} {Q : Value → Shared → Prop} (N : Nm mg mb) (W : W0 mg mb s.heap) (D : Def s.heap f (top 1) (Str.ofString "get_line_col") cdv)
    (hroom : A.depth < recursionLimit) (hh : A.handled = none)
    (hx : Txt.split x (Str.ofString ".") = [a, b]) (hl : x.length ≤ 1000) (ha : PySem.intText? a = some i) (hb : PySem.intText? b = some j) (hla : a.length ≤ 640) (hlb : b.length ≤ 640)
    (h : ∀ h' tk r t1 t2, Ext s.heap h' → s.heap.objs.size ≤ r → h'.IsTuple r #[.int i t1, .int j t2] → Q (.ref r) { s with heap := h', toks := tk }) :
    wpAny (model prog w) A (call (.ref f) [.str x t]) Q E s := by
  refine enter (binds := [(Str.ofString "index", .str x t)]) W D hroom (fun _ _ _ _ => rfl) (by decide +kernel) (locs rfl) rfl rfl rfl fun h₁ tk₁ hns hx₁ => ?_
  refine wpAny_execs_cons ?_
  refine Assign_Tuple ?_
  refine Call_Name (trees := [(false, _), (false, _)]) rfl ?_
  refine nmB (W.keeps hx₁) rfl rfl N.map0 N.map1 rfl rfl rfl ?_
  refine cwT rfl (sp2 ?_)
  refine nmB (W.keeps hx₁) rfl rfl N.int0 N.int1 rfl rfl rfl ?_
  refine wpAny_Call_method_lateS rfl rfl rfl ?_
  refine nmL hns rfl rfl rfl rfl ?_
  refine ⟨"str", "str.split", F.plainAttrs_str, F.slot_str_split, F.type_str_split, typeIs_str _ _ _, (fun _ e => nomatch e), ?_⟩
  refine cwB (y := eval _ _) (rest := []) rfl (sp1 ?_)
  refine wpAny_Constant_str ?_
  have F₁ : Fr s.heap s.heap.objs.size h₁ _ := ⟨hns, hx₁, Nat.le_refl _⟩
  refine splitN1 F₁ News.nil (by decide +kernel) (fun l h₂ k₂ el F₂ N₂ => ?_) (by rw [sizeLine_eq]; omega)
  rw [hx] at el
  obtain ⟨ta, l', rfl, el2⟩ := KSpl.cons_of el
  obtain ⟨tb, l'', rfl, el3⟩ := KSpl.cons_of el2
  obtain rfl := KSpl.nil_of el3
  have hlist := News.isList N₂ (.head _)
  clear N₂ el el2 el3 F₁
  dsimp only at hlist ⊢
  have hl2 : h₁.objs.size < h₂.objs.size := by obtain ⟨_, e, _⟩ := hlist; exact Heap.lt_size e
  have hL2 : s.heap.objs.size < h₂.objs.size := F₂.ns.lt
  refine call_map_2 hlist fun h₃ hM hO hI hz hk => ?_
  dsimp only at hM hO hI hz hk ⊢
  refine wpAny_bind (wpAny_standAt ?_)
  refine wpAny_bind (wpAny_holding ?_)
  refine unpackItems_mapint (l := h₁.objs.size) hh hM hO hI (hlist.at fun o e => hk _ o e) (by simp) (by simp) (Nat.ne_of_lt hl2) ha hb hla hlb fun h₄ tk₄ t1 t2 hk₄ => ?_
  dsimp only at hk₄ ⊢
  have hns₄ : h₄.Ns s.heap.objs.size _ := (F₂.ns.keeps hk).at' fun o e => hk₄ _ o (Nat.ne_of_lt hL2) e
  have hx₄ : Ext s.heap h₄ := fun b o e => hk₄ b o (Nat.ne_of_lt (Nat.lt_trans (Heap.lt_size e) hL2)) (hk b o (F₂.keep b o e))
  refine asg2 (m := fun x_1 => List.lookup x_1 [(Str.ofString "index", Value.str x t)].reverse) hns₄ rfl rfl rfl fun h₅ tk₅ hns₅ hs₅ => ?_
  have hx₅ : Ext s.heap h₅ := hx₄.same (none_at _ (Nat.le_refl _)) hs₅
  dsimp only at hns₅ ⊢
  refine wpAny_execs_cons (wpAny_Return_some ?_)
  refine tupN (trees := [(false, eval _ _), (false, eval _ _)]) rfl (sp2 ?_)
  refine nmL hns₅ rfl rfl rfl rfl ?_
  refine nmL hns₅ rfl rfl rfl rfl ?_
  refine ⟨Nat.le_of_ble_eq_true rfl, fun h₆ ht hx₆ => ?_⟩
  exact h h₆ _ _ _ _ (hx₅.tr hx₆) (Nat.le_of_lt hns₅.lt) ht
end
end Mine

/-! # CS -/
namespace Mine
section
variable {M : Model} {A : Around} {E : Value → Shared → Prop} {s : Shared} {env : Env}
theorem execs_mid {st : Stmt} {rest : List Stmt} {Q : Flow → Shared → Prop} (P : Shared → Prop) (h1 : wpAny M A (exec st env) (fun fl s' => fl = .next ∧ P s') E s) (h2 : ∀ s', P s' → wpAny M A (execs rest env) Q E s') :
    wpAny M A (execs (st :: rest) env) Q E s := wpAny_execs_cons (wpAny_mono h1 (fun fl s' q => by obtain ⟨rfl, q⟩ := q; exact h2 s' q) fun _ _ e => e)
end

/-- the frame of _law_spelled -/
def Jsp (L : Addr) (n way : Int) (t1 t2 : Tok) (v : Str) (h : Heap) : Prop :=
  ∃ m t, h.Ns L m ∧ m (Str.ofString "number") = some (.int n t1) ∧ m (Str.ofString "way") = some (.int way t2) ∧ m (Str.ofString "figures") = some (.str v t)
def Mid (s : Shared) (P : Heap → Prop) (s' : Shared) : Prop := ∃ h' tk, s' = { s with heap := h', toks := tk } ∧ Ext s.heap h' ∧ P h'

section
variable {prog : Program} {w : World} {A : Around} {E : Value → Shared → Prop} {s : Shared} {mg mb : Str → Option Value}

theorem joinOk_und {x : Str} (h : x.length ≤ 100) : JoinOk (Str.ofString "_") (signs x) = true := by
  have e1 : (Str.ofString "_").length = 1 := by decide +kernel
  have e2 : (signs x).length = x.length := by unfold signs; rw [List.length_map, Array.length_toList]; rfl
  have e3 := StrLaws.joinFits (sep := Str.ofString "_") (texts := signs x) (B := 1) (by
    intro y hy
    unfold signs at hy
    obtain ⟨c, _, rfl⟩ := List.mem_map.mp hy
    exact Nat.le_refl 1) (by rw [e1, e2]; omega)
  unfold JoinOk
  rw [e3]; rfl

theorem len_list (x : Str) : x.cps.toList.length = x.length := Array.length_toList
theorem fig1_len {n : Int} (way : Int) (h : n.natAbs < 10 ^ 20) : (fig1 n way).length ≤ 22 := by
  have := fig0_len h
  have e : (Str.ofString "00").length = 2 := by decide +kernel
  unfold fig1
  split
  · rw [Str.length_append, e]; omega
  · omega
theorem fig2_len' {n : Int} (way : Int) (h : n.natAbs < 10 ^ 20) : (fig2 n way).length ≤ 40 := by rw [← len_list]; exact fig2_len way h
theorem fig3_len {n : Int} (way : Int) (h : n.natAbs < 10 ^ 20) : (fig3 n way).length ≤ 41 := by
  have := fig2_len' way h
  have e1 : (Str.ofString "-").length = 1 := by decide +kernel
  have e2 : (Str.ofString "+").length = 1 := by decide +kernel
  unfold fig3
  split
  · rw [Str.length_append, e1]; omega
  · split
    · rw [Str.length_append, e2]; omega
    · omega

set_option maxHeartbeats 4000000 in
theorem spelled_call {f : Addr} {cdv : Value} {n way : Int} {t1 t2 : Tok} {Q : Value → Shared → Prop} (N : Nm mg mb) (W : W0 mg mb s.heap) (D : Def s.heap f (top 5) (Str.ofString "_law_spelled") cdv)
    (hroom : A.depth < recursionLimit) (hh : A.handled = none) (hn : n.natAbs < 10 ^ 20)
    (h : ∀ h' tk t, Ext s.heap h' → Q (.str (spelled n way) t) { s with heap := h', toks := tk }) :
    wpAny (model prog w) A (call (.ref f) [.int n t1, .int way t2]) Q E s := by
  have hL0 : s.heap.get? s.heap.objs.size = none := none_at _ (Nat.le_refl _)
  refine enter (binds := [(Str.ofString "number", .int n t1), (Str.ofString "way", .int way t2)]) W D hroom (fun _ _ _ _ => rfl) (by decide +kernel) (locs rfl) rfl rfl rfl fun h₁ tk₁ hns hx₁ => ?_
  generalize hAd : A.deeper (envF (top 5) (Str.ofString "_law_spelled") s.heap.objs.size f cdv) = A'
  have hh' : A'.handled = none := by rw [← hAd]; exact hh
  -- figures = str(abs(number))
  refine execs_mid (Mid s (Jsp s.heap.objs.size n way t1 t2 (fig0 n))) ?_ ?_
  · refine wpAny_Assign_Name ?_
    refine Call_Name1 ?_
    refine nmB (W.keeps hx₁) rfl rfl N.str0 N.str1 rfl rfl rfl ?_
    refine PySem.callWith_type1 ?_
    refine Call_Name1 ?_
    refine nmB (W.keeps hx₁) rfl rfl N.abs0 N.abs1 rfl rfl rfl ?_
    refine PySem.callWith_builtin1 ?_
    refine nmL hns rfl rfl rfl rfl ?_
    refine call_abs_int fun u tk => ?_
    have hlog : (if n < 0 then -n else n).natAbs.log2 < 1920 := by
      rw [abs_nat, Int.natAbs_natCast]
      by_cases h0 : n.natAbs = 0
      · rw [h0]; decide
      · exact (Nat.log2_lt h0).mpr (Nat.lt_trans hn (by decide +kernel))
    refine P.str_of_int hlog ?_
    refine stS hns rfl rfl fun h₂ tk₂ hns₂ hs₂ => ?_
    exact ⟨rfl, h₂, tk₂, rfl, hx₁.same hL0 hs₂, _, _, hns₂, rfl, rfl, rfl⟩
  rintro _ ⟨h₂, tk₂, rfl, hx₂, m₂, t₂, hns₂, mn, mw, mf⟩
  clear hns hx₁ h₁ tk₁
  -- if way == 2
  refine execs_mid (Mid s (Jsp s.heap.objs.size n way t1 t2 (fig1 n way))) ?_ ?_
  · refine wpAny_If (wpAny_isTrue_Compare1 ?_)
    refine nmL hns₂ mw rfl rfl rfl ?_
    refine wpAny_Constant_int ?_
    refine PyProof.Rows.eq_int (wpAny_truthy_bool ?_)
    by_cases hw : way = 2
    · rw [if_pos (by simpa using hw)]
      refine wpAny_execs_cons (wpAny_Assign_Name ?_)
      refine wpAny_BinOp ?_
      refine wpAny_Constant_str ?_
      refine nmL hns₂ mf rfl rfl rfl ?_
      refine PyProof.Rows.add_str (fun t' tk => ?_) ?_
      · refine stS hns₂ rfl rfl fun h₃ tk₃ hns₃ hs₃ => wpAny_execs_nil ?_
        exact ⟨rfl, h₃, tk₃, rfl, hx₂.same hL0 hs₃, _, _, hns₃, mn, mw, by unfold fig1; rw [if_pos hw]; rfl⟩
      · have := fig0_len hn
        have e : (Str.ofString "00").length = 2 := by decide +kernel
        rw [e, sizeLine_eq]; omega
    · rw [if_neg (by simpa using hw)]
      refine wpAny_execs_nil ⟨rfl, h₂, _, rfl, hx₂, _, t₂, hns₂, mn, mw, by unfold fig1; rw [if_neg hw]; exact mf⟩
  rintro _ ⟨h₃, tk₃, rfl, hx₃, m₃, t₃, hns₃, mn, mw, mf⟩
  clear hns₂ hx₂ h₂ tk₂
  -- if way == 3
  refine execs_mid (Mid s (Jsp s.heap.objs.size n way t1 t2 (fig2 n way))) ?_ ?_
  · refine wpAny_If (wpAny_isTrue_Compare1 ?_)
    refine nmL hns₃ mw rfl rfl rfl ?_
    refine wpAny_Constant_int ?_
    refine PyProof.Rows.eq_int (wpAny_truthy_bool ?_)
    by_cases hw : way = 3
    · rw [if_pos (by simpa using hw)]
      refine wpAny_execs_cons (wpAny_Assign_Name ?_)
      refine wpAny_Call_method_lateS rfl rfl rfl ?_
      refine wpAny_Constant_str ?_
      refine ⟨"str", "str.join", F.plainAttrs_str, F.slot_str_join, F.type_str_join, typeIs_str _ _ _, (fun _ e => nomatch e), ?_⟩
      refine cwB (y := eval _ _) (rest := []) rfl (sp1 ?_)
      refine nmL hns₃ mf rfl rfl rfl ?_
      refine SC.joinStr hh' (joinOk_und (by have := fig1_len way hn; omega)) fun h₄ k₄ t₄ hx₄ => ?_
      refine stS (hns₃.keeps hx₄) rfl rfl fun h₅ tk₅ hns₅ hs₅ => wpAny_execs_nil ?_
      exact ⟨rfl, h₅, tk₅, rfl, (hx₃.tr hx₄).same hL0 hs₅, _, _, hns₅, mn, mw, by unfold fig2; rw [if_pos hw]; rfl⟩
    · rw [if_neg (by simpa using hw)]
      refine wpAny_execs_nil ⟨rfl, h₃, _, rfl, hx₃, _, t₃, hns₃, mn, mw, by unfold fig2; rw [if_neg hw]; exact mf⟩
  clear mn mw mf hns₃ hx₃ h₃ tk₃ m₃ t₃
  rintro _ ⟨h₃, tk₃, rfl, hx₃, m₃, t₃, hns₃, mn, mw, mf⟩
  -- the sign
  refine execs_mid (Mid s (Jsp s.heap.objs.size n way t1 t2 (fig3 n way))) ?_ ?_
  · refine wpAny_If (wpAny_isTrue_Compare1 ?_)
    refine nmL hns₃ mn rfl rfl rfl ?_
    refine wpAny_Constant_int ?_
    refine PyProof.Rows.lt_int (wpAny_truthy_bool ?_)
    by_cases hw : n < 0
    · rw [if_pos (by simpa using hw)]
      refine wpAny_execs_cons (wpAny_Assign_Name ?_)
      refine wpAny_BinOp ?_
      refine wpAny_Constant_str ?_
      refine nmL hns₃ mf rfl rfl rfl ?_
      refine PyProof.Rows.add_str (fun t' tk => ?_) ?_
      · refine stS hns₃ rfl rfl fun h₄ tk₄ hns₄ hs₄ => wpAny_execs_nil ?_
        exact ⟨rfl, h₄, tk₄, rfl, hx₃.same hL0 hs₄, _, _, hns₄, mn, mw, by unfold fig3; rw [if_pos hw]; rfl⟩
      · have := fig2_len' way hn
        have e : (Str.ofString "-").length = 1 := by decide +kernel
        rw [e, sizeLine_eq]; omega
    · rw [if_neg (by simpa using hw)]
      refine wpAny_execs_cons (wpAny_If (wpAny_isTrue_Compare1 ?_))
      refine nmL hns₃ mw rfl rfl rfl ?_
      refine wpAny_Constant_int ?_
      refine PyProof.Rows.eq_int (wpAny_truthy_bool ?_)
      by_cases hv : way = 1
      · rw [if_pos (by simpa using hv)]
        refine wpAny_execs_cons (wpAny_Assign_Name ?_)
        refine wpAny_BinOp ?_
        refine wpAny_Constant_str ?_
        refine nmL hns₃ mf rfl rfl rfl ?_
        refine PyProof.Rows.add_str (fun t' tk => ?_) ?_
        · refine stS hns₃ rfl rfl fun h₄ tk₄ hns₄ hs₄ => wpAny_execs_nil (wpAny_execs_nil ?_)
          exact ⟨rfl, h₄, tk₄, rfl, hx₃.same hL0 hs₄, _, _, hns₄, mn, mw, by unfold fig3; rw [if_neg hw, if_pos hv]; rfl⟩
        · have := fig2_len' way hn
          have e : (Str.ofString "+").length = 1 := by decide +kernel
          rw [e, sizeLine_eq]; omega
      · rw [if_neg (by simpa using hv)]
        refine wpAny_execs_nil (wpAny_execs_nil ⟨rfl, h₃, _, rfl, hx₃, _, t₃, hns₃, mn, mw, by unfold fig3; rw [if_neg hw, if_neg hv]; exact mf⟩)
  clear mn mw mf hns₃ hx₃ h₃ tk₃ m₃ t₃
  rintro _ ⟨h₃, tk₃, rfl, hx₃, m₃, t₃, hns₃, mn, mw, mf⟩
  -- if way == 4
  refine execs_mid (Mid s (Jsp s.heap.objs.size n way t1 t2 (spelled n way))) ?_ ?_
  · refine wpAny_If (wpAny_isTrue_Compare1 ?_)
    refine nmL hns₃ mw rfl rfl rfl ?_
    refine wpAny_Constant_int ?_
    refine PyProof.Rows.eq_int (wpAny_truthy_bool ?_)
    have hl := fig3_len way hn
    have e2 : (Str.ofString "  ").length = 2 := by decide +kernel
    have e1 : (Str.ofString " ").length = 1 := by decide +kernel
    by_cases hw : way = 4
    · rw [if_pos (by simpa using hw)]
      refine wpAny_execs_cons (wpAny_Assign_Name ?_)
      refine wpAny_BinOp (wpAny_BinOp ?_)
      refine wpAny_Constant_str ?_
      refine nmL hns₃ mf rfl rfl rfl ?_
      refine PyProof.Rows.add_str (fun t' tk => ?_) (by rw [e2, sizeLine_eq]; omega)
      refine wpAny_Constant_str ?_
      refine PyProof.Rows.add_str (fun t' tk => ?_) (by rw [Str.length_append, e2, e1, sizeLine_eq]; omega)
      refine stS hns₃ rfl rfl fun h₄ tk₄ hns₄ hs₄ => wpAny_execs_nil ?_
      exact ⟨rfl, h₄, tk₄, rfl, hx₃.same hL0 hs₄, _, _, hns₄, mn, mw, by unfold spelled; rw [if_pos hw]; rfl⟩
    · rw [if_neg (by simpa using hw)]
      refine wpAny_execs_nil ⟨rfl, h₃, _, rfl, hx₃, _, t₃, hns₃, mn, mw, by unfold spelled; rw [if_neg hw]; exact mf⟩
  clear mn mw mf hns₃ hx₃ h₃ tk₃ m₃ t₃
  rintro _ ⟨h₃, tk₃, rfl, hx₃, m₃, t₃, hns₃, mn, mw, mf⟩
  refine wpAny_execs_cons (wpAny_Return_some ?_)
  refine nmL hns₃ mf rfl rfl rfl ?_
  exact h h₃ _ _ hx₃
end
end Mine

/-! # CR -/
namespace Mine
section
variable {prog : Program} {w : World} {A : Around} {E : Value → Shared → Prop} {s : Shared} {mg mb : Str → Option Value}

theorem fmod_lt (a : Int) {b : Int} (h : 0 < b) : 0 ≤ a.fmod b ∧ a.fmod b < b := ⟨Int.fmod_nonneg_of_pos a h, Int.fmod_lt_of_pos a h⟩

theorem ab_slice {k : Int} {t u : Tok} {Q : Value → Shared → Prop} (h0 : 0 ≤ k) (h3 : k < 3) (h : ∀ t' tk, Q (.str (abk k.toNat) t') { s with toks := tk }) :
    (sliceMade (Str.ofString "ab") t none (some (k, u)) none).post Q s := by
  have : k = 0 ∨ k = 1 ∨ k = 2 := by omega
  have e0 : Builtin.Str.strSliceIndices none (some 0) 1 (Str.ofString "ab").length = [] := by decide +kernel
  have e1 : Builtin.Str.strSliceIndices none (some 1) 1 (Str.ofString "ab").length = [0] := by decide +kernel
  have e2 : Builtin.Str.strSliceIndices none (some 2) 1 (Str.ofString "ab").length = [0, 1] := by decide +kernel
  have p0 : slicePicked (Str.ofString "ab") none (some (0, u)) none = [] := e0
  have p1 : slicePicked (Str.ofString "ab") none (some (1, u)) none = [0] := e1
  have p2 : slicePicked (Str.ofString "ab") none (some (2, u)) none = [0, 1] := e2
  rcases this with rfl | rfl | rfl
  · unfold sliceMade
    rw [p0, if_neg (by decide +kernel)]
    have e : (⟨(([] : List Nat).filterMap ((Str.ofString "ab").cps[·]?)).toArray⟩ : Str) = abk 0 := by decide +kernel
    rw [e]
    exact ⟨Nat.le_of_ble_eq_true rfl, h _ _⟩
  · unfold sliceMade
    rw [p1, if_neg (by decide +kernel)]
    have e : (⟨(([0] : List Nat).filterMap ((Str.ofString "ab").cps[·]?)).toArray⟩ : Str) = abk 1 := by decide +kernel
    rw [e]
    exact ⟨Nat.le_of_ble_eq_true rfl, h _ _⟩
  · unfold sliceMade
    rw [p2, if_pos (by decide +kernel)]
    exact h _ _

set_option maxHeartbeats 4000000 in
theorem row_call {f : Addr} {cdv : Value} {n : Int} {t1 : Tok} {Q : Value → Shared → Prop} (W : W0 mg mb s.heap) (D : Def s.heap f (top 8) (Str.ofString "_law_row") cdv)
    (hroom : A.depth < recursionLimit)
    (h : ∀ h' tk v, Ext s.heap h' → RowAt s.heap.objs.size h' v (rowOf n) → Q v { s with heap := h', toks := tk }) :
    wpAny (model prog w) A (call (.ref f) [.int n t1]) Q E s := by
  refine enter (binds := [(Str.ofString "number", .int n t1)]) W D hroom (fun _ _ _ _ => rfl) (by decide +kernel) (locs rfl) rfl rfl rfl fun h₁ tk₁ hns hx₁ => ?_
  generalize A.deeper (envF (top 8) (Str.ofString "_law_row") s.heap.objs.size f cdv) = A'
  refine wpAny_execs_cons (wpAny_Return_some ?_)
  refine tupN (trees := [(false, eval _ _), (false, eval _ _), (false, eval _ _), (false, eval _ _)]) rfl (sp4 ?_)
  -- number % 2
  refine wpAny_BinOp ?_
  refine nmL hns rfl rfl rfl rfl ?_
  refine wpAny_Constant_int ?_
  refine mod_int' (by decide) ?_
  -- the text
  refine PyProof.Rows.Subscript_ ?_
  refine wpAny_Constant_str ?_
  refine wpAny_Slice (wpAny_pure ?_)
  refine wpAny_BinOp (wpAny_BinOp ?_)
  refine nmL hns rfl rfl rfl rfl ?_
  refine wpAny_Constant_int ?_
  refine floordiv_int (by decide) ?_ (Or.inl (PyProof.noPylong_small (by decide)))
  refine wpAny_Constant_int ?_
  refine mod_int' (by decide) ?_
  obtain ⟨k0, k3⟩ := fmod_lt (n.fdiv 2) (b := 3) (by decide)
  refine wpAny_pure ?_
  refine tail_of_ItemOn ⟨"str", _, F.slot_str_getitem.lookup, typeIs_str _ _ _, wpAny_getItem_str_slice (l := none) (u := some (_, _)) (st := none) ⟨_, Heap.get?_push_size _ rfl, rfl, rfl⟩ rfl (ab_slice k0 k3 fun t' tk => ?_)⟩ (by with_unfolding_all rfl) (fun _ => rfl)
  dsimp only
  generalize hH : Heap.push h₁ _ = h₂
  have hx₂ : Ext h₁ h₂ := hH ▸ Ext.push _ _
  clear hH
  have hns₂ := hns.keeps hx₂
  -- the pair
  refine tupN (trees := [(false, eval _ _), (false, eval _ _)]) rfl (sp2 ?_)
  refine wpAny_BinOp (wpAny_BinOp ?_)
  refine nmL hns₂ rfl rfl rfl rfl ?_
  refine wpAny_Constant_int ?_
  refine floordiv_int (by decide) ?_ (Or.inl (PyProof.noPylong_small (by decide)))
  refine wpAny_Constant_int ?_
  refine mod_int' (by decide) ?_
  refine wpAny_BinOp ?_
  refine nmL hns₂ rfl rfl rfl rfl ?_
  refine wpAny_Constant_int ?_
  refine mod_int' (by decide) ?_
  refine ⟨Nat.le_of_ble_eq_true rfl, fun h₃ ht₃ hx₃ => ?_⟩
  dsimp only at ht₃ hx₃ ⊢
  have hns₃ := hns₂.keeps hx₃
  -- number // 12
  refine wpAny_BinOp ?_
  refine nmL hns₃ rfl rfl rfl rfl ?_
  refine wpAny_Constant_int ?_
  refine floordiv_int (by decide) ?_ (Or.inl (PyProof.noPylong_small (by decide)))
  refine ⟨Nat.le_of_ble_eq_true rfl, fun h₄ ht₄ hx₄ => ?_⟩
  dsimp only at ht₄ hx₄ ⊢
  refine h h₄ _ _ (((hx₁.tr hx₂).tr hx₃).tr hx₄) ?_
  have l2 : s.heap.objs.size ≤ h₂.objs.size := Nat.le_of_lt hns₂.lt
  have l3 : s.heap.objs.size ≤ h₃.objs.size := Nat.le_of_lt hns₃.lt
  exact ⟨_, _, _, _, _, rfl, l3, ht₄, _, _, _, rfl, l2, isTuple_x ht₃ hx₄⟩
end
end Mine

/-! # CC -/
namespace Mine
/-! ## TupleComp.compare -/
def csl : Str := Str.ofString "comp_select_list"
/-- the object `order` -/
def OrderAt (h : Heap) (x C rl : Addr) : Prop := ∃ ox es n, InstAt h x ox C (some (dictOf es n)) ∧ getL (Str.ofString "comp_select_list") es = some (some (.ref rl))
structure TC (K : Frag) (C : Addr) : Prop where
  ga : findIn K (.ref C) "__getattribute__" = some (some (.builtin "object.__getattribute__"))
  hd : hasDictIn K C = true
  at_ : findIn K (.ref C) (Str.ofString "comp_select_list") = some none
/-- a list of pairs -/
def PairsAt (lo : Nat) (h : Heap) (its : Array Value) (ks : List (Int × Int)) : Prop := its.size = ks.length ∧ ∀ (i : Nat) (v : Value), its[i]? = some v → ∃ k : Int × Int, ks[i]? = some k ∧ PairAt lo h v k.1 k.2
theorem PairsAt.x {lo : Nat} {h h' : Heap} {its : Array Value} {ks : List (Int × Int)} (x : PairsAt lo h its ks) (k : Ext h h') : PairsAt lo h' its ks := ⟨x.1, fun i v e => let ⟨q, a, b⟩ := x.2 i v e; ⟨q, a, b.a (k.a _)⟩⟩

def Jc (h₀ : Heap) (L : Addr) (vl vr : Value) (P : Nat → Prop) (i : Nat) (h : Heap) : Prop :=
  ∃ m, h.Ns L m ∧ m (Str.ofString "left") = some vl ∧ m (Str.ofString "right") = some vr ∧ Ext h₀ h ∧ P i

section
variable {prog : Program} {w : World} {A : Around} {E : Value → Shared → Prop} {s : Shared} {mg mb : Str → Option Value} {K : Frag}

set_option maxHeartbeats 4000000 in
theorem compare_call {f C x rl : Addr} {cdv vl vr : Value} {lo : Nat} {its : Array Value} {ks : List (Int × Int)} {RL RR : Row} {Q : Value → Shared → Prop} (W : W0 mg mb s.heap) (D : Def s.heap f (meth 1) (Str.ofString "TupleComp.compare") cdv)
    (X : K.In s.heap) (T : TC K C) (O : OrderAt s.heap x C rl) (hl : s.heap.IsList rl its) (hks : PairsAt lo s.heap its ks) (hcol : ∀ k ∈ ks, -4 ≤ k.1 ∧ k.1 ≤ 3) (hvl : RowAt lo s.heap vl RL) (hvr : RowAt lo s.heap vr RR)
    (hroom : A.depth < recursionLimit) (hun : A.units + 10 < cLine) (hh : A.handled = none)
    (h : ∀ h' tk t, Ext s.heap h' → Q (.int (cmpF RL RR ks) t) { s with heap := h', toks := tk }) :
    wpAny (model prog w) A (call (.ref f) [.ref x, vl, vr]) Q E s := by
  have hL0 : s.heap.get? s.heap.objs.size = none := none_at _ (Nat.le_refl _)
  refine enter (binds := [(Str.ofString "self", .ref x), (Str.ofString "left", vl), (Str.ofString "right", vr)]) W D hroom (fun _ _ _ _ => rfl) (by decide +kernel) (locs rfl) rfl rfl rfl fun h₁ tk₁ hns hx₁ => ?_
  have hun' : (A.deeper (envF (meth 1) (Str.ofString "TupleComp.compare") s.heap.objs.size f cdv)).units < cLine := by
    show A.units + 3 < cLine; omega
  generalize hAd : A.deeper (envF (meth 1) (Str.ofString "TupleComp.compare") s.heap.objs.size f cdv) = A' at hun' ⊢
  have hh' : A'.handled = none := by rw [← hAd]; exact hh
  clear hAd
  refine wpAny_execs_cons (wpAny_For ?_)
  refine Attribute_name ?_
  refine nmL hns rfl rfl rfl rfl ?_
  obtain ⟨ox, es, no, IA, hget⟩ := O
  have IA₁ : InstAt h₁ x ox C (some (dictOf es no)) := by
    refine ⟨hx₁ _ _ IA.at_, IA.cls, IA.no, ?_⟩
    have := IA.dict
    cases hd : ox.dict with
    | none => rw [hd] at this; exact this.elim
    | some dx => rw [hd] at this; exact hx₁ _ _ this
  refine get_value (X.keeps hx₁) IA₁ T.ga (findObj_own T.hd T.at_ rfl hget) rfl ?_
  have hl₁ := isList_x hl hx₁
  refine wpAny_pyIter_list hl₁ ?_
  dsimp only
  have hrl : rl < h₁.objs.size := by obtain ⟨_, e, _⟩ := hl₁; exact Heap.lt_size e
  have hrl0 : rl < s.heap.objs.size := by obtain ⟨_, e, _⟩ := hl; exact Heap.lt_size e
  have hLlt : s.heap.objs.size < h₁.objs.size := hns.lt
  have hI0 : s.heap.get? h₁.objs.size = none := none_at _ (Nat.le_of_lt hLlt)
  generalize hH : Heap.push h₁ _ = h₂
  have hx₂ : Ext h₁ h₂ := hH ▸ Ext.push _ _
  have hit : h₂.IsListIter h₁.objs.size rl 0 := ⟨_, hH ▸ Heap.get?_push_size _ rfl, rfl, rfl⟩
  clear hH
  have hne : (rl : Nat) ≠ h₁.objs.size := Nat.ne_of_lt hrl
  refine forWalk (W := Walks.list hh' h₁.objs.size rl hne its) (Jc s.heap s.heap.objs.size vl vr fun i => cmpF RL RR ks = cmpF RL RR (ks.drop i)) [s.heap.objs.size] ?_ ?_ ⟨hit, isList_x hl₁ hx₂⟩ ⟨_, hns.keeps hx₂, rfl, rfl, hx₁.tr hx₂, rfl⟩
    (listIter_go fun i v e => let ⟨k, _, r, _, _, q, _⟩ := hks.2 i v e; ⟨r, q⟩) ?_ listIter_ex ?_
  · intro b hb
    rcases List.mem_cons.mp hb with rfl | hb
    · simp only [List.mem_singleton]; exact Nat.ne_of_gt hLlt
    · rw [List.mem_singleton.mp hb]; simp only [List.mem_singleton]; exact Nat.ne_of_lt hrl0
  · rintro i h h' ⟨m, n, a, b, c, d⟩ k
    exact ⟨m, n.at' fun o e => k _ o (Nat.ne_of_lt hLlt) e, a, b, c.but hI0 k, d⟩
  · rintro i v g tk E' hi hv ⟨m, n, ml, mr, hg, hc⟩ hIg
    obtain ⟨⟨kc, kd⟩, hk, hp⟩ := hks.2 i v hv
    obtain ⟨r, t1, t2, rfl, hr, ht⟩ := hp
    have hcol' := hcol _ (List.mem_of_getElem? hk)
    dsimp only at ht hcol'
    have hdrop : ks.drop i = (kc, kd) :: ks.drop (i + 1) := by
      have hlt := (List.getElem?_eq_some_iff.mp hk).1
      rw [List.drop_eq_getElem_cons hlt, (List.getElem?_eq_some_iff.mp hk).2]
    refine asgT2 hh' (isTuple_x ht hg) n rfl rfl rfl fun g₁ tk₁ n₁ x₁ => ?_
    have hg₁ : Ext s.heap g₁ := hg.but hL0 x₁
    -- l = left[index]
    refine wpAny_execs_cons (wpAny_Assign_Name ?_)
    refine PySem.Subscript_Name ?_
    refine nmL n₁ ml rfl rfl rfl ?_
    refine nmL n₁ rfl rfl rfl rfl ?_
    refine row_item hvl hg₁ hcol'.1 hcol'.2 fun yl il => ?_
    refine stS n₁ rfl rfl fun g₂ tk₂ n₂ s₂ => ?_
    have hg₂ : Ext s.heap g₂ := hg₁.same hL0 s₂
    -- r = right[index]
    refine wpAny_execs_cons (wpAny_Assign_Name ?_)
    refine PySem.Subscript_Name ?_
    refine nmL n₂ mr rfl rfl rfl ?_
    refine nmL n₂ rfl rfl rfl rfl ?_
    refine row_item hvr hg₂ hcol'.1 hcol'.2 fun yr ir => ?_
    refine stS n₂ rfl rfl fun g₃ tk₃ n₃ s₃ => ?_
    have hg₃ : Ext s.heap g₃ := hg₂.same hL0 s₃
    -- if l < r
    refine wpAny_execs_cons (wpAny_If (wpAny_isTrue_Compare1 ?_))
    refine nmL n₃ rfl rfl rfl rfl ?_
    refine nmL n₃ rfl rfl rfl rfl ?_
    refine item_lt (il.x hg₃) (ir.x hg₃) hun' (wpAny_truthy_bool ?_)
    cases hlt : ltI (RL.item (colIx kc)) (RR.item (colIx kc)) with
    | true =>
      rw [if_pos rfl]
      refine wpAny_execs_cons (wpAny_Return_some (wpAny_UnaryOp ?_))
      refine nmL n₃ rfl rfl rfl rfl ?_
      refine PyProof.Rows.neg_int ?_
      have e : cmpF RL RR ks = -kd := by rw [hc, hdrop]; show (if _ then _ else _) = _; rw [hlt]; rfl
      rw [← e]
      exact h g₃ _ _ hg₃
    | false =>
      rw [if_neg Bool.false_ne_true]
      refine wpAny_execs_nil ?_
      -- if l > r
      refine wpAny_execs_cons (wpAny_If (wpAny_isTrue_Compare1 ?_))
      refine nmL n₃ rfl rfl rfl rfl ?_
      refine nmL n₃ rfl rfl rfl rfl ?_
      refine item_gt (il.x hg₃) (ir.x hg₃) hun' (wpAny_truthy_bool ?_)
      cases hgt : ltI (RR.item (colIx kc)) (RL.item (colIx kc)) with
      | true =>
        rw [if_pos rfl]
        refine wpAny_execs_cons (wpAny_Return_some ?_)
        refine nmL n₃ rfl rfl rfl rfl ?_
        have e : cmpF RL RR ks = kd := by rw [hc, hdrop]; show (if _ then _ else if _ then _ else _) = _; rw [hlt, hgt]; rfl
        rw [← e]
        exact h g₃ _ _ hg₃
      | false =>
        rw [if_neg Bool.false_ne_true]
        refine wpAny_execs_nil (wpAny_execs_nil ?_)
        refine ⟨g₃, _, rfl, ⟨_, n₃, ml, mr, hg₃, ?_⟩, fun b o hb e => ?_⟩
        · rw [hc, hdrop]; show (if _ then _ else if _ then _ else _) = _; rw [hlt, hgt]; rfl
        · have hb' : b ≠ s.heap.objs.size := by simpa using hb
          exact s₃.extBut b o hb' (s₂.extBut b o hb' (x₁ b o hb' e))
  · rintro g tk ⟨m, n, ml, mr, hg, hc⟩
    refine wpAny_execs_cons (wpAny_Return_some (wpAny_Constant_int ?_))
    have e : cmpF RL RR ks = 0 := by rw [hc, List.drop_of_length_le (Nat.le_of_eq hks.1.symm)]; rfl
    rw [← e]
    exact h g _ _ hg
end
end Mine

/-! # CU -/
namespace Mine
/-! ## _law_rule -/
def KeysAt (lo : Nat) (h : Heap) (its : Array Value) (ks : List (Int × Int)) (xs : List Str) : Prop := its.size = ks.length ∧ xs.length = ks.length ∧ ∀ (i : Nat) (v : Value), its[i]? = some v → ∃ (k : Int × Int) (x : Str), ks[i]? = some k ∧ xs[i]? = some x ∧ KeyAt lo h v k.1 k.2 x
theorem KeysAt.a {lo : Nat} {h h' : Heap} {its : Array Value} {ks : List (Int × Int)} {xs : List Str} (x : KeysAt lo h its ks xs) (k : ExtA lo h h') : KeysAt lo h' its ks xs := ⟨x.1, x.2.1, fun i v e => let ⟨q, y, a, b, c⟩ := x.2.2 i v e; ⟨q, y, a, b, c.a k⟩⟩

theorem rev_get {α : Type} {xs : Array α} {ys : List α} (he : xs = ys.reverse.toArray) {i : Nat} {v : α} (h : xs[i]? = some v) : ∃ j, j < ys.length ∧ ys[j]? = some v ∧ j + i + 1 = ys.length := by
  subst he
  have h' : ys.reverse[i]? = some v := by simpa using h
  obtain ⟨hi, e⟩ := List.getElem?_eq_some_iff.mp h'
  rw [List.length_reverse] at hi
  refine ⟨ys.length - 1 - i, by omega, ?_, by omega⟩
  rw [List.getElem_reverse] at e
  rw [List.getElem?_eq_getElem (by omega), e]

def Ju (h₀ : Heap) (L : Addr) (vl vr : Value) (P : Nat → Int) (i : Nat) (h : Heap) : Prop :=
  ∃ m t, h.Ns L m ∧ m (Str.ofString "left") = some vl ∧ m (Str.ofString "right") = some vr ∧ m (Str.ofString "value") = some (.int (P i) t) ∧ Ext h₀ h

section
variable {prog : Program} {w : World} {A : Around} {E : Value → Shared → Prop} {s : Shared} {mg mb : Str → Option Value}

set_option maxHeartbeats 4000000 in
theorem rule_call {f kl : Addr} {cdv vl vr : Value} {lo lo' : Nat} {its : Array Value} {ks : List (Int × Int)} {xs : List Str} {RL RR : Row} {Q : Value → Shared → Prop} (W : W0 mg mb s.heap) (D : Def s.heap f (top 9) (Str.ofString "_law_rule") cdv)
    (hl : s.heap.IsList kl its) (hks : KeysAt lo s.heap its ks xs) (hsz : its.size ≤ 100) (hcol : ∀ k ∈ ks, -4 ≤ k.1 ∧ k.1 ≤ 3) (hvl : RowAt lo' s.heap vl RL) (hvr : RowAt lo' s.heap vr RR)
    (hroom : A.depth < recursionLimit) (hun : A.units + 10 < cLine) (hh : A.handled = none)
    (h : ∀ h' tk t, Ext s.heap h' → Q (.int (ruleF RL RR ks) t) { s with heap := h', toks := tk }) :
    wpAny (model prog w) A (call (.ref f) [.ref kl, vl, vr]) Q E s := by
  have hL0 : s.heap.get? s.heap.objs.size = none := none_at _ (Nat.le_refl _)
  refine enter (binds := [(Str.ofString "keys", .ref kl), (Str.ofString "left", vl), (Str.ofString "right", vr)]) W D hroom (fun _ _ _ _ => rfl) (by decide +kernel) (locs rfl) rfl rfl rfl fun h₁ tk₁ hns hx₁ => ?_
  have hun' : (A.deeper (envF (top 9) (Str.ofString "_law_rule") s.heap.objs.size f cdv)).units < cLine := by
    show A.units + 3 < cLine; omega
  generalize hAd : A.deeper (envF (top 9) (Str.ofString "_law_rule") s.heap.objs.size f cdv) = A' at hun' ⊢
  have hh' : A'.handled = none := by rw [← hAd]; exact hh
  clear hAd
  -- value = 0
  refine wpAny_execs_cons (wpAny_Assign_Name (wpAny_Constant_int ?_))
  refine stS hns rfl rfl fun h₂ tk₂ hns₂ hs₂ => ?_
  have hx₂ : Ext s.heap h₂ := hx₁.same hL0 hs₂
  clear hns
  -- the loop
  refine wpAny_execs_cons (wpAny_For ?_)
  refine PyProof.Rows.Subscript_ ?_
  refine nmL hns₂ rfl rfl rfl rfl ?_
  refine wpAny_Slice (wpAny_pure (wpAny_pure ?_))
  refine wpAny_UnaryOp (wpAny_Constant_int (PyProof.Rows.neg_int ?_))
  have hl₂ := isList_x hl hx₂
  refine tail_of_ItemOn ⟨"list", _, list_getitem_lookup, (hl₂.push _).typeIs, wpAny_getItem_list_slice (hl₂.push _) (Heap.IsSliceOf.new ..) .none .none (.int _ _) (by decide) ?_ (by rw [sizeLine_eq]; omega)⟩ (by with_unfolding_all rfl) (fun _ => rfl)
  dsimp only
  generalize hD : (Heap.push h₂ _).objs.size = D
  generalize hH : Heap.push (Heap.push h₂ _) _ = h₃
  have hx₃ : Ext h₂ h₃ := hH ▸ (Ext.push _ _).tr (Ext.push _ _)
  have hlist : h₃.IsList D (its.toList.reverse.toArray) := by rw [← hH, ← hD, krv_pick]; exact ⟨_, Heap.get?_push_size _ rfl, rfl, _, rfl⟩
  have hDlt : s.heap.objs.size < D := by rw [← hD, Heap.size_push]; exact Nat.lt_succ_of_lt hns₂.lt
  clear hH hD
  have hns₃ := hns₂.keeps hx₃
  have hx₃' : Ext s.heap h₃ := hx₂.tr hx₃
  refine wpAny_pyIter_list hlist ?_
  dsimp only
  have hDlt' : D < h₃.objs.size := by obtain ⟨_, e, _⟩ := hlist; exact Heap.lt_size e
  have hLlt : s.heap.objs.size < h₃.objs.size := hns₃.lt
  have hI0 : s.heap.get? h₃.objs.size = none := none_at _ (Nat.le_of_lt hLlt)
  generalize hH : Heap.push h₃ _ = h₄
  have hx₄ : Ext h₃ h₄ := hH ▸ Ext.push _ _
  have hit : h₄.IsListIter h₃.objs.size D 0 := ⟨_, hH ▸ Heap.get?_push_size _ rfl, rfl, rfl⟩
  clear hH
  have hne : (D : Nat) ≠ h₃.objs.size := Nat.ne_of_lt hDlt'
  have item : ∀ (i : Nat) (v : Value), (its.toList.reverse.toArray)[i]? = some v → ∃ (k : Int × Int) (x : Str), ks.reverse[i]? = some k ∧ KeyAt lo s.heap v k.1 k.2 x := by
    intro i v e
    obtain ⟨j, hj, ej, hji⟩ := rev_get rfl e
    rw [Array.length_toList] at hj hji
    obtain ⟨k, x, hk, _, hK⟩ := hks.2.2 j v (by simpa using ej)
    refine ⟨k, x, ?_, hK⟩
    have hjk := (List.getElem?_eq_some_iff.mp hk).1
    have hl1 := hks.1
    rw [List.getElem?_reverse (by omega), show ks.length - 1 - i = j by omega]
    exact hk
  refine forWalk (W := Walks.list hh' h₃.objs.size D hne (its.toList.reverse.toArray)) (Ju s.heap s.heap.objs.size vl vr fun i => (ks.reverse.take i).foldl (ruleStep RL RR) 0) [s.heap.objs.size] ?_ ?_ ⟨hit, isList_x hlist hx₄⟩ ⟨_, _, hns₃.keeps hx₄, rfl, rfl, rfl, hx₃'.tr hx₄⟩
    (listIter_go fun i v e => let ⟨k, x, _, r, _, _, _, q, _⟩ := item i v e; ⟨r, q⟩) ?_ listIter_ex ?_
  · intro b hb
    rcases List.mem_cons.mp hb with rfl | hb
    · simp only [List.mem_singleton]; exact Nat.ne_of_gt hLlt
    · rw [List.mem_singleton.mp hb]; simp only [List.mem_singleton]; exact Nat.ne_of_gt hDlt
  · rintro i h h' ⟨m, t, n, a, b, c, d⟩ k
    exact ⟨m, t, n.at' fun o e => k _ o (Nat.ne_of_lt hLlt) e, a, b, c, d.but hI0 k⟩
  · rintro i v g tk E' hi hv ⟨m, t, n, ml, mr, mv, hg⟩ hIg
    obtain ⟨⟨kc, kd⟩, x, hk, r, t1, t2, t3, rfl, hr, ht⟩ := item i v hv
    have hcol' := hcol _ (List.mem_reverse.mp (List.mem_of_getElem? hk))
    dsimp only at ht hcol'
    have htake : (ks.reverse.take (i + 1)).foldl (ruleStep RL RR) 0 = ruleStep RL RR ((ks.reverse.take i).foldl (ruleStep RL RR) 0) (kc, kd) := by
      rw [List.take_add_one, hk, List.foldl_append]; rfl
    refine asgT3 hh' (isTuple_x ht hg) n rfl rfl rfl rfl fun g₁ tk₁ n₁ x₁ => ?_
    have hg₁ : Ext s.heap g₁ := hg.but hL0 x₁
    refine wpAny_execs_cons (wpAny_If (wpAny_isTrue_Compare1 ?_))
    refine PySem.Subscript_Name ?_
    refine nmL n₁ ml rfl rfl rfl ?_
    refine nmL n₁ rfl rfl rfl rfl ?_
    refine row_item hvl hg₁ hcol'.1 hcol'.2 fun yl il => ?_
    refine PySem.Subscript_Name ?_
    refine nmL n₁ mr rfl rfl rfl ?_
    refine nmL n₁ rfl rfl rfl rfl ?_
    refine row_item hvr hg₁ hcol'.1 hcol'.2 fun yr ir => ?_
    refine item_ne (il.x hg₁) (ir.x hg₁) hun' (wpAny_truthy_bool ?_)
    cases hne : neI (RL.item (colIx kc)) (RR.item (colIx kc)) with
    | false =>
      rw [if_neg Bool.false_ne_true]
      refine wpAny_execs_nil (wpAny_execs_nil ?_)
      refine ⟨g₁, _, rfl, ⟨_, t, n₁, ml, mr, ?_, hg₁⟩, fun b o hb e => x₁ b o (by simpa using hb) e⟩
      (try dsimp only)
      rw [htake]
      have e : ruleStep RL RR ((ks.reverse.take i).foldl (ruleStep RL RR) 0) (kc, kd) = (ks.reverse.take i).foldl (ruleStep RL RR) 0 := by
        unfold ruleStep; dsimp only; rw [hne]; rfl
      rw [e]; exact mv
    | true =>
      rw [if_pos rfl]
      refine wpAny_execs_cons (wpAny_Assign_Name ?_)
      refine wpAny_IfExp (wpAny_isTrue_Compare1 ?_)
      refine PySem.Subscript_Name ?_
      refine nmL n₁ mr rfl rfl rfl ?_
      refine nmL n₁ rfl rfl rfl rfl ?_
      refine row_item hvr hg₁ hcol'.1 hcol'.2 fun zr jr => ?_
      refine PySem.Subscript_Name ?_
      refine nmL n₁ ml rfl rfl rfl ?_
      refine nmL n₁ rfl rfl rfl rfl ?_
      refine row_item hvl hg₁ hcol'.1 hcol'.2 fun zl jl => ?_
      refine item_lt (jr.x hg₁) (jl.x hg₁) hun' (wpAny_truthy_bool ?_)
      cases hlt : ltI (RR.item (colIx kc)) (RL.item (colIx kc)) with
      | true =>
        rw [if_pos rfl]
        refine nmL n₁ rfl rfl rfl rfl ?_
        refine stS n₁ rfl rfl fun g₂ tk₂ n₂ s₂ => wpAny_execs_nil (wpAny_execs_nil ?_)
        have e : ruleStep RL RR ((ks.reverse.take i).foldl (ruleStep RL RR) 0) (kc, kd) = kd := by
          unfold ruleStep; dsimp only; rw [hne, hlt]; rfl
        exact ⟨g₂, _, rfl, ⟨_, _, n₂, ml, mr, (by dsimp only; rw [htake.trans e]; rfl), hg₁.same hL0 s₂⟩, fun b o hb e => s₂.extBut b o (by simpa using hb) (x₁ b o (by simpa using hb) e)⟩
      | false =>
        rw [if_neg Bool.false_ne_true]
        refine wpAny_UnaryOp ?_
        refine nmL n₁ rfl rfl rfl rfl ?_
        refine PyProof.Rows.neg_int ?_
        refine stS n₁ rfl rfl fun g₂ tk₂ n₂ s₂ => wpAny_execs_nil (wpAny_execs_nil ?_)
        have e : ruleStep RL RR ((ks.reverse.take i).foldl (ruleStep RL RR) 0) (kc, kd) = -kd := by
          unfold ruleStep; dsimp only; rw [hne, hlt]; rfl
        exact ⟨g₂, _, rfl, ⟨_, _, n₂, ml, mr, (by dsimp only; rw [htake.trans e]; rfl), hg₁.same hL0 s₂⟩, fun b o hb e => s₂.extBut b o (by simpa using hb) (x₁ b o (by simpa using hb) e)⟩
  · rintro g tk ⟨m, t, n, ml, mr, mv, hg⟩
    refine wpAny_execs_cons (wpAny_Return_some ?_)
    refine nmL n mv rfl rfl rfl ?_
    have e : (ks.reverse.take (its.toList.reverse.toArray).size).foldl (ruleStep RL RR) 0 = ruleF RL RR ks := by
      unfold ruleF
      rw [List.take_of_length_le]
      rw [List.length_reverse, ← hks.1]; simp
    (try dsimp only)
    rw [e]
    exact h g _ _ hg
end
end Mine

/-! # CK -/
namespace Mine
/-! ## _law_keys -/
def colOf (n : Int) (k : Nat) : Int := (n + (k : Int)).fmod 8 - 4
def keyX (n : Int) (k : Nat) : Str := keyText (colOf n k) n ((n + (k : Int)).fmod 5) ((n.fdiv 5 + (k : Int)).fmod 5)
def keysOf (ns : List Int) : List (Int × Int) := ns.mapIdx fun k n => (colOf n k, n)
def textsOf (ns : List Int) : List Str := ns.mapIdx fun k n => keyX n k
def IntsAt (its : Array Value) (ns : List Int) : Prop := its.size = ns.length ∧ ∀ (i : Nat) (v : Value), its[i]? = some v → ∃ (n : Int) (t : Tok), ns[i]? = some n ∧ v = .int n t

theorem col_range (n : Int) (k : Nat) : -4 ≤ colOf n k ∧ colOf n k ≤ 3 := by
  have := fmod_lt (n + (k : Int)) (b := 8) (by decide)
  unfold colOf; omega
theorem col_abs (n : Int) (k : Nat) : (colOf n k).natAbs < 10 ^ 20 := by
  have := col_range n k
  have : (colOf n k).natAbs ≤ 4 := by omega
  exact Nat.lt_of_le_of_lt this (by decide +kernel)
theorem keysOf_get {ns : List Int} {i : Nat} {n : Int} (h : ns[i]? = some n) : (keysOf ns)[i]? = some (colOf n i, n) := by unfold keysOf; rw [List.getElem?_mapIdx, h]; rfl
theorem textsOf_get {ns : List Int} {i : Nat} {n : Int} (h : ns[i]? = some n) : (textsOf ns)[i]? = some (keyX n i) := by unfold textsOf; rw [List.getElem?_mapIdx, h]; rfl
theorem keysOf_len (ns : List Int) : (keysOf ns).length = ns.length := by unfold keysOf; rw [List.length_mapIdx]
theorem textsOf_len (ns : List Int) : (textsOf ns).length = ns.length := by unfold textsOf; rw [List.length_mapIdx]
theorem keysOf_col {ns : List Int} : ∀ k ∈ keysOf ns, -4 ≤ k.1 ∧ k.1 ≤ 3 := by
  intro k hk
  obtain ⟨i, e⟩ := List.mem_iff_getElem?.mp hk
  have hi := (List.getElem?_eq_some_iff.mp e).1
  rw [keysOf_len] at hi
  rw [keysOf_get (List.getElem?_eq_getElem hi)] at e
  cases e
  exact col_range _ _

/-- the frame of _law_keys between the turns -/
def Jk (h₀ : Heap) (L D nl lo : Nat) (ns : List Int) (i : Nat) (h : Heap) : Prop :=
  ∃ m its, h.Ns L m ∧ m (Str.ofString "numbers") = some (.ref nl) ∧ m (Str.ofString "keys") = some (.ref D) ∧ h.PlainList D its ∧ its.size = i ∧
    (∀ (j : Nat) (v : Value), its[j]? = some v → ∃ n, ns[j]? = some n ∧ KeyAt lo h v (colOf n j) n (keyX n j)) ∧ Ext h₀ h

section
variable {prog : Program} {w : World} {A : Around} {E : Value → Shared → Prop} {s : Shared} {mg mb : Str → Option Value}

/-- an int out of the list of numbers -/
theorem num_item {h₀ : Heap} {nl : Addr} {nvs : Array Value} {ns : List Int} {k : Nat} {n : Int} {u : Tok} {Q : Value → Shared → Prop} (hl : h₀.IsList nl nvs) (hi : IntsAt nvs ns) (hk : ns[k]? = some n) (hsz : ns.length ≤ 100) (hx : Ext h₀ s.heap)
    (hQ : ∀ t, Q (.int n t) s) : ItemOn (model prog w) A E (.ref nl) (.int (k : Int) u) Q s := by
  have hl' := isList_x hl hx
  have hlt := (List.getElem?_eq_some_iff.mp hk).1
  have hlt' : k < nvs.size := by rw [hi.1]; exact hlt
  obtain ⟨n', t, e1, e2⟩ := hi.2 k _ (Array.getElem?_eq_getElem hlt')
  rw [hk] at e1
  cases e1
  exact ⟨"list", _, list_getitem_lookup, hl'.typeIs, wpAny_getItem_list hl' (by omega) (by omega) (by rw [Int.toNat_natCast, Array.getElem?_eq_getElem hlt', e2]) (hQ t)⟩

set_option maxHeartbeats 8000000 in
theorem keys_call {f f5 nl : Addr} {cdv cd5 : Value} {nvs : Array Value} {ns : List Int} {Q : Value → Shared → Prop} (N : Nm mg mb) (W : W0 mg mb s.heap) (D : Def s.heap f (top 6) (Str.ofString "_law_keys") cdv)
    (h5 : mg (Str.ofString "_law_spelled") = some (.ref f5)) (D5 : Def s.heap f5 (top 5) (Str.ofString "_law_spelled") cd5)
    (hl : s.heap.IsList nl nvs) (hi : IntsAt nvs ns) (hsz : ns.length ≤ 100) (habs : ∀ n ∈ ns, n.natAbs < 10 ^ 20)
    (hroom : A.depth + 1 < recursionLimit) (hh : A.handled = none)
    (h : ∀ h' tk (d : Nat) its, Ext s.heap h' → s.heap.objs.size ≤ d → h'.IsList d its → KeysAt s.heap.objs.size h' its (keysOf ns) (textsOf ns) → Q (.ref d) { s with heap := h', toks := tk }) :
    wpAny (model prog w) A (call (.ref f) [.ref nl]) Q E s := by
  have hL0 : s.heap.get? s.heap.objs.size = none := none_at _ (Nat.le_refl _)
  refine enter (binds := [(Str.ofString "numbers", .ref nl)]) W D (Nat.lt_of_succ_lt hroom) (fun _ _ _ _ => rfl) (by decide +kernel) (locs rfl) rfl rfl rfl fun h₁ tk₁ hns hx₁ => ?_
  have hroom' : (A.deeper (envF (top 6) (Str.ofString "_law_keys") s.heap.objs.size f cdv)).depth < recursionLimit := hroom
  generalize hAd : A.deeper (envF (top 6) (Str.ofString "_law_keys") s.heap.objs.size f cdv) = A' at hroom' ⊢
  have hh' : A'.handled = none := by rw [← hAd]; exact hh
  clear hAd
  -- keys = []
  refine wpAny_execs_cons (wpAny_Assign_Name ?_)
  refine wpAny_List_spliced (spliced_nil ⟨Nat.zero_le _, ?_⟩)
  dsimp only
  have hL1 : s.heap.objs.size < h₁.objs.size := hns.lt
  generalize hH : Heap.push h₁ _ = h₂
  have hx₂ : Ext h₁ h₂ := hH ▸ Ext.push _ _
  have hD : h₂.PlainList h₁.objs.size #[] := ⟨0, hH ▸ Heap.get?_push_size _ rfl⟩
  clear hH
  generalize hDe : h₁.objs.size = d at *
  refine stS (hns.keeps hx₂) rfl rfl fun h₃ tk₃ hns₃ hs₃ => ?_
  have hx₃ : Ext s.heap h₃ := (hx₁.tr hx₂).same hL0 hs₃
  have hD₃ : h₃.PlainList d #[] := hD.extBut hs₃.extBut (Nat.ne_of_gt hL1)
  dsimp only at hns₃
  -- for k in range(len(numbers))
  refine wpAny_execs_cons (wpAny_For ?_)
  refine Call_Name1 ?_
  refine nmB (W.keeps hx₃) rfl rfl N.range0 N.range1 rfl rfl rfl ?_
  refine PySem.callWith_type1 ?_
  refine Call_Name1 ?_
  refine nmB (W.keeps hx₃) rfl rfl N.len0 N.len1 rfl rfl rfl ?_
  refine PySem.callWith_builtin1 ?_
  refine nmL hns₃ rfl rfl rfl rfl ?_
  refine call_len_list (isList_x hl hx₃) (by rw [hi.1]; omega) ?_
  refine call_range_1 ?_
  dsimp only
  generalize hH : Heap.push h₃ _ = h₄
  have hx₄ : Ext h₃ h₄ := hH ▸ Ext.push _ _
  have hr : IsRange h₄ h₃.objs.size 0 (nvs.size : Int) 1 _ _ _ := hH ▸ IsRange.new _ _ _ _ _ _ _
  clear hH
  refine wpAny_pyIter_range hr (small_one (by decide) (by decide) (by omega) (by have := hi.1; omega)) ?_
  have hrs : Builtin.Range.rangeSize 0 (nvs.size : Int) 1 = (ns.length : Int) := by rw [rangeSize_one, hi.1]; split <;> omega
  rw [hrs]
  dsimp only
  have hns₄ := hns₃.keeps hx₄
  have hD₄ : h₄.PlainList d #[] := hD₃.at fun o e => hx₄ _ o e
  have hLI : s.heap.objs.size < h₄.objs.size := hns₄.lt
  have hdI : d < h₄.objs.size := by obtain ⟨_, e⟩ := hD₄; exact Heap.lt_size e
  have hI0 : s.heap.get? h₄.objs.size = none := none_at _ (Nat.le_of_lt hLI)
  have hd0 : s.heap.get? d = none := none_at _ (Nat.le_of_lt hL1)
  generalize hH : Heap.push h₄ _ = h₅
  have hx₅ : Ext h₄ h₅ := hH ▸ Ext.push _ _
  have hit : IsRangeIter h₅ h₄.objs.size (0 + ((0 : Nat) : Int) * 1) ((ns.length : Int) - ((0 : Nat) : Int)) 1 := by
    rw [← hH]
    have := Heap.get?_push_size h₄ (o := { cls := .type "range_iterator", data := .fields #[rawInt 0, rawInt (ns.length : Int), rawInt 1] }) rfl
    simpa using this
  clear hH
  generalize hIe : h₄.objs.size = I at *
  have hx₅' : Ext s.heap h₅ := (hx₃.tr hx₄).tr hx₅
  refine forWalk (W := LCg.range_walks hh' 0 ns.length) (Jk s.heap s.heap.objs.size d nl (I + 1) ns) [s.heap.objs.size, d] ?_ ?_ hit
    ⟨_, #[], hns₄.keeps hx₅, rfl, rfl, hD₄.at fun o e => hx₅ _ o e, rfl, fun j v e => by simp at e, hx₅'⟩ (fun _ _ _ _ _ _ _ _ hq => wpAny_pure hq) ?_ (fun i h st => ⟨_, st⟩) ?_
  · intro b hb
    rw [List.mem_singleton.mp hb]
    simp only [List.mem_cons, List.not_mem_nil, or_false, not_or]
    exact ⟨Nat.ne_of_gt hLI, Nat.ne_of_gt hdI⟩
  · rintro i h h' ⟨m, its, n, a, b, c, e, q, x⟩ k
    refine ⟨m, its, n.at' fun o e => k _ o (Nat.ne_of_lt hLI) e, a, b, c.extBut k (Nat.ne_of_lt hdI), e, fun j v ej => ?_, x.but hI0 k⟩
    obtain ⟨y, e1, e2⟩ := q j v ej
    exact ⟨y, e1, e2.a (ExtA.but (Nat.lt_succ_self _) k)⟩
  · rintro i v g tk E' hilt ⟨tv, rfl⟩ ⟨m, its, n, mn, mk, hDg, hits, q, hg⟩ hIg
    have hni : ns[i]? = some ns[i] := List.getElem?_eq_getElem hilt
    generalize hnum : ns[i] = num at hni
    have hnabs : num.natAbs < 10 ^ 20 := habs num (List.mem_of_getElem? hni)
    rw [Int.zero_add]
    refine stL n rfl rfl fun g₁ k₁ n₁ s₁ => ?_
    have hg₁ : Ext s.heap g₁ := hg.same hL0 s₁
    -- column
    refine wpAny_execs_cons (wpAny_Assign_Name ?_)
    refine wpAny_BinOp (wpAny_BinOp (wpAny_BinOp ?_))
    refine PySem.Subscript_Name ?_
    refine nmL n₁ mn rfl rfl rfl ?_
    refine nmL n₁ rfl rfl rfl rfl ?_
    refine num_item hl hi hni hsz hg₁ fun u1 => ?_
    refine nmL n₁ rfl rfl rfl rfl ?_
    refine PyProof.Rows.add_int ?_
    refine wpAny_Constant_int ?_
    refine mod_int' (by decide) ?_
    refine wpAny_Constant_int ?_
    refine PyProof.Rows.sub_int ?_
    refine stS n₁ rfl rfl fun g₂ k₂ n₂ s₂ => ?_
    have hg₂ : Ext s.heap g₂ := hg₁.same hL0 s₂
    have hcol : (num + (i : Int)).fmod 8 - 4 = colOf num i := rfl
    rw [hcol] at n₂
    -- text
    refine wpAny_execs_cons (wpAny_Assign_Name ?_)
    refine wpAny_BinOp (wpAny_BinOp ?_)
    refine Call_Name (trees := [(false, eval _ _), (false, eval _ _)]) rfl ?_
    refine nmG (W.keeps hg₂) rfl h5 rfl rfl rfl ?_
    refine cwD D5 (sp2 ?_)
    refine nmL n₂ rfl rfl rfl rfl ?_
    refine wpAny_BinOp (wpAny_BinOp ?_)
    refine PySem.Subscript_Name ?_
    refine nmL n₂ mn rfl rfl rfl ?_
    refine nmL n₂ rfl rfl rfl rfl ?_
    refine num_item hl hi hni hsz hg₂ fun u2 => ?_
    refine nmL n₂ rfl rfl rfl rfl ?_
    refine PyProof.Rows.add_int ?_
    refine wpAny_Constant_int ?_
    refine mod_int' (by decide) ?_
    refine ⟨hg₂, ?_⟩
    refine spelled_call N (W.keeps hg₂) (D5.keeps hg₂) hroom' hh' (col_abs num i) fun g₃ k₃ u3 x₃ => ?_
    dsimp only at x₃ ⊢
    have hg₃ : Ext s.heap g₃ := hg₂.tr x₃
    have n₃ := n₂.keeps x₃
    refine wpAny_Constant_str ?_
    have hl1 := spelled_len ((num + (i : Int)).fmod 5) (col_abs num i)
    have hl2 := spelled_len ((num.fdiv 5 + (i : Int)).fmod 5) hnabs
    have hl0 : (Str.ofString ".").length = 1 := by decide +kernel
    refine PyProof.Rows.add_str (fun u4 k4 => ?_) (by rw [hl0, sizeLine_eq]; omega)
    refine Call_Name (trees := [(false, eval _ _), (false, eval _ _)]) rfl ?_
    refine nmG (W.keeps hg₃) rfl h5 rfl rfl rfl ?_
    refine cwD D5 (sp2 ?_)
    refine PySem.Subscript_Name ?_
    refine nmL n₃ mn rfl rfl rfl ?_
    refine nmL n₃ rfl rfl rfl rfl ?_
    refine num_item hl hi hni hsz hg₃ fun u5 => ?_
    refine wpAny_BinOp (wpAny_BinOp (wpAny_BinOp ?_))
    refine PySem.Subscript_Name ?_
    refine nmL n₃ mn rfl rfl rfl ?_
    refine nmL n₃ rfl rfl rfl rfl ?_
    refine num_item hl hi hni hsz hg₃ fun u6 => ?_
    refine wpAny_Constant_int ?_
    refine floordiv_int (by decide) ?_ (Or.inl (PyProof.noPylong_small (by decide)))
    refine nmL n₃ rfl rfl rfl rfl ?_
    refine PyProof.Rows.add_int ?_
    refine wpAny_Constant_int ?_
    refine mod_int' (by decide) ?_
    refine ⟨hg₃, ?_⟩
    refine spelled_call N (W.keeps hg₃) (D5.keeps hg₃) hroom' hh' hnabs fun g₄ k₄ u7 x₄ => ?_
    dsimp only at x₄ ⊢
    have hg₄ : Ext s.heap g₄ := hg₃.tr x₄
    have n₄ := n₃.keeps x₄
    refine PyProof.Rows.add_str (fun u8 k8 => ?_) (by rw [Str.length_append, hl0, sizeLine_eq]; omega)
    refine stS n₄ rfl rfl fun g₅ k₅ n₅ s₅ => ?_
    have hg₅ : Ext s.heap g₅ := hg₄.same hL0 s₅
    have hX : spelled (colOf num i) ((num + (i : Int)).fmod 5) ++ Str.ofString "." ++ spelled num ((num.fdiv 5 + (i : Int)).fmod 5) = keyX num i := rfl
    rw [hX] at n₅
    have up₅ : ∀ b o, b ≠ s.heap.objs.size → g.get? b = some o → g₅.get? b = some o := fun b o hb e =>
      s₅.extBut b o hb (x₄ b o (x₃ b o (s₂.extBut b o hb (s₁.extBut b o hb e))))
    -- append
    refine wpAny_execs_cons (wpAny_Expr ?_)
    refine wpAny_Call_method_lateS rfl rfl rfl ?_
    refine nmL n₅ mk rfl rfl rfl ?_
    have hD₅ : g₅.PlainList d its := hDg.at fun o e => up₅ _ o (Nat.ne_of_gt hL1) e
    refine ⟨"list", "list.append", F.plainAttrs_list, F.slot_list_append, F.type_list_append, hD₅.isList.typeIs, (fun a e => by cases e; obtain ⟨_, e⟩ := hD₅; exact ⟨_, e, rfl⟩), ?_⟩
    refine cwB (y := eval _ _) (rest := []) rfl (sp1 ?_)
    refine tupN (trees := [(false, eval _ _), (false, eval _ _), (false, eval _ _)]) rfl (sp3 ?_)
    refine nmL n₅ rfl rfl rfl rfl ?_
    refine PySem.Subscript_Name ?_
    refine nmL n₅ mn rfl rfl rfl ?_
    refine nmL n₅ rfl rfl rfl rfl ?_
    refine num_item hl hi hni hsz hg₅ fun u9 => ?_
    refine nmL n₅ rfl rfl rfl rfl ?_
    refine ⟨Nat.le_of_ble_eq_true rfl, fun g₆ ht₆ x₆ => ?_⟩
    dsimp only at ht₆ x₆ ⊢
    have hg₆ : Ext s.heap g₆ := hg₅.tr x₆
    have n₆ := n₅.keeps x₆
    refine wpAny_list_append_plain (hD₅.at fun o e => x₆ _ o e) (fun g₇ hD₇ s₇ => ?_) (by rw [sizeLine_eq]; omega)
    dsimp only at s₇ ⊢
    refine wpAny_execs_nil ?_
    obtain ⟨oI, eI⟩ := hIg
    have hI5 : I + 1 ≤ g₅.objs.size := Nat.succ_le_of_lt (Heap.lt_size (up₅ I oI (Nat.ne_of_gt hLI) eI))
    have up₇ : ∀ b o, b ≠ s.heap.objs.size → b ≠ d → g.get? b = some o → g₇.get? b = some o := fun b o h1 h2 e => s₇.extBut b o h2 (x₆ b o (up₅ b o h1 e))
    have upA : ExtA (I + 1) g g₇ := fun b o hb e => up₇ b o (Nat.ne_of_gt (Nat.lt_of_lt_of_le (Nat.lt_succ_of_lt hLI) hb)) (Nat.ne_of_gt (Nat.lt_of_lt_of_le (Nat.lt_succ_of_lt hdI) hb)) e
    refine ⟨g₇, _, rfl, ⟨_, its.push _, n₆.sameBut s₇ (Nat.ne_of_lt hL1), mn, mk, hD₇, by rw [Array.size_push, hits], ?_, hg₆.same hd0 s₇⟩, fun b o hb e => ?_⟩
    · intro j v ej
      rcases Nat.lt_or_ge j its.size with hj | hj
      · rw [Array.getElem?_push_lt hj] at ej
        obtain ⟨y, e1, e2⟩ := q j v (by rw [Array.getElem?_eq_getElem hj]; exact ej)
        exact ⟨y, e1, e2.a upA⟩
      · have hj' : j = its.size := by
          rcases Nat.lt_or_ge j (its.size + 1) with h' | h'
          · omega
          · rw [Array.getElem?_eq_none (by rw [Array.size_push]; exact h')] at ej; cases ej
        subst hj'
        rw [Array.getElem?_push_size] at ej
        cases ej
        rw [hits]
        exact ⟨num, hni, _, _, _, _, rfl, hI5, isTuple_a ht₆ hI5 fun b o hb e => s₇.extBut b o (Nat.ne_of_gt (Nat.lt_of_lt_of_le (Nat.lt_succ_of_lt hdI) hb)) e⟩
    · simp only [List.mem_cons, List.not_mem_nil, or_false, not_or] at hb
      exact up₇ b o hb.1 hb.2 e
  · rintro g tk ⟨m, its, n, mn, mk, hDg, hits, q, hg⟩
    refine wpAny_execs_cons (wpAny_Return_some ?_)
    refine nmL n mk rfl rfl rfl ?_
    refine h g _ d its hg (Nat.le_of_lt hL1) hDg.isList ⟨by rw [keysOf_len, hits], by rw [textsOf_len, keysOf_len], fun j v ej => ?_⟩
    obtain ⟨y, e1, e2⟩ := q j v ej
    exact ⟨_, _, keysOf_get e1, textsOf_get e1, e2.lo (Nat.le_of_lt (Nat.lt_succ_of_lt hLI))⟩
end
end Mine

/-! # RQ -/
namespace Mine
/-! ## a comprehension over a list, its target any, its names cells or not -/
section
variable {prog : Program} {w : World} {A : Around} {R : Result → Shared → Prop} {s : Shared}
theorem compLoop1 {elt target iter : Expr} {scope : Scope} {pos : Pos} {it acc : Value} {env : Env} (Inv : Nat → Shared → Prop)
    (turn : ∀ n s, Inv n s → wpAny (model prog w) A (pyNext it) (fun r s₁ => match r with
      | none => R (.ok .next) s₁
      | some v => wpAny (model prog w) A (letOwnedTupleGo target it v) (fun _ s₁' => wpAny (model prog w) A (assign target env v) (fun _ s₂ => wpAny (model prog w) A (eval elt env) (fun x s₃ =>
          wpAny (model prog w) A (call (.builtin "list.append") [acc, x]) (fun _ s₄ => ∃ m, m < n ∧ Inv m s₄) (notedBy (model prog w) A env fun e s' => R (.error e) s') s₃)
          (notedBy (model prog w) A env fun e s' => R (.error e) s') s₂) (notedBy (model prog w) A env fun e s' => R (.error e) s') s₁') (notedBy (model prog w) A env fun e s' => R (.error e) s') s₁) (notedBy (model prog w) A env fun e s' => R (.error e) s') s)
    (n : Nat) (h : Inv n s) :
    codeAny (model prog w) A (.compLoop (.ListComp elt [⟨target, iter, [], 0⟩] scope pos) 0 it acc env) R s := by
  refine codeAny_loop rfl Inv (fun n s hI => ?_) n h
  show wpAny _ A ((compTurn (.ListComp elt [⟨target, iter, [], 0⟩] scope pos) 0 it acc env).onRaise (fun x => do noteFrame x env; theTreesLotGoes x)) _ _ s
  refine wpAny_noted ?_
  rw [compTurn_list1]
  refine wpAny_bind (wpAny_standAt (wpAny_bind (wpAny_mono (turn n s hI) (fun r s₁ h₁ => ?_) fun _ _ h' => h')))
  cases r with
  | none => exact wpAny_pure h₁
  | some v =>
    refine wpAny_bind (wpAny_mono h₁ (fun _ s₁' h₁' => ?_) fun _ _ h' => h')
    exact wpAny_bind (wpAny_mono h₁' (fun _ s₂ h₂ => wpAny_bind (wpAny_bind (wpAny_mono h₂ (fun x s₃ h₃ => wpAny_bind (wpAny_mono h₃
      (fun _ s₄ h₄ => wpAny_pure (wpAny_pure ⟨rfl, h₄⟩)) fun _ _ h' => h')) fun _ _ h' => h'))) fun _ _ h' => h')

/-- the loop, over a list: `own` the comprehension's own places -/
theorem compLoopL {elt target iter : Expr} {scope : Scope} {pos : Pos} {env : Env} {I l D lo : Nat} {its : Array Value} (own : List Nat) (Ok : Heap → Prop) (P : Nat → Value → Heap → Prop)
    (hh : A.handled = none) (hlI : l ≠ I) (hlD : l ≠ D) (hID : I ≠ D) (hI : I ∉ own) (hl : l ∉ own) (hD : D ∉ own) (hIlo : I < lo) (hDlo : D < lo) (hownlo : ∀ b ∈ own, b < lo)
    (OkI : ∀ h h', Ok h → (∀ b o, b ∈ own → h.get? b = some o → h'.get? b = some o) → Ok h')
    (Plo : ∀ i y h h', P i y h → ExtA lo h h' → P i y h')
    (hit : s.heap.IsListIter I l 0) (hlist : s.heap.IsList l its) (hacc : s.heap.PlainList D #[]) (hok : Ok s.heap) (hsz : its.size ≤ 1000) (hlast : ∃ o, s.heap.get? (lo - 1) = some o) (hlast0 : 1 ≤ lo)
    (go : ∀ i v h tk (Q' : Unit → Shared → Prop) (E' : Value → Shared → Prop), its[i]? = some v → h.IsListIter I l (i + 1) → Q' () { s with heap := h, toks := tk } → wpAny (model prog w) A (letOwnedTupleGo target (.ref I) v) Q' E' { s with heap := h, toks := tk })
    (turn : ∀ i v h tk (E' : Value → Shared → Prop), its[i]? = some v → Ok h → lo ≤ h.objs.size → (∀ b o, b ∉ I :: D :: own → s.heap.get? b = some o → h.get? b = some o) →
      wpAny (model prog w) A (assign target env v) (fun _ s₂ => wpAny (model prog w) A (eval elt env) (fun y s₃ => ∃ h' tk', s₃ = { s with heap := h', toks := tk' } ∧ Ok h' ∧ P i y h' ∧ (∀ b o, b ∉ own → h.get? b = some o → h'.get? b = some o) ∧ (∀ b o, h.get? b = some o → ∃ o', h'.get? b = some o')) E' s₂) E' { s with heap := h, toks := tk })
    (done : ∀ h tk ys, Ok h → h.PlainList D ys → ys.size = its.size → (∀ (i : Nat) (y : Value), ys[i]? = some y → P i y h) → (∀ b o, b ∉ I :: D :: own → s.heap.get? b = some o → h.get? b = some o) → R (.ok .next) { s with heap := h, toks := tk }) :
    codeAny (model prog w) A (.compLoop (.ListComp elt [⟨target, iter, [], 0⟩] scope pos) 0 (.ref I) (.ref D) env) R s := by
  refine compLoop1 (fun k s' => ∃ h tk ys i, s' = { s with heap := h, toks := tk } ∧ i ≤ its.size ∧ k = its.size + 1 - i ∧ h.IsListIter I l i ∧ h.IsList l its ∧ h.PlainList D ys ∧ ys.size = i ∧ Ok h ∧
    (∀ (j : Nat) (y : Value), ys[j]? = some y → P j y h) ∧ (∃ o, h.get? (lo - 1) = some o) ∧ (∀ b o, b ∉ I :: D :: own → s.heap.get? b = some o → h.get? b = some o)) ?_ (its.size + 1)
    ⟨s.heap, s.toks, #[], 0, rfl, Nat.zero_le _, rfl, hit, hlist, hacc, rfl, hok, fun j y e => by simp at e, hlast, fun _ _ _ e => e⟩
  rintro k s' ⟨h, tk, ys, i, rfl, hi, rfl, hit', hl', hacc', hys, hok', hP, ⟨oL, hoL⟩, hk⟩
  cases hv : its[i]? with
  | none =>
    have hsz' : i = its.size := Nat.le_antisymm hi (by simpa using hv)
    refine wpAny_pyNext_list_end hh hit' hl' hv fun h₁ he₁ => ?_
    refine done h₁ tk ys (OkI _ _ hok' fun b o hb e => he₁ b o (fun q => hI (q ▸ hb)) e) (hacc'.extBut he₁ (Ne.symm hID)) (by rw [hys, hsz']) (fun j y e => Plo _ _ _ _ (hP j y e) (ExtA.but hIlo he₁)) fun b o hb e => he₁ b o (fun q => hb (by simp [q])) (hk b o hb e)
  | some v =>
    have hlt : i < its.size := (Array.getElem?_eq_some_iff.mp hv).1
    refine wpAny_pyNext_list_item hit' hl' hv fun h₁ hit₁ hs₁ => ?_
    refine go i v h₁ tk _ _ hv hit₁ ?_
    have hok₁ : Ok h₁ := OkI _ _ hok' fun b o hb e => hs₁.extBut b o (fun q => hI (q ▸ hb)) e
    obtain ⟨oL₁, hoL₁⟩ : ∃ o, h₁.get? (lo - 1) = some o := by
      by_cases hq : lo - 1 = I
      · obtain ⟨o, e, _⟩ := hit₁; exact ⟨o, hq ▸ e⟩
      · exact ⟨oL, hs₁.extBut _ _ hq hoL⟩
    have hlo₁ : lo ≤ h₁.objs.size := by have q : (lo - 1 : Nat) < h₁.objs.size := Heap.lt_size hoL₁; omega
    refine wpAny_mono (turn i v h₁ tk _ hv hok₁ hlo₁ fun b o hb e => hs₁.extBut b o (fun q => hb (by simp [q])) (hk b o hb e)) (fun _ s₂ q₂ => wpAny_mono q₂ (fun y s₃ q₃ => ?_) fun _ _ e => e) fun _ _ e => e
    obtain ⟨h₃, tk₃, rfl, hok₃, hP₃, hk₃, hex₃⟩ := q₃
    have hacc₃ : h₃.PlainList D ys := (hacc'.extBut hs₁.extBut (Ne.symm hID)).at fun o e => hk₃ _ o hD e
    refine wpAny_list_append_plain hacc₃ (fun h₄ hacc₄ hs₄ => ?_) (by rw [sizeLine_eq]; omega)
    dsimp only at hs₄ ⊢
    have hA : ExtA lo h h₄ := fun b o hb e => by
      have h1 : b ≠ I := by intro q; subst q; omega
      have h2 : b ≠ D := by intro q; subst q; omega
      have h3 : b ∉ own := fun q => by have := hownlo b q; omega
      exact hs₄.extBut b o h2 (hk₃ b o h3 (hs₁.extBut b o h1 e))
    refine ⟨its.size + 1 - (i + 1), by omega, h₄, tk₃, ys.push y, i + 1, rfl, hlt, rfl, (hit₁.at fun o e => hk₃ _ o hI e).extBut hs₄.extBut hID, ((hl'.extBut hs₁.extBut hlI).at fun o e => hk₃ _ o hl e).extBut hs₄.extBut hlD, hacc₄, by rw [Array.size_push, hys],
      OkI _ _ hok₃ fun b o hb e => hs₄.extBut b o (fun q => hD (q ▸ hb)) e, fun j z ej => ?_, ?_, fun b o hb e => ?_⟩
    · rcases Nat.lt_or_ge j ys.size with hj | hj
      · rw [Array.getElem?_push_lt hj] at ej
        exact Plo _ _ _ _ (hP j z (by rw [Array.getElem?_eq_getElem hj]; exact ej)) hA
      · have hj' : j = ys.size := by
          rcases Nat.lt_or_ge j (ys.size + 1) with h' | h'
          · omega
          · rw [Array.getElem?_eq_none (by rw [Array.size_push]; exact h')] at ej; cases ej
        subst hj'
        rw [Array.getElem?_push_size] at ej
        cases ej
        rw [hys]
        exact Plo _ _ _ _ hP₃ (ExtA.same hDlo hs₄)
    · obtain ⟨o', ho'⟩ := hex₃ _ _ hoL₁
      by_cases hq : lo - 1 = D
      · obtain ⟨_, e⟩ := hacc₄; exact ⟨_, hq ▸ e⟩
      · exact ⟨o', hs₄.extBut _ _ hq ho'⟩
    · have h1 : b ≠ I := fun q => hb (by simp [q])
      have h2 : b ≠ D := fun q => hb (by simp [q])
      have h3 : b ∉ own := fun q => hb (by simp [q])
      exact hs₄.extBut b o h2 (hk₃ b o h3 (hs₁.extBut b o h1 (hk b o hb e)))
end

/-- what a turn must show: the target bound, the element evaluated -/
def TurnOk (prog : Program) (w : World) (A : Around) (target elt : Expr) (s₁ : Shared) (own : List Nat) (Ok : Heap → Prop) (lo : Nat) (cenv : Env) (P : Nat → Nat → Value → Heap → Prop) (i : Nat) (v : Value) : Prop :=
  ∀ h tk (E' : Value → Shared → Prop), Ok h → lo ≤ h.objs.size → Ext s₁.heap h →
    wpAny (model prog w) A (assign target cenv v) (fun _ s₂ => wpAny (model prog w) A (eval elt cenv) (fun y s₃ => ∃ h' tk', s₃ = { s₁ with heap := h', toks := tk' } ∧ Ok h' ∧ P lo i y h' ∧ (∀ b o, b ∉ own → h.get? b = some o → h'.get? b = some o) ∧ (∀ b o, h.get? b = some o → ∃ o', h'.get? b = some o')) E' s₂) E' { s₁ with heap := h, toks := tk }
def GoOk (target : Expr) (v : Value) : Prop := (∃ x p, target = .Name x p) ∨ ((∃ elts k p, target = .Tuple elts k p) ∧ ∃ T, v = .ref T)
/-- what is wanted behind it -/
def FinOk (s₁ : Shared) (its : Array Value) (P : Nat → Nat → Value → Heap → Prop) (Q : Value → Shared → Prop) : Prop :=
  ∀ (D lo : Nat) h' tk ys, s₁.heap.objs.size ≤ D → s₁.heap.objs.size ≤ lo → Ext s₁.heap h' → h'.PlainList D ys → ys.size = its.size → (∀ (i : Nat) (y : Value), ys[i]? = some y → P lo i y h') → Q (.ref D) { s₁ with heap := h', toks := tk }

section
variable {prog : Program} {w : World} {A : Around} {E : Value → Shared → Prop} {s₁ : Shared} {env : Env} {elt target iter : Expr} {scope : Scope} {pos : Pos} {cl : List (Str × Addr)} {l : Nat} {its : Array Value} {P : Nat → Nat → Value → Heap → Prop}
theorem go_of {I : Nat} {i : Nat} {v : Value} (hg : GoOk target v) (h : Heap) (tk : Nat) (Q' : Unit → Shared → Prop) (E' : Value → Shared → Prop) (hit : h.IsListIter I l (i + 1)) (hq : Q' () { s₁ with heap := h, toks := tk }) :
    wpAny (model prog w) A (letOwnedTupleGo target (.ref I) v) Q' E' { s₁ with heap := h, toks := tk } := by
  rcases hg with ⟨x, p, rfl⟩ | ⟨⟨elts, k, p, rfl⟩, T, rfl⟩
  · exact wpAny_pure hq
  · exact wpAny_letOwnedTupleGo_listiter hit hq

/-- the block without cells of its own -/
theorem compBlockA {RR : Value → Addr → Result → Shared → Prop} (hh : A.handled = none) (hcell : ∀ y ∈ scope.names, y.2 ≠ .cell) (hkind : scope.kind = .function)
    (hl : s₁.heap.IsList l its) (hsz : its.size ≤ 1000) (Plo : ∀ lo i y h h', P lo i y h → ExtA lo h h' → P lo i y h')
    (hgo : ∀ (i : Nat) (v : Value), its[i]? = some v → GoOk target v)
    (turn : ∀ (C : Nat), s₁.heap.objs.size ≤ C → ∀ (i : Nat) (v : Value), its[i]? = some v → TurnOk prog w A target elt s₁ [C] (fun h => ∃ m, h.Ns C m) (C + 1) (compEnvC scope cl C env) P i v)
    (fin : ∀ (D C : Nat) h' tk ys m, s₁.heap.objs.size ≤ D → s₁.heap.objs.size ≤ C → D ≠ C → h'.Ns C m → Ext s₁.heap h' → h'.PlainList D ys → ys.size = its.size → (∀ (i : Nat) (y : Value), ys[i]? = some y → P (C + 1) i y h') → RR (.ref D) C (.ok .next) { s₁ with heap := h', toks := tk }) :
    wpAny (model prog w) A (pyIter (.ref l)) (fun it s₂ => wpAny (model prog w) A (newList []) (fun acc s₃ => wpAny (model prog w) A (newFunctionEnv scope env.globals cl [] env.qual none .none (some env)) (fun cenv s₄ =>
      codeAny (model prog w) A (.compStart (.ListComp elt [⟨target, iter, [], 0⟩] scope pos) 0 it acc { cenv with scope := relabel scope env }) (RR acc cenv.locals) s₄) E s₃) E s₂) E s₁ := by
  refine wpAny_pyIter_list hl ?_
  refine wpAny_newObj_type (wpAny_newFunctionEnv hcell (by intro y hy; simp at hy) (fun h₁ hns₁ hsb₁ => ?_) hkind)
  dsimp only at hns₁ hsb₁ ⊢
  generalize hH1 : s₁.heap.push { cls := .type "list_iterator", data := .fields #[.ref l, .int 0 0] } = H1 at hns₁ hsb₁ ⊢
  generalize hH2 : H1.push { cls := .type "list", dict := none, data := .seq ([] : List Value).toArray } = H2 at hns₁ hsb₁ ⊢
  have z1 : H1.objs.size = s₁.heap.objs.size + 1 := by rw [← hH1, Heap.size_push]
  have z2 : H2.objs.size = s₁.heap.objs.size + 2 := by rw [← hH2, Heap.size_push, z1]
  have x1 : Ext s₁.heap H1 := hH1 ▸ Ext.push _ _
  have x2 : Ext H1 H2 := hH2 ▸ Ext.push _ _
  have x3 : Ext H2 h₁ := fun b o e => hsb₁.extBut b o (Nat.ne_of_lt (Heap.lt_size e)) (Heap.get?_push_of_some _ e)
  have hit : h₁.IsListIter s₁.heap.objs.size l 0 := ⟨_, x3 _ _ (x2 _ _ (hH1 ▸ Heap.get?_push_size _ rfl)), rfl, rfl⟩
  have hacc : h₁.PlainList H1.objs.size #[] := ⟨_, x3 _ _ (hH2 ▸ Heap.get?_push_size _ rfl)⟩
  have hlist : h₁.IsList l its := isList_x hl ((x1.tr x2).tr x3)
  have hll : l < s₁.heap.objs.size := by obtain ⟨_, e, _⟩ := hl; exact Heap.lt_size e
  clear hH1 hH2 hsb₁
  have n1 : s₁.heap.objs.size ≤ H1.objs.size := by omega
  have n2 : s₁.heap.objs.size ≤ H2.objs.size := by omega
  have loop : codeAny (model prog w) A (.compLoop (.ListComp elt [⟨target, iter, [], 0⟩] scope pos) 0 (.ref s₁.heap.objs.size) (.ref H1.objs.size) (compEnvC scope cl H2.objs.size env))
      (RR (.ref H1.objs.size) H2.objs.size) { s₁ with heap := h₁, toks := s₁.toks + ([] : List (Str × Value)).length } := by
    refine compLoopL (lo := H2.objs.size + 1) [H2.objs.size] (fun h => ∃ m, h.Ns H2.objs.size m) (P (H2.objs.size + 1)) hh (Nat.ne_of_lt hll) (by omega) (by omega) (by simp; omega) (by simp; omega) (by simp; omega) (by omega) (by omega) (by simp)
      (fun h h' ⟨m, n⟩ k => ⟨m, n.at' fun o e => k _ o (by simp) e⟩) (Plo _) hit hlist hacc ⟨_, hns₁⟩ hsz (by obtain ⟨o, _, _, e, _⟩ := hns₁; exact ⟨o, e⟩) (by omega)
      (fun i v h tk Q' E' hv hit' hq => go_of (hgo i v hv) h tk Q' E' hit' hq) ?_ ?_
    · intro i v h tk E' hv hok hlo hk
      refine turn H2.objs.size (by omega) i v hv h tk E' hok hlo fun b o e => ?_
      have hb : b < s₁.heap.objs.size := Heap.lt_size e
      have hb' : (b : Nat) < s₁.heap.objs.size := hb
      exact hk b o (by simp only [List.mem_cons, List.not_mem_nil, or_false, not_or]; exact ⟨Nat.ne_of_lt hb', Nat.ne_of_lt (Nat.lt_of_lt_of_le hb' n1), Nat.ne_of_lt (Nat.lt_of_lt_of_le hb' n2)⟩) (((x1.tr x2).tr x3) b o e)
    · rintro h tk ys ⟨m, n⟩ hpl hys hP hk
      refine fin H1.objs.size H2.objs.size h tk ys m (by omega) (by omega) (by omega) n (fun b o e => ?_) hpl hys hP
      have hb' : (b : Nat) < s₁.heap.objs.size := Heap.lt_size e
      exact hk b o (by simp only [List.mem_cons, List.not_mem_nil, or_false, not_or]; exact ⟨Nat.ne_of_lt hb', Nat.ne_of_lt (Nat.lt_of_lt_of_le hb' n1), Nat.ne_of_lt (Nat.lt_of_lt_of_le hb' n2)⟩) (((x1.tr x2).tr x3) b o e)
  exact codeAny_compStart_list loop (wpAny_pyIter_listiter hit loop)

/-- one cell of its own, the target's name -/
theorem compBlockC {RR : Value → Addr → Result → Shared → Prop} {x : Str} (hh : A.handled = none) (hcells : ∀ n, cellsFrom n scope.names cl = (x, n) :: cl) (hpush : ∀ h, pushCells h scope.names = h.push { cls := .type "cell", data := .cell none })
    (hl : s₁.heap.IsList l its) (hsz : its.size ≤ 1000) (Plo : ∀ lo i y h h', P lo i y h → ExtA lo h h' → P lo i y h')
    (hgo : ∀ (i : Nat) (v : Value), its[i]? = some v → GoOk target v)
    (turn : ∀ (C : Nat), s₁.heap.objs.size ≤ C → ∀ (i : Nat) (v : Value), its[i]? = some v → TurnOk prog w A target elt s₁ [C, C + 1] (fun h => (∃ m, h.Ns C m) ∧ ∃ v, h.IsCell (C + 1) v) (C + 2) (compEnvC scope ((x, C + 1) :: cl) C env) P i v)
    (fin : ∀ (D C : Nat) h' tk ys m, s₁.heap.objs.size ≤ D → s₁.heap.objs.size ≤ C → D ≠ C → h'.Ns C m → Ext s₁.heap h' → h'.PlainList D ys → ys.size = its.size → (∀ (i : Nat) (y : Value), ys[i]? = some y → P (C + 2) i y h') → RR (.ref D) C (.ok .next) { s₁ with heap := h', toks := tk }) :
    wpAny (model prog w) A (pyIter (.ref l)) (fun it s₂ => wpAny (model prog w) A (newList []) (fun acc s₃ => wpAny (model prog w) A (newFunctionEnv scope env.globals cl [] env.qual none .none (some env)) (fun cenv s₄ =>
      codeAny (model prog w) A (.compStart (.ListComp elt [⟨target, iter, [], 0⟩] scope pos) 0 it acc { cenv with scope := relabel scope env }) (RR acc cenv.locals) s₄) E s₃) E s₂) E s₁ := by
  refine wpAny_pyIter_list hl ?_
  refine wpAny_newObj_type ?_
  generalize hH1 : s₁.heap.push { cls := .type "list_iterator", data := .fields #[.ref l, .int 0 0] } = H1
  generalize hH2 : H1.push { cls := .type "list", dict := none, data := .seq ([] : List Value).toArray } = H2
  simp only [newFunctionEnv, Option.isSome_some, if_true]
  refine wpAny_bind (wpAny_alloc ?_)
  refine wpAny_bind (wpAny_layCells _ (fun name kind cells => by cases hkc : kind == NameKind.cell <;> simp [hkc]) _ _ _ _ ?_)
  rw [hcells, hpush]
  refine wpAny_bind (wpAny_pure (wpAny_pure ?_))
  dsimp only
  generalize hH3 : H2.push { cls := .type "dict", data := .dict #[] } = H3
  generalize hH4 : H3.push { cls := .type "cell", data := .cell none } = h₁
  have z1 : H1.objs.size = s₁.heap.objs.size + 1 := by rw [← hH1, Heap.size_push]
  have z2 : H2.objs.size = s₁.heap.objs.size + 2 := by rw [← hH2, Heap.size_push, z1]
  have z3 : H3.objs.size = H2.objs.size + 1 := by rw [← hH3, Heap.size_push]
  rw [z3]
  have x1 : Ext s₁.heap H1 := hH1 ▸ Ext.push _ _
  have x2 : Ext H1 H2 := hH2 ▸ Ext.push _ _
  have x3 : Ext H2 H3 := hH3 ▸ Ext.push _ _
  have x4 : Ext H3 h₁ := hH4 ▸ Ext.push _ _
  have hit : h₁.IsListIter s₁.heap.objs.size l 0 := ⟨_, x4 _ _ (x3 _ _ (x2 _ _ (hH1 ▸ Heap.get?_push_size _ rfl))), rfl, rfl⟩
  have hacc : h₁.PlainList H1.objs.size #[] := ⟨_, x4 _ _ (x3 _ _ (hH2 ▸ Heap.get?_push_size _ rfl))⟩
  have hns₁ : h₁.Ns H2.objs.size (fun _ => none) := by
    have q : H3.Ns H2.objs.size (fun _ => none) := hH3 ▸ Heap.Ns.new H2 (.type "dict")
    exact q.keeps x4
  have hc₁ : h₁.IsCell (H2.objs.size + 1) none := ⟨_, by rw [← z3, ← hH4]; exact Heap.get?_push_size _ rfl, rfl⟩
  have hx : Ext s₁.heap h₁ := ((x1.tr x2).tr x3).tr x4
  have hlist : h₁.IsList l its := isList_x hl hx
  have hll : l < s₁.heap.objs.size := by obtain ⟨_, e, _⟩ := hl; exact Heap.lt_size e
  clear hH1 hH2 hH3 hH4
  have n1 : s₁.heap.objs.size ≤ H1.objs.size := by omega
  have n2 : s₁.heap.objs.size ≤ H2.objs.size := by omega
  have n3 : s₁.heap.objs.size ≤ H2.objs.size + 1 := by omega
  have loop : codeAny (model prog w) A (.compLoop (.ListComp elt [⟨target, iter, [], 0⟩] scope pos) 0 (.ref s₁.heap.objs.size) (.ref H1.objs.size) (compEnvC scope ((x, H2.objs.size + 1) :: cl) H2.objs.size env))
      (RR (.ref H1.objs.size) H2.objs.size) { s₁ with heap := h₁ } := by
    refine compLoopL (lo := H2.objs.size + 2) [H2.objs.size, H2.objs.size + 1] (fun h => (∃ m, h.Ns H2.objs.size m) ∧ ∃ v, h.IsCell (H2.objs.size + 1) v) (P (H2.objs.size + 2)) hh (Nat.ne_of_lt hll) (by omega) (by omega) (by simp; omega) (by simp; omega) (by simp; omega) (by omega) (by omega) (by simp)
      (fun h h' ⟨⟨m, n⟩, v, o, e, d⟩ k => ⟨⟨m, n.at' fun o e => k _ o (by simp) e⟩, v, o, k _ _ (by simp) e, d⟩) (Plo _) hit hlist hacc ⟨⟨_, hns₁⟩, _, hc₁⟩ hsz (by obtain ⟨o, e, _⟩ := hc₁; exact ⟨o, e⟩) (by omega)
      (fun i v h tk Q' E' hv hit' hq => go_of (hgo i v hv) h tk Q' E' hit' hq) ?_ ?_
    · intro i v h tk E' hv hok hlo hk
      refine turn H2.objs.size (by omega) i v hv h tk E' hok hlo fun b o e => ?_
      have hb' : (b : Nat) < s₁.heap.objs.size := Heap.lt_size e
      exact hk b o (by simp only [List.mem_cons, List.not_mem_nil, or_false, not_or]; exact ⟨Nat.ne_of_lt hb', Nat.ne_of_lt (Nat.lt_of_lt_of_le hb' n1), Nat.ne_of_lt (Nat.lt_of_lt_of_le hb' n2), Nat.ne_of_lt (Nat.lt_of_lt_of_le hb' n3)⟩) (hx b o e)
    · rintro h tk ys ⟨⟨m, n⟩, _⟩ hpl hys hP hk
      refine fin H1.objs.size H2.objs.size h tk ys m (by omega) (by omega) (by omega) n (fun b o e => ?_) hpl hys hP
      have hb' : (b : Nat) < s₁.heap.objs.size := Heap.lt_size e
      exact hk b o (by simp only [List.mem_cons, List.not_mem_nil, or_false, not_or]; exact ⟨Nat.ne_of_lt hb', Nat.ne_of_lt (Nat.lt_of_lt_of_le hb' n1), Nat.ne_of_lt (Nat.lt_of_lt_of_le hb' n2), Nat.ne_of_lt (Nat.lt_of_lt_of_le hb' n3)⟩) (hx b o e)
  exact codeAny_compStart_list loop (wpAny_pyIter_listiter hit loop)
end

section
variable {prog : Program} {w : World} {A : Around} {E : Value → Shared → Prop} {s : Shared} {env : Env} {elt target iter : Expr} {scope : Scope} {pos : Pos} {cl : List (Str × Addr)}
theorem Ext.sameNew {h₀ h h' : Heap} {C : Addr} (x : Ext h₀ h) (hC : h₀.objs.size ≤ C) (hs : Heap.SameBut C h h') : Ext h₀ h' := x.same (none_at _ hC) hs

/-- the elements' facts, told for a list -/
structure CompOn (prog : Program) (w : World) (A : Around) (env : Env) (elt target : Expr) (scope : Scope) (cl : List (Str × Addr)) (Q : Value → Shared → Prop) (s₁ : Shared) (l : Nat) (its : Array Value) (P : Nat → Nat → Value → Heap → Prop) : Prop where
  list : s₁.heap.IsList l its
  sz : its.size ≤ 1000
  lo : ∀ lo i y h h', P lo i y h → ExtA lo h h' → P lo i y h'
  go : ∀ (i : Nat) (v : Value), its[i]? = some v → GoOk target v
  turn : ∀ (C : Nat), s₁.heap.objs.size ≤ C → ∀ (i : Nat) (v : Value), its[i]? = some v → TurnOk prog w A target elt s₁ [C] (fun h => ∃ m, h.Ns C m) (C + 1) (compEnvC scope cl C env) P i v
  fin : FinOk s₁ its P Q
structure CompOnC (prog : Program) (w : World) (A : Around) (env : Env) (elt target : Expr) (scope : Scope) (cl : List (Str × Addr)) (x : Str) (Q : Value → Shared → Prop) (s₁ : Shared) (l : Nat) (its : Array Value) (P : Nat → Nat → Value → Heap → Prop) : Prop where
  list : s₁.heap.IsList l its
  sz : its.size ≤ 1000
  lo : ∀ lo i y h h', P lo i y h → ExtA lo h h' → P lo i y h'
  go : ∀ (i : Nat) (v : Value), its[i]? = some v → GoOk target v
  turn : ∀ (C : Nat), s₁.heap.objs.size ≤ C → ∀ (i : Nat) (v : Value), its[i]? = some v → TurnOk prog w A target elt s₁ [C, C + 1] (fun h => (∃ m, h.Ns C m) ∧ ∃ v, h.IsCell (C + 1) v) (C + 2) (compEnvC scope ((x, C + 1) :: cl) C env) P i v
  fin : FinOk s₁ its P Q

theorem compE {Q : Value → Shared → Prop} (hclos : closureFor scope env = pure cl) (hcell : ∀ y ∈ scope.names, y.2 ≠ .cell) (hkind : scope.kind = .function)
    (hnames : ∀ y ∈ scope.names, y.2 = .local → scope.names.lookup y.1 = some .local) (hs : ∀ x, foldedSetIterable iter env x = pure x) (hh : A.handled = none)
    (h : wpAny (model prog w) A (eval iter env) (fun xv s₁ => ∃ l its P, xv = .ref l ∧ CompOn prog w A env elt target scope cl Q s₁ l its P) E s) :
    wpAny (model prog w) A (eval (.ListComp elt [⟨target, iter, [], 0⟩] scope pos) env) Q E s := by
  rw [eval_ListComp]
  refine wpAny_comprehension_free (use := none) rfl hs hclos hkind hnames (wpAny_mono h (fun xv s₁ h₁ => ?_) fun _ _ e => e)
  obtain ⟨l, its, P, rfl, O⟩ := h₁
  refine compBlockA (RR := fun acc C => compPost (model prog w) A E none Q acc C) (P := P) hh hcell hkind O.list O.sz O.lo O.go O.turn ?_
  intro D C h' tk ys m hD hC hDC hn hx hpl hys hP
  refine ⟨m, hn, fun h'' hs'' => O.fin D (C + 1) h'' tk ys hD (by omega) (hx.sameNew hC hs'') (hpl.extBut hs''.extBut hDC) hys fun i y e => O.lo _ _ _ _ _ (hP i y e) (ExtA.same (Nat.lt_succ_self _) hs'')⟩

theorem compEC {Q : Value → Shared → Prop} {x : Str} (hclos : closureFor scope env = pure cl) (hcells : ∀ n, cellsFrom n scope.names cl = (x, n) :: cl) (hpush : ∀ h, pushCells h scope.names = h.push { cls := .type "cell", data := .cell none }) (hkind : scope.kind = .function)
    (hnames : ∀ y ∈ scope.names, y.2 = .local → scope.names.lookup y.1 = some .local) (hs : ∀ x, foldedSetIterable iter env x = pure x) (hh : A.handled = none)
    (h : wpAny (model prog w) A (eval iter env) (fun xv s₁ => ∃ l its P, xv = .ref l ∧ CompOnC prog w A env elt target scope cl x Q s₁ l its P) E s) :
    wpAny (model prog w) A (eval (.ListComp elt [⟨target, iter, [], 0⟩] scope pos) env) Q E s := by
  rw [eval_ListComp]
  refine wpAny_comprehension_free (use := none) rfl hs hclos hkind hnames (wpAny_mono h (fun xv s₁ h₁ => ?_) fun _ _ e => e)
  obtain ⟨l, its, P, rfl, O⟩ := h₁
  refine compBlockC (RR := fun acc C => compPost (model prog w) A E none Q acc C) (P := P) (x := x) hh hcells hpush O.list O.sz O.lo O.go O.turn ?_
  intro D C h' tk ys m hD hC hDC hn hx hpl hys hP
  refine ⟨m, hn, fun h'' hs'' => O.fin D (C + 2) h'' tk ys hD (by omega) (hx.sameNew hC hs'') (hpl.extBut hs''.extBut hDC) hys fun i y e => O.lo _ _ _ _ _ (hP i y e) (ExtA.same (by omega) hs'')⟩

/-- name = [..]: the store comes ahead of the letting go -/
theorem compX {Q : Flow → Shared → Prop} {y : Str} {py spos : Pos} (hsw : swapsWith (.ListComp elt [⟨target, iter, [], 0⟩] scope pos) (some (.Name y py)) spos.line env = pure true)
    (hclos : closureFor scope env = pure cl) (hcell : ∀ y ∈ scope.names, y.2 ≠ .cell) (hkind : scope.kind = .function)
    (hnames : ∀ y ∈ scope.names, y.2 = .local → scope.names.lookup y.1 = some .local) (hs : ∀ x, foldedSetIterable iter env x = pure x) (hh : A.handled = none)
    (h : wpAny (model prog w) A (eval iter env) (fun xv s₁ => ∃ l its P, xv = .ref l ∧ CompOn prog w A env elt target scope cl (fun _ _ => True) s₁ l its P ∧
      ∀ (D C lo : Nat) h' tk ys, s₁.heap.objs.size ≤ D → s₁.heap.objs.size ≤ C → C < lo → D ≠ C → Ext s₁.heap h' → h'.PlainList D ys → ys.size = its.size → (∀ (i : Nat) (y : Value), ys[i]? = some y → P lo i y h') → ∀ m, h'.Ns C m →
        wpAny (model prog w) A (assign (.Name y py) env (.ref D)) (fun _ s'' => ∃ m, s''.heap.Ns C m ∧ ∀ h', Heap.SameBut C s''.heap h' → Q .next { s'' with heap := h' }) E { s₁ with heap := h', toks := tk }) E s) :
    wpAny (model prog w) A (exec (.Assign [.Name y py] (.ListComp elt [⟨target, iter, [], 0⟩] scope pos) spos) env) Q E s := by
  rw [exec_Assign_Name_used _ _ _ _ hsw]
  refine wpAny_bind (wpAny_standAt (wpAny_bind ?_))
  show wpAny _ A (do let _ ← comprehension (.ListComp elt [⟨target, iter, [], 0⟩] scope pos) scope env _ (newList []) false (eval iter env) (some (assign (.Name y py) env))) _ _ s
  refine wpAny_bind (wpAny_mono (wpAny_comprehension_free (use := some (assign (.Name y py) env)) (Q := fun _ s' => Q .next s') rfl hs hclos hkind hnames
    (wpAny_mono h (fun xv s₁ h₁ => ?_) fun _ _ e => e)) (fun _ s' hq => wpAny_pure (wpAny_pure hq)) fun _ _ e => e)
  obtain ⟨l, its, P, rfl, O, hfin⟩ := h₁
  refine compBlockA (RR := fun acc C => compPost (model prog w) A E (some (assign (.Name y py) env)) (fun _ s' => Q .next s') acc C) (P := P) hh hcell hkind O.list O.sz O.lo O.go O.turn ?_
  intro D C h' tk ys m hD hC hDC hn hx hpl hys hP
  exact hfin D C (C + 1) h' tk ys hD hC (Nat.lt_succ_self _) hDC hx hpl hys hP m hn
end

theorem turn_end {C : Nat} {h h' : Heap} {m : Str → Option Value} (x : Heap.ExtBut C h h') (n : h'.Ns C m) : (∀ b o, b ∉ [C] → h.get? b = some o → h'.get? b = some o) ∧ (∀ b o, h.get? b = some o → ∃ o', h'.get? b = some o') := by
  refine ⟨fun b o hb e => x b o (by simpa using hb) e, fun b o e => ?_⟩
  by_cases hb : b = C
  · obtain ⟨o', _, _, e', _⟩ := n; exact ⟨o', hb ▸ e'⟩
  · exact ⟨o, x b o hb e⟩
theorem ExtBut.x {C : Nat} {a b c : Heap} (x : Heap.ExtBut C a b) (y : Ext b c) : Heap.ExtBut C a c := fun d o hd e => y d o (x d o hd e)
theorem ExtBut.y {C : Nat} {a b c : Heap} (x : Ext a b) (y : Heap.ExtBut C b c) : Heap.ExtBut C a c := fun d o hd e => y d o hd (x d o e)
end Mine

/-! # RE -/
namespace Mine
/-! ## two lists that read as the same data -/
theorem readsAll_idx {h : Heap} : ∀ (vs : List Value) (ds : List PyData), vs.length = ds.length → (∀ (i : Nat) (v : Value), vs[i]? = some v → ∃ d, ds[i]? = some d ∧ ∃ as, Reads h v d as) → ∃ as, ReadsAll h vs ds as
  | [], [], _, _ => ⟨[], .nil⟩
  | [], d :: ds, hl, _ => by simp at hl
  | v :: vs, [], hl, _ => by simp at hl
  | v :: vs, d :: ds, hl, hi => by
    obtain ⟨d', e, as, r⟩ := hi 0 v rfl
    cases e
    obtain ⟨bs, rs⟩ := readsAll_idx vs ds (by simpa using hl) fun i w hw => hi (i + 1) w hw
    exact ⟨as ++ bs, .cons r rs⟩
theorem reads_list {h : Heap} {l : Addr} {its : Array Value} {ds : List PyData} (hl : h.IsList l its) (hs : its.size = ds.length) (hi : ∀ (i : Nat) (v : Value), its[i]? = some v → ∃ d, ds[i]? = some d ∧ ∃ as, Reads h v d as) : ∃ as, Reads h (.ref l) (.list ds) as := by
  obtain ⟨o, ho, hc, n, hd⟩ := hl
  obtain ⟨as, r⟩ := readsAll_idx (h := h) its.toList ds (by simpa using hs) fun i v e => hi i v (by simpa using e)
  exact ⟨_, .list ho hc hd r⟩
theorem reads_tuple {h : Heap} {l : Addr} {its : Array Value} {ds : List PyData} (hl : h.IsTuple l its) (hs : its.size = ds.length) (hi : ∀ (i : Nat) (v : Value), its[i]? = some v → ∃ d, ds[i]? = some d ∧ ∃ as, Reads h v d as) : ∃ as, Reads h (.ref l) (.tuple ds) as := by
  obtain ⟨o, ho, hc, n, hd⟩ := hl
  obtain ⟨as, r⟩ := readsAll_idx (h := h) its.toList ds (by simpa using hs) fun i v e => hi i v (by simpa using e)
  exact ⟨_, .tuple ho hc hd r⟩
theorem PairAt.reads {lo : Nat} {h : Heap} {v : Value} {a b : Int} (x : PairAt lo h v a b) : ∃ as, Reads h v (.tuple [.int a, .int b]) as := by
  obtain ⟨r, t1, t2, rfl, _, o, ho, hc, n, hd⟩ := x
  exact ⟨_, .tuple ho hc hd (.cons (.int _ _) (.cons (.int _ _) .nil))⟩

theorem canLayAll_of : ∀ (xs : List PyData), (∀ x ∈ xs, x.canLay0 = true) → PyData.canLayAll0 xs = true
  | [], _ => rfl
  | x :: xs, h => by
    show (x.canLay0 && PyData.canLayAll0 xs) = true
    rw [h x (List.mem_cons_self ..), canLayAll_of xs fun y hy => h y (List.mem_cons_of_mem _ hy)]; rfl
theorem depthAll_of {n : Nat} : ∀ (xs : List PyData), (∀ x ∈ xs, x.depth ≤ n) → PyData.depthAll xs ≤ n
  | [], _ => Nat.zero_le _
  | x :: xs, h => by
    show max x.depth (PyData.depthAll xs) ≤ n
    have h1 := h x (List.mem_cons_self ..)
    have h2 := depthAll_of xs fun y hy => h y (List.mem_cons_of_mem _ hy)
    omega
theorem shaped_list {n : Nat} {xs : List PyData} (h1 : ∀ x ∈ xs, x.canLay0 = true) (h2 : ∀ x ∈ xs, x.depth ≤ n) (hn : n ≤ 60) : SeqAt.shaped (.list xs) = true := by
  unfold SeqAt.shaped
  have e1 : (PyData.list xs).canLay0 = true := canLayAll_of xs h1
  have e2 : (PyData.list xs).depth ≤ 64 := by
    show PyData.depthAll xs + 1 ≤ 64
    have := depthAll_of xs h2; omega
  rw [e1, decide_eq_true e2]; rfl
theorem canLay_list {xs : List PyData} (h1 : ∀ x ∈ xs, x.canLay0 = true) : (PyData.list xs).canLay0 = true := canLayAll_of xs h1
theorem depth_list {n : Nat} {xs : List PyData} (h2 : ∀ x ∈ xs, x.depth ≤ n) : (PyData.list xs).depth ≤ n + 1 := Nat.succ_le_succ (depthAll_of xs h2)

section
variable {prog : Program} {w : World} {A : Around} {E : Value → Shared → Prop} {s : Shared} {Q : Value → Shared → Prop} {a b : Value} {d : PyData}
theorem ne_same (ra : ∃ as, Reads s.heap a d as) (rb : ∃ as, Reads s.heap b d as) (hd : SeqAt.shaped d = true) (hu : A.units + 64 < cLine) (h : Q (.bool false) s) : wpAny (model prog w) A (compareOp .NotEq a b) Q E s := by
  obtain ⟨as, ra⟩ := ra
  obtain ⟨bs, rb⟩ := rb
  refine ne_dataH ra rb hd hd hu ?_
  rw [SeqAt.eqv_refl d (SeqAt.canLay_of_shaped hd)]; exact h
theorem eq_same (ra : ∃ as, Reads s.heap a d as) (rb : ∃ as, Reads s.heap b d as) (hd : SeqAt.shaped d = true) (hu : A.units + 64 < cLine) (h : Q (.bool true) s) : wpAny (model prog w) A (compareOp .Eq a b) Q E s := by
  obtain ⟨as, ra⟩ := ra
  obtain ⟨bs, rb⟩ := rb
  refine eq_dataH ra rb hd hd hu ?_
  rw [SeqAt.eqv_refl d (SeqAt.canLay_of_shaped hd)]; exact h
theorem add_two {l r : Addr} {xs ys : Array Value} (hl : s.heap.IsList l xs) (hr : s.heap.IsList r ys) (hsz : xs.size + ys.size ≤ 1000)
    (h : ∀ h', h'.IsList s.heap.objs.size (xs ++ ys) → Ext s.heap h' → Q (.ref s.heap.objs.size) { s with heap := h' }) :
    wpAny (model prog w) A (binaryOp .Add (.ref l) (.ref r)) Q E s := by
  obtain ⟨⟨cls, dd, data, sl⟩, ho, hc, n, hd⟩ := id hl
  obtain ⟨⟨cls2, dd2, data2, sl2⟩, ho2, hc2, n2, hd2⟩ := id hr
  simp only at hc hd hc2 hd2
  subst hc hd hc2 hd2
  refine concat_meets ⟨_, ho, rfl⟩ ⟨_, ho2, rfl⟩ noFill_list_add seq_list_add PySem.F.slot_list_add PySem.F.entry_list_add (PySem.F.args_list_add_2 _ _) (list_addW l r xs ys n n2 dd dd2 sl sl2 (by rw [sizeLine_eq]; omega)) ⟨ho, ho2, ?_⟩
  exact h _ ⟨_, Heap.get?_push_size _ rfl, rfl, _, rfl⟩ (Ext.push _ _)
end
end Mine

/-! # L1 -/
namespace Mine
/-! ## the law's frame -/
abbrev lawScope : Scope := fScope (top 10)
def lawCells (L : Nat) : List (Str × Addr) := [(Str.ofString "lines", L + 3), (Str.ofString "order", L + 2), (Str.ofString "spec", L + 1)]
abbrev envL (L fa : Nat) (cd : Value) : Env := envX (Str.ofString "law") lawScope L fa cd (lawCells L)
def lawSt (k : Nat) : Stmt := (fBody (top 10)).getD k (.Pass default)

structure St (h₀ : Heap) (L : Nat) (m : Str → Option Value) (v1 v2 v3 : Option Value) (h : Heap) : Prop where
  ns : h.Ns L m
  c1 : h.IsCell (L + 1) v1
  c2 : h.IsCell (L + 2) v2
  c3 : h.IsCell (L + 3) v3
  ext : Ext h₀ h
section
variable {h₀ h h' : Heap} {L : Nat} {m m' : Str → Option Value} {v1 v2 v3 : Option Value}
theorem isCell_x {c : Nat} {v : Option Value} (x : h.IsCell c v) (k : Ext h h') : h'.IsCell c v := let ⟨o, e, d⟩ := x; ⟨o, k _ _ e, d⟩
theorem isCell_b {c b : Nat} {v : Option Value} (x : h.IsCell c v) (hs : Heap.SameBut b h h') (hne : c ≠ b) : h'.IsCell c v := let ⟨o, e, d⟩ := x; ⟨o, hs.extBut _ _ hne e, d⟩
theorem St.x (S : St h₀ L m v1 v2 v3 h) (k : Ext h h') : St h₀ L m v1 v2 v3 h' := ⟨S.ns.keeps k, isCell_x S.c1 k, isCell_x S.c2 k, isCell_x S.c3 k, S.ext.tr k⟩
theorem St.size (S : St h₀ L m v1 v2 v3 h) : L + 4 ≤ h.objs.size := by
  obtain ⟨o, e, _⟩ := S.c3
  have q : (L + 3 : Nat) < h.objs.size := Heap.lt_size e
  omega
theorem St.setL (S : St h₀ L m v1 v2 v3 h) (hL : h₀.objs.size ≤ L) (n : h'.Ns L m') (hs : Heap.SameBut L h h') : St h₀ L m' v1 v2 v3 h' :=
  ⟨n, isCell_b S.c1 hs (by omega), isCell_b S.c2 hs (by omega), isCell_b S.c3 hs (by omega), S.ext.same (none_at _ hL) hs⟩
theorem St.set1 {v : Value} (S : St h₀ L m v1 v2 v3 h) (hL : h₀.objs.size ≤ L) (c : h'.IsCell (L + 1) (some v)) (hs : Heap.SameBut (L + 1) h h') : St h₀ L m (some v) v2 v3 h' :=
  ⟨S.ns.sameBut hs (by show (L : Nat) ≠ L + 1; omega), c, isCell_b S.c2 hs (by omega), isCell_b S.c3 hs (by omega), S.ext.same (none_at _ (by show h₀.objs.size ≤ L + 1; omega)) hs⟩
theorem St.set2 {v : Value} (S : St h₀ L m v1 v2 v3 h) (hL : h₀.objs.size ≤ L) (c : h'.IsCell (L + 2) (some v)) (hs : Heap.SameBut (L + 2) h h') : St h₀ L m v1 (some v) v3 h' :=
  ⟨S.ns.sameBut hs (by show (L : Nat) ≠ L + 2; omega), isCell_b S.c1 hs (by omega), c, isCell_b S.c3 hs (by omega), S.ext.same (none_at _ (by show h₀.objs.size ≤ L + 2; omega)) hs⟩
theorem St.set3 {v : Value} (S : St h₀ L m v1 v2 v3 h) (hL : h₀.objs.size ≤ L) (c : h'.IsCell (L + 3) (some v)) (hs : Heap.SameBut (L + 3) h h') : St h₀ L m v1 v2 (some v) h' :=
  ⟨S.ns.sameBut hs (by show (L : Nat) ≠ L + 3; omega), isCell_b S.c1 hs (by omega), isCell_b S.c2 hs (by omega), c, S.ext.same (none_at _ (by show h₀.objs.size ≤ L + 3; omega)) hs⟩
end

structure LawCx (K : Frag) (mg mb : Str → Option Value) (h₀ : Heap) (f1 f5 f6 f7 f8 f9 C fI fc : Addr) (c1 c5 c6 c7 c8 c9 cI cc : Value) : Prop where
  N : Nm mg mb
  W : W0 mg mb h₀
  D1 : Def h₀ f1 (top 1) (Str.ofString "get_line_col") c1
  D5 : Def h₀ f5 (top 5) (Str.ofString "_law_spelled") c5
  D6 : Def h₀ f6 (top 6) (Str.ofString "_law_keys") c6
  D7 : Def h₀ f7 (top 7) (Str.ofString "_law_refused") c7
  D8 : Def h₀ f8 (top 8) (Str.ofString "_law_row") c8
  D9 : Def h₀ f9 (top 9) (Str.ofString "_law_rule") c9
  DI : Def h₀ fI (meth 0) (Str.ofString "TupleComp.__init__") cI
  Dc : Def h₀ fc (meth 1) (Str.ofString "TupleComp.compare") cc
  g1 : mg (Str.ofString "get_line_col") = some (.ref f1)
  g5 : mg (Str.ofString "_law_spelled") = some (.ref f5)
  g6 : mg (Str.ofString "_law_keys") = some (.ref f6)
  g7 : mg (Str.ofString "_law_refused") = some (.ref f7)
  g8 : mg (Str.ofString "_law_row") = some (.ref f8)
  g9 : mg (Str.ofString "_law_rule") = some (.ref f9)
  gC : mg (Str.ofString "TupleComp") = some (.ref C)
  KI : K.In h₀
  T : TC K C

/-! ## the numbers drawn -/
def drawOf (x : Int) : Int := (if x < 0 then -x else x).fmod (10 ^ 20) * (if 0 ≤ x then 1 else -1)
def drawnOf (ns : List Int) : List Int := (ns.take 4).map drawOf ++ [4, -8, 28, 12]
theorem draw_abs (x : Int) : (drawOf x).natAbs < 10 ^ 20 := by
  have h := fmod_lt (if x < 0 then -x else x) (b := 10 ^ 20) (by decide)
  unfold drawOf
  generalize (if x < 0 then -x else x).fmod (10 ^ 20) = y at h
  have h2 : ((10 : Int) ^ 20) = 100000000000000000000 := by decide
  have h3 : ((10 : Nat) ^ 20) = 100000000000000000000 := by decide
  rw [h2] at h
  rw [h3]
  split <;> omega
theorem drawn_abs {ns : List Int} : ∀ n ∈ drawnOf ns, n.natAbs < 10 ^ 20 := by
  intro n hn
  unfold drawnOf at hn
  rcases List.mem_append.mp hn with h | h
  · obtain ⟨x, _, rfl⟩ := List.mem_map.mp h
    exact draw_abs x
  · have : n = 4 ∨ n = -8 ∨ n = 28 ∨ n = 12 := by simpa using h
    rcases this with rfl | rfl | rfl | rfl <;> decide +kernel
theorem drawn_len (ns : List Int) : (drawnOf ns).length ≤ 8 := by
  unfold drawnOf
  rw [List.length_append, List.length_map, List.length_take]
  simp only [List.length_cons, List.length_nil]; omega

section
variable {prog : Program} {w : World} {A : Around} {E : Value → Shared → Prop} {s : Shared} {K : Frag} {mg mb : Str → Option Value} {h₀ : Heap} {f1 f5 f6 f7 f8 f9 C fI fc : Addr} {c1 c5 c6 c7 c8 c9 cI cc : Value}

theorem comp_local {scope : Scope} {cl : List (Str × Addr)} {Cc : Addr} {env : Env} {x : Str} {pos : Pos} {v : Value} {m : Str → Option Value} {Q : Value → Shared → Prop} {M : Model} (hn : s.heap.Ns Cc m) (hv : m x = some v) (hk : scope.kind = .function) (hx : (compEnvC scope cl Cc env).kindOf x = some .local) (hd : (x == ("__debug__" : Str)) = false) (h : Q v s) :
    wpAny M A (eval (.Name x pos) (compEnvC scope cl Cc env)) Q E s := wpAny_Name (wpAny_loadName_local hk hx hn hv h) hd

set_option maxHeartbeats 8000000 in
theorem law1 {L fa sl : Nat} {cd : Value} {its : Array Value} {ns : List Int} {m : Str → Option Value} {v1 v2 v3 : Option Value} (X : LawCx K mg mb h₀ f1 f5 f6 f7 f8 f9 C fI fc c1 c5 c6 c7 c8 c9 cI cc) (hL : h₀.objs.size ≤ L) (S : St h₀ L m v1 v2 v3 s.heap)
    (hm : m (Str.ofString "script") = some (.ref sl)) (hl : h₀.IsList sl its) (hi : IntsAt its ns) (hsz : ns.length ≤ 63) (hh : A.handled = none) :
    wpAny (model prog w) A (exec (lawSt 0) (envL L fa cd)) (fun fl s' => fl = .next ∧ ∃ h' tk d ys, s' = { s with heap := h', toks := tk } ∧ L + 4 ≤ d ∧ St h₀ L (fun y => if y = Str.ofString "drawn" then some (.ref d) else m y) v1 v2 v3 h' ∧ h'.IsList d ys ∧ IntsAt ys (drawnOf ns)) E s := by
  refine wpAny_Assign_Name ?_
  refine wpAny_BinOp ?_
  refine compE (cl := []) rfl (by decide +kernel) rfl (by decide +kernel) (fun _ => rfl) hh ?_
  refine PyProof.Rows.Subscript_ ?_
  refine nmL S.ns hm rfl rfl rfl ?_
  refine wpAny_Slice (wpAny_pure ?_)
  rw [evalPart_some]
  refine wpAny_Constant_int ?_
  refine wpAny_pure ?_
  have hl₁ := isList_x hl S.ext
  refine tail_of_ItemOn ⟨"list", _, list_getitem_lookup, (hl₁.push _).typeIs, wpAny_getItem_list_slice (hl₁.push _) (Heap.IsSliceOf.new ..) .none (.int _ _) .none (by decide) ?_ (by rw [sizeLine_eq]; have := hi.1; omega)⟩ (by with_unfolding_all rfl) (fun _ => rfl)
  dsimp only
  rw [show (some (4 : Int)) = some (((4 : Nat) : Int)) from rfl, slicePick_upto']
  generalize hd : (Heap.push s.heap _).objs.size = l
  generalize hH : Heap.push (Heap.push s.heap _) _ = h₁
  have hx₁ : Ext s.heap h₁ := hH ▸ (Ext.push _ _).tr (Ext.push _ _)
  have hlist : h₁.IsList l (its.toList.take 4).toArray := by rw [← hH, ← hd]; exact ⟨_, Heap.get?_push_size _ rfl, rfl, _, rfl⟩
  clear hH hd
  have S₁ := S.x hx₁
  refine ⟨l, _, fun _ i y _ => ∃ n t, (ns.take 4)[i]? = some n ∧ y = .int (drawOf n) t, rfl, ⟨hlist, ?_, ?_, ?_, ?_, ?_⟩⟩
  · rw [List.size_toArray, List.length_take]; omega
  · intro lo i y h h' q _; exact q
  · intro i v _; exact Or.inl ⟨_, _, rfl⟩
  · intro Cc hC i v hv g tk E' hok hlo hg
    dsimp only at hC hg
    obtain ⟨mc, nc⟩ := hok
    have hv' : (its.toList.take 4)[i]? = some v := by simpa using hv
    have hi4 : i < 4 := by
      have := (List.getElem?_eq_some_iff.mp hv').1
      rw [List.length_take] at this; omega
    rw [List.getElem?_take_of_lt hi4] at hv'
    obtain ⟨n, t, e1, rfl⟩ := hi.2 i v (by simpa using hv')
    have hgx : Ext h₀ g := S₁.ext.tr hg
    refine stL nc rfl rfl fun g₁ k₁ n₁ s₁ => ?_
    have hg₁ : Ext h₀ g₁ := hgx.sameNew (Nat.le_trans hL (Nat.le_trans (by have := S₁.size; omega) hC)) s₁
    refine wpAny_BinOp (wpAny_BinOp ?_)
    refine Call_Name1 ?_
    refine nmB (X.W.keeps hg₁) rfl rfl X.N.abs0 X.N.abs1 rfl rfl rfl ?_
    refine PySem.callWith_builtin1 ?_
    refine nmL n₁ rfl rfl rfl rfl ?_
    refine call_abs_int fun u tk2 => ?_
    refine wpAny_BinOp ?_
    refine wpAny_Constant_int ?_
    refine wpAny_Constant_int ?_
    refine pow_int_small (by decide) (by decide) (by decide) ?_
    refine mod_int' (by decide) ?_
    refine wpAny_IfExp (wpAny_isTrue_Compare1 ?_)
    refine nmL n₁ rfl rfl rfl rfl ?_
    refine wpAny_Constant_int ?_
    refine PyProof.Rows.ge_int (wpAny_truthy_bool ?_)
    have hd : (ns.take 4)[i]? = some n := by rw [List.getElem?_take_of_lt hi4]; exact e1
    obtain ⟨q1, q2⟩ := turn_end s₁.extBut n₁
    have e20 : ((10 : Int) ^ Int.toNat 20) = 10 ^ 20 := rfl
    by_cases h0 : 0 ≤ n
    · rw [if_pos (by simpa using h0)]
      refine wpAny_Constant_int ?_
      refine PyProof.Rows.mul_int ?_ (IntMulOk.of_right (by decide))
      exact ⟨g₁, _, rfl, ⟨_, n₁⟩, ⟨n, _, hd, by unfold drawOf; rw [if_pos h0, e20]⟩, q1, q2⟩
    · rw [if_neg (by simpa using h0)]
      refine wpAny_UnaryOp (wpAny_Constant_int (PyProof.Rows.neg_int ?_))
      refine PyProof.Rows.mul_int ?_ (IntMulOk.of_right (by decide))
      exact ⟨g₁, _, rfl, ⟨_, n₁⟩, ⟨n, _, hd, by unfold drawOf; rw [if_neg h0, e20]⟩, q1, q2⟩
  · intro D lo h₂ tk ys hD hlo hx₂ hpl hys hP
    dsimp only at hD hlo hx₂ ⊢
    have S₂ := S₁.x hx₂
    refine wpAny_List_spliced ?_
    show wpAny _ _ (spliced [(false, eval _ _), (false, eval _ _), (false, eval _ _), (false, eval _ _)]) _ _ _
    refine sp4 ?_
    refine wpAny_Constant_int ?_
    refine wpAny_UnaryOp (wpAny_Constant_int (PyProof.Rows.neg_int ?_))
    refine wpAny_Constant_int ?_
    refine wpAny_Constant_int ?_
    refine ⟨Nat.le_of_ble_eq_true rfl, ?_⟩
    dsimp only
    generalize hH : Heap.push h₂ _ = h₃
    have hx₃ : Ext h₂ h₃ := hH ▸ Ext.push _ _
    have hlist₃ : h₃.IsList h₂.objs.size _ := ⟨_, hH ▸ Heap.get?_push_size _ rfl, rfl, _, rfl⟩
    clear hH
    refine add_two (isList_x hpl.isList hx₃) hlist₃ ?_ fun h₄ hl₄ hx₄ => ?_
    · rw [hys, List.size_toArray, List.size_toArray, List.length_take]; simp only [List.length_cons, List.length_nil]; omega
    dsimp only at hl₄ hx₄ ⊢
    have S₄ := (S₂.x hx₃).x hx₄
    have hd4 : L + 4 ≤ h₃.objs.size := (S₂.x hx₃).size
    refine stS S₄.ns rfl rfl fun h₅ tk₅ n₅ s₅ => ?_
    refine ⟨rfl, h₅, tk₅, h₃.objs.size, _, rfl, hd4, S₄.setL hL n₅ s₅, isList_a (lo := L + 4) hl₄ hd4 (ExtA.same (show L < L + 4 by omega) s₅), ?_, ?_⟩
    · rw [Array.size_append, hys, List.size_toArray, List.size_toArray, List.length_take]
      unfold drawnOf
      rw [List.length_append, List.length_map, List.length_take, Array.length_toList, hi.1]; rfl
    · have hysl : ys.size = ((ns.take 4).map drawOf).length := by
        rw [hys, List.size_toArray, List.length_take, Array.length_toList, hi.1, List.length_map, List.length_take]
      intro i v hv
      unfold drawnOf
      rcases Nat.lt_or_ge i ys.size with hlt | hge
      · rw [Array.getElem?_append_left hlt] at hv
        obtain ⟨n, t, e1, e2⟩ := hP i v hv
        refine ⟨drawOf n, t, ?_, e2⟩
        rw [List.getElem?_append_left (by omega), List.getElem?_map, e1]; rfl
      · rw [Array.getElem?_append_right hge] at hv
        rw [List.getElem?_append_right (by omega), ← hysl]
        generalize i - ys.size = j at hv
        match j with
        | 0 => cases hv; exact ⟨_, _, rfl, rfl⟩
        | 1 => cases hv; exact ⟨_, _, rfl, rfl⟩
        | 2 => cases hv; exact ⟨_, _, rfl, rfl⟩
        | 3 => cases hv; exact ⟨_, _, rfl, rfl⟩
        | k + 4 => cases hv
end
end Mine

/-! # L2 -/
namespace Mine
theorem PairsAt.a {lo : Nat} {h h' : Heap} {its : Array Value} {ks : List (Int × Int)} (x : PairsAt lo h its ks) (k : ExtA lo h h') : PairsAt lo h' its ks := ⟨x.1, fun i v e => let ⟨q, a, b⟩ := x.2 i v e; ⟨q, a, b.a k⟩⟩
theorem PairsAt.lo {lo lo' : Nat} {h : Heap} {its : Array Value} {ks : List (Int × Int)} (x : PairsAt lo h its ks) (k : lo' ≤ lo) : PairsAt lo' h its ks := ⟨x.1, fun i v e => let ⟨q, a, b⟩ := x.2 i v e; ⟨q, a, b.lo k⟩⟩
theorem KeysAt.lo {lo lo' : Nat} {h : Heap} {its : Array Value} {ks : List (Int × Int)} {xs : List Str} (x : KeysAt lo h its ks xs) (k : lo' ≤ lo) : KeysAt lo' h its ks xs := ⟨x.1, x.2.1, fun i v e => let ⟨q, y, a, b, c⟩ := x.2.2 i v e; ⟨q, y, a, b, c.lo k⟩⟩

section
variable {prog : Program} {w : World} {A : Around} {E : Value → Shared → Prop} {s : Shared} {K : Frag} {mg mb : Str → Option Value} {h₀ : Heap} {f1 f5 f6 f7 f8 f9 C fI fc : Addr} {c1 c5 c6 c7 c8 c9 cI cc : Value}

/-- a name that is a cell of the law's -/
theorem nmC {M : Model} {env : Env} {x : Str} {pos : Pos} {v : Value} {c : Addr} {Q : Value → Shared → Prop} (hv : s.heap.IsCell c (some v)) (hc : env.cells.lookup x = some c) (hk : env.scope.kind = .function) (hx : env.kindOf x = some .cell) (hd : (x == ("__debug__" : Str)) = false) (h : Q v s) :
    wpAny M A (eval (.Name x pos) env) Q E s := wpAny_Name (wpAny_loadName_cell hk hx hc hv h) hd

set_option maxHeartbeats 8000000 in
theorem law2 {L fa d : Nat} {cd : Value} {ys : Array Value} {ns : List Int} {m : Str → Option Value} {v1 v2 v3 : Option Value} (X : LawCx K mg mb h₀ f1 f5 f6 f7 f8 f9 C fI fc c1 c5 c6 c7 c8 c9 cI cc) (hL : h₀.objs.size ≤ L) (S : St h₀ L m v1 v2 v3 s.heap)
    (hm : m (Str.ofString "drawn") = some (.ref d)) (hd : L + 4 ≤ d) (hl : s.heap.IsList d ys) (hi : IntsAt ys (drawnOf ns)) (hh : A.handled = none) (hroom : A.depth + 1 < recursionLimit) :
    wpAny (model prog w) A (exec (lawSt 1) (envL L fa cd)) (fun fl s' => fl = .next ∧ ∃ h' tk e zs, s' = { s with heap := h', toks := tk } ∧ L + 4 ≤ e ∧ St h₀ L m (some (.ref e)) v2 v3 h' ∧ ExtA (L + 4) s.heap h' ∧ h'.IsList e zs ∧ KeysAt (L + 4) h' zs (keysOf (drawnOf ns)) (textsOf (drawnOf ns))) E s := by
  refine wpAny_Assign_Name ?_
  refine Call_Name (trees := [(false, eval _ _)]) rfl ?_
  refine nmG (X.W.keeps S.ext) rfl X.g6 rfl rfl rfl ?_
  refine cwD X.D6 (sp1 ?_)
  refine nmL S.ns hm rfl rfl rfl ?_
  refine ⟨S.ext, ?_⟩
  refine keys_call X.N (X.W.keeps S.ext) (X.D6.keeps S.ext) X.g5 (X.D5.keeps S.ext) hl hi (by have := drawn_len ns; omega) drawn_abs hroom hh fun h₁ tk₁ e zs hx₁ he hl₁ hk₁ => ?_
  have S₁ := S.x hx₁
  have hs := S.size
  refine wpAny_storeName_cell rfl rfl rfl S₁.c1 fun h₂ c₂ s₂ => ?_
  have hA : ExtA (L + 4) h₁ h₂ := ExtA.same (show L + 1 < L + 4 by omega) s₂
  exact ⟨rfl, h₂, tk₁, e, zs, rfl, by omega, S₁.set1 hL c₂ s₂, (hx₁.a _).tr hA, isList_a hl₁ (show L + 4 ≤ e by omega) hA, (hk₁.lo hs).a hA⟩

set_option maxHeartbeats 8000000 in
theorem law3 {L fa e : Nat} {cd : Value} {zs : Array Value} {ns : List Int} {m : Str → Option Value} {v2 v3 : Option Value} (X : LawCx K mg mb h₀ f1 f5 f6 f7 f8 f9 C fI fc c1 c5 c6 c7 c8 c9 cI cc) (hL : h₀.objs.size ≤ L) (S : St h₀ L m (some (.ref e)) v2 v3 s.heap)
    (he : L + 4 ≤ e) (hl : s.heap.IsList e zs) (hk : KeysAt (L + 4) s.heap zs (keysOf (drawnOf ns)) (textsOf (drawnOf ns))) (hh : A.handled = none) (hroom : A.depth < recursionLimit) :
    wpAny (model prog w) A (exec (lawSt 2) (envL L fa cd)) (fun fl s' => fl = .next ∧ ∃ h' tk r rs, s' = { s with heap := h', toks := tk } ∧ L + 4 ≤ r ∧ St h₀ L (fun y => if y = Str.ofString "read" then some (.ref r) else m y) (some (.ref e)) v2 v3 h' ∧ ExtA (L + 4) s.heap h' ∧ h'.IsList r rs ∧ PairsAt (L + 4) h' rs (keysOf (drawnOf ns))) E s := by
  have hs := S.size
  refine compX (cl := []) rfl rfl (by decide +kernel) rfl (by decide +kernel) (fun _ => rfl) hh ?_
  refine nmC S.c1 rfl rfl rfl rfl ?_
  refine ⟨e, zs, fun lo i y h => ∃ k : Int × Int, (keysOf (drawnOf ns))[i]? = some k ∧ PairAt lo h y k.1 k.2, rfl, ⟨hl, ?_, ?_, ?_, ?_, fun _ _ _ _ _ _ _ _ _ _ _ => trivial⟩, ?_⟩
  · rw [hk.1, keysOf_len]; have := drawn_len ns; omega
  · rintro lo i y h h' ⟨k, a, b⟩ q; exact ⟨k, a, b.a q⟩
  · intro i v hv
    obtain ⟨k, x, _, _, r, _, _, _, rfl, _⟩ := hk.2.2 i v hv
    exact Or.inr ⟨⟨_, _, _, rfl⟩, r, rfl⟩
  · rintro Cc hC i v hv g tk E' ⟨mc, nc⟩ hlo hg
    obtain ⟨k, x, hki, hxi, r, t1, t2, t3, rfl, hr, ht⟩ := hk.2.2 i v hv
    have hlt : i < (drawnOf ns).length := by have := (List.getElem?_eq_some_iff.mp hki).1; rwa [keysOf_len] at this
    have hni : (drawnOf ns)[i]? = some (drawnOf ns)[i] := List.getElem?_eq_getElem hlt
    generalize (drawnOf ns)[i] = n at hni
    rw [keysOf_get hni] at hki
    rw [textsOf_get hni] at hxi
    cases hki
    cases hxi
    have hnabs : n.natAbs < 10 ^ 20 := drawn_abs n (List.mem_of_getElem? hni)
    refine asgT3 hh (isTuple_x ht hg) nc rfl rfl rfl rfl fun g₁ k₁ n₁ x₁ => ?_
    have hg₁ : Ext s.heap g₁ := hg.but (none_at _ hC) x₁
    have S₁ := S.x hg₁
    refine Call_Name (trees := [(false, eval _ _)]) rfl ?_
    refine nmG (X.W.keeps S₁.ext) rfl X.g1 rfl rfl rfl ?_
    refine cwD X.D1 (sp1 ?_)
    refine nmL n₁ rfl rfl rfl rfl ?_
    refine ⟨S₁.ext, ?_⟩
    have hlen := keyText_len (c := colOf n i) (n := n) ((n + (i : Int)).fmod 5) ((n.fdiv 5 + (i : Int)).fmod 5) (col_abs n i) hnabs
    have hl1 := spelled_len ((n + (i : Int)).fmod 5) (col_abs n i)
    have hl2 := spelled_len ((n.fdiv 5 + (i : Int)).fmod 5) hnabs
    refine glc_ok X.N (X.W.keeps S₁.ext) (X.D1.keeps S₁.ext) hroom hh (keyText_split _ _ (col_abs n i) hnabs) (by show (keyText _ _ _ _).length ≤ 1000; omega) (spelled_reads _ (col_abs n i)) (spelled_reads _ hnabs) (by omega) (by omega) fun g₂ k₂ r' u1 u2 x₂ hr' ht' => ?_
    have hC1 : Cc + 1 ≤ r' := Nat.le_trans n₁.lt hr'
    have n₂ := n₁.keeps x₂
    obtain ⟨q1, q2⟩ := turn_end (ExtBut.x x₁ x₂) n₂
    exact ⟨g₂, k₂, rfl, ⟨_, n₂⟩, ⟨_, keysOf_get hni, _, _, _, rfl, hC1, ht'⟩, q1, q2⟩
  · intro D Cc lo h₁ tk ys hD hC hClo hDC hx₁ hpl hys hP m' hn'
    have S₁ := S.x hx₁
    refine stL S₁.ns rfl rfl fun h₂ k₂ n₂ s₂ => ?_
    have hCL : (Cc : Nat) ≠ L := by omega
    refine ⟨m', hn'.sameBut s₂ hCL, fun h₃ s₃ => ?_⟩
    have S₂ := S₁.setL hL n₂ s₂
    have n₃ : h₃.Ns L _ := n₂.sameBut s₃ (Ne.symm hCL)
    have hA2 : ExtA (L + 4) h₁ h₂ := ExtA.same (show L < L + 4 by omega) s₂
    have S₃ : St h₀ L (fun y => if y = Str.ofString "read" then some (.ref D) else m y) (some (.ref e)) v2 v3 h₃ :=
      ⟨n₃, isCell_b S₂.c1 s₃ (by omega), isCell_b S₂.c2 s₃ (by omega), isCell_b S₂.c3 s₃ (by omega), S₂.ext.same (none_at _ (Nat.le_trans hL (by omega))) s₃⟩
    have hAD : ∀ b o, (b : Nat) ≠ Cc → L + 4 ≤ b → h₁.get? b = some o → h₃.get? b = some o := fun b o hb hb4 q => s₃.extBut b o hb (hA2 b o hb4 q)
    refine ⟨rfl, h₃, k₂, D, ys, rfl, by omega, S₃, fun b o hb q => hAD b o (Nat.ne_of_lt (Nat.lt_of_lt_of_le (Heap.lt_size q) hC)) hb (hx₁ b o q), ?_, ?_, ?_⟩
    · obtain ⟨nn, q⟩ := hpl
      exact ⟨_, hAD _ _ hDC (by omega) q, rfl, nn, rfl⟩
    · rw [hys, hk.1]
    · intro i y hy
      obtain ⟨k, a, r, t1, t2, q, hr, ht⟩ := hP i y hy
      obtain ⟨o, ho, z⟩ := ht
      exact ⟨k, a, r, t1, t2, q, by omega, o, hAD r o (by omega) (by omega) ho, z⟩
end
end Mine

/-! # RN -/
namespace Mine
/-! ## a comprehension of two clauses whose test never holds -/
theorem compTurn_in (elt target iter : Expr) (g0 : Comprehension) (ifs : List Expr) (scope : Scope) (pos : Pos) (it acc : Value) (env : Env) :
    compTurn (.ListComp elt [g0, ⟨target, iter, ifs, 0⟩] scope pos) 1 it acc env = (do
      standAt iter.pos
      match ← pyNext it with
      | none => pure (.done .next)
      | some v =>
        letOwnedTupleGo target it v
        assign target env v
        let mut ok := true
        for c in ifs do
          if ok then ok ← isTrue c env (eval c env)
        if ok then
          (do let _ ← call (.builtin "list.append") [acc, ← eval elt env])
        again (.compLoop (.ListComp elt [g0, ⟨target, iter, ifs, 0⟩] scope pos) 1 it acc env)) := by rfl
theorem compTurn_out (elt target iter t2 it2 : Expr) (ifs : List Expr) (scope : Scope) (pos : Pos) (it acc : Value) (env : Env) :
    compTurn (.ListComp elt [⟨target, iter, [], 0⟩, ⟨t2, it2, ifs, 0⟩] scope pos) 0 it acc env = (do
      standAt iter.pos
      match ← pyNext it with
      | none => pure (.done .next)
      | some v =>
        letOwnedTupleGo target it v
        assign target env v
        let x ← eval it2 env
        standAt it2.pos
        let x ← foldedSetIterable it2 env x
        let _ ← runOwn (.compStart (.ListComp elt [⟨target, iter, [], 0⟩, ⟨t2, it2, ifs, 0⟩] scope pos) 1 (← holding [x] (pyIter x)) acc env) env
        again (.compLoop (.ListComp elt [⟨target, iter, [], 0⟩, ⟨t2, it2, ifs, 0⟩] scope pos) 0 it acc env)) := by rfl

section
variable {prog : Program} {w : World} {A : Around} {R : Result → Shared → Prop} {s : Shared}
theorem wpAny_pyIter_tupleiter {E : Value → Shared → Prop} {it t : Addr} {i : Nat} {Q : Value → Shared → Prop} (hit : s.heap.IsTupleIter it t i) (h : Q (.ref it) s) : wpAny (model prog w) A (pyIter (.ref it)) Q E s := by
  have hT : s.TypeIs (.ref it) "tuple_iterator" := let ⟨o, ho, hc, _⟩ := hit; ⟨o, ho, hc⟩
  refine wpAny_pyIter_slot hT F.slot_tuple_iterator_iter (wpAny_call_entry F.slot_tuple_iterator_iter hT F.entry_tuple_iterator_iter ?_ (F.args_tuple_iterator_iter_1 _))
  show wpAny _ _ (ret (.ref it)) _ _ s
  exact wpAny_pure ⟨_, rfl, "tuple_iterator", _, hT, F.slot_tuple_iterator_next.lookup, h⟩

theorem compStart_in {elt target iter : Expr} {g0 : Comprehension} {ifs : List Expr} {scope : Scope} {pos : Pos} {it acc : Value} {env : Env}
    (h0 : codeAny (model prog w) A (.compLoop (.ListComp elt [g0, ⟨target, iter, ifs, 0⟩] scope pos) 1 it acc env) R s)
    (h : wpAny (model prog w) A (pyIter it) (fun it' s' => codeAny (model prog w) A (.compLoop (.ListComp elt [g0, ⟨target, iter, ifs, 0⟩] scope pos) 1 it' acc env) R s')
      (notedBy (model prog w) A env fun x s' => R (.error x) s') s) :
    codeAny (model prog w) A (.compStart (.ListComp elt [g0, ⟨target, iter, ifs, 0⟩] scope pos) 1 it acc env) R s := by
  refine codeAny_of_tree ?_
  show wpAny _ _ ((compStart (.ListComp elt [g0, ⟨target, iter, ifs, 0⟩] scope pos) 1 it acc env).onRaise (fun x => do noteFrame x env; standAt theWindowsPlace)) _ _ s
  refine wpAny_notedAt ?_
  unfold compStart
  show wpAny _ _ (ask >>= _) _ _ s
  refine wpAny_bind (wpAny_askSetting (wpAny_ite ?_))
  split
  · first
      | exact wpAny_bind (wpAny_pure (wpAny_pure (And.intro rfl h0)))
      | exact wpAny_pure (And.intro rfl h0)
  · first
      | exact wpAny_bind (wpAny_rule (wpAny_bind (wpAny_standAt (wpAny_bind (wpAny_mono h (fun it' s' h' => wpAny_pure (And.intro rfl h')) fun _ _ x => x)))))
      | (refine wpAny_bind (wpAny_rule ?_); show wpAny _ _ (standAt iter.pos >>= _) _ _ s; exact wpAny_bind (wpAny_standAt (wpAny_bind (wpAny_mono h (fun it' s' h' => wpAny_pure (And.intro rfl h')) fun _ _ x => x))))

/-- the inner loop: over a tuple of ints, the test false each time -/
theorem compIn {elt iter c : Expr} {g0 : Comprehension} {scope : Scope} {pos : Pos} {y : Str} {py : Pos} {acc : Value} {env : Env} {I t Cc : Nat} {items : Array Value} {m : Str → Option Value} {h₀ : Heap}
    (hh : A.handled = none) (hC : env.locals = Cc) (hy : env.kindOf y = some .local) (hp : (env.scope.kind == .class || (env.scope.kind == .module && env.locals != env.globals)) = false)
    (hIC : I ≠ Cc) (htI : t ≠ I) (htC : t ≠ Cc) (hIm : h₀.get? I = none) (hCm : h₀.get? Cc = none) (hx : Ext h₀ s.heap) (hit : s.heap.IsTupleIter I t 0) (ht : s.heap.IsTuple t items) (hn : s.heap.Ns Cc m) (hints : ∀ (i : Nat) (v : Value), items[i]? = some v → ∃ n u, v = .int n u)
    (test : ∀ n u h tk m (Q' : Bool → Shared → Prop) (E' : Value → Shared → Prop), h.Ns Cc m → m y = some (.int n u) → Ext h₀ h → Q' false { s with heap := h, toks := tk } → wpAny (model prog w) A (isTrue c env (eval c env)) Q' E' { s with heap := h, toks := tk })
    (done : ∀ h tk m, h.Ns Cc m → (∀ b o, b ≠ Cc → b ≠ I → s.heap.get? b = some o → h.get? b = some o) → R (.ok .next) { s with heap := h, toks := tk }) :
    codeAny (model prog w) A (.compLoop (.ListComp elt [g0, ⟨.Name y py, iter, [c], 0⟩] scope pos) 1 (.ref I) acc env) R s := by
  subst hC
  refine codeAny_loop rfl (fun k s' => ∃ h tk i m, s' = { s with heap := h, toks := tk } ∧ i ≤ items.size ∧ k = items.size + 1 - i ∧ h.IsTupleIter I t i ∧ h.IsTuple t items ∧ h.Ns env.locals m ∧ (∀ b o, b ≠ env.locals → b ≠ I → s.heap.get? b = some o → h.get? b = some o)) ?_ (items.size + 1)
    ⟨s.heap, s.toks, 0, m, rfl, Nat.zero_le _, rfl, hit, ht, hn, fun _ _ _ _ e => e⟩
  rintro k s' ⟨h, tk, i, m', rfl, hi, rfl, hit', ht', hn', hk⟩
  show wpAny _ A ((compTurn (.ListComp elt [g0, ⟨.Name y py, iter, [c], 0⟩] scope pos) 1 (.ref I) acc env).onRaise (fun x => do noteFrame x env; theTreesLotGoes x)) _ _ _
  refine wpAny_noted ?_
  rw [compTurn_in]
  refine wpAny_bind (wpAny_standAt (wpAny_bind ?_))
  cases hv : items[i]? with
  | none =>
    refine wpAny_pyNext_tuple_end hh hit' ht' hv fun h₁ he₁ => wpAny_pure ?_
    exact done h₁ tk m' (hn'.extBut he₁ (Ne.symm hIC)) fun b o hb hbI e => he₁ b o hbI (hk b o hb hbI e)
  | some v =>
    have hlt : i < items.size := (Array.getElem?_eq_some_iff.mp hv).1
    obtain ⟨n, u, rfl⟩ := hints i v hv
    refine wpAny_pyNext_tuple_item hit' ht' hv fun h₁ hit₁ hs₁ => ?_
    refine wpAny_bind (wpAny_pure (wpAny_bind (stL (hn'.sameBut hs₁ (Ne.symm hIC)) hy hp fun h₂ tk₂ n₂ s₂ => ?_)))
    refine wpAny_bind (wpAny_tests_one ?_)
    have hx₂ : Ext h₀ h₂ := fun b o e => s₂.extBut b o (fun q => by rw [q, hCm] at e; cases e) (hs₁.extBut b o (fun q => by rw [q, hIm] at e; cases e) (hk b o (fun q => by rw [q, hCm] at e; cases e) (fun q => by rw [q, hIm] at e; cases e) (hx b o e)))
    refine test n u h₂ tk₂ _ _ _ n₂ (by simp) hx₂ ?_
    show wpAny _ _ (again _) _ _ _
    refine wpAny_pure ⟨rfl, items.size + 1 - (i + 1), by omega, h₂, tk₂, i + 1, _, rfl, hlt, rfl, ?_, ?_, n₂, fun b o hb hbI e => ?_⟩
    · obtain ⟨o, e, r⟩ := hit₁
      exact ⟨o, s₂.extBut _ _ hIC e, r⟩
    · exact (ht'.extBut hs₁.extBut htI).extBut s₂.extBut htC
    · exact s₂.extBut b o hb (hs₁.extBut b o hbI (hk b o hb hbI e))
end

section
variable {prog : Program} {w : World} {A : Around} {E : Value → Shared → Prop} {s : Shared} {env : Env} {elt iter c : Expr} {scope : Scope} {pos px py qx : Pos} {x y : Str}
theorem compNest {Q : Value → Shared → Prop} (hclos : closureFor scope env = pure []) (hcell : ∀ y ∈ scope.names, y.2 ≠ .cell) (hkind : scope.kind = .function)
    (hnames : ∀ y ∈ scope.names, y.2 = .local → scope.names.lookup y.1 = some .local) (hs : ∀ x, foldedSetIterable iter env x = pure x) (hh : A.handled = none)
    (hx : ∀ Cc, (compEnvC scope [] Cc env).kindOf x = some .local) (hy : ∀ Cc, (compEnvC scope [] Cc env).kindOf y = some .local) (hdx : (x == ("__debug__" : Str)) = false)
    (h : wpAny (model prog w) A (eval iter env) (fun xv s₁ => ∃ (l : Nat) (its : Array Value), xv = .ref l ∧ s₁.heap.IsList l its ∧ (∀ (i : Nat) (v : Value), its[i]? = some v → ∃ a b, PairAt 0 s₁.heap v a b) ∧
      (∀ Cc n u h tk m (Q' : Bool → Shared → Prop) (E' : Value → Shared → Prop), s₁.heap.objs.size ≤ Cc → h.Ns Cc m → m y = some (.int n u) → Ext s₁.heap h → Q' false { s₁ with heap := h, toks := tk } → wpAny (model prog w) A (isTrue c (compEnvC scope [] Cc env) (eval c (compEnvC scope [] Cc env))) Q' E' { s₁ with heap := h, toks := tk }) ∧
      (∀ (D : Nat) h' tk, h'.PlainList D #[] → Ext s₁.heap h' → Q (.ref D) { s₁ with heap := h', toks := tk })) E s) :
    wpAny (model prog w) A (eval (.ListComp elt [⟨.Name x px, iter, [], 0⟩, ⟨.Name y py, .Name x qx, [c], 0⟩] scope pos) env) Q E s := by
  rw [eval_ListComp]
  refine wpAny_comprehension_free (use := none) rfl hs hclos hkind hnames (wpAny_mono h (fun xv s₁ h₁ => ?_) fun _ _ e => e)
  obtain ⟨l, its, rfl, hl, hp, test, fin⟩ := h₁
  refine wpAny_pyIter_list hl ?_
  refine wpAny_newObj_type (wpAny_newFunctionEnv hcell (by intro y hy; simp at hy) (fun h₁ hns₁ hsb₁ => ?_) hkind)
  dsimp only at hns₁ hsb₁ ⊢
  generalize hH1 : s₁.heap.push { cls := .type "list_iterator", data := .fields #[.ref l, .int 0 0] } = H1 at hns₁ hsb₁ ⊢
  generalize hH2 : H1.push { cls := .type "list", dict := none, data := .seq ([] : List Value).toArray } = H2 at hns₁ hsb₁ ⊢
  have z1 : H1.objs.size = s₁.heap.objs.size + 1 := by rw [← hH1, Heap.size_push]
  have z2 : H2.objs.size = s₁.heap.objs.size + 2 := by rw [← hH2, Heap.size_push, z1]
  have x1 : Ext s₁.heap H1 := hH1 ▸ Ext.push _ _
  have x2 : Ext H1 H2 := hH2 ▸ Ext.push _ _
  have x3 : Ext H2 h₁ := fun b o e => hsb₁.extBut b o (Nat.ne_of_lt (Heap.lt_size e)) (Heap.get?_push_of_some _ e)
  have hit : h₁.IsListIter s₁.heap.objs.size l 0 := ⟨_, x3 _ _ (x2 _ _ (hH1 ▸ Heap.get?_push_size _ rfl)), rfl, rfl⟩
  have hacc : h₁.PlainList H1.objs.size #[] := ⟨_, x3 _ _ (hH2 ▸ Heap.get?_push_size _ rfl)⟩
  have hx' : Ext s₁.heap h₁ := (x1.tr x2).tr x3
  have hlist : h₁.IsList l its := isList_x hl hx'
  have hll : l < s₁.heap.objs.size := by obtain ⟨_, e, _⟩ := hl; exact Heap.lt_size e
  clear hH1 hH2 hsb₁ x1 x2 x3
  have hI0 : s₁.heap.get? s₁.heap.objs.size = none := none_at _ (Nat.le_refl _)
  have hC0 : s₁.heap.get? H2.objs.size = none := none_at _ (by show s₁.heap.objs.size ≤ H2.objs.size; omega)
  have hlI : l ≠ s₁.heap.objs.size := Nat.ne_of_lt hll
  have hlC : l ≠ H2.objs.size := by omega
  have hIC : s₁.heap.objs.size ≠ H2.objs.size := by omega
  have hDI : H1.objs.size ≠ s₁.heap.objs.size := by omega
  have hDC : H1.objs.size ≠ H2.objs.size := by omega
  have loop : codeAny (model prog w) A (.compLoop (.ListComp elt [⟨.Name x px, iter, [], 0⟩, ⟨.Name y py, .Name x qx, [c], 0⟩] scope pos) 0 (.ref s₁.heap.objs.size) (.ref H1.objs.size) (compEnvC scope [] H2.objs.size env))
      (compPost (model prog w) A E none Q (.ref H1.objs.size) H2.objs.size) { s₁ with heap := h₁, toks := s₁.toks + ([] : List (Str × Value)).length } := by
    refine codeAny_loop rfl (fun k s' => ∃ h tk i m, s' = { s₁ with heap := h, toks := tk } ∧ i ≤ its.size ∧ k = its.size + 1 - i ∧ h.IsListIter s₁.heap.objs.size l i ∧ h.IsList l its ∧ h.PlainList H1.objs.size #[] ∧ h.Ns H2.objs.size m ∧ Ext s₁.heap h) ?_ (its.size + 1)
      ⟨h₁, _, 0, _, rfl, Nat.zero_le _, rfl, hit, hlist, hacc, hns₁, hx'⟩
    rintro k s' ⟨h, tk, i, m', rfl, hi, rfl, hit', hl', hacc', hn', hxk⟩
    show wpAny _ A ((compTurn (.ListComp elt [⟨.Name x px, iter, [], 0⟩, ⟨.Name y py, .Name x qx, [c], 0⟩] scope pos) 0 (.ref s₁.heap.objs.size) (.ref H1.objs.size) (compEnvC scope [] H2.objs.size env)).onRaise (fun x => do noteFrame x (compEnvC scope [] H2.objs.size env); theTreesLotGoes x)) _ _ _
    refine wpAny_noted ?_
    rw [compTurn_out]
    refine wpAny_bind (wpAny_standAt (wpAny_bind ?_))
    cases hv : its[i]? with
    | none =>
      refine wpAny_pyNext_list_end hh hit' hl' hv fun g he => wpAny_pure ?_
      refine ⟨m', hn'.extBut he (Ne.symm hIC), fun g' hs' => fin H1.objs.size g' tk ?_ ?_⟩
      · exact (hacc'.extBut he hDI).extBut hs'.extBut hDC
      · exact (hxk.but hI0 he).same hC0 hs'
    | some v =>
      have hlt : i < its.size := (Array.getElem?_eq_some_iff.mp hv).1
      obtain ⟨a, b, r, t1, t2, rfl, _, ht⟩ := hp i v hv
      have hr : r < s₁.heap.objs.size := by obtain ⟨_, e, _⟩ := ht; exact Heap.lt_size e
      refine wpAny_pyNext_list_item hit' hl' hv fun g hit₁ hs₁ => ?_
      have hxg : Ext s₁.heap g := hxk.same hI0 hs₁
      refine wpAny_bind (wpAny_pure (wpAny_bind (stL (hn'.sameBut hs₁ (Ne.symm hIC)) (hx _) (by simp [compEnvC, relabel, hkind]) fun g₂ tk₂ n₂ s₂ => ?_)))
      have hxg₂ : Ext s₁.heap g₂ := hxg.same hC0 s₂
      refine wpAny_bind (nmL (v := .ref r) n₂ (if_pos rfl) (by simp [compEnvC, relabel, hkind]) (hx _) hdx ?_)
      refine wpAny_bind (wpAny_standAt (wpAny_bind (wpAny_pure (wpAny_bind (wpAny_holding (wpAny_pyIter_tuple (isTuple_x ht hxg₂) ?_))))))
      dsimp only
      generalize hH : Heap.push g₂ _ = g₃
      have x₃ : Ext g₂ g₃ := hH ▸ Ext.push _ _
      have hit₃ : g₃.IsTupleIter g₂.objs.size r 0 := ⟨_, hH ▸ Heap.get?_push_size _ rfl, rfl, rfl⟩
      clear hH
      have n₃ := n₂.keeps x₃
      have hC₂ : H2.objs.size < g₂.objs.size := n₂.lt
      have hrg : r ≠ g₂.objs.size := by omega
      have hrC : r ≠ H2.objs.size := by omega
      have hJ0 : s₁.heap.get? g₂.objs.size = none := none_at _ (by show s₁.heap.objs.size ≤ g₂.objs.size; omega)
      refine wpAny_bind (wpAny_runOwn (h := none) ?_)
      refine compStart_in ?inner (wpAny_pyIter_tupleiter hit₃ ?inner)
      refine compIn (Cc := H2.objs.size) (h₀ := s₁.heap) (t := r) (items := #[.int a t1, .int b t2]) hh rfl (hy _) (by simp [compEnvC, relabel, hkind]) (Nat.ne_of_gt hC₂) hrg hrC hJ0 hC0 (hxg₂.tr x₃) hit₃ (isTuple_x ht (hxg₂.tr x₃)) n₃ ?_ (fun n u h tk m Q' E' a1 a2 a3 a4 => test _ n u h tk m Q' E' (by show s₁.heap.objs.size ≤ H2.objs.size; omega) a1 a2 a3 a4) ?_
      · intro i v e
        match i with
        | 0 => cases e; exact ⟨_, _, rfl⟩
        | 1 => cases e; exact ⟨_, _, rfl⟩
        | k + 2 => cases e
      · intro g₄ tk₄ m₄ n₄ k₄
        refine wpAny_pure ⟨rfl, its.size + 1 - (i + 1), by omega, g₄, tk₄, i + 1, m₄, rfl, hlt, rfl, ?_, ?_, ?_, n₄, fun b o e => ?_⟩
        · obtain ⟨o, e, z⟩ := hit₁
          exact ⟨o, k₄ _ _ hIC (by omega) (x₃ _ _ (s₂.extBut _ _ hIC e)), z⟩
        · have q := (hl'.extBut hs₁.extBut hlI).extBut s₂.extBut hlC
          obtain ⟨o, e, z⟩ := q
          exact ⟨o, k₄ _ _ hlC (by omega) (x₃ _ _ e), z⟩
        · obtain ⟨nn, e⟩ := (hacc'.extBut hs₁.extBut hDI).extBut s₂.extBut hDC
          have hD₂ : H1.objs.size < g₂.objs.size := Heap.lt_size e
          exact ⟨nn, k₄ _ _ hDC (Nat.ne_of_lt hD₂) (x₃ _ _ e)⟩
        · exact k₄ b o (fun q => by rw [q, hC0] at e; cases e) (fun q => by rw [q, hJ0] at e; cases e) (x₃ _ _ (hxg₂ b o e))
  exact codeAny_compStart_list loop (wpAny_pyIter_listiter hit loop)
end
end Mine

/-! # L4 -/
namespace Mine
def pairsD (ks : List (Int × Int)) : PyData := .list (ks.map fun k => .tuple [.int k.1, .int k.2])
theorem pairsD_shaped (ks : List (Int × Int)) : SeqAt.shaped (pairsD ks) = true := by
  refine shaped_list (n := 1) (fun x hx => ?_) (fun x hx => ?_) (by decide)
  · obtain ⟨k, _, rfl⟩ := List.mem_map.mp hx; rfl
  · obtain ⟨k, _, rfl⟩ := List.mem_map.mp hx; exact Nat.le_refl 1
theorem PairsAt.reads {lo : Nat} {h : Heap} {l : Addr} {its : Array Value} {ks : List (Int × Int)} (x : PairsAt lo h its ks) (hl : h.IsList l its) : ∃ as, Reads h (.ref l) (pairsD ks) as := by
  refine reads_list hl (by rw [List.length_map, x.1]) fun i v e => ?_
  obtain ⟨k, a, b⟩ := x.2 i v e
  exact ⟨_, by rw [List.getElem?_map, a]; rfl, b.reads⟩

section
variable {prog : Program} {w : World} {A : Around} {E : Value → Shared → Prop} {s : Shared} {K : Frag} {mg mb : Str → Option Value} {h₀ : Heap} {f1 f5 f6 f7 f8 f9 C fI fc : Addr} {c1 c5 c6 c7 c8 c9 cI cc : Value}

set_option maxHeartbeats 8000000 in
theorem law4 {L fa e r : Nat} {cd : Value} {zs rs : Array Value} {ns : List Int} {m : Str → Option Value} {v2 v3 : Option Value} (X : LawCx K mg mb h₀ f1 f5 f6 f7 f8 f9 C fI fc c1 c5 c6 c7 c8 c9 cI cc) (S : St h₀ L m (some (.ref e)) v2 v3 s.heap)
    (hl : s.heap.IsList e zs) (hk : KeysAt (L + 4) s.heap zs (keysOf (drawnOf ns)) (textsOf (drawnOf ns)))
    (hm : m (Str.ofString "read") = some (.ref r)) (hr : s.heap.IsList r rs) (hp : PairsAt (L + 4) s.heap rs (keysOf (drawnOf ns))) (hh : A.handled = none) (hun : A.units + 64 < cLine) :
    wpAny (model prog w) A (exec (lawSt 3) (envL L fa cd)) (fun fl s' => fl = .next ∧ Mid s (fun _ => True) s') E s := by
  refine wpAny_If (wpAny_isTrue_BoolOp (wpAny_allTrue_Or_cons ?_))
  refine wpAny_isTrue_Compare1 ?_
  refine nmL S.ns hm rfl rfl rfl ?_
  refine compE (cl := []) rfl (by decide +kernel) rfl (by decide +kernel) (fun _ => rfl) hh ?_
  refine nmC S.c1 rfl rfl rfl rfl ?_
  refine ⟨e, zs, fun lo i y h => ∃ k : Int × Int, (keysOf (drawnOf ns))[i]? = some k ∧ PairAt lo h y k.1 k.2, rfl, ⟨hl, ?_, ?_, ?_, ?_, ?_⟩⟩
  · rw [hk.1, keysOf_len]; have := drawn_len ns; omega
  · rintro lo i y h h' ⟨k, a, b⟩ q; exact ⟨k, a, b.a q⟩
  · intro i v hv
    obtain ⟨k, x, _, _, r, _, _, _, rfl, _⟩ := hk.2.2 i v hv
    exact Or.inr ⟨⟨_, _, _, rfl⟩, r, rfl⟩
  · rintro Cc hC i v hv g tk E' ⟨mc, nc⟩ hlo hg
    obtain ⟨k, x, hki, hxi, r, t1, t2, t3, rfl, hr, ht⟩ := hk.2.2 i v hv
    refine asgT3 hh (isTuple_x ht hg) nc rfl rfl rfl rfl fun g₁ k₁ n₁ x₁ => ?_
    refine tupN (trees := [(false, eval _ _), (false, eval _ _)]) rfl (sp2 ?_)
    refine nmL n₁ rfl rfl rfl rfl ?_
    refine nmL n₁ rfl rfl rfl rfl ?_
    refine ⟨Nat.le_of_ble_eq_true rfl, fun g₂ ht₂ x₂ => ?_⟩
    have n₂ := n₁.keeps x₂
    obtain ⟨q1, q2⟩ := turn_end (ExtBut.x x₁ x₂) n₂
    exact ⟨g₂, _, rfl, ⟨_, n₂⟩, ⟨k, hki, _, _, _, rfl, n₁.lt, ht₂⟩, q1, q2⟩
  · intro D lo h₁ tk ys hD hlo hx₁ hpl hys hP
    have S₁ := S.x hx₁
    have hp₁ : PairsAt lo h₁ ys (keysOf (drawnOf ns)) := ⟨by rw [hys, hk.1], hP⟩
    refine ne_same (d := pairsD (keysOf (drawnOf ns))) ((hp.a (hx₁.a _)).reads (isList_x hr hx₁)) (hp₁.reads hpl.isList) (pairsD_shaped _) hun (wpAny_truthy_bool ?_)
    rw [if_neg Bool.false_ne_true]
    refine wpAny_allTrue_Or_cons (wpAny_isTrue_Compare1 ?_)
    refine compNest rfl (by decide +kernel) rfl (by decide +kernel) (fun _ => rfl) hh (fun _ => rfl) (fun _ => rfl) rfl ?_
    refine nmL S₁.ns hm rfl rfl rfl ?_
    refine ⟨r, rs, rfl, isList_x hr hx₁, ?_, ?_, ?_⟩
    · intro i v hv
      obtain ⟨k, _, q⟩ := (hp.a (hx₁.a _)).2 i v hv
      exact ⟨_, _, q.lo (Nat.zero_le _)⟩
    · intro Cc n u g tk2 mc Q' E' hC nc hy hg hq
      refine wpAny_isTrue_Compare1 ?_
      refine Call_Name1 ?_
      refine nmB (X.W.keeps (S₁.ext.tr hg)) rfl rfl X.N.type0 X.N.type1 rfl rfl rfl ?_
      refine PySem.callWith_type1 ?_
      refine nmL nc hy rfl rfl rfl ?_
      refine call_type_of (typeIs_int _ _ _) (by decide) ?_
      refine nmB (X.W.keeps (S₁.ext.tr hg)) rfl rfl X.N.int0 X.N.int1 rfl rfl rfl ?_
      exact wpAny_isNot_self rfl (wpAny_truthy_bool hq)
    · intro D2 h₂ tk2 hpl2 hx₂
      dsimp only at hx₂ ⊢
      refine wpAny_List_spliced (spliced_nil ⟨Nat.zero_le _, ?_⟩)
      dsimp only
      generalize hH : Heap.push h₂ _ = h₃
      have hx₃ : Ext h₂ h₃ := hH ▸ Ext.push _ _
      have hl₃ : h₃.IsList h₂.objs.size #[] := ⟨_, hH ▸ Heap.get?_push_size _ rfl, rfl, _, rfl⟩
      clear hH
      refine ne_same (d := .list []) (reads_list (isList_x hpl2.isList hx₃) rfl fun i v q => by simp at q) (reads_list hl₃ rfl fun i v q => by simp at q) rfl hun (wpAny_truthy_bool ?_)
      rw [if_neg Bool.false_ne_true]
      refine wpAny_allTrue_Or_nil ?_
      rw [if_neg Bool.false_ne_true]
      exact wpAny_execs_nil ⟨rfl, h₃, _, rfl, (hx₁.tr hx₂).tr hx₃, trivial⟩
end
end Mine

/-! # B0 -/
namespace Mine
/-! ## int() of a text that is no number, called out of map -/
def own0 : List String := ["int.__new__"]
def Bar (Γ : Ctx) : Prop := Γ.code.env? = none ∧ pythonCodeMadeTheCall own0 (Γ.below.map (·.1)) = false
theorem pcm_cons {c : Code} {l : List Code} (hc : c.env? = none) (h : pythonCodeMadeTheCall own0 l = false) : pythonCodeMadeTheCall own0 (c :: l) = false := by
  unfold pythonCodeMadeTheCall at h ⊢
  rw [List.any_cons, List.any_cons, List.takeWhile_cons, hc]
  simp only [Option.isSome_none, Bool.false_or, Option.isNone_none, if_true, List.all_cons]
  generalize hA : (List.any l fun c => match c with | .builtin "claim.caller" _ => true | _ => false) = a at h ⊢
  cases a with
  | true => simp
  | false =>
    simp only [Bool.or_false, Bool.not_false, Bool.true_and] at h ⊢
    rw [Bool.and_eq_false_iff] at h ⊢
    rcases h with h | h
    · left; rw [Bool.and_eq_false_iff]; right; exact h
    · right; rw [Bool.and_eq_false_iff]; right; exact h
theorem pcm_map {a : Args} {l : List Code} : pythonCodeMadeTheCall own0 (.builtin "map.__next__" a :: l) = false := by
  unfold pythonCodeMadeTheCall
  rw [List.takeWhile_cons, show (Code.builtin "map.__next__" a).env? = none from rfl]
  simp only [Option.isNone_none, if_true, List.all_cons]
  rw [Bool.and_eq_false_iff]; right
  rw [Bool.and_eq_false_iff]; left
  rfl
def wpB {α : Type} (M : Model) (A : Around) (t : Sem α) (Q : α → Shared → Prop) (E : Value → Shared → Prop) (s : Shared) : Prop :=
  ∀ Γ p, Γ.In A → Bar Γ → Sem.wp M Γ t (fun a _ s' => Q a s') (fun e _ s' => E e s') p s
def codeB (M : Model) (A : Around) (c : Code) (R : Result → Shared → Prop) (s : Shared) : Prop :=
  ∀ Γ p, Γ.code = c → Γ.Below A → Bar Γ → wpCode M Γ R p s
section
variable {α β : Type} {M : Model} {A : Around} {E : Value → Shared → Prop} {s : Shared}
theorem wpB.of {t : Sem α} {Q : α → Shared → Prop} (h : wpAny M A t Q E s) : wpB M A t Q E s := fun Γ p a _ => h Γ p a
theorem wpB_mono {t : Sem α} {Q Q' : α → Shared → Prop} {E' : Value → Shared → Prop} (h : wpB M A t Q E s) (hQ : ∀ a s, Q a s → Q' a s) (hE : ∀ e s, E e s → E' e s) : wpB M A t Q' E' s :=
  fun Γ p a b => Sem.wp_mono M Γ t (fun a _ s => hQ a s) (fun e _ s => hE e s) p s (h Γ p a b)
theorem wpB_bind {m : Sem α} {f : α → Sem β} {Q : β → Shared → Prop} (h : wpB M A m (fun a s' => wpB M A (f a) Q E s') E s) : wpB M A (m >>= f) Q E s := fun Γ p a b => by
  rw [Sem.wp_bind']
  exact Sem.wp_mono M Γ m (fun x p' s' h' => h' Γ p' a b) (fun _ _ _ h' => h') p s (h Γ p a b)
theorem wpB_bindA {m : Sem α} {f : α → Sem β} {Q : β → Shared → Prop} (h : wpAny M A m (fun a s' => wpB M A (f a) Q E s') E s) : wpB M A (m >>= f) Q E s := wpB_bind (wpB.of h)
theorem wpB_pure {a : α} {Q : α → Shared → Prop} (h : Q a s) : wpB M A (pure a) Q E s := fun _ _ _ _ => h
theorem wpB_holding {vs : List Value} {m : Sem α} {Q : α → Shared → Prop} (h : wpB M A m Q E s) : wpB M A (holding vs m) Q E s := fun Γ p a b => by rw [Sem.wp_holding]; exact h Γ p a b
theorem Bar.enter {Γ : Ctx} (b : Bar Γ) (c : Code) (hc : c.env? = none) (hd : Option Value) (p : Pos) : Bar (Γ.enter c hd p) := ⟨hc, pcm_cons b.1 b.2⟩
theorem wpB_call {f : Value} {pos : List Value} {Q : Value → Shared → Prop}
    (hc : codeB M A (.call f ⟨pos, []⟩) (fun r s' => match r with | .ok (.ret v) => Q v s' | .ok _ => False | .error e => E e s') s) : wpB M A (call f pos) Q E s := fun Γ p a b => by
  show Sem.wp M Γ (runValue _) _ _ p s
  rw [Sem.wp_runValue]; exact hc _ p rfl (a.enter _ none p (by intro x; cases x)) (b.enter _ rfl _ _)
theorem codeB_of_tree {c : Code} {R : Result → Shared → Prop}
    (h : wpB M (A.under c) (M.den c) (fun fin s' => match fin with | .done f => R (.ok f) s' | .again c' => c'.quiet = true ∧ c'.env? = none ∧ codeB M A c' R s') (fun e s' => R (.error e) s') s) : codeB M A c R s := fun Γ p hc hΓ hb => by
  rw [wpCode_iff_wp, hc]
  refine Sem.wp_mono M Γ _ (fun fin p' s' h' => ?_) (fun _ _ _ h' => h') p s (h Γ p (hc ▸ hΓ.in) hb)
  cases fin with
  | done f => exact h'
  | again c' => exact ⟨h'.1, h'.2.2 (Γ.goto c') p' rfl (hΓ.goto c') ⟨h'.2.1, hb.2⟩⟩
/-- no mark is made -/
theorem wpB_mark {e : Value} {Q : Unit → Shared → Prop} (h : Q () s) : wpB M A (markTheRefusal own0 e) Q E s := fun Γ p _ b => by
  unfold markTheRefusal
  rw [Sem.wp_bind']
  show Sem.wp M Γ (.stack .pure) _ _ p s
  rw [Sem.wp_stack]
  have q := pcm_cons b.1 b.2
  show Sem.wp M Γ (if pythonCodeMadeTheCall own0 (Γ.code :: Γ.below.map (·.1)) = true then _ else pure ()) _ _ p s
  rw [if_neg (by rw [q]; exact Bool.false_ne_true)]
  exact h
end
/-- out of map's own code -/
theorem wpOwn_callB {M : Model} {A : Around} {E : Value → Shared → Prop} {s : Shared} {a : Args} {f : Value} {pos : List Value} {Q : Value → Shared → Prop} (h : codeB M (A.under (.builtin "map.__next__" a)) (.call f ⟨pos, []⟩) (fun r s' => match r with | .ok (.ret v) => Q v s' | .ok _ => False | .error e => E e s') s) :
    wpOwn M A (.builtin "map.__next__" a) (call f pos) Q E s := fun Γ p hc hΓ => by
  show Sem.wp M Γ (runValue _) _ _ p s
  rw [Sem.wp_runValue]
  refine h _ p rfl ((hc ▸ hΓ.in).enter _ none p (by intro x; cases x)) ⟨rfl, ?_⟩
  show pythonCodeMadeTheCall own0 (Γ.code :: Γ.below.map (·.1)) = false
  rw [hc]; exact pcm_map
end Mine

/-! # B1 -/
namespace Mine
section
variable {prog : Program} {w : World} {A : Around} {R : Result → Shared → Prop} {s : Shared}
theorem codeB_builtin {id : String} {args : Args} {b : Builtin} (hb : entryFor table id = some b)
    (h : wpB (model prog w) (A.under (.builtin id args)) (b args)
      (fun fin s' => match fin with | .done f => R (.ok f) s' | .again c' => c'.quiet = true ∧ c'.env? = none ∧ codeB (model prog w) A c' R s') (fun e s' => R (.error e) s') s) :
    codeB (model prog w) A (.builtin id args) R s := by
  refine codeB_of_tree ?_
  show wpB _ _ (match entryFor table id with | some b => b args | none => unsupported ((withoutEnding? id "#data").getD id)) _ _ s
  rw [hb]; exact h
theorem codeB_call_builtin {id : String} {args : Args} {b : Builtin} (hq : plainId id = true) (hb : entryFor table id = some b) (hcn : checkBuiltinCall id args = pure ())
    (h : wpB (model prog w) A.in1 (b args)
      (fun fin s' => match fin with | .done f => R (.ok f) s' | .again c' => c'.quiet = true ∧ c'.env? = none ∧ codeB (model prog w) A c' R s') (fun e s' => R (.error e) s') s) :
    codeB (model prog w) A (.call (.builtin id) args) R s := by
  refine codeB_of_tree ?_
  show wpB _ A.in1 (do checkBuiltinCall id args; again (.builtin id args)) _ _ s
  rw [hcn]
  refine wpB_pure (And.intro (plainId_quiet hq args) ⟨rfl, codeB_builtin hb ?_⟩)
  rw [Around.under_plainId hq args]; exact h
theorem codeB_call_int {x : Value}
    (h : codeB (model prog w) A.in1 (.call (.builtin "int.__new__") ⟨[.type "int", x], []⟩) (fun r s' => match r with | .ok _ => False | .error e => R (.error e) s') s) :
    codeB (model prog w) A (.call (.type "int") ⟨[x], []⟩) R s := by
  refine codeB_of_tree ?_
  show wpB _ _ (callAny (.type "int") _) _ _ _
  refine wpB_pure ⟨Code.quiet_builtin _ (by decide +kernel), rfl, codeB_builtin F.entry_type_call ?_⟩
  rw [Around.under_plain (weight_type_call_type "int" [x] []) (units_type_call_type "int" [x] [])]
  obtain ⟨c, tl, hmro⟩ := F.called_int.mro
  unfold Builtin.«type.__call__»
  dsimp only
  rw [if_neg (by rw [F.called_int.notType]; exact Bool.false_ne_true)]
  rw [if_neg (by rw [F.called_int.canCreate]; exact Bool.false_ne_true), F.typeCall_int_1 x]
  refine wpB_bind (wpB_pure ?_)
  rw [hmro]
  refine wpB_bind (wpB_pure ?_)
  rw [if_neg (by exact Bool.false_ne_true), F.called_int.made]
  refine wpB_bind (wpB_pure ?_)
  dsimp only
  refine wpB_bind (wpB_pure ?_)
  refine wpB_bind (wpB_holding (wpB_call (fun Γ p a b c => wpCode_mono (fun r s' q => ?_) (h Γ p a b c))))
  cases r with
  | error e => exact q
  | ok f => exact q.elim
theorem int_new_a {t : Tok} {Q : PySem.Fin → Shared → Prop} {E : Value → Shared → Prop} (hh : A.handled = none) 
    (h : ∀ h' tk e v, Heap.MadeExc s.heap h' e "ValueError" [v] → E (.ref e) { s with heap := h', toks := tk }) :
    wpB (model prog w) A (Builtin.«int.__new__» ⟨[.type "int", .str (Str.ofString "a") t], []⟩) Q E s := by
  unfold Builtin.«int.__new__»
  dsimp only
  have f1 := F.conv_sub_int
  have f2 := F.madeHere_int
  have f3 := KIN.str_int
  have f4 := KIN.str_idx
  have f5 := KIN.str_trunc
  have f6 : typeOf (.str (Str.ofString "a") t) = pure (.type "str") := rfl
  refine wpB_bindA ?_
  repeat (any_goals (first | assumption | wp_step))
  rw [if_neg (by decide)]
  refine wpB_bindA ?_
  repeat (any_goals (first | assumption | wp_step))
  rw [if_neg (by decide)]
  refine wpB_bindA ?_
  repeat (any_goals (first | assumption | wp_step))
  rw [if_neg (by simp), if_neg (by simp)]
  refine wpB_bind (wpB_pure ?_)
  show wpB _ _ ((int_private% "intFromObject") (.str (Str.ofString "a") t) >>= _) _ _ _
  refine wpB_bind ?_
  refine wpB_bindA ?_
  repeat (any_goals (first | assumption | wp_step))
  dsimp only
  refine wpB_bindA ?_
  repeat (any_goals (first | assumption | wp_step))
  rw [if_neg (by decide)]
  refine wpB_bindA ?_
  repeat (any_goals (first | assumption | wp_step))
  dsimp only
  refine wpB_bindA (m := (int_private% "numeralText?") _) (wpAny_pure ?_)
  dsimp only
  rw [if_pos (by decide +kernel), show (Str.ofString "a").cps.toList = [97] from by decide +kernel]
  refine wpB_bindA ?_
  repeat (any_goals (first | assumption | wp_step))
  dsimp only
  rw [show (int_private% "readNumeral") 0 10 (List.takeWhile (fun x => x != 0) [97]) = int_private% "Numeral.invalid" from by kernel_rfl]
  dsimp only
  refine wpB_bindA (m := (int_private% "bytesOf?") _) (wpAny_pure ?_)
  rw [if_neg (by simp)]
  refine wpB_bindA (wpAny_rule ?_)
  refine wpB_bindA (m := (int_private% "bytesOf?") _) (wpAny_pure ?_)
  dsimp only
  refine wpB_bindA (wpAny_pyRepr_str ?_ (by rw [sizeLine_eq]; decide +kernel))
  refine wpB_bindA (wpAny_mkStr ?_ (by rw [sizeLine_eq]; decide +kernel))
  refine wpB_bindA (wpAny_newExc_plain plainExc_ValueError fun h' e hm => ?_)
  refine wpB_bind (wpB_mark ?_)
  exact wpB.of (wpAny_raiseNew_none hh (h _ _ _ _ hm))
end
end Mine

/-! # B2 -/
namespace Mine
theorem value_not_stop : isSubtype (.type "ValueError") (.type "StopIteration") = pure false := by rw [isSubtype_type]; kernel_rfl
section
variable {prog : Program} {w : World} {A : Around} {E : Value → Shared → Prop} {s : Shared}
theorem wpOwn_holding {α : Type} {M : Model} {c : Code} {vs : List Value} {m : Sem α} {Q : α → Shared → Prop} (h : wpOwn M A c m Q E s) : wpOwn M A c (holding vs m) Q E s := fun Γ p a b => by rw [Sem.wp_holding]; exact h Γ p a b
theorem pyNext_map_a {e T it l : Addr} {i : Nat} {items : Array Value} {t : Tok} {Q : Option Value → Shared → Prop} (hh : A.handled = none) (he : IsMap s.heap e T (.type "int")) (hT : IsOne s.heap T (.ref it))
    (hit : s.heap.IsListIter it l i) (hl : s.heap.IsList l items) (hx : items[i]? = some (.str (Str.ofString "a") t)) (hne : e ≠ it)
    (h : ∀ h₁ h' tk x, Heap.SameBut it s.heap h₁ → Heap.NewExc h₁ h' x "ValueError" → E (.ref x) { s with heap := h', toks := tk }) :
    wpAny (model prog w) A (pyNext (.ref e)) Q E s := by
  have hTy : s.TypeIs (.ref e) "map" := ⟨_, he, rfl⟩
  unfold pyNext
  refine wpAny_bind (wpAny_attempt (wpAny_callSpecial?_slot (name := Str.ofString "__next__") hTy slot_map_next
    (wpAny_call (codeAny_call_builtin_own (plainId_quiet slot_map_next.plain _) entry_map_next (slot_map_next.check _ _ _ _ _ _ _ _ hTy (args_map_next_1 _) ?_)))))
  show wpOwn _ _ _ (field (.ref e) 0 >>= _) _ _ _
  refine wpOwn_bind (wpOwn_of_wpAny (wpAny_field he rfl (x := .ref T) rfl ?_))
  refine wpOwn_bind (wpOwn_of_wpAny (wpAny_seqItems hT rfl ?_))
  show wpOwn _ _ _ (forIn (#[.ref it] : Array Value) (#[] : Array Value) _ >>= _) _ _ _
  refine wpOwn_bind (wpOwn_of_wpAny ?_)
  rw [← Array.forIn_toList]
  simp only [List.forIn_cons, List.forIn_nil]
  refine wpAny_bind (wpAny_bind (wpAny_holding (wpAny_nextOf_list_item hit hl hx fun h₁ hit₁ hs₁ => wpAny_pure ?_)))
  refine wpAny_pure ?_
  have he₁ : IsMap h₁ e T (.type "int") := hs₁.extBut _ _ hne he
  show wpOwn _ _ _ (field (.ref e) 1 >>= _) _ _ _
  refine wpOwn_bind (wpOwn_of_wpAny (wpAny_field he₁ rfl (x := .type "int") rfl ?_))
  refine wpOwn_bind (wpOwn_holding ?_)
  refine wpOwn_callB (codeB_call_int (codeB_call_builtin (by decide +kernel) F.entry_int_new (F.newCall_int_1 _) (int_new_a ?_ ?_)))
  · exact hh
  · intro h' tk x v hm
    dsimp only
    refine wpAny_bind (wpAny_isInstance (T := "ValueError") (b := false) ?_ value_not_stop ?_)
    · obtain ⟨_, q, _⟩ := hm.there; exact ⟨_, q, rfl⟩
    · rw [if_neg Bool.false_ne_true]
      exact wpAny_throw (h h₁ h' tk x hs₁ hm.newExc)

abbrev Bad (it : Addr) (E : Value → Shared → Prop) (s : Shared) : Prop := ∀ h₁ h' tk x, Heap.ExtBut it s.heap h₁ → Heap.NewExc h₁ h' x "ValueError" → E (.ref x) { s with heap := h', toks := tk }
section
variable {e T it l : Addr} {Q : List Value → Shared → Prop} (hh : A.handled = none) (he : IsMap s.heap e T (.type "int")) (hT : IsOne s.heap T (.ref it)) (hit : s.heap.IsListIter it l 0) (h1 : e ≠ it) (h2 : T ≠ it) (h3 : l ≠ it) (h : Bad it E s)
include hh he hT hit h1 h2 h3 h
omit h2 h3 in
theorem unpack_a {t : Tok} {y : Value} (hl : s.heap.IsList l #[.str (Str.ofString "a") t, y]) : wpAny (model prog w) A (unpackItems (.ref e) 2 none) Q E s := by
  have hTy : s.TypeIs (.ref e) "map" := ⟨_, he, rfl⟩
  unfold unpackItems
  refine wpAny_bind ?_
  unfold notIterableAtAll
  refine wpAny_bind (wpAny_specialOf hTy slot_map_iter.lookup (wpAny_pure ?_))
  simp only [Bool.false_eq_true, if_false]
  refine wpAny_bind (wpAny_holding (pyIter_map he ?_))
  refine wpAny_bind (wpAny_holding ?_)
  show wpAny _ _ (pyNext (.ref e) >>= _) _ _ s
  exact wpAny_bind (pyNext_map_a hh he hT hit hl rfl h1 fun h₁ h' tk x a b => h h₁ h' tk x a.extBut b)
theorem unpack_few {a : Str} {ta : Tok} {i : Int} (ha : PySem.intText? a = some i) (hla : a.length ≤ 640) (hl : s.heap.IsList l #[.str a ta]) : wpAny (model prog w) A (unpackItems (.ref e) 2 none) Q E s := by
  have hTy : s.TypeIs (.ref e) "map" := ⟨_, he, rfl⟩
  unfold unpackItems
  refine wpAny_bind ?_
  unfold notIterableAtAll
  refine wpAny_bind (wpAny_specialOf hTy slot_map_iter.lookup (wpAny_pure ?_))
  simp only [Bool.false_eq_true, if_false]
  refine wpAny_bind (wpAny_holding (pyIter_map he ?_))
  refine wpAny_bind (wpAny_holding ?_)
  show wpAny _ _ (pyNext (.ref e) >>= _) _ _ s
  refine wpAny_bind (pyNext_map_item he hT hit hl (x := .str a ta) rfl h1 fun g1 it1 s1 => ?_)
  refine KIN.call_text ha hla ?_
  refine wpAny_bind (wpAny_holding ?_)
  show wpAny _ _ (pyNext (.ref e) >>= _) _ _ _
  refine wpAny_bind (pyNext_map_end hh (isMap_same he s1.extBut h1) (isOne_same hT s1.extBut h2) it1 (hl.extBut s1.extBut h3) rfl fun g2 s2 => ?_)
  refine wpAny_pure (wpAny_pure ?_)
  simp only [List.length_cons, List.length_nil]
  rw [if_pos (by decide)]
  refine wpAny_bind (wpAny_rule ?_)
  exact wpAny_bind (raiseError_exc (hm := by rw [sizeLine_eq]; decide +kernel) excClass_ValueError hh fun h' tk x q => h g2 h' tk x (fun b o hb e => s2 b o hb (s1.extBut b o hb e)) q)
theorem unpack_many {a b c : Str} {ta tb tc : Tok} {i j k : Int} (ha : PySem.intText? a = some i) (hla : a.length ≤ 640) (hb : PySem.intText? b = some j) (hlb : b.length ≤ 640) (hc : PySem.intText? c = some k) (hlc : c.length ≤ 640) (hl : s.heap.IsList l #[.str a ta, .str b tb, .str c tc]) : wpAny (model prog w) A (unpackItems (.ref e) 2 none) Q E s := by
  have hTy : s.TypeIs (.ref e) "map" := ⟨_, he, rfl⟩
  unfold unpackItems
  refine wpAny_bind ?_
  unfold notIterableAtAll
  refine wpAny_bind (wpAny_specialOf hTy slot_map_iter.lookup (wpAny_pure ?_))
  simp only [Bool.false_eq_true, if_false]
  refine wpAny_bind (wpAny_holding (pyIter_map he ?_))
  refine wpAny_bind (wpAny_holding ?_)
  show wpAny _ _ (pyNext (.ref e) >>= _) _ _ s
  refine wpAny_bind (pyNext_map_item he hT hit hl (x := .str a ta) rfl h1 fun g1 it1 s1 => ?_)
  refine KIN.call_text ha hla ?_
  refine wpAny_bind (wpAny_holding ?_)
  show wpAny _ _ (pyNext (.ref e) >>= _) _ _ _
  have he₁ := isMap_same he s1.extBut h1
  have hT₁ := isOne_same hT s1.extBut h2
  have hl₁ := hl.extBut s1.extBut h3
  refine wpAny_bind (pyNext_map_item he₁ hT₁ it1 hl₁ (x := .str b tb) rfl h1 fun g2 it2 s2 => ?_)
  refine KIN.call_text hb hlb ?_
  refine wpAny_bind (wpAny_holding (wpAny_pure (wpAny_pure (wpAny_pure ?_))))
  simp only [List.length_cons, List.length_nil, Nat.lt_irrefl, if_false]
  refine wpAny_bind (wpAny_holding (pyNext_map_item (isMap_same he₁ s2.extBut h1) (isOne_same hT₁ s2.extBut h2) it2 (hl₁.extBut s2.extBut h3) (x := .str c tc) rfl h1 fun g3 it3 s3 => ?_))
  refine KIN.call_text hc hlc ?_
  rw [if_pos (by rfl)]
  refine wpAny_bind (wpAny_rule ?_)
  exact wpAny_bind (raiseError_exc excClass_ValueError hh fun h' tk x q => h g3 h' tk x (fun b o hb e => s3.extBut b o hb (s2.extBut b o hb (s1.extBut b o hb e))) q)
end
end
end Mine

/-! # B3 -/
namespace Mine
section
variable {prog : Program} {w : World} {A : Around} {E : Value → Shared → Prop} {s : Shared} {mg mb : Str → Option Value}
theorem leaves_newS {M : Model} {base h : Heap} {env : Env} {outer : List Env} {L e : Addr} {cls : String} {Q : Unit → Shared → Prop}
    (hfr : A.frames = some (env :: outer)) (hf : env.frame = some L) (hkb : base.StaysIn h) (hl : h.FunFrames base (env :: outer)) (hx : Heap.NewExc h s.heap e cls)
    (hQ : ∀ h' a0, Heap.FlyingW base outer e (.type cls) a0 h' → s.heap.UpToSlots h' → Q () { s with heap := h' }) : wpAny M A (leaving env (.ref e)) Q E s := by
  obtain ⟨ob, t, he, hcls, hd⟩ := hx.there
  have fresh : ∀ b, h.get? b = none → base.get? b = none := fun b hb => by
    cases hq : base.get? b with
    | none => rfl
    | some o' => have := hkb b o' hq; rw [hb] at this; cases this
  refine wpAny_leaving_firstW (a0 := t) hfr (hl.of_keeps fun b o hb _ => ⟨o, hx.keeps b o hb, rfl⟩) hf he (fun b o hb => hx.keeps b o (hkb b o hb)) (fresh e hx.new) hd rfl rfl fun h' hL => ?_
  obtain ⟨k1, ⟨_, _, k2⟩, k3, k4⟩ := hL
  exact hQ h' t ⟨k1, fresh e hx.new, k2, hcls ▸ k3⟩ k4

def BadText (x : Str) : Prop := x = Str.ofString "12" ∨ x = Str.ofString "1.2.3" ∨ x = Str.ofString "a.1"

set_option maxHeartbeats 4000000 in
theorem glc_raises {f : Addr} {cdv : Value} {x : Str} {t : Tok} {Q : Value → Shared → Prop} {base : Heap} {outer : List Env} (N : Nm mg mb) (W : W0 mg mb s.heap) (D : Def s.heap f (top 1) (Str.ofString "get_line_col") cdv)
    (hroom : A.depth < recursionLimit) (hh : A.handled = none) (hfr : A.frames = some outer) (hb : base.StaysIn s.heap) (hlf : s.heap.FunFrames base outer) (hx : BadText x)
    (h : ∀ h' tk e a0, Heap.FlyingW base outer e (.type "ValueError") a0 h' → s.heap.UpToSlots h' → E (.ref e) { s with heap := h', toks := tk }) :
    wpAny (model prog w) A (call (.ref f) [.str x t]) Q E s := by
  refine enter (binds := [(Str.ofString "index", .str x t)]) W D hroom (fun _ _ _ _ => rfl) (by decide +kernel) (locs rfl) rfl rfl rfl fun h₁ tk₁ hns hx₁ => ?_
  refine wpAny_execs_cons ?_
  refine Assign_Tuple ?_
  refine Call_Name (trees := [(false, _), (false, _)]) rfl ?_
  refine nmB (W.keeps hx₁) rfl rfl N.map0 N.map1 rfl rfl rfl ?_
  refine cwT rfl (sp2 ?_)
  refine nmB (W.keeps hx₁) rfl rfl N.int0 N.int1 rfl rfl rfl ?_
  refine wpAny_Call_method_lateS rfl rfl rfl ?_
  refine nmL hns rfl rfl rfl rfl ?_
  refine ⟨"str", "str.split", F.plainAttrs_str, F.slot_str_split, F.type_str_split, typeIs_str _ _ _, (fun _ e => nomatch e), ?_⟩
  refine cwB (y := eval _ _) (rest := []) rfl (sp1 ?_)
  refine wpAny_Constant_str ?_
  have F₁ : Fr s.heap s.heap.objs.size h₁ _ := ⟨hns, hx₁, Nat.le_refl _⟩
  refine splitN1 F₁ News.nil (by decide +kernel) (fun l h₂ k₂ el F₂ N₂ => ?_) (by rw [sizeLine_eq]; rcases hx with rfl | rfl | rfl <;> decide +kernel)
  have hlist := News.isList N₂ (.head _)
  clear N₂ F₁
  dsimp only at hlist ⊢
  have hl2 : h₁.objs.size < h₂.objs.size := by obtain ⟨_, e, _⟩ := hlist; exact Heap.lt_size e
  have hL2 : s.heap.objs.size < h₂.objs.size := F₂.ns.lt
  refine call_map_2 hlist fun h₃ hM hO hI hz hk => ?_
  dsimp only at hM hO hI hz hk ⊢
  refine wpAny_bind (wpAny_standAt ?_)
  refine wpAny_bind (wpAny_holding ?_)
  have hlist₃ : h₃.IsList h₁.objs.size _ := hlist.at fun o e => hk _ o e
  have hbad : Bad h₂.objs.size (fun e s' => wpAny (model prog w) (A.deeper (envF (top 1) (Str.ofString "get_line_col") s.heap.objs.size f cdv)) (leaving (envF (top 1) (Str.ofString "get_line_col") s.heap.objs.size f cdv) e) (fun _ s'' => E e s'') (fun e' s'' => E e' s'') s') { s with heap := h₃, toks := k₂ } := by
    intro g g' tk e hg hnew
    have hsg : ∀ b o, s.heap.get? b = some o → g.get? b = some o := fun b o q => hg b o (Nat.ne_of_lt (Nat.lt_trans (Heap.lt_size q) hL2)) (hk b o (F₂.keep b o q))
    have hng : g.Ns s.heap.objs.size _ := (F₂.ns.keeps hk).at' fun o e => hg _ o (Nat.ne_of_lt hL2) e
    refine leaves_newS (h := g) (Around.frames_deeper hfr) rfl (fun b o q => hsg b o (hb b o q)) (Heap.FunFrames.cons (by show ScopeKind.function ≠ ScopeKind.module; decide) rfl hng hb.fresh (hlf.of_keeps fun b o q _ => ⟨o, hsg b o q, rfl⟩)) hnew fun h' a0 hfl hup => ?_
    exact h h' tk e a0 hfl (((Heap.UpToSlots.of_keeps hsg).trans (Heap.UpToSlots.of_keeps hnew.keeps)).trans hup)
  rcases hx with rfl | rfl | rfl
  · rw [show Txt.split (Str.ofString "12") (Str.ofString ".") = [Str.ofString "12"] from by decide +kernel] at el
    obtain ⟨ta, l', rfl, el2⟩ := KSpl.cons_of el
    obtain rfl := KSpl.nil_of el2
    exact unpack_few (l := h₁.objs.size) hh hM hO hI (by simp) (by simp) (Nat.ne_of_lt hl2) hbad (a := Str.ofString "12") (i := 12) (by decide +kernel) (by decide +kernel) hlist₃
  · rw [show Txt.split (Str.ofString "1.2.3") (Str.ofString ".") = [Str.ofString "1", Str.ofString "2", Str.ofString "3"] from by decide +kernel] at el
    obtain ⟨ta, l', rfl, el2⟩ := KSpl.cons_of el
    obtain ⟨tb, l', rfl, el3⟩ := KSpl.cons_of el2
    obtain ⟨tc, l', rfl, el4⟩ := KSpl.cons_of el3
    obtain rfl := KSpl.nil_of el4
    exact unpack_many (l := h₁.objs.size) hh hM hO hI (by simp) (by simp) (Nat.ne_of_lt hl2) hbad (a := Str.ofString "1") (b := Str.ofString "2") (c := Str.ofString "3") (i := 1) (j := 2) (k := 3) (by decide +kernel) (by decide +kernel) (by decide +kernel) (by decide +kernel) (by decide +kernel) (by decide +kernel) hlist₃
  · rw [show Txt.split (Str.ofString "a.1") (Str.ofString ".") = [Str.ofString "a", Str.ofString "1"] from by decide +kernel] at el
    obtain ⟨ta, l', rfl, el2⟩ := KSpl.cons_of el
    obtain ⟨tb, l', rfl, el3⟩ := KSpl.cons_of el2
    obtain rfl := KSpl.nil_of el3
    exact unpack_a (l := h₁.objs.size) hh hM hO hI (by simp) hbad hlist₃

set_option maxHeartbeats 4000000 in
theorem refused_call {f f1 : Addr} {cdv c1 : Value} {x : Str} {t : Tok} {Q : Value → Shared → Prop} {base : Heap} {outer : List Env} (N : Nm mg mb) (W : W0 mg mb base) (D : Def s.heap f (top 7) (Str.ofString "_law_refused") cdv)
    (g1 : mg (Str.ofString "get_line_col") = some (.ref f1)) (D1 : Def s.heap f1 (top 1) (Str.ofString "get_line_col") c1)
    (hroom : A.depth + 1 < recursionLimit) (hh : A.handled = none) (hfr : A.frames = some outer) (hb : base.StaysIn s.heap) (hlf : s.heap.FunFrames base outer) (hx : BadText x)
    (h : ∀ h' tk, base.StaysIn h' → s.heap.UpToSlots h' → Q (.bool true) { s with heap := h', toks := tk }) :
    wpAny (model prog w) A (call (.ref f) [.str x t]) Q E s := by
  have W₀ : W0 mg mb s.heap := W.keeps hb
  refine enter (binds := [(Str.ofString "text", .str x t)]) W₀ D (by omega) (fun _ _ _ _ => rfl) (by decide +kernel) (locs rfl) rfl rfl rfl fun h₁ tk₁ hns hx₁ => ?_
  refine wpAny_execs_cons ?_
  refine wpAny_Try_except ?_
  refine wpAny_execs_cons (wpAny_Expr_any ?_)
  refine Call_Name (trees := [(false, eval _ _)]) rfl ?_
  refine nmG (W₀.keeps hx₁) rfl g1 rfl rfl rfl ?_
  refine cwD D1 (sp1 ?_)
  refine nmL hns rfl rfl rfl rfl ?_
  refine ⟨hx₁, ?_⟩
  refine glc_raises (base := base) N (W₀.keeps hx₁) (D1.keeps hx₁) (by show A.depth + 1 < _; omega) hh (Around.frames_deeper hfr) (fun b o q => hx₁ b o (hb b o q))
    (Heap.FunFrames.cons (by show ScopeKind.function ≠ ScopeKind.module; decide) rfl hns hb.fresh (hlf.of_keeps fun b o q _ => ⟨o, hx₁ b o q, rfl⟩)) hx fun h₂ tk₂ e a0 hfl₂ hup₂ => ?_
  refine wpAny_looks_onW (Around.frames_deeper hfr) rfl hfl₂ fun h₃ hheld₃ hup₃ => ?_
  refine wpAny_landsW hheld₃ fun h₄ hfl₄ hup₄ => ?_
  obtain ⟨ob, hob, hobc⟩ := hfl₄.there
  refine wpAny_handleBy_builtin (X := "ValueError") (T := "ValueError") (b := true) F.isExc_ValueError F.notTuple_ValueError (by rw [isSubtype_type]; kernel_rfl) ?_
  refine nmB (W.keeps hfl₄.1) rfl rfl N.ve0 N.ve1 rfl rfl rfl ⟨rfl, ⟨ob, hob, hobc⟩, ?_⟩
  rw [if_pos rfl]
  refine lands_againW hfl₄ fun h₅ hfl₅ hup₅ => ?_
  refine wpAny_execs_cons (wpAny_Return_some (wpAny_Constant_bool ?_))
  exact h h₅ _ hfl₅.1 ((((Heap.UpToSlots.of_keeps hx₁).trans hup₂).trans hup₃).trans (hup₄.trans hup₅))
end
end Mine

/-! # L5 -/
namespace Mine
/-! ## a comprehension whose turns may touch the slots of the frame X -/
structure CompOnF (prog : Program) (w : World) (A : Around) (env : Env) (elt target : Expr) (scope : Scope) (X : Nat) (mX : Str → Option Value) (Q : Value → Shared → Prop) (s₁ : Shared) (l : Nat) (its : Array Value) (P : Nat → Value → Prop) : Prop where
  list : s₁.heap.IsList l its
  sz : its.size ≤ 1000
  ne : l ≠ X
  ns : s₁.heap.Ns X mX
  go : ∀ (i : Nat) (v : Value), its[i]? = some v → GoOk target v
  turn : ∀ (C : Nat), s₁.heap.objs.size ≤ C → ∀ (i : Nat) (v : Value), its[i]? = some v → ∀ h tk m (E' : Value → Shared → Prop), h.Ns C m → h.Ns X mX → Heap.ExtBut X s₁.heap h →
    wpAny (model prog w) A (assign target (compEnvC scope [] C env) v) (fun _ s₂ => wpAny (model prog w) A (eval elt (compEnvC scope [] C env)) (fun y s₃ => ∃ h' tk' m', s₃ = { s₁ with heap := h', toks := tk' } ∧ h'.Ns C m' ∧ h'.Ns X mX ∧ P i y ∧ (∀ b o, b ≠ C → b ≠ X → h.get? b = some o → h'.get? b = some o)) E' s₂) E' { s₁ with heap := h, toks := tk }
  fin : ∀ (D : Nat) h' tk ys, s₁.heap.objs.size ≤ D → Heap.ExtBut X s₁.heap h' → h'.Ns X mX → h'.PlainList D ys → ys.size = its.size → (∀ (i : Nat) (y : Value), ys[i]? = some y → P i y) → Q (.ref D) { s₁ with heap := h', toks := tk }

section
variable {prog : Program} {w : World} {A : Around} {E : Value → Shared → Prop} {s : Shared} {env : Env} {elt target iter : Expr} {scope : Scope} {pos : Pos} {X : Nat} {mX : Str → Option Value}
theorem compEF {Q : Value → Shared → Prop} (hclos : closureFor scope env = pure []) (hcell : ∀ y ∈ scope.names, y.2 ≠ .cell) (hkind : scope.kind = .function)
    (hnames : ∀ y ∈ scope.names, y.2 = .local → scope.names.lookup y.1 = some .local) (hs : ∀ x, foldedSetIterable iter env x = pure x) (hh : A.handled = none)
    (h : wpAny (model prog w) A (eval iter env) (fun xv s₁ => ∃ l its P, xv = .ref l ∧ CompOnF prog w A env elt target scope X mX Q s₁ l its P) E s) :
    wpAny (model prog w) A (eval (.ListComp elt [⟨target, iter, [], 0⟩] scope pos) env) Q E s := by
  rw [eval_ListComp]
  refine wpAny_comprehension_free (use := none) rfl hs hclos hkind hnames (wpAny_mono h (fun xv s₁ h₁ => ?_) fun _ _ e => e)
  obtain ⟨l, its, P, rfl, O⟩ := h₁
  have hX : X < s₁.heap.objs.size := O.ns.lt
  refine wpAny_pyIter_list O.list ?_
  refine wpAny_newObj_type (wpAny_newFunctionEnv hcell (by intro y hy; simp at hy) (fun h₁ hns₁ hsb₁ => ?_) hkind)
  dsimp only at hns₁ hsb₁ ⊢
  generalize hH1 : s₁.heap.push { cls := .type "list_iterator", data := .fields #[.ref l, .int 0 0] } = H1 at hns₁ hsb₁ ⊢
  generalize hH2 : H1.push { cls := .type "list", dict := none, data := .seq ([] : List Value).toArray } = H2 at hns₁ hsb₁ ⊢
  have z1 : H1.objs.size = s₁.heap.objs.size + 1 := by rw [← hH1, Heap.size_push]
  have z2 : H2.objs.size = s₁.heap.objs.size + 2 := by rw [← hH2, Heap.size_push, z1]
  have x1 : Ext s₁.heap H1 := hH1 ▸ Ext.push _ _
  have x2 : Ext H1 H2 := hH2 ▸ Ext.push _ _
  have x3 : Ext H2 h₁ := fun b o e => hsb₁.extBut b o (Nat.ne_of_lt (Heap.lt_size e)) (Heap.get?_push_of_some _ e)
  have x : Ext s₁.heap h₁ := (x1.tr x2).tr x3
  have hit : h₁.IsListIter s₁.heap.objs.size l 0 := ⟨_, x3 _ _ (x2 _ _ (hH1 ▸ Heap.get?_push_size _ rfl)), rfl, rfl⟩
  have hacc : h₁.PlainList H1.objs.size #[] := ⟨_, x3 _ _ (hH2 ▸ Heap.get?_push_size _ rfl)⟩
  have hlist : h₁.IsList l its := isList_x O.list x
  have hll : l < s₁.heap.objs.size := by obtain ⟨_, e, _⟩ := O.list; exact Heap.lt_size e
  clear hH1 hH2 hsb₁
  have n1 : s₁.heap.objs.size ≤ H1.objs.size := by omega
  have n2 : s₁.heap.objs.size ≤ H2.objs.size := by omega
  have hmem : ∀ b : Nat, b < s₁.heap.objs.size → b ≠ X → b ∉ s₁.heap.objs.size :: H1.objs.size :: [H2.objs.size, X] := fun b hb' hbX => by
    simp only [List.mem_cons, List.not_mem_nil, or_false, not_or]; exact ⟨Nat.ne_of_lt hb', Nat.ne_of_lt (Nat.lt_of_lt_of_le hb' n1), Nat.ne_of_lt (Nat.lt_of_lt_of_le hb' n2), hbX⟩
  have d1 : s₁.heap.objs.size ≠ H2.objs.size := by omega
  have d2 : s₁.heap.objs.size ≠ X := Nat.ne_of_gt hX
  have d3 : H1.objs.size ≠ H2.objs.size := by omega
  have d4 : H1.objs.size ≠ X := Nat.ne_of_gt (Nat.lt_of_lt_of_le hX n1)
  have d5 : X ≠ H2.objs.size := Nat.ne_of_lt (Nat.lt_of_lt_of_le hX n2)
  have d6 : X < H2.objs.size + 1 := Nat.lt_succ_of_lt (Nat.lt_of_lt_of_le hX n2)
  have loop : codeAny (model prog w) A (.compLoop (.ListComp elt [⟨target, iter, [], 0⟩] scope pos) 0 (.ref s₁.heap.objs.size) (.ref H1.objs.size) (compEnvC scope [] H2.objs.size env))
      (compPost (model prog w) A E none Q (.ref H1.objs.size) H2.objs.size) { s₁ with heap := h₁, toks := s₁.toks + ([] : List (Str × Value)).length } := by
    refine compLoopL (lo := H2.objs.size + 1) [H2.objs.size, X] (fun h => (∃ m, h.Ns H2.objs.size m) ∧ h.Ns X mX) (fun i y _ => P i y) hh (Nat.ne_of_lt hll) (Nat.ne_of_lt (Nat.lt_of_lt_of_le hll n1)) (by omega) (by simp only [List.mem_cons, List.not_mem_nil, or_false, not_or]; exact ⟨d1, d2⟩)
      (by simp only [List.mem_cons, List.not_mem_nil, or_false, not_or]; exact ⟨Nat.ne_of_lt (Nat.lt_of_lt_of_le hll n2), O.ne⟩) (by simp only [List.mem_cons, List.not_mem_nil, or_false, not_or]; exact ⟨d3, d4⟩) (by omega) (by omega)
      (by intro b hb; rcases List.mem_cons.mp hb with rfl | hb; exact Nat.lt_succ_self _; rw [List.mem_singleton.mp hb]; exact d6)
      (fun h h' ⟨⟨m, n⟩, n'⟩ k => ⟨⟨m, n.at' fun o e => k _ o (by simp) e⟩, n'.at' fun o e => k _ o (by simp) e⟩) (fun _ _ _ _ q _ => q) hit hlist hacc ⟨⟨_, hns₁⟩, O.ns.keeps x⟩ O.sz (by obtain ⟨o, _, _, e, _⟩ := hns₁; exact ⟨o, e⟩) (by omega)
      (fun i v h tk Q' E' hv hit' hq => go_of (O.go i v hv) h tk Q' E' hit' hq) ?_ ?_
    · rintro i v h tk E' hv ⟨⟨m, n⟩, n'⟩ hlo hk
      refine wpAny_mono (O.turn H2.objs.size (by omega) i v hv h tk m E' n n' fun b o hb e => hk b o (hmem b (Heap.lt_size e) hb) (x b o e)) (fun _ s₂ q₂ => wpAny_mono q₂ (fun y s₃ q₃ => ?_) fun _ _ e => e) fun _ _ e => e
      obtain ⟨h', tk', m', rfl, a1, a2, a3, a4⟩ := q₃
      refine ⟨h', tk', rfl, ⟨⟨m', a1⟩, a2⟩, a3, fun b o hb e => a4 b o (fun q => hb (by simp [q])) (fun q => hb (by simp [q])) e, fun b o e => ?_⟩
      by_cases hb : b = H2.objs.size
      · obtain ⟨o', _, _, e', _⟩ := a1; exact ⟨o', hb ▸ e'⟩
      · by_cases hb' : b = X
        · obtain ⟨o', _, _, e', _⟩ := a2; exact ⟨o', hb' ▸ e'⟩
        · exact ⟨o, a4 b o hb hb' e⟩
    · rintro h tk ys ⟨⟨m, n⟩, n'⟩ hpl hys hP hk
      refine ⟨m, n, fun h'' hs'' => O.fin H1.objs.size h'' tk ys (by omega) (fun b o hb e => ?_) (n'.sameBut hs'' d5) (hpl.extBut hs''.extBut d3) hys hP⟩
      have hb' : (b : Nat) < s₁.heap.objs.size := Heap.lt_size e
      exact hs''.extBut b o (Nat.ne_of_lt (Nat.lt_of_lt_of_le hb' n2)) (hk b o (hmem b hb' hb) (x b o e))
  exact codeAny_compStart_list loop (wpAny_pyIter_listiter hit loop)
end

section
variable {prog : Program} {w : World} {A : Around} {E : Value → Shared → Prop} {s : Shared} {K : Frag} {mg mb : Str → Option Value} {h₀ : Heap} {f1 f5 f6 f7 f8 f9 C fI fc : Addr} {c1 c5 c6 c7 c8 c9 cI cc : Value}
def threeD : PyData := .list [.bool true, .bool true, .bool true]

set_option maxHeartbeats 8000000 in
theorem law5 {L fa : Nat} {cd : Value} {m : Str → Option Value} {v1 v2 v3 : Option Value} (X : LawCx K mg mb h₀ f1 f5 f6 f7 f8 f9 C fI fc c1 c5 c6 c7 c8 c9 cI cc) (hL : h₀.objs.size ≤ L) (S : St h₀ L m v1 v2 v3 s.heap)
    (hh : A.handled = none) (hroom : A.depth + 1 < recursionLimit) (hun : A.units + 64 < cLine) (hfr : A.frames = some [envL L fa cd]) :
    wpAny (model prog w) A (exec (lawSt 4) (envL L fa cd)) (fun fl s' => fl = .next ∧ ∃ h' tk, s' = { s with heap := h', toks := tk } ∧ Heap.ExtBut L s.heap h' ∧ St h₀ L m v1 v2 v3 h') E s := by
  refine wpAny_If (wpAny_isTrue_Compare1 ?_)
  refine compEF (X := L) (mX := m) rfl (by decide +kernel) rfl (by decide +kernel) (fun _ => rfl) hh ?_
  refine wpAny_List_spliced ?_
  show wpAny _ _ (spliced [(false, eval _ _), (false, eval _ _), (false, eval _ _)]) _ _ _
  refine sp3 ?_
  refine wpAny_Constant_str ?_
  refine wpAny_Constant_str ?_
  refine wpAny_Constant_str ?_
  refine ⟨Nat.le_of_ble_eq_true rfl, ?_⟩
  dsimp only
  generalize hH : Heap.push s.heap _ = h₁
  have hx₁ : Ext s.heap h₁ := hH ▸ Ext.push _ _
  have hlist₁ : h₁.IsList s.heap.objs.size _ := ⟨_, hH ▸ Heap.get?_push_size _ rfl, rfl, _, rfl⟩
  clear hH
  have S₁ := S.x hx₁
  refine ⟨s.heap.objs.size, _, fun _ y => y = .bool true, rfl, ⟨hlist₁, ?_, ?_, S₁.ns, ?_, ?_, ?_⟩⟩
  · exact Nat.le_of_ble_eq_true rfl
  · exact Nat.ne_of_gt (by have := S.size; show L < s.heap.objs.size; omega)
  · intro i v _; exact Or.inl ⟨_, _, rfl⟩
  · intro Cc hC i v hv h tk mc E' nc nL hk
    dsimp only at hC hk
    obtain ⟨x, t, rfl, hx⟩ : ∃ x t, v = .str x t ∧ BadText x := by
      match i with
      | 0 => cases hv; exact ⟨_, _, rfl, .inl rfl⟩
      | 1 => cases hv; exact ⟨_, _, rfl, .inr (.inl rfl)⟩
      | 2 => cases hv; exact ⟨_, _, rfl, .inr (.inr rfl)⟩
      | k + 3 => cases hv
    have hLC : L < Cc := by have q := S₁.size; have q2 : h₁.objs.size ≤ Cc := hC; omega
    refine stL nc rfl rfl fun g₁ k₁ n₁ s₁ => ?_
    have nL₁ : g₁.Ns L m := nL.sameBut s₁ (Nat.ne_of_lt hLC)
    have hg : ∀ b o, h₀.get? b = some o → g₁.get? b = some o ∧ b ≠ L := fun b o q => by
      have hb : (b : Nat) < h₀.objs.size := Heap.lt_size q
      have hbL : (b : Nat) < L := Nat.lt_of_lt_of_le hb hL
      exact ⟨s₁.extBut b o (Nat.ne_of_lt (Nat.lt_trans hbL hLC)) (hk b o (Nat.ne_of_lt hbL) (S₁.ext b o q)), Nat.ne_of_lt hbL⟩
    have hgx : Ext h₀ g₁ := fun b o q => (hg b o q).1
    refine Call_Name (trees := [(false, eval _ _)]) rfl ?_
    refine nmG (X.W.keeps hgx) rfl X.g7 rfl rfl rfl ?_
    refine cwD X.D7 (sp1 ?_)
    refine nmL n₁ rfl rfl rfl rfl ?_
    refine ⟨hgx, ?_⟩
    have hbase : (hideAll g₁ [L]).StaysIn g₁ := fun b o q => of_hideAll _ q
    refine refused_call (base := hideAll g₁ [L]) (outer := [envL L fa cd]) X.N (X.W.keeps fun b o q => hideAll_get _ (hg b o q).1 (by simpa using (hg b o q).2)) (X.D7.keeps hgx) X.g1 (X.D1.keeps hgx) hroom hh hfr hbase ?_ hx ?_
    · exact Heap.FunFrames.cons (by show ScopeKind.function ≠ ScopeKind.module; decide) rfl nL₁ (hideAll_none _ (List.mem_singleton.mpr rfl)) trivial
    · intro g₂ tk₂ hst hup
      refine ⟨g₂, tk₂, _, rfl, hup.ns n₁, hup.ns nL₁, rfl, fun b o hb hbL q => hst b o (hideAll_get _ (s₁.extBut b o hb q) (by simpa using hbL))⟩
  · intro D h₂ tk ys hD hk nL hpl hys hP
    dsimp only at hD hk ⊢
    have S₂ : St h₀ L m v1 v2 v3 h₂ := ⟨nL, by obtain ⟨o, e, d⟩ := S₁.c1; exact ⟨o, hk _ _ (by show (L + 1 : Nat) ≠ L; omega) e, d⟩, by obtain ⟨o, e, d⟩ := S₁.c2; exact ⟨o, hk _ _ (by show (L + 2 : Nat) ≠ L; omega) e, d⟩, by obtain ⟨o, e, d⟩ := S₁.c3; exact ⟨o, hk _ _ (by show (L + 3 : Nat) ≠ L; omega) e, d⟩,
      fun b o q => hk b o (Nat.ne_of_lt (Nat.lt_of_lt_of_le (Heap.lt_size q) hL)) (S₁.ext b o q)⟩
    refine wpAny_List_spliced ?_
    show wpAny _ _ (spliced [(false, eval _ _), (false, eval _ _), (false, eval _ _)]) _ _ _
    refine sp3 ?_
    refine wpAny_Constant_bool ?_
    refine wpAny_Constant_bool ?_
    refine wpAny_Constant_bool ?_
    refine ⟨Nat.le_of_ble_eq_true rfl, ?_⟩
    dsimp only
    generalize hH : Heap.push h₂ _ = h₃
    have hx₃ : Ext h₂ h₃ := hH ▸ Ext.push _ _
    have hl₃ : h₃.IsList h₂.objs.size #[.bool true, .bool true, .bool true] := ⟨_, hH ▸ Heap.get?_push_size _ rfl, rfl, _, rfl⟩
    clear hH
    have hr : ∀ {l : Addr} {zs : Array Value}, h₃.IsList l zs → zs.size = 3 → (∀ (i : Nat) (y : Value), zs[i]? = some y → y = .bool true) → ∃ as, Reads h₃ (.ref l) threeD as := fun {l zs} hl hz hy => by
      refine reads_list hl hz fun i v e => ?_
      have hi : i < 3 := by rw [← hz]; exact (Array.getElem?_eq_some_iff.mp e).1
      rw [hy i v e]
      refine ⟨.bool true, ?_, _, .bool ..⟩
      match i with
      | 0 => rfl
      | 1 => rfl
      | 2 => rfl
      | k + 3 => omega
    refine ne_same (d := threeD) (hr (isList_x hpl.isList hx₃) hys hP) (hr hl₃ rfl ?_) (by decide +kernel) hun (wpAny_truthy_bool ?_)
    · intro i y e
      match i with
      | 0 => cases e; rfl
      | 1 => cases e; rfl
      | 2 => cases e; rfl
      | k + 3 => cases e
    rw [if_neg Bool.false_ne_true]
    exact wpAny_execs_nil ⟨rfl, h₃, _, rfl, fun b o hb q => hx₃ b o (hk b o hb (hx₁ b o q)), S₂.x hx₃⟩
end
end Mine

/-! # L7 -/
namespace Mine
def RowsAt (lo : Nat) (h : Heap) (its : Array Value) (rows : List Row) : Prop := its.size = rows.length ∧ ∀ (i : Nat) (v : Value), its[i]? = some v → ∃ R, rows[i]? = some R ∧ RowAt lo h v R
theorem RowsAt.a {lo : Nat} {h h' : Heap} {its : Array Value} {rows : List Row} (x : RowsAt lo h its rows) (k : ExtA lo h h') : RowsAt lo h' its rows := ⟨x.1, fun i v e => let ⟨q, a, b⟩ := x.2 i v e; ⟨q, a, b.a k⟩⟩
def linesOf (ns : List Int) : List Row := (drawnOf ns).map fun n => rowOf (n.fdiv 4)
theorem linesOf_len (ns : List Int) : (linesOf ns).length ≤ 8 := by unfold linesOf; rw [List.length_map]; exact drawn_len ns
section
variable {prog : Program} {w : World} {A : Around} {E : Value → Shared → Prop} {s : Shared} {K : Frag} {mg mb : Str → Option Value} {h₀ : Heap} {f1 f5 f6 f7 f8 f9 C fI fc : Addr} {c1 c5 c6 c7 c8 c9 cI cc : Value}

set_option maxHeartbeats 8000000 in
theorem law7 {L fa d : Nat} {cd : Value} {ys : Array Value} {ns : List Int} {m : Str → Option Value} {v1 v2 v3 : Option Value} (X : LawCx K mg mb h₀ f1 f5 f6 f7 f8 f9 C fI fc c1 c5 c6 c7 c8 c9 cI cc) (hL : h₀.objs.size ≤ L) (S : St h₀ L m v1 v2 v3 s.heap)
    (hm : m (Str.ofString "drawn") = some (.ref d)) (hl : s.heap.IsList d ys) (hi : IntsAt ys (drawnOf ns)) (hh : A.handled = none) (hroom : A.depth < recursionLimit) :
    wpAny (model prog w) A (exec (lawSt 6) (envL L fa cd)) (fun fl s' => fl = .next ∧ ∃ h' tk e zs, s' = { s with heap := h', toks := tk } ∧ L + 4 ≤ e ∧ St h₀ L m v1 v2 (some (.ref e)) h' ∧ ExtA (L + 4) s.heap h' ∧ h'.IsList e zs ∧ RowsAt (L + 4) h' zs (linesOf ns)) E s := by
  have hs := S.size
  refine wpAny_Assign_Name ?_
  refine compE (cl := []) rfl (by decide +kernel) rfl (by decide +kernel) (fun _ => rfl) hh ?_
  refine nmL S.ns hm rfl rfl rfl ?_
  refine ⟨d, ys, fun lo i y h => ∃ R, (linesOf ns)[i]? = some R ∧ RowAt lo h y R, rfl, ⟨hl, ?_, ?_, ?_, ?_, ?_⟩⟩
  · rw [hi.1]; have := drawn_len ns; omega
  · rintro lo i y h h' ⟨R, a, b⟩ q; exact ⟨R, a, b.a q⟩
  · intro i v _; exact Or.inl ⟨_, _, rfl⟩
  · rintro Cc hC i v hv g tk E' ⟨mc, nc⟩ hlo hg
    obtain ⟨n, t, hni, rfl⟩ := hi.2 i v hv
    refine stL nc rfl rfl fun g₁ k₁ n₁ s₁ => ?_
    have hg₁ : Ext s.heap g₁ := hg.sameNew hC s₁
    have S₁ := S.x hg₁
    refine Call_Name (trees := [(false, eval _ _)]) rfl ?_
    refine nmG (X.W.keeps S₁.ext) rfl X.g8 rfl rfl rfl ?_
    refine cwD X.D8 (sp1 ?_)
    refine wpAny_BinOp ?_
    refine nmL n₁ rfl rfl rfl rfl ?_
    refine wpAny_Constant_int ?_
    refine floordiv_int (by decide) ?_ (Or.inl (PyProof.noPylong_small (by decide)))
    refine ⟨S₁.ext, ?_⟩
    refine row_call (X.W.keeps S₁.ext) (X.D8.keeps S₁.ext) hroom fun g₂ k₂ v x₂ hr => ?_
    have n₂ := n₁.keeps x₂
    obtain ⟨q1, q2⟩ := turn_end (ExtBut.x s₁.extBut x₂) n₂
    refine ⟨g₂, _, rfl, ⟨_, n₂⟩, ⟨rowOf (n.fdiv 4), ?_, hr.lo n₁.lt⟩, q1, q2⟩
    unfold linesOf; rw [List.getElem?_map, hni]; rfl
  · intro D lo h₁ tk zs hD hlo hx₁ hpl hzs hP
    have S₁ := S.x hx₁
    refine wpAny_storeName_cell rfl rfl rfl S₁.c3 fun h₂ c₂ s₂ => ?_
    have hA : ExtA (L + 4) h₁ h₂ := ExtA.same (show L + 3 < L + 4 by omega) s₂
    refine ⟨rfl, h₂, tk, D, zs, rfl, by omega, S₁.set3 hL c₂ s₂, (hx₁.a _).tr hA, isList_a hpl.isList (show L + 4 ≤ D by omega) hA, ?_, ?_⟩
    · rw [hzs, hi.1]; unfold linesOf; rw [List.length_map]
    · intro i v hv
      obtain ⟨R, a, b⟩ := hP i v hv
      exact ⟨R, a, (b.lo (show L + 4 ≤ lo by omega)).a hA⟩
end
end Mine

/-! # L6 -/
namespace Mine
/-- what the class must show -/
structure TM (K : Frag) (C fI fc : Addr) : Prop where
  mkC : makesIn K C = true
  ini : findIn K (.ref C) "__init__" = some (some (.ref fI))
  fnI : typeIn K (.ref fI) = some (.type "function")
  sa : findIn K (.ref C) "__setattr__" = some (some (.builtin "object.__setattr__"))
  po : plainOver K C = true
  ta : takerIn K C (Str.ofString "comp_select_list") = some none
  ga : findIn K (.ref C) "__getattr__" = some none
  cmp : findIn K (.ref C) (Str.ofString "compare") = some (some (.ref fc))
  fnc : typeIn K (.ref fc) = some (.type "function")
  keep : keepIn K (.ref C) = true
def Order2 (lo : Nat) (h : Heap) (x C rl : Addr) : Prop := ∃ ox es n, lo ≤ x ∧ (∀ dx, ox.dict = some dx → lo ≤ dx) ∧ InstAt h x ox C (some (dictOf es n)) ∧ getL (Str.ofString "comp_select_list") es = some (some (.ref rl)) ∧ getL (Str.ofString "compare") es = some none
theorem Order2.one {lo : Nat} {h : Heap} {x C rl : Addr} (o : Order2 lo h x C rl) : OrderAt h x C rl := let ⟨ox, es, n, _, _, a, b, _⟩ := o; ⟨ox, es, n, a, b⟩
theorem Order2.a {lo : Nat} {h h' : Heap} {x C rl : Addr} (o : Order2 lo h x C rl) (k : ExtA lo h h') : Order2 lo h' x C rl := by
  obtain ⟨ox, es, n, l1, l2, I, b⟩ := o
  refine ⟨ox, es, n, l1, l2, ⟨k _ _ l1 I.at_, I.cls, I.no, ?_⟩, b⟩
  have := I.dict
  cases hd : ox.dict with
  | none => rw [hd] at this; exact this.elim
  | some dx => rw [hd] at this; exact k _ _ (l2 dx hd) this
theorem Order2.lo {lo lo' : Nat} {h : Heap} {x C rl : Addr} (o : Order2 lo h x C rl) (k : lo' ≤ lo) : Order2 lo' h x C rl := let ⟨ox, es, n, l1, l2, b⟩ := o; ⟨ox, es, n, Nat.le_trans k l1, fun dx e => Nat.le_trans k (l2 dx e), b⟩

section
variable {prog : Program} {w : World} {A : Around} {R : Result → Shared → Prop} {E : Value → Shared → Prop} {s : Shared} {mg mb : Str → Option Value} {K : Frag}
theorem enterC {st : Stmt} {f : Addr} {q : Str} {cdv : Value} {args : List Value} {binds : List (Str × Value)}
    (W : W0 mg mb s.heap) (D : Def s.heap f st q cdv) (hroom : A.depth < recursionLimit)
    (hbind : ∀ doc pm an ct, bindArgs (fnOf (fName st) q (fArgs st) (fBody st) (fScope st) .none .none doc pm an cdv ct) ⟨args, []⟩ = pure binds)
    (hcell : ∀ x ∈ (fScope st).names, x.2 ≠ .cell) (hloc : ∀ x ∈ binds, (fScope st).names.lookup x.1 = some .local)
    (hco : (fScope st).isCoroutine = false) (hgen : (fScope st).isGenerator = false) (hk : (fScope st).kind = .function)
    (h : ∀ h₁ tk, h₁.Ns s.heap.objs.size (fun x => binds.reverse.lookup x) → Ext s.heap h₁ →
      wpAny (model prog w) (A.deeper (envF st q s.heap.objs.size f cdv)) (execs (fBody st) (envF st q s.heap.objs.size f cdv)) (fun fl s' => R (.ok (.ret (retOf fl))) s')
        (fun e s' => wpAny (model prog w) (A.deeper (envF st q s.heap.objs.size f cdv)) (leaving (envF st q s.heap.objs.size f cdv) e) (fun _ s'' => R (.error e) s'') (fun e' s'' => R (.error e') s'') s')
        { s with heap := h₁, toks := tk }) :
    codeAny (model prog w) A (.call (.ref f) ⟨args, []⟩) R s := by
  obtain ⟨o, doc, pm, an, ct, ho, hd, hcd⟩ := D
  refine codeAny_call_def (fd := fnOf (fName st) q (fArgs st) (fBody st) (fScope st) .none .none doc pm an cdv ct) (body := fBody st) (binds := binds) hroom ho hd W.nolimit hcd rfl (BindsTo.of_eq (hbind doc pm an ct)) hcell hloc (fun h₁ hns hk₁ => ?_) hco hgen hk
  refine wpAny_mono (h h₁ _ hns hk₁) (fun fl s' q => ?_) fun _ _ y => y
  cases fl <;> exact q

set_option maxHeartbeats 4000000 in
theorem make_call {C fI fc r : Addr} {cI : Value} {Q : Value → Shared → Prop} (W : W0 mg mb s.heap) (D : Def s.heap fI (meth 0) (Str.ofString "TupleComp.__init__") cI) (X : K.In s.heap) (T : TC K C) (U : TM K C fI fc)
    (hroom : A.depth + 2 < recursionLimit)
    (h : ∀ h' tk x, Ext s.heap h' → Order2 s.heap.objs.size h' x C r → Q (.ref x) { s with heap := h', toks := tk }) :
    wpAny (model prog w) A (call (.ref C) [.ref r]) Q E s := by
  obtain ⟨h₁, gs, dr, tk, os⟩ := s
  dsimp only at W D X
  refine wpAny_call (make_core (makes_of X U.mkC) (looks_findIn X U.ini) (fun self => bind_fn X self U.fnI) (.inl rfl) ?_)
  have e1 : (h₁.push emptyDict).objs.size = h₁.objs.size + 1 := Heap.size_push ..
  have hd₂ : ((h₁.push emptyDict).push (instObj C h₁.objs.size)).get? h₁.objs.size = some (dictOf [] 0) := Heap.get?_push_of_some _ (Heap.get?_push_size _ rfl)
  have hi₂ : ((h₁.push emptyDict).push (instObj C h₁.objs.size)).get? (h₁.objs.size + 1) = some (instObj C h₁.objs.size) := by rw [← e1]; exact Heap.get?_push_size _ rfl
  have hx₂ : Ext h₁ ((h₁.push emptyDict).push (instObj C h₁.objs.size)) := (Ext.push _ _).tr (Ext.push _ _)
  have z₂ : ((h₁.push emptyDict).push (instObj C h₁.objs.size)).objs.size = h₁.objs.size + 2 := by rw [Heap.size_push, e1]
  generalize (h₁.push emptyDict).push (instObj C h₁.objs.size) = h₂ at hd₂ hi₂ hx₂ z₂ ⊢
  refine enterC (s := ⟨h₂, gs, dr, tk, os⟩) (binds := [(Str.ofString "self", .ref (h₁.objs.size + 1)), (Str.ofString "comp_select_list", .ref r)]) (W.keeps hx₂) (D.keeps hx₂) (by show A.depth + 1 < _; omega) (fun _ _ _ _ => rfl) (by decide +kernel) (locs rfl) rfl rfl rfl fun h₃ tk₃ hns hx₃ => ?_
  dsimp only at hns hx₃ ⊢
  refine wpAny_execs_cons (plainObj_wpAny_Assign_Attribute ?_ (by with_unfolding_all rfl))
  refine nmL hns rfl rfl rfl rfl ?_
  refine nmL hns rfl rfl rfl rfl ?_
  have hd₃ := hx₃ _ _ hd₂
  have hi₃ := hx₃ _ _ hi₂
  have hn1 : h₁.get? h₁.objs.size = none := none_at _ (Nat.le_refl _)
  have hn2 : h₁.get? (h₁.objs.size + 1) = none := none_at _ (Nat.le_succ _)
  have F₃ : Fr h₁ h₂.objs.size h₃ _ := ⟨hns, hx₂.tr hx₃, by rw [z₂]; exact Nat.le_add_right _ _⟩
  have N₃ : News h₁ h₂.objs.size h₃ [(h₁.objs.size + 1, instObj C h₁.objs.size), (h₁.objs.size, dictOf [] 0)] := by
    intro q hq
    rcases List.mem_cons.mp hq with rfl | hq
    · exact ⟨hi₃, by rw [z₂]; exact Nat.ne_of_lt (Nat.lt_succ_self _), hn2⟩
    · rw [List.mem_singleton.mp hq]; exact ⟨hd₃, by rw [z₂]; exact Nat.ne_of_lt (Nat.lt_add_of_pos_right (by decide)), hn1⟩
  refine set_dict (dx := h₁.objs.size) (es := []) (n := 0) F₃ X N₃ ⟨hi₃, rfl, rfl, hd₃⟩ rfl U.sa U.po U.ta T.hd rfl rfl (.tail (Nat.ne_of_gt (Nat.lt_succ_self _)) (.head (fun _ q => nomatch q))) (Nat.le_of_ble_eq_true rfl) fun h₄ F₄ N₄ => ?_
  refine wpAny_execs_nil ?_
  refine And.intro rfl ?_
  have i4 := (N₄ _ (.head _)).1
  have d4 := (N₄ _ (.tail _ (.head _))).1
  exact h h₄ _ (h₁.objs.size + 1) F₄.keep ⟨_, _, _, Nat.le_succ _, fun dx e => by cases e; exact Nat.le_refl _, ⟨i4, rfl, rfl, d4⟩, rfl, rfl⟩
end
section
variable {prog : Program} {w : World} {A : Around} {E : Value → Shared → Prop} {s : Shared} {K : Frag} {mg mb : Str → Option Value} {h₀ : Heap} {f1 f5 f6 f7 f8 f9 C fI fc : Addr} {c1 c5 c6 c7 c8 c9 cI cc : Value}
set_option maxHeartbeats 8000000 in
theorem law6 {L fa r : Nat} {cd : Value} {m : Str → Option Value} {v1 v2 v3 : Option Value} (X : LawCx K mg mb h₀ f1 f5 f6 f7 f8 f9 C fI fc c1 c5 c6 c7 c8 c9 cI cc) (U : TM K C fI fc) (hL : h₀.objs.size ≤ L) (S : St h₀ L m v1 v2 v3 s.heap)
    (hm : m (Str.ofString "read") = some (.ref r)) (hroom : A.depth + 2 < recursionLimit) :
    wpAny (model prog w) A (exec (lawSt 5) (envL L fa cd)) (fun fl s' => fl = .next ∧ ∃ h' tk x, s' = { s with heap := h', toks := tk } ∧ St h₀ L m v1 (some (.ref x)) v3 h' ∧ ExtA (L + 4) s.heap h' ∧ Order2 (L + 4) h' x C r) E s := by
  have hs := S.size
  refine wpAny_Assign_Name ?_
  refine Call_Name (trees := backTo _ (starEach (_ :: []) _)) rfl ?_
  refine nmG (X.W.keeps S.ext) rfl X.gC rfl rfl rfl ?_
  refine callWith_K (first := []) X.KI U.keep ?_
  show wpAny _ _ (spliced [(false, eval _ _)]) _ _ _
  refine sp1 ?_
  refine nmL S.ns hm rfl rfl rfl ?_
  refine ⟨X.KI.keeps S.ext, ?_⟩
  refine make_call (X.W.keeps S.ext) (X.DI.keeps S.ext) (X.KI.keeps S.ext) X.T U hroom fun h₁ tk x hx₁ O => ?_
  have S₁ := S.x hx₁
  refine wpAny_storeName_cell rfl rfl rfl S₁.c2 fun h₂ c₂ s₂ => ?_
  have hA : ExtA (L + 4) h₁ h₂ := ExtA.same (show L + 2 < L + 4 by omega) s₂
  exact ⟨rfl, h₂, tk, x, rfl, S₁.set2 hL c₂ s₂, (hx₁.a _).tr hA, (O.lo hs).a hA⟩
end
end Mine

/-! # L8 -/
namespace Mine
section
variable {prog : Program} {w : World} {A : Around} {E : Value → Shared → Prop} {s : Shared} {env : Env} {K : Frag}
/-- a method of a class of the text's, called -/
theorem Call_methK {o : Expr} {name : Str} {apos pos : Pos} {args : List Expr} {C f : Addr} {Q : Value → Shared → Prop}
    (hbase : attributeBase o name env (eval o env) = eval o env)
    (hfew : ((backTo pos (starEach args env)).all (fun x => !x.1) && (backToKw pos (keywordEach [] env)).all (fun x => x.1.isSome)
      && decide (args.length + ([] : List Keyword).length + (if ([] : List Keyword).isEmpty then 0 else 1) < 30)) = true)
    (hline : (apos.endLine == pos.line) = true)
    (hga : findIn K (.ref C) "__getattribute__" = some (some (.builtin "object.__getattribute__"))) (hk : findIn K (.ref C) "__getattr__" = some none) (hf : findIn K (.ref C) name = some (some (.ref f))) (ht : typeIn K (.ref f) = some (.type "function"))
    (h : wpAny (model prog w) A (eval o env) (fun ov s₁ => ∃ x ox es n, ov = .ref x ∧ K.In s₁.heap ∧ InstAt s₁.heap x ox C (some (dictOf es n)) ∧ getL name es = some none ∧
      wpAny (model prog w) A (callWith pos (.ref f) [.ref x] (backTo pos (starEach args env)) []) Q E s₁) E s) :
    wpAny (model prog w) A (eval (.Call (.Attribute o name apos) args [] pos) env) Q E s := by
  rw [arm_eval_Call, hbase]
  refine wpAny_bind (wpAny_mono h (fun ov s₁ h₁ => ?_) fun _ _ e => e)
  obtain ⟨x, ox, es, n, rfl, X, I, hl, hc⟩ := h₁
  refine wpAny_bind (wpAny_standAt ?_)
  have hform : methodCallForm (args.length + ([] : List Keyword).length) (backTo pos (starEach args env)) (backToKw pos (keywordEach [] env)) = true := hfew
  have hpos : methodCallPos true o env apos pos = pure pos := by unfold methodCallPos; simp [hline]
  unfold methodCall
  rw [hform]
  refine wpAny_bind (wpAny_holding (method_fn X I hga hk hf ht (by show (lookIn name (dictOf es n)).map _ = _; rw [lookIn_dict, hl]; rfl) ?_))
  exact wpAny_bind (wpAny_of_eq hpos hc)
end
def IntRow (lo : Nat) (h : Heap) (y : Value) (vs : List Int) : Prop := ∃ (l : Nat) (its : Array Value), y = .ref l ∧ lo ≤ l ∧ h.IsList l its ∧ IntsAt its vs
theorem IntRow.a {lo : Nat} {h h' : Heap} {y : Value} {vs : List Int} (x : IntRow lo h y vs) (k : ExtA lo h h') : IntRow lo h' y vs := let ⟨l, its, a, b, c, d⟩ := x; ⟨l, its, a, b, isList_a c b k, d⟩
def matD (M : List (List Int)) : PyData := .list (M.map fun r => .list (r.map .int))
theorem matD_shaped (M : List (List Int)) : SeqAt.shaped (matD M) = true := by
  refine shaped_list (n := 1) (fun x hx => ?_) (fun x hx => ?_) (by decide)
  · obtain ⟨k, _, rfl⟩ := List.mem_map.mp hx
    refine canLay_list fun x hx => ?_
    obtain ⟨k, _, rfl⟩ := List.mem_map.mp hx; rfl
  · obtain ⟨k, _, rfl⟩ := List.mem_map.mp hx
    refine depth_list fun x hx => ?_
    obtain ⟨k, _, rfl⟩ := List.mem_map.mp hx; exact Nat.le_refl 0
theorem matD_reads {lo : Nat} {h : Heap} {l : Addr} {its : Array Value} {M : List (List Int)} (hl : h.IsList l its) (hs : its.size = M.length) (hr : ∀ (i : Nat) (v : Value), its[i]? = some v → ∃ vs, M[i]? = some vs ∧ IntRow lo h v vs) : ∃ as, Reads h (.ref l) (matD M) as := by
  refine reads_list hl (by rw [List.length_map, hs]) fun i v e => ?_
  obtain ⟨vs, a, l', its', rfl, _, hl', hi⟩ := hr i v e
  refine ⟨_, by rw [List.getElem?_map, a]; rfl, ?_⟩
  refine reads_list hl' (by rw [List.length_map, hi.1]) fun j u e' => ?_
  obtain ⟨n, t, b, rfl⟩ := hi.2 j u e'
  exact ⟨.int n, by rw [List.getElem?_map, b]; rfl, _, .int ..⟩
end Mine
namespace Mine
def MatAt (h : Heap) (l : Addr) (rows : List Row) (f : Row → Row → Int) : Prop := ∃ (lo : Nat) (its : Array Value), h.IsList l its ∧ its.size = rows.length ∧ ∀ (i : Nat) (v : Value), its[i]? = some v → ∃ R, rows[i]? = some R ∧ IntRow lo h v (rows.map (f R))
theorem MatAt.x {h h' : Heap} {l : Addr} {rows : List Row} {f : Row → Row → Int} (x : MatAt h l rows f) (k : Ext h h') : MatAt h' l rows f := let ⟨lo, its, a, b, c⟩ := x; ⟨lo, its, isList_x a k, b, fun i v e => let ⟨R, p, q⟩ := c i v e; ⟨R, p, q.a (k.a _)⟩⟩
theorem MatAt.reads {h : Heap} {l : Addr} {rows : List Row} {f : Row → Row → Int} (x : MatAt h l rows f) : ∃ as, Reads h (.ref l) (matD (rows.map fun a => rows.map (f a))) as := by
  obtain ⟨lo, its, hl, hs, hr⟩ := x
  refine matD_reads (lo := lo) hl (by rw [List.length_map, hs]) fun i v e => ?_
  obtain ⟨R, a, b⟩ := hr i v e
  exact ⟨_, by rw [List.getElem?_map, a]; rfl, b⟩
/-- the two lists of the return -/
def retL : Expr := match lawSt 7 with | .Return (some (.Compare l _ _ _)) _ => l | _ => .List [] default
def retR : Expr := match lawSt 7 with | .Return (some (.Compare _ _ [r] _)) _ => r | _ => .List [] default
section
variable {prog : Program} {w : World} {A : Around} {E : Value → Shared → Prop} {s : Shared} {K : Frag} {mg mb : Str → Option Value} {h₀ : Heap} {f1 f5 f6 f7 f8 f9 C fI fc : Addr} {c1 c5 c6 c7 c8 c9 cI cc : Value}
set_option maxHeartbeats 8000000 in
theorem retL_ok {L fa e x d r : Nat} {cd : Value} {m : Str → Option Value} {zs rs ls : Array Value} {ns : List Int} {Q : Value → Shared → Prop} (X : LawCx K mg mb h₀ f1 f5 f6 f7 f8 f9 C fI fc c1 c5 c6 c7 c8 c9 cI cc) (U : TM K C fI fc) (S : St h₀ L m (some (.ref e)) (some (.ref x)) (some (.ref d)) s.heap)
    (he : s.heap.IsList e zs) (hk : KeysAt (L + 4) s.heap zs (keysOf (drawnOf ns)) (textsOf (drawnOf ns))) (hO : Order2 (L + 4) s.heap x C r) (hr : s.heap.IsList r rs) (hp : PairsAt (L + 4) s.heap rs (keysOf (drawnOf ns)))
    (hd : s.heap.IsList d ls) (hl : RowsAt (L + 4) s.heap ls (linesOf ns)) (hh : A.handled = none) (hroom : A.depth < recursionLimit) (hun : A.units + 64 < cLine)
    (rest : ∀ h' tk (D : Nat), Ext s.heap h' → MatAt h' D (linesOf ns) (fun a b => cmpF a b (keysOf (drawnOf ns))) → Q (.ref D) { s with heap := h', toks := tk }) :
    wpAny (model prog w) A (eval retL (envL L fa cd)) Q E s := by
  have hs := S.size
  have hlen : ls.size ≤ 1000 := by rw [hl.1]; have := linesOf_len ns; omega
  refine compEC (x := Str.ofString "one") rfl (fun _ => rfl) (fun _ => rfl) rfl (by decide +kernel) (fun _ => rfl) hh ?_
  refine nmC S.c3 rfl rfl rfl rfl ?_
  refine ⟨d, ls, fun lo i y h => ∃ R, (linesOf ns)[i]? = some R ∧ IntRow lo h y ((linesOf ns).map fun b => cmpF R b (keysOf (drawnOf ns))), rfl, ⟨hd, hlen, ?_, ?_, ?_, ?_⟩⟩
  · rintro lo i y h h' ⟨R, a, b⟩ q; exact ⟨R, a, b.a q⟩
  · intro i v _; exact Or.inl ⟨_, _, rfl⟩
  · rintro Cc hC i v hv g tk E' ⟨⟨mc, nc⟩, vc, ccl⟩ hlo hg
    obtain ⟨R, hR, hRow⟩ := hl.2 i v hv
    refine wpAny_assign_Name (wpAny_storeName_cell rfl rfl rfl ccl fun g₁ c₁ s₁ => ?_)
    dsimp only at s₁ ⊢
    have hg₁ : Ext s.heap g₁ := hg.sameNew (show s.heap.objs.size ≤ Cc + 1 by omega) s₁
    have nc₁ : g₁.Ns Cc mc := nc.sameBut s₁ (show (Cc : Nat) ≠ Cc + 1 by omega)
    have S₁ := S.x hg₁
    have z₁ : Cc + 2 ≤ g₁.objs.size := by obtain ⟨o, q, _⟩ := c₁; have q' : (Cc + 1 : Nat) < g₁.objs.size := Heap.lt_size q; omega
    refine compE rfl (by decide +kernel) rfl (by decide +kernel) (fun _ => rfl) hh ?_
    refine nmC S₁.c3 rfl rfl rfl rfl ?_
    refine ⟨d, ls, fun lo j y h => ∃ Rb, (linesOf ns)[j]? = some Rb ∧ ∃ t, y = .int (cmpF R Rb (keysOf (drawnOf ns))) t, rfl, ⟨isList_x hd hg₁, hlen, fun _ _ _ _ _ q _ => q, fun _ _ _ => Or.inl ⟨_, _, rfl⟩, ?_, ?_⟩⟩
    · rintro C2 hC2 j u hu g₂ tk₂ E₂ ⟨m2, n2⟩ hlo2 hg₂
      dsimp only at hC2 hg₂
      obtain ⟨Rb, hRb, hRowb⟩ := hl.2 j u hu
      refine stL n2 rfl rfl fun g₃ k₃ n₃ s₃ => ?_
      have hx₃ : Ext g₁ g₃ := hg₂.sameNew hC2 s₃
      have hg₃ : Ext s.heap g₃ := hg₁.tr hx₃
      have S₃ := S.x hg₃
      refine Call_methK (K := K) (C := C) (f := fc) rfl rfl rfl X.T.ga U.ga U.cmp U.fnc ?_
      refine nmC S₃.c2 rfl rfl rfl rfl ?_
      obtain ⟨ox, es, n, l1, l2, I, hget, hno⟩ := hO.a (hg₃.a _)
      refine ⟨x, ox, es, n, rfl, X.KI.keeps S₃.ext, I, hno, ?_⟩
      refine cwD (y := eval _ _) (rest := [(false, eval _ _)]) X.Dc (sp2 ?_)
      refine nmC (isCell_x c₁ hx₃) rfl rfl rfl rfl ?_
      refine nmL n₃ rfl rfl rfl rfl ?_
      refine ⟨S₃.ext, ?_⟩
      refine compare_call (lo := L + 4) (X.W.keeps S₃.ext) (X.Dc.keeps S₃.ext) (X.KI.keeps S₃.ext) X.T ⟨ox, es, n, I, hget⟩ (isList_x hr hg₃) (hp.a (hg₃.a _)) keysOf_col (hRow.a (hg₃.a _)) (hRowb.a (hg₃.a _)) hroom (by omega) hh fun g₄ k₄ t₄ x₄ => ?_
      have n₄ := n₃.keeps x₄
      obtain ⟨q1, q2⟩ := turn_end (ExtBut.x s₃.extBut x₄) n₄
      exact ⟨g₄, k₄, rfl, ⟨_, n₄⟩, ⟨Rb, hRb, _, rfl⟩, q1, q2⟩
    · intro D2 lo2 g₅ tk₅ ys hD2 hlo2 hx₅ hpl hys hP
      dsimp only at hD2 hlo2 hx₅ ⊢
      have nc₅ := nc₁.keeps hx₅
      have c₅ := isCell_x c₁ hx₅
      refine ⟨g₅, tk₅, rfl, ⟨⟨_, nc₅⟩, _, c₅⟩, ⟨R, hR, D2, ys, rfl, by omega, hpl.isList, ?_, ?_⟩, ?_, ?_⟩
      · rw [hys, hl.1, List.length_map]
      · intro j y hy
        obtain ⟨Rb, a, t, rfl⟩ := hP j y hy
        exact ⟨_, t, by rw [List.getElem?_map, a]; rfl, rfl⟩
      · intro b o hb q
        exact hx₅ b o (s₁.extBut b o (fun z => hb (by simp [z])) q)
      · intro b o q
        by_cases hb : b = Cc + 1
        · obtain ⟨o', q', _⟩ := c₅; exact ⟨o', hb ▸ q'⟩
        · exact ⟨o, hx₅ b o (s₁.extBut b o hb q)⟩
  · intro D lo h₁ tk₁ ys hD hlo hx₁ hpl hys hP
    refine rest h₁ tk₁ D hx₁ ⟨lo, ys, hpl.isList, ?_, hP⟩
    rw [hys, hl.1]
set_option maxHeartbeats 8000000 in
theorem retR_ok {L fa e x d r : Nat} {cd : Value} {m : Str → Option Value} {zs rs ls : Array Value} {ns : List Int} {Q : Value → Shared → Prop} (X : LawCx K mg mb h₀ f1 f5 f6 f7 f8 f9 C fI fc c1 c5 c6 c7 c8 c9 cI cc) (U : TM K C fI fc) (S : St h₀ L m (some (.ref e)) (some (.ref x)) (some (.ref d)) s.heap)
    (he : s.heap.IsList e zs) (hk : KeysAt (L + 4) s.heap zs (keysOf (drawnOf ns)) (textsOf (drawnOf ns))) (hO : Order2 (L + 4) s.heap x C r) (hr : s.heap.IsList r rs) (hp : PairsAt (L + 4) s.heap rs (keysOf (drawnOf ns)))
    (hd : s.heap.IsList d ls) (hl : RowsAt (L + 4) s.heap ls (linesOf ns)) (hh : A.handled = none) (hroom : A.depth < recursionLimit) (hun : A.units + 64 < cLine)
    (rest : ∀ h' tk (D : Nat), Ext s.heap h' → MatAt h' D (linesOf ns) (fun a b => ruleF a b (keysOf (drawnOf ns))) → Q (.ref D) { s with heap := h', toks := tk }) :
    wpAny (model prog w) A (eval retR (envL L fa cd)) Q E s := by
  have hs := S.size
  have hlen : ls.size ≤ 1000 := by rw [hl.1]; have := linesOf_len ns; omega
  refine compEC (x := Str.ofString "one") rfl (fun _ => rfl) (fun _ => rfl) rfl (by decide +kernel) (fun _ => rfl) hh ?_
  refine nmC S.c3 rfl rfl rfl rfl ?_
  refine ⟨d, ls, fun lo i y h => ∃ R, (linesOf ns)[i]? = some R ∧ IntRow lo h y ((linesOf ns).map fun b => ruleF R b (keysOf (drawnOf ns))), rfl, ⟨hd, hlen, ?_, ?_, ?_, ?_⟩⟩
  · rintro lo i y h h' ⟨R, a, b⟩ q; exact ⟨R, a, b.a q⟩
  · intro i v _; exact Or.inl ⟨_, _, rfl⟩
  · rintro Cc hC i v hv g tk E' ⟨⟨mc, nc⟩, vc, ccl⟩ hlo hg
    obtain ⟨R, hR, hRow⟩ := hl.2 i v hv
    refine wpAny_assign_Name (wpAny_storeName_cell rfl rfl rfl ccl fun g₁ c₁ s₁ => ?_)
    dsimp only at s₁ ⊢
    have hg₁ : Ext s.heap g₁ := hg.sameNew (show s.heap.objs.size ≤ Cc + 1 by omega) s₁
    have nc₁ : g₁.Ns Cc mc := nc.sameBut s₁ (show (Cc : Nat) ≠ Cc + 1 by omega)
    have S₁ := S.x hg₁
    have z₁ : Cc + 2 ≤ g₁.objs.size := by obtain ⟨o, q, _⟩ := c₁; have q' : (Cc + 1 : Nat) < g₁.objs.size := Heap.lt_size q; omega
    refine compE rfl (by decide +kernel) rfl (by decide +kernel) (fun _ => rfl) hh ?_
    refine nmC S₁.c3 rfl rfl rfl rfl ?_
    refine ⟨d, ls, fun lo j y h => ∃ Rb, (linesOf ns)[j]? = some Rb ∧ ∃ t, y = .int (ruleF R Rb (keysOf (drawnOf ns))) t, rfl, ⟨isList_x hd hg₁, hlen, fun _ _ _ _ _ q _ => q, fun _ _ _ => Or.inl ⟨_, _, rfl⟩, ?_, ?_⟩⟩
    · rintro C2 hC2 j u hu g₂ tk₂ E₂ ⟨m2, n2⟩ hlo2 hg₂
      dsimp only at hC2 hg₂
      obtain ⟨Rb, hRb, hRowb⟩ := hl.2 j u hu
      refine stL n2 rfl rfl fun g₃ k₃ n₃ s₃ => ?_
      have hx₃ : Ext g₁ g₃ := hg₂.sameNew hC2 s₃
      have hg₃ : Ext s.heap g₃ := hg₁.tr hx₃
      have S₃ := S.x hg₃
      refine Call_Name (trees := [(false, eval _ _), (false, eval _ _), (false, eval _ _)]) rfl ?_
      refine nmG (X.W.keeps S₃.ext) rfl X.g9 rfl rfl rfl ?_
      refine cwD X.D9 (sp3 ?_)
      refine nmC S₃.c1 rfl rfl rfl rfl ?_
      refine nmC (isCell_x c₁ hx₃) rfl rfl rfl rfl ?_
      refine nmL n₃ rfl rfl rfl rfl ?_
      refine ⟨S₃.ext, ?_⟩
      refine rule_call (lo := L + 4) (lo' := L + 4) (X.W.keeps S₃.ext) (X.D9.keeps S₃.ext) (isList_x he hg₃) (hk.a (hg₃.a _)) (by rw [hk.1, keysOf_len]; have := drawn_len ns; omega) keysOf_col (hRow.a (hg₃.a _)) (hRowb.a (hg₃.a _)) hroom (by omega) hh fun g₄ k₄ t₄ x₄ => ?_
      have n₄ := n₃.keeps x₄
      obtain ⟨q1, q2⟩ := turn_end (ExtBut.x s₃.extBut x₄) n₄
      exact ⟨g₄, k₄, rfl, ⟨_, n₄⟩, ⟨Rb, hRb, _, rfl⟩, q1, q2⟩
    · intro D2 lo2 g₅ tk₅ ys hD2 hlo2 hx₅ hpl hys hP
      dsimp only at hD2 hlo2 hx₅ ⊢
      have nc₅ := nc₁.keeps hx₅
      have c₅ := isCell_x c₁ hx₅
      refine ⟨g₅, tk₅, rfl, ⟨⟨_, nc₅⟩, _, c₅⟩, ⟨R, hR, D2, ys, rfl, by omega, hpl.isList, ?_, ?_⟩, ?_, ?_⟩
      · rw [hys, hl.1, List.length_map]
      · intro j y hy
        obtain ⟨Rb, a, t, rfl⟩ := hP j y hy
        exact ⟨_, t, by rw [List.getElem?_map, a]; rfl, rfl⟩
      · intro b o hb q
        exact hx₅ b o (s₁.extBut b o (fun z => hb (by simp [z])) q)
      · intro b o q
        by_cases hb : b = Cc + 1
        · obtain ⟨o', q', _⟩ := c₅; exact ⟨o', hb ▸ q'⟩
        · exact ⟨o, hx₅ b o (s₁.extBut b o hb q)⟩
  · intro D lo h₁ tk₁ ys hD hlo hx₁ hpl hys hP
    refine rest h₁ tk₁ D hx₁ ⟨lo, ys, hpl.isList, ?_, hP⟩
    rw [hys, hl.1]
set_option maxHeartbeats 8000000 in
theorem law8 {L fa e x d r : Nat} {cd : Value} {m : Str → Option Value} {zs rs ls : Array Value} {ns : List Int} (X : LawCx K mg mb h₀ f1 f5 f6 f7 f8 f9 C fI fc c1 c5 c6 c7 c8 c9 cI cc) (U : TM K C fI fc) (S : St h₀ L m (some (.ref e)) (some (.ref x)) (some (.ref d)) s.heap)
    (he : s.heap.IsList e zs) (hk : KeysAt (L + 4) s.heap zs (keysOf (drawnOf ns)) (textsOf (drawnOf ns))) (hO : Order2 (L + 4) s.heap x C r) (hr : s.heap.IsList r rs) (hp : PairsAt (L + 4) s.heap rs (keysOf (drawnOf ns)))
    (hd : s.heap.IsList d ls) (hl : RowsAt (L + 4) s.heap ls (linesOf ns)) (hh : A.handled = none) (hroom : A.depth < recursionLimit) (hun : A.units + 64 < cLine) :
    wpAny (model prog w) A (exec (lawSt 7) (envL L fa cd)) (fun fl s' => fl = .ret (.bool true) ∧ ∃ h' tk, s' = { s with heap := h', toks := tk } ∧ Ext s.heap h') E s := by
  refine wpAny_Return_some (wpAny_Compare1 ?_)
  refine retL_ok X U S he hk hO hr hp hd hl hh hroom hun fun h₁ tk₁ D₁ x₁ M₁ => ?_
  refine retR_ok X U (S.x x₁) (isList_x he x₁) (hk.a (x₁.a _)) (hO.a (x₁.a _)) (isList_x hr x₁) (hp.a (x₁.a _)) (isList_x hd x₁) (hl.a (x₁.a _)) hh hroom hun fun h₂ tk₂ D₂ x₂ M₂ => ?_
  dsimp only at x₂ ⊢
  have r₂ := M₂.reads
  simp only [rule_eq] at r₂
  exact eq_same (M₁.x x₂).reads r₂ (matD_shaped _) hun ⟨rfl, h₂, tk₂, rfl, x₁.tr x₂⟩
end
end Mine

/-! # L9 -/
namespace Mine
section
variable {prog : Program} {w : World} {A : Around} {E : Value → Shared → Prop} {s : Shared} {K : Frag} {mg mb : Str → Option Value} {h₀ : Heap} {f1 f5 f6 f7 f8 f9 C fI fc : Addr} {c1 c5 c6 c7 c8 c9 cI cc : Value}
set_option maxHeartbeats 8000000 in
theorem law_body {L fa sl : Nat} {cd : Value} {its : Array Value} {ns : List Int} {m : Str → Option Value} {v1 v2 v3 : Option Value} (X : LawCx K mg mb h₀ f1 f5 f6 f7 f8 f9 C fI fc c1 c5 c6 c7 c8 c9 cI cc) (U : TM K C fI fc) (hL : h₀.objs.size ≤ L) (S : St h₀ L m v1 v2 v3 s.heap)
    (hm : m (Str.ofString "script") = some (.ref sl)) (hl : h₀.IsList sl its) (hi : IntsAt its ns) (hsz : ns.length ≤ 63) (hh : A.handled = none) (hroom : A.depth + 2 < recursionLimit) (hun : A.units + 64 < cLine) (hfr : A.frames = some [envL L fa cd]) :
    wpAny (model prog w) A (execs (fBody (top 10)) (envL L fa cd)) (fun fl s' => fl = .ret (.bool true) ∧ ∃ h' tk m', s' = { s with heap := h', toks := tk } ∧ Ext h₀ h' ∧ h'.Ns L m') E s := by
  show wpAny _ _ (execs [lawSt 0, lawSt 1, lawSt 2, lawSt 3, lawSt 4, lawSt 5, lawSt 6, lawSt 7] _) _ _ _
  refine wpAny_execs_cons (wpAny_mono (law1 X hL S hm hl hi hsz hh) ?_ fun _ _ e => e)
  rintro _ _ ⟨rfl, h₁, tk₁, d, ys, rfl, hd, S₁, hy₁, hyi⟩
  dsimp only
  refine wpAny_execs_cons (wpAny_mono (law2 X hL S₁ (if_pos rfl) hd hy₁ hyi hh (by omega)) ?_ fun _ _ e => e)
  rintro _ _ ⟨rfl, h₂, tk₂, e, zs, rfl, he, S₂, x₂, hz₂, hk₂⟩
  dsimp only at x₂ ⊢
  refine wpAny_execs_cons (wpAny_mono (law3 X hL S₂ he hz₂ hk₂ hh (by omega)) ?_ fun _ _ e => e)
  rintro _ _ ⟨rfl, h₃, tk₃, r, rs, rfl, hr, S₃, x₃, hr₃, hp₃⟩
  dsimp only at x₃ ⊢
  have hz₃ := isList_a hz₂ he x₃
  have hk₃ := hk₂.a x₃
  refine wpAny_execs_cons (wpAny_mono (law4 X S₃ hz₃ hk₃ (if_pos rfl) hr₃ hp₃ hh hun) ?_ fun _ _ e => e)
  rintro _ _ ⟨rfl, h₄, tk₄, rfl, x₄, _⟩
  dsimp only at x₄ ⊢
  refine wpAny_execs_cons (wpAny_mono (law5 X hL (S₃.x x₄) hh (by omega) hun hfr) ?_ fun _ _ e => e)
  rintro _ _ ⟨rfl, h₅, tk₅, rfl, x₅, S₅⟩
  dsimp only at x₅ ⊢
  have a₅ : ExtA (L + 4) h₃ h₅ := (x₄.a _).tr (ExtA.but (show L < L + 4 by omega) x₅)
  refine wpAny_execs_cons (wpAny_mono (law6 X U hL S₅ (if_pos rfl) hroom) ?_ fun _ _ e => e)
  rintro _ _ ⟨rfl, h₆, tk₆, x, rfl, S₆, x₆, O₆⟩
  dsimp only at x₆ ⊢
  have a₆ : ExtA (L + 4) h₃ h₆ := a₅.tr x₆
  have hy₆ := isList_a hy₁ hd ((x₂.tr x₃).tr a₆)
  refine wpAny_execs_cons (wpAny_mono (law7 X hL S₆ ((if_neg (by decide +kernel)).trans (if_pos rfl)) hy₆ hyi hh (by omega)) ?_ fun _ _ e => e)
  rintro _ _ ⟨rfl, h₇, tk₇, e', ls, rfl, he', S₇, x₇, hl₇, hR₇⟩
  dsimp only at x₇ ⊢
  have a₇ : ExtA (L + 4) h₃ h₇ := a₆.tr x₇
  refine wpAny_execs_cons (wpAny_mono (law8 X U S₇ (isList_a hz₃ he a₇) (hk₃.a a₇) (O₆.a x₇) (isList_a hr₃ hr a₇) (hp₃.a a₇) hl₇ hR₇ hh (by omega) hun) ?_ fun _ _ e => e)
  rintro _ _ ⟨rfl, h₈, tk₈, rfl, x₈⟩
  exact ⟨rfl, h₈, tk₈, _, rfl, S₇.ext.tr x₈, S₇.ns.keeps x₈⟩
end
end Mine

/-! # J2 -/
namespace Mine
/-! ## what the head's heap shows -/
def obAt (K : Frag) (a : Addr) : Obj := (K.lookup a).getD { cls := .none, data := .plain }
def fdAt (K : Frag) (a : Addr) : FuncData := match (obAt K a).data with | .func fd => fd | _ => fnOf Str.empty Str.empty (fArgs (.Pass default)) [] default .none .none .none .none none .none .none
structure FnIn (K : Frag) (f : Addr) (st : Stmt) (q : Str) (cdv : Value) : Prop where
  look : K.lookup f = some (obAt K f)
  data : (obAt K f).data = .func (fnOf (fName st) q (fArgs st) (fBody st) (fScope st) .none .none (fdAt K f).doc (fdAt K f).pyModule (fdAt K f).annotations cdv (fdAt K f).closureTuple)
  code : codeIn K cdv q = true
theorem FnIn.d {K : Frag} {h : Heap} {f : Addr} {st : Stmt} {q : Str} {cdv : Value} (x : FnIn K f st q cdv) (X : K.In h) : Def h f st q cdv := ⟨_, _, _, _, _, X _ _ x.look, x.data, codeRec_of X x.code⟩
structure KF (K : Frag) : Prop where
  d1 : FnIn K 21 (top 1) (Str.ofString "get_line_col") (.ref 20)
  d5 : FnIn K 56 (top 5) (Str.ofString "_law_spelled") (.ref 55)
  d6 : FnIn K 63 (top 6) (Str.ofString "_law_keys") (.ref 62)
  d7 : FnIn K 70 (top 7) (Str.ofString "_law_refused") (.ref 69)
  d8 : FnIn K 77 (top 8) (Str.ofString "_law_row") (.ref 76)
  d9 : FnIn K 84 (top 9) (Str.ofString "_law_rule") (.ref 83)
  dI : FnIn K 35 (meth 0) (Str.ofString "TupleComp.__init__") (.ref 34)
  dc : FnIn K 42 (meth 1) (Str.ofString "TupleComp.compare") (.ref 41)
  g1 : nsIn K mainGlobals (Str.ofString "get_line_col") = some (some (.ref 21))
  g5 : nsIn K mainGlobals (Str.ofString "_law_spelled") = some (some (.ref 56))
  g6 : nsIn K mainGlobals (Str.ofString "_law_keys") = some (some (.ref 63))
  g7 : nsIn K mainGlobals (Str.ofString "_law_refused") = some (some (.ref 70))
  g8 : nsIn K mainGlobals (Str.ofString "_law_row") = some (some (.ref 77))
  g9 : nsIn K mainGlobals (Str.ofString "_law_rule") = some (some (.ref 84))
  gC : nsIn K mainGlobals (Str.ofString "TupleComp") = some (some (.ref 45))
  n_map : nsIn K mainGlobals (Str.ofString "map") = some none
  n_int : nsIn K mainGlobals (Str.ofString "int") = some none
  n_str : nsIn K mainGlobals (Str.ofString "str") = some none
  n_abs : nsIn K mainGlobals (Str.ofString "abs") = some none
  n_len : nsIn K mainGlobals (Str.ofString "len") = some none
  n_range : nsIn K mainGlobals (Str.ofString "range") = some none
  n_type : nsIn K mainGlobals (Str.ofString "type") = some none
  n_ve : nsIn K mainGlobals (Str.ofString "ValueError") = some none
  t : TC K 45
  u : TM K 45 35 42
theorem KF.nm {K : Frag} {h : Heap} {mg mb : Str → Option Value} (k : KF K) (X : K.In h) (G : h.Ns mainGlobals mg) (hb : ∀ x : Str, x ≠ "__name__" → mb x = bootBuiltins x) : Nm mg mb where
  map0 := mg_none_of X G k.n_map
  map1 := (hb _ (by decide +kernel)).trans Boot.«map»
  int0 := mg_none_of X G k.n_int
  int1 := (hb _ (by decide +kernel)).trans Boot.«int»
  str0 := mg_none_of X G k.n_str
  str1 := (hb _ (by decide +kernel)).trans Boot.«str»
  abs0 := mg_none_of X G k.n_abs
  abs1 := (hb _ (by decide +kernel)).trans Boot.«abs»
  len0 := mg_none_of X G k.n_len
  len1 := (hb _ (by decide +kernel)).trans Boot.«len»
  range0 := mg_none_of X G k.n_range
  range1 := (hb _ (by decide +kernel)).trans Boot.«range»
  type0 := mg_none_of X G k.n_type
  type1 := (hb _ (by decide +kernel)).trans Boot.«type»
  ve0 := mg_none_of X G k.n_ve
  ve1 := (hb _ (by decide +kernel)).trans Boot.«ValueError»
theorem KF.cx {K : Frag} {h : Heap} {mg mb : Str → Option Value} (k : KF K) (X : K.In h) (G : h.Ns mainGlobals mg) (B : h.Ns builtinsNs mb) (hn : h.NoLimit) (hb : ∀ x : Str, x ≠ "__name__" → mb x = bootBuiltins x) :
    LawCx K mg mb h 21 56 63 70 77 84 45 35 42 (.ref 20) (.ref 55) (.ref 62) (.ref 69) (.ref 76) (.ref 83) (.ref 34) (.ref 41) where
  N := k.nm X G hb
  W := ⟨G, B, hn⟩
  D1 := k.d1.d X
  D5 := k.d5.d X
  D6 := k.d6.d X
  D7 := k.d7.d X
  D8 := k.d8.d X
  D9 := k.d9.d X
  DI := k.dI.d X
  Dc := k.dc.d X
  g1 := mg_of X G k.g1
  g5 := mg_of X G k.g5
  g6 := mg_of X G k.g6
  g7 := mg_of X G k.g7
  g8 := mg_of X G k.g8
  g9 := mg_of X G k.g9
  gC := mg_of X G k.gC
  KI := X
  T := k.t
theorem kf_of {K : Frag} {h : Heap} (_ : K.In h) (k : KF K) : KF K := k
theorem intsAt_of {vs : List Value} {ns : List Int} (h : IntsAre vs ns) : IntsAt vs.toArray ns := by
  induction h with
  | nil => exact ⟨rfl, fun i v e => by simp at e⟩
  | cons i t r ih =>
    refine ⟨by simpa using ih.1, fun j v e => ?_⟩
    match j with
    | 0 => simp at e; exact ⟨_, _, rfl, e.symm⟩
    | j + 1 =>
      obtain ⟨n, t, a, b⟩ := ih.2 j v (by simpa using e)
      exact ⟨n, t, by simpa using a, b⟩
end Mine

/-! # J3 -/
set_option maxRecDepth 100000 in
set_option maxHeartbeats 8000000 in
theorem PySem.Challenge.cw_ny0008_01_holds : PySem.Challenge.rw_ny0008_01.Holds := by
  w_on
  o_law
  k_head
  case hw => w_witness2
  k_go0
  rename_i o3 o2 o1 e3 e2 e1 N0 X0
  rename Frag.In _ _ => KX
  rename Top _ _ _ _ _ _ => T
  rename Fr _ _ _ _ => F0
  rename IntsAre _ _ => hI
  rename Heap.IsList _ _ _ => hLst
  rename ¬ _ => hc
  rename Shared.gens _ = #[] => hgens
  have kf := Mine.kf_of KX ⟨⟨by kernel_rfl, by kernel_rfl, by kernel_rfl⟩,
    ⟨by kernel_rfl, by kernel_rfl, by kernel_rfl⟩,
    ⟨by kernel_rfl, by kernel_rfl, by kernel_rfl⟩,
    ⟨by kernel_rfl, by kernel_rfl, by kernel_rfl⟩,
    ⟨by kernel_rfl, by kernel_rfl, by kernel_rfl⟩,
    ⟨by kernel_rfl, by kernel_rfl, by kernel_rfl⟩,
    ⟨by kernel_rfl, by kernel_rfl, by kernel_rfl⟩,
    ⟨by kernel_rfl, by kernel_rfl, by kernel_rfl⟩,
    by kernel_rfl,
    by kernel_rfl,
    by kernel_rfl,
    by kernel_rfl,
    by kernel_rfl,
    by kernel_rfl,
    by kernel_rfl,
    by kernel_rfl,
    by kernel_rfl,
    by kernel_rfl,
    by kernel_rfl,
    by kernel_rfl,
    by kernel_rfl,
    by kernel_rfl,
    by kernel_rfl,
    ⟨by kernel_rfl, by kernel_rfl, by kernel_rfl⟩,
    ⟨by kernel_rfl, by kernel_rfl, by kernel_rfl, by kernel_rfl, by kernel_rfl, by kernel_rfl, by kernel_rfl, by kernel_rfl, by kernel_rfl, by kernel_rfl⟩⟩
  have cx := kf.cx KX T.g T.b T.nolimit T.builtins
  have S0 : Mine.St _ _ _ _ _ _ _ := ⟨F0.ns, ⟨_, (N0 _ (.tail _ (.tail _ (.head _)))).1, e1⟩, ⟨_, (N0 _ (.tail _ (.head _))).1, e2⟩, ⟨_, (N0 _ (.head _)).1, e3⟩, F0.keep⟩
  refine wpAny_mono (Mine.law_body cx kf.u (Nat.le_refl _) S0 rfl hLst (Mine.intsAt_of hI) (by omega) rfl ?_ ?_ ?_) ?_ fun _ _ e => e
  · show callerA.depth + 1 + 2 < recursionLimit
    decide +kernel
  · show callerA.units + 3 + 64 < cLine
    decide +kernel
  · exact Around.frames_deeper rfl
  · rintro _ _ ⟨rfl, h', tk, m', rfl, hx, hn⟩
    exact goodW_bool ⟨hn, hx, Nat.le_refl _⟩ hgens (raisesW_false (by wrow_none_raised)) (by wrow_post)
