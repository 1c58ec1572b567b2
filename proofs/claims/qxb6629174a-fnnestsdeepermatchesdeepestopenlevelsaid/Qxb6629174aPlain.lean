/-
  Plain functions on lists of bytes (as integers): what NestsDeeper, the mask and the deepest level answer; the two laws.
-/
import Derived.KernelRfl
namespace Go.Proofs.Qxb6629174a

/-- NestsDeeper from a state on: o: how many are open; ins: inside a string; esc: the next byte is hidden by a backslash. -/
def nst (d : Int) : Int → Bool → Bool → List Int → Bool
  | _, _, _, [] => false
  | o, ins, true, _ :: t => nst d o ins false t
  | o, ins, false, c :: t =>
    if ins = true ∧ c = 92 then nst d o ins true t
    else if c = 34 then nst d o (!ins) false t
    else if ins = true then nst d o ins false t
    else if c = 123 ∨ c = 91 then (if d < o + 1 then true else nst d (o + 1) ins false t)
    else if c = 125 ∨ c = 93 then nst d (o - 1) ins false t
    else nst d o ins false t

theorem nst_esc (d o : Int) (ins : Bool) (l : List Int) : nst d o ins true l = nst d o ins false (l.drop 1) := by
  cases l with
  | nil => simp [nst]
  | cons c t => simp [nst]

theorem nst_back (d o : Int) (t : List Int) : nst d o true false (92 :: t) = nst d o true false (t.drop 1) := by
  rw [nst, if_pos ⟨rfl, rfl⟩, nst_esc]
theorem nst_quote (d o : Int) (ins : Bool) (t : List Int) : nst d o ins false (34 :: t) = nst d o (!ins) false t := by
  rw [nst, if_neg (by intro h; have := h.2; omega), if_pos rfl]
theorem nst_in (d o : Int) (c : Int) (t : List Int) (h1 : c ≠ 92) (h2 : c ≠ 34) : nst d o true false (c :: t) = nst d o true false t := by
  rw [nst, if_neg (fun h => h1 h.2), if_neg h2, if_pos rfl]
theorem nst_open (d o : Int) (c : Int) (t : List Int) (h : c = 123 ∨ c = 91) : nst d o false false (c :: t) = if d < o + 1 then true else nst d (o + 1) false false t := by
  rw [nst, if_neg (by intro h; cases h.1), if_neg (by omega), if_neg (by decide), if_pos h]
theorem nst_close (d o : Int) (c : Int) (t : List Int) (h : c = 125 ∨ c = 93) : nst d o false false (c :: t) = nst d (o - 1) false false t := by
  rw [nst, if_neg (by intro h; cases h.1), if_neg (by omega), if_neg (by decide), if_neg (by omega), if_pos h]
theorem nst_other (d o : Int) (c : Int) (t : List Int) (h1 : c ≠ 34) (h2 : c ≠ 123) (h3 : c ≠ 91) (h4 : c ≠ 125) (h5 : c ≠ 93) : nst d o false false (c :: t) = nst d o false false t := by
  rw [nst, if_neg (by intro h; cases h.1), if_neg h1, if_neg (by decide), if_neg (by omega), if_neg (by omega)]

/-- The mask from a state on. -/
def mask : Bool → Bool → List Int → List Bool
  | _, _, [] => []
  | ins, true, _ :: t => false :: mask ins false t
  | true, false, c :: t => if c = 92 then false :: mask true true t else if c = 34 then false :: mask false false t else false :: mask true false t
  | false, false, c :: t => if c = 34 then false :: mask true false t else true :: mask false false t

theorem mask_length (l : List Int) : ∀ ins esc, (mask ins esc l).length = l.length := by
  induction l with
  | nil => intro ins esc; cases ins <;> cases esc <;> simp [mask]
  | cons c t ih =>
    intro ins esc
    cases ins <;> cases esc <;> simp only [mask]
    · split <;> simp [ih]
    · simp [ih]
    · split
      · simp [ih]
      · split <;> simp [ih]
    · simp [ih]

/-- The deepest level from a state on. -/
def deep : Int → Bool → Int → List Int → List Bool → Bool × Int
  | _, op, dp, [], _ => (op, dp)
  | _, op, dp, _ :: _, [] => (op, dp)
  | lv, op, dp, _ :: t, false :: m => deep lv op dp t m
  | lv, op, dp, c :: t, true :: m =>
    if c = 123 ∨ c = 91 then deep (lv + 1) true (if op = false ∨ dp < lv + 1 then lv + 1 else dp) t m
    else if c = 125 ∨ c = 93 then deep (lv - 1) op dp t m
    else deep lv op dp t m

/-- THE LAW: NestsDeeper answers as the two passes do. -/
theorem deep_nst (d : Int) (l : List Int) : ∀ (lv : Int) (op : Bool) (dp : Int) (ins esc : Bool),
    ((deep lv op dp l (mask ins esc l)).1 && decide (d < (deep lv op dp l (mask ins esc l)).2)) = ((op && decide (d < dp)) || nst d lv ins esc l) := by
  induction l with
  | nil =>
    intro lv op dp ins esc
    show (op && decide (d < dp)) = ((op && decide (d < dp)) || nst d lv ins esc [])
    simp only [nst, Bool.or_false]
  | cons c t ih =>
    intro lv op dp ins esc
    cases esc with
    | true => cases ins <;> simp only [mask, deep, nst] <;> exact ih _ _ _ _ _
    | false =>
      cases ins with
      | true =>
        by_cases h92 : c = 92
        · simp only [mask, h92, if_true, deep, nst, and_self]; exact ih _ _ _ _ _
        · by_cases h34 : c = 34
          · subst h34
            rw [nst_quote]
            simp only [mask, if_neg h92, if_true, deep]; exact ih _ _ _ _ _
          · rw [nst_in d lv c t h92 h34]
            simp only [mask, if_neg h92, if_neg h34, deep]; exact ih _ _ _ _ _
      | false =>
        by_cases h34 : c = 34
        · subst h34
          rw [nst_quote]
          simp only [mask, if_true, deep]; exact ih _ _ _ _ _
        · by_cases ho : c = 123 ∨ c = 91
          · rw [nst_open d lv c t ho]
            simp only [mask, if_neg h34, deep, if_pos ho]
            rw [ih]
            by_cases h1 : d < lv + 1
            · rw [if_pos h1]
              have h2 : d < (if op = false ∨ dp < lv + 1 then lv + 1 else dp) := by split <;> omega
              simp [h2]
            · rw [if_neg h1]
              have h2 : (d < (if op = false ∨ dp < lv + 1 then lv + 1 else dp)) ↔ (op = true ∧ d < dp) := by
                cases op <;> simp <;> (try split) <;> omega
              have h3 : (true && decide (d < (if op = false ∨ dp < lv + 1 then lv + 1 else dp))) = (op && decide (d < dp)) := by
                rw [Bool.eq_iff_iff]; simp only [Bool.true_and, Bool.and_eq_true, decide_eq_true_eq]; exact h2
              rw [h3]
          · by_cases hcl : c = 125 ∨ c = 93
            · rw [nst_close d lv c t hcl]
              simp only [mask, if_neg h34, deep, if_neg ho, if_pos hcl]; exact ih _ _ _ _ _
            · rw [nst_other d lv c t h34 (by omega) (by omega) (by omega) (by omega)]
              simp only [mask, if_neg h34, deep, if_neg ho, if_neg hcl]; exact ih _ _ _ _ _

/-- THE LAW: one more pair of brackets. -/
theorem nst_wrap (d : Int) (l : List Int) : ∀ (o : Int) (ins esc : Bool), nst (d + 1) (o + 1) ins esc (l ++ [93]) = nst d o ins esc l := by
  induction l with
  | nil => intro o ins esc; cases esc <;> cases ins <;> simp [nst]
  | cons c t ih =>
    intro o ins esc
    cases esc with
    | true => simp only [List.cons_append, nst]; exact ih _ _ _
    | false =>
      simp only [List.cons_append, nst]
      have e : o + 1 - 1 = o - 1 + 1 := by omega
      have e2 : (d + 1 < o + 1 + 1) ↔ (d < o + 1) := by omega
      simp only [ih, e, e2]
theorem nst_wrapped (d : Int) (l : List Int) (hd : 0 ≤ d) : nst (d + 1) 0 false false (91 :: (l ++ [93])) = nst d 0 false false l := by
  rw [nst_open _ _ _ _ (Or.inr rfl), if_neg (by omega)]
  exact nst_wrap d l 0 false false
theorem nst_zero (l : List Int) : nst 0 0 false false (91 :: l) = true := by
  rw [nst_open _ _ _ _ (Or.inr rfl), if_pos (by decide)]
end Go.Proofs.Qxb6629174a
