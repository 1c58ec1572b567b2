/-
  Plain functions on lists of bytes (as integers): the order, the end of a prefix's range; the two laws.
-/
import Derived.KernelRfl
namespace Go.Proofs.Qxb6629232a

/-- Byte order: -1, 0 or 1. -/
def cmp : List Int → List Int → Int
  | [], [] => 0
  | [], _ :: _ => -1
  | _ :: _, [] => 1
  | a :: s, b :: t => if a = b then cmp s t else if a < b then -1 else 1
/-- Does s begin with p? -/
def hasP : List Int → List Int → Bool
  | _, [] => true
  | [], _ :: _ => false
  | a :: s, b :: t => if a = b then hasP s t else false
/-- The end of the range, over the reversed prefix. -/
def endR : List Int → List Int
  | [] => []
  | c :: t => if c = 255 then endR t else (c + 1) :: t
def endOf (l : List Int) : List Int := (endR l.reverse).reverse
def allFF (l : List Int) : Bool := l.all fun c => c == 255
def Bytes (l : List Int) : Prop := ∀ c ∈ l, 0 ≤ c ∧ c ≤ 255

theorem cmp_self (l : List Int) : cmp l l = 0 := by
  induction l with
  | nil => rfl
  | cons a t ih => simp [cmp, ih]
theorem cmp_range (s t : List Int) : cmp s t = -1 ∨ cmp s t = 0 ∨ cmp s t = 1 := by
  induction s generalizing t with
  | nil => cases t <;> simp [cmp]
  | cons a s ih =>
    cases t with
    | nil => simp [cmp]
    | cons b t =>
      simp only [cmp]
      split
      · exact ih t
      · split <;> simp
theorem endR_rep (m : Nat) (t : List Int) : endR (List.replicate m 255 ++ t) = endR t := by
  induction m with
  | zero => rfl
  | succ m ih => simp [List.replicate_succ, endR, ih]
theorem endOf_ff (p : List Int) (m : Nat) : endOf (p ++ List.replicate m 255) = endOf p := by
  simp only [endOf, List.reverse_append, List.reverse_replicate, endR_rep]
theorem endOf_rep (m : Nat) : endOf (List.replicate m 255) = [] := by
  have h := endOf_ff [] m
  simpa [endOf, endR] using h
theorem endOf_at (p : List Int) (c : Int) (m : Nat) (h : c ≠ 255) : endOf (p ++ c :: List.replicate m 255) = p ++ [c + 1] := by
  have e : p ++ c :: List.replicate m 255 = (p ++ [c]) ++ List.replicate m 255 := by simp
  rw [e, endOf_ff]
  simp [endOf, endR, h]
/-- Every list is 0xff alone, or ends in 0xff behind another byte. -/
theorem forms (l : List Int) : (∃ m, l = List.replicate m 255) ∨ ∃ p c m, c ≠ 255 ∧ l = p ++ c :: List.replicate m 255 := by
  induction l with
  | nil => exact .inl ⟨0, rfl⟩
  | cons a t ih =>
    rcases ih with ⟨m, rfl⟩ | ⟨p, c, m, hc, rfl⟩
    · by_cases h : a = 255
      · exact .inl ⟨m + 1, by rw [h]; rfl⟩
      · exact .inr ⟨[], a, m, h, rfl⟩
    · exact .inr ⟨a :: p, c, m, hc, rfl⟩

/-- The range of 0xff alone: no upper bound is needed. -/
theorem ge_rep (m : Nat) : ∀ key : List Int, Bytes key → ((0 ≤ cmp key (List.replicate m 255)) ↔ hasP key (List.replicate m 255) = true) := by
  induction m with
  | zero => intro key _; cases key <;> simp [cmp, hasP]
  | succ m ih =>
    intro key hb
    cases key with
    | nil => simp [List.replicate_succ, cmp, hasP]
    | cons x t =>
      have hx := hb x (by simp)
      have ht : Bytes t := fun c hc => hb c (by simp [hc])
      simp only [List.replicate_succ, cmp, hasP]
      by_cases h : x = 255
      · rw [if_pos h, if_pos h]; exact ih t ht
      · rw [if_neg h, if_neg h, if_pos (by omega)]; simp
/-- The range of a prefix that ends in 0xff behind another byte. -/
theorem in_at (p : List Int) (c : Int) (m : Nat) : ∀ key : List Int, Bytes key →
    ((0 ≤ cmp key (p ++ c :: List.replicate m 255) ∧ cmp key (p ++ [c + 1]) < 0) ↔ hasP key (p ++ c :: List.replicate m 255) = true) := by
  induction p with
  | nil =>
    intro key hb
    cases key with
    | nil => simp [cmp, hasP]
    | cons x t =>
      have ht : Bytes t := fun c hc => hb c (by simp [hc])
      simp only [List.nil_append, cmp, hasP]
      by_cases h : x = c
      · rw [if_pos h, if_pos h, if_neg (by omega), if_pos (by omega)]
        rw [← ge_rep m t ht]; simp
      · rw [if_neg h, if_neg h]
        by_cases h1 : x < c
        · rw [if_pos h1]; simp
        · rw [if_neg h1]
          by_cases h2 : x = c + 1
          · rw [if_pos h2]
            cases t <;> simp [cmp]
          · rw [if_neg h2, if_neg (by omega)]; simp
  | cons a p ih =>
    intro key hb
    cases key with
    | nil => simp [cmp, hasP]
    | cons x t =>
      have ht : Bytes t := fun c hc => hb c (by simp [hc])
      simp only [List.cons_append, cmp, hasP]
      by_cases h : x = a
      · rw [if_pos h, if_pos h, if_pos h]; exact ih t ht
      · rw [if_neg h, if_neg h, if_neg h]
        by_cases h1 : x < a
        · rw [if_pos h1]; simp
        · rw [if_neg h1]; simp
/-- THE LAW: a key lies in the range exactly when it begins with the prefix. -/
theorem in_range (l key : List Int) (hb : Bytes key) : (0 ≤ cmp key l ∧ (endOf l = [] ∨ cmp key (endOf l) < 0)) ↔ hasP key l = true := by
  rcases forms l with ⟨m, rfl⟩ | ⟨p, c, m, hc, rfl⟩
  · rw [endOf_rep, ← ge_rep m key hb]; simp
  · rw [endOf_at p c m hc, ← in_at p c m key hb]; simp
theorem hasP_append (p q : List Int) : hasP (p ++ q) p = true := by
  induction p with
  | nil => cases q <;> rfl
  | cons a p ih => simp [hasP, ih]
theorem cmp_append (p s t : List Int) : cmp (p ++ s) (p ++ t) = cmp s t := by
  induction p with
  | nil => rfl
  | cons a p ih => simp [cmp, ih]
theorem allFF_rep (q : List Int) (h : allFF q = true) : q = List.replicate q.length 255 := by
  induction q with
  | nil => rfl
  | cons a t ih =>
    simp [allFF] at h
    have h2 : allFF t = true := by simpa [allFF] using h.2
    rw [h.1, List.length_cons, List.replicate_succ, ← ih h2]
/-- THE LAW, its first half: an extension of 0xff alone keeps the end. -/
theorem end_ff (p q : List Int) (h : allFF q = true) : endOf (p ++ q) = endOf p := by
  rw [allFF_rep q h]; exact endOf_ff p _
theorem not_ff (q : List Int) (h : allFF q = false) : ∃ q1 c m, c ≠ 255 ∧ q = q1 ++ c :: List.replicate m 255 := by
  rcases forms q with ⟨m, rfl⟩ | h2
  · simp [allFF] at h
  · exact h2
/-- THE LAW, its second half. -/
theorem end_ext (p q : List Int) (hbp : Bytes p) (hbq : Bytes q) (h : allFF q = false) :
    endOf (p ++ q) ≠ [] ∧ hasP (endOf (p ++ q)) p = true ∧ cmp (endOf (p ++ q)) (p ++ q) = 1 ∧ (endOf p ≠ [] → cmp (endOf (p ++ q)) (endOf p) = -1) := by
  obtain ⟨q1, c, m, hc, rfl⟩ := not_ff q h
  have e : endOf (p ++ (q1 ++ c :: List.replicate m 255)) = p ++ (q1 ++ [c + 1]) := by
    rw [← List.append_assoc, endOf_at _ _ _ hc, List.append_assoc]
  have hb : Bytes (p ++ (q1 ++ [c + 1])) := by
    intro x hx
    simp only [List.mem_append, List.mem_cons, List.not_mem_nil, or_false] at hx
    rcases hx with hx | hx | hx
    · exact hbp x hx
    · exact hbq x (by simp [hx])
    · have := hbq c (by simp); omega
  rw [e]
  refine ⟨by simp, hasP_append _ _, ?_, ?_⟩
  · rw [cmp_append, cmp_append]; simp [cmp]; omega
  · intro hne
    have h1 := (in_range p _ hb).2 (hasP_append p _)
    rcases h1.2 with h2 | h2
    · exact absurd h2 hne
    · rcases cmp_range (p ++ (q1 ++ [c + 1])) (endOf p) with h3 | h3 | h3 <;> omega
end Go.Proofs.Qxb6629232a
