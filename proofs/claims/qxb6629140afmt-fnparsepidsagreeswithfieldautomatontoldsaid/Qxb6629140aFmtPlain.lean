/-
  Plain: what ParsePids answers, over the fields of a text.
-/
import Derived.Lib.SpaceUEq
import Derived.Lib.AtoiAll
namespace Go.Proofs.Qxb6629140aFmt
open Go.Lib

/-- The value of one field, where it spells an int. -/
def val (f : List UInt8) : Option Int := match atoiAll f with | .ok v => some v | _ => none
/-- The values of all fields; none where one of them spells no int. -/
def pids : List (List UInt8) → Option (List Int)
  | [] => some []
  | f :: t => (val f).bind fun v => (pids t).map (v :: ·)
theorem val_ok {f : List UInt8} {v : Int} (h : val f = some v) : atoiAll f = .ok v := by
  unfold val at h
  split at h
  · rename_i u hu; simp at h; rw [hu, h]
  · cases h
theorem val_none {f : List UInt8} (h : val f = none) : ∀ v, atoiAll f ≠ .ok v := by
  intro v hv
  unfold val at h
  rw [hv] at h
  cases h
theorem val_of {f : List UInt8} {v : Int} (h : atoiAll f = .ok v) : val f = some v := by unfold val; rw [h]
theorem pids_append (a b : List (List UInt8)) : pids (a ++ b) = (pids a).bind fun x => (pids b).map (x ++ ·) := by
  induction a with
  | nil => cases h : pids b <;> simp [pids, h]
  | cons f t ih =>
    simp only [List.cons_append, pids, ih]
    cases val f with
    | none => rfl
    | some v => cases pids t <;> cases pids b <;> simp
theorem pids_length : ∀ (l : List (List UInt8)) (vs : List Int), pids l = some vs → vs.length = l.length := by
  intro l
  induction l with
  | nil => intro vs h; simp [pids] at h; subst h; rfl
  | cons f t ih =>
    intro vs h
    simp only [pids] at h
    cases hv : val f with
    | none => rw [hv] at h; cases h
    | some v =>
      rw [hv] at h
      cases hp : pids t with
      | none => rw [hp] at h; cases h
      | some us =>
        rw [hp] at h
        simp at h
        subst h
        simp [ih us hp]

/-- Each field is no longer than the text; there are no more fields than bytes. -/
theorem goU_len : ∀ (n : Nat) (cur l : List UInt8), ∀ f ∈ fieldsGoU n cur l, f.length ≤ cur.length + l.length := by
  intro n
  induction n with
  | zero =>
    intro cur l f hf
    simp only [fieldsGoU] at hf
    split at hf
    · cases hf
    · simp at hf; subst hf; omega
  | succ n ih =>
    intro cur l f hf
    cases l with
    | nil =>
      simp only [fieldsGoU] at hf
      split at hf
      · cases hf
      · simp at hf; subst hf; omega
    | cons b t =>
      simp only [fieldsGoU] at hf
      split at hf
      · have := ih _ _ f hf
        simp at this ⊢; omega
      · rw [List.mem_append] at hf
        rcases hf with hf | hf
        · split at hf
          · cases hf
          · simp at hf; subst hf; omega
        · have := ih _ _ f hf
          simp at this ⊢; omega
theorem goU_count : ∀ (n : Nat) (cur l : List UInt8), (fieldsGoU n cur l).length ≤ l.length + 1 := by
  intro n
  induction n with
  | zero => intro cur l; simp only [fieldsGoU]; split <;> simp
  | succ n ih =>
    intro cur l
    cases l with
    | nil => simp only [fieldsGoU]; split <;> simp
    | cons b t =>
      simp only [fieldsGoU]
      split
      · have := ih (cur ++ [b]) t
        simp; omega
      · rename_i h0
        have := ih [] ((b :: t).drop (headSpace (b :: t)))
        have hd : ((b :: t).drop (headSpace (b :: t))).length ≤ t.length := by simp; omega
        rw [List.length_append]
        simp only [List.length_cons]
        have h1 : (if cur = [] then ([] : List (List UInt8)) else [cur]).length ≤ 1 := by split <;> simp
        omega
theorem fields_len (l : List UInt8) : ∀ f ∈ fieldsD l, f.length ≤ l.length := by
  intro f hf
  rw [← fieldsU_eq] at hf
  have := goU_len _ _ _ f hf
  simpa using this
theorem fields_count (l : List UInt8) : (fieldsD l).length ≤ l.length + 1 := by
  rw [← fieldsU_eq]
  exact goU_count _ _ _
end Go.Proofs.Qxb6629140aFmt
