/-
  Plain: a decimal between two texts; the numeral read back.
-/
import Derived.Test.Qxb6629140aFmtPlain
import Derived.Lib.ItoaNum
import Derived.Lib.ItoaLen
namespace Go.Proofs.Qxb6629140aFmt
open Go.Lib

theorem prefix_no32 : ∀ (q l r : List UInt8), (∀ y ∈ q, y ≠ 32) → q.isPrefixOf (l ++ 32 :: r) = q.isPrefixOf l := by
  intro q
  induction q with
  | nil => intro l r _; simp
  | cons y q ih =>
    intro l r h
    cases l with
    | nil =>
      have : y ≠ 32 := h y (by simp)
      simp [List.isPrefixOf, this]
    | cons a l =>
      simp only [List.cons_append, List.isPrefixOf]
      rw [ih l r (fun z hz => h z (by simp [hz]))]
theorem seq_tail : ∀ q ∈ spaceSeqs, ∀ y ∈ q.tail, y ≠ 32 := by decide
theorem seq_head : ∀ q ∈ spaceSeqs, q ≠ [] ∧ ∀ y ∈ q.head?, y.toNat ≤ 32 ∨ 128 ≤ y.toNat := by decide
theorem headSpace_app (a : UInt8) (l r : List UInt8) : headSpace ((a :: l) ++ 32 :: r) = headSpace (a :: l) := by
  have h : ∀ q ∈ spaceSeqs, q.isPrefixOf ((a :: l) ++ 32 :: r) = q.isPrefixOf (a :: l) := by
    intro q hq
    cases q with
    | nil => simp
    | cons x q =>
      simp only [List.cons_append, List.isPrefixOf]
      rw [prefix_no32 q l r (fun y hy => seq_tail _ hq y (by simpa using hy))]
  unfold headSpace
  have e : spaceSeqs.find? (fun x => x.isPrefixOf ((a :: l) ++ 32 :: r)) = spaceSeqs.find? (fun x => x.isPrefixOf (a :: l)) := by
    generalize spaceSeqs = S at h
    induction S with
    | nil => rfl
    | cons q S ih =>
      rw [List.find?_cons, List.find?_cons, h q (by simp)]
      split
      · rfl
      · exact ih (fun q' hq' => h q' (by simp [hq']))
  rw [e]
theorem headSpace_32 (r : List UInt8) : headSpace (32 :: r) = 1 := by
  cases r with
  | nil => decide
  | cons a t => cases t with
    | nil => rfl
    | cons b t => rfl
theorem headSpace_dig (c : UInt8) (r : List UInt8) (h : 32 < c.toNat ∧ c.toNat < 128) : headSpace (c :: r) = 0 := by
  unfold headSpace
  have e : spaceSeqs.find? (fun x => x.isPrefixOf (c :: r)) = none := by
    rw [List.find?_eq_none]
    intro q hq hp
    have hh := seq_head q hq
    cases q with
    | nil => exact hh.1 rfl
    | cons x q =>
      simp only [List.isPrefixOf, Bool.and_eq_true, beq_iff_eq] at hp
      have := hh.2 x (by simp)
      rw [hp.1] at this
      omega
  rw [e]; rfl
theorem headSpace_le (l : List UInt8) : headSpace l ≤ l.length := by
  unfold headSpace
  cases h : spaceSeqs.find? (fun x => x.isPrefixOf l) with
  | none => simp
  | some q =>
    have := List.find?_some h
    simp only [List.isPrefixOf_iff_prefix] at this
    simpa using this.length_le

/-- The fields from a state on, fuel enough. -/
def fU (cur l : List UInt8) : List (List UInt8) := fieldsGoU (l.length + 1) cur l
theorem fuel (f g : Nat) (cur l : List UInt8) (hf : l.length ≤ f) (hg : l.length ≤ g) : fieldsGoU f cur l = fieldsGoU g cur l := by
  rw [fieldsGo_eq l.length f cur l (Nat.le_refl _) hf, fieldsGo_eq l.length g cur l (Nat.le_refl _) hg]
theorem fU_nil (cur : List UInt8) : fU cur [] = if cur = [] then [] else [cur] := rfl
theorem fU_cons (cur : List UInt8) (b : UInt8) (t : List UInt8) : fU cur (b :: t) = if headSpace (b :: t) = 0 then fU (cur ++ [b]) t else (if cur = [] then [] else [cur]) ++ fU [] ((b :: t).drop (headSpace (b :: t))) := by
  have e : fU cur (b :: t) = fieldsGoU (t.length + 1 + 1) cur (b :: t) := rfl
  rw [e, fieldsGoU]
  split
  · rfl
  · rename_i h
    rw [fuel (t.length + 1) (((b :: t).drop (headSpace (b :: t))).length + 1) [] _ (by simp) (by omega)]
    rfl
theorem fU_split : ∀ (n : Nat) (a cur r : List UInt8), a.length ≤ n → fU cur (a ++ 32 :: r) = fU cur a ++ fU [] r := by
  intro n
  induction n with
  | zero =>
    intro a cur r h
    have : a = [] := List.eq_nil_of_length_eq_zero (by omega)
    subst this
    rw [List.nil_append, fU_cons, headSpace_32, if_neg (by decide), fU_nil]; rfl
  | succ n ih =>
    intro a cur r h
    cases a with
    | nil => rw [List.nil_append, fU_cons, headSpace_32, if_neg (by decide), fU_nil]; rfl
    | cons b t =>
      rw [List.cons_append, fU_cons, ← List.cons_append, headSpace_app, fU_cons]
      split
      · exact ih t _ r (by simpa using h)
      · rename_i h0
        have hle := headSpace_le (b :: t)
        rw [List.drop_append_of_le_length hle, ih _ [] r (by simp at h ⊢; omega), List.append_assoc]
theorem fU_digs : ∀ (d cur : List UInt8), (∀ c ∈ d, 32 < c.toNat ∧ c.toNat < 128) → fU cur d = if cur ++ d = [] then [] else [cur ++ d] := by
  intro d
  induction d with
  | nil => intro cur _; rw [fU_nil, List.append_nil]
  | cons c t ih =>
    intro cur h
    rw [fU_cons, if_pos (headSpace_dig c t (h c (by simp))), ih _ (fun x hx => h x (by simp [hx])), List.append_assoc]; rfl
/-- The text a, a numeral, the text b: the fields in a row. -/
theorem fields_insert (a d b : List UInt8) (hd : d ≠ []) (hc : ∀ c ∈ d, 32 < c.toNat ∧ c.toNat < 128) : fieldsD (a ++ 32 :: (d ++ 32 :: b)) = fieldsD a ++ (d :: fieldsD b) := by
  rw [← fieldsU_eq, ← fieldsU_eq, ← fieldsU_eq]
  show fU [] _ = fU [] a ++ (d :: fU [] b)
  rw [fU_split _ a [] _ (Nat.le_refl _), fU_split _ d [] _ (Nat.le_refl _), fU_digs d [] hc, if_neg (by simpa using hd)]; rfl

theorem parse_snoc : ∀ (l : List UInt8) (acc v : Nat) (c : UInt8), parseUint10 acc l = .ok v → (48 ≤ c.toNat ∧ c.toNat ≤ 57) → v < 1844674407370955162 → v * 10 + (c.toNat - 48) < 18446744073709551616 → parseUint10 acc (l ++ [c]) = .ok (v * 10 + (c.toNat - 48)) := by
  intro l
  induction l with
  | nil =>
    intro acc v c h hc h1 h2
    simp only [parseUint10] at h
    injection h with h
    subst h
    rw [List.nil_append, parseUint10, if_pos hc, if_neg (by omega), if_neg (by omega), parseUint10]
  | cons x l ih =>
    intro acc v c h hc h1 h2
    simp only [List.cons_append, parseUint10] at h ⊢
    split at h
    · rename_i hx
      rw [if_pos hx]
      split at h
      · cases h
      · rename_i h3
        rw [if_neg h3]
        split at h
        · cases h
        · rename_i h4
          rw [if_neg h4]
          exact ih _ _ _ h hc h1 h2
    · cases h
theorem dig_toNat (d : Nat) (h : d < 10) : (UInt8.ofNat (48 + d)).toNat = 48 + d := by
  have : ∀ n : Fin 10, (UInt8.ofNat (48 + n.val)).toNat = 48 + n.val := by decide
  exact this ⟨d, h⟩
theorem parse_dec (u : Nat) (hu : u < 18446744073709551616) : parseUint10 0 (decDigits u) = .ok u := by
  induction u using Nat.strongRecOn with
  | _ u ih =>
    by_cases h : u < 10
    · rw [decDigits, dif_pos h]
      have e := dig_toNat u h
      rw [parseUint10, if_pos (by omega), if_neg (by omega), if_neg (by omega), parseUint10]
      congr 1; omega
    · rw [decDigits, dif_neg h]
      have e := dig_toNat (u % 10) (by omega)
      rw [parse_snoc _ 0 (u / 10) _ (ih (u / 10) (by omega) (by omega)) (by omega) (by omega) (by omega)]
      congr 1; omega
theorem dec_digs (u : Nat) : decDigits u ≠ [] ∧ ∀ c ∈ decDigits u, 48 ≤ c.toNat ∧ c.toNat ≤ 57 := by
  induction u using Nat.strongRecOn with
  | _ u ih =>
    by_cases h : u < 10
    · rw [decDigits, dif_pos h]
      refine ⟨by simp, fun c hc => ?_⟩
      simp only [List.mem_cons, List.not_mem_nil, or_false] at hc
      rw [hc, dig_toNat u h]; omega
    · rw [decDigits, dif_neg h]
      refine ⟨by simp, fun c hc => ?_⟩
      rw [List.mem_append] at hc
      rcases hc with hc | hc
      · exact (ih (u / 10) (by omega)).2 c hc
      · simp only [List.mem_cons, List.not_mem_nil, or_false] at hc
        rw [hc, dig_toNat _ (by omega)]; omega
theorem mag_dec (u : Nat) (hu : u < 18446744073709551616) : parseMag (decDigits u) = .ok u := by
  unfold parseMag
  rw [if_neg (dec_digs u).1, parse_dec u hu]
/-- The numeral of n, read back. -/
theorem atoi_itoa (n : Int) (h0 : -9223372036854775808 ≤ n) (h1 : n ≤ 9223372036854775807) : atoiAll (itoa n) = .ok n := by
  by_cases hn : n < 0
  · have e : itoa n = 45 :: decDigits n.natAbs := by unfold itoa; rw [if_pos hn]
    rw [e]
    unfold atoiAll
    have e45 : (45 : UInt8).toNat = 45 := rfl
    simp only [e45, or_true, if_true, mag_dec n.natAbs (by omega), not_true, false_and, if_false, true_and]
    rw [if_neg (by omega)]
    congr 1; omega
  · have e : itoa n = decDigits n.toNat := by unfold itoa; rw [if_neg hn]
    rw [e]
    obtain ⟨hne, hd⟩ := dec_digs n.toNat
    have hm := mag_dec n.toNat (by omega)
    cases hl : decDigits n.toNat with
    | nil => exact absurd hl hne
    | cons c r =>
      rw [hl] at hd hm
      have hc := hd c (by simp)
      have n1 : ¬ (c.toNat = 43 ∨ c.toNat = 45) := by omega
      have n2 : ¬ c.toNat = 45 := by omega
      simp only [atoiAll]
      rw [if_neg n1, hm]
      simp only [n2, not_false_eq_true, true_and, false_and, if_false]
      rw [if_neg (by omega)]
      congr 1; omega
theorem itoa_bytes (n : Int) : itoa n ≠ [] ∧ ∀ c ∈ itoa n, 32 < c.toNat ∧ c.toNat < 128 := by
  unfold itoa
  split
  · refine ⟨by simp, fun c hc => ?_⟩
    rw [List.mem_cons] at hc
    rcases hc with rfl | hc
    · decide
    · have := (dec_digs n.natAbs).2 c hc; omega
  · refine ⟨(dec_digs _).1, fun c hc => ?_⟩
    have := (dec_digs n.toNat).2 c hc; omega
/-- THE LAW: what the joined text answers. -/
theorem pids_insert (a b : List UInt8) (n : Int) (h0 : -9223372036854775808 ≤ n) (h1 : n ≤ 9223372036854775807) :
    pids (fieldsD (a ++ 32 :: (itoa n ++ 32 :: b))) = (pids (fieldsD a)).bind fun x => (pids (fieldsD b)).map fun y => x ++ (n :: y) := by
  rw [fields_insert a (itoa n) b (itoa_bytes n).1 (itoa_bytes n).2, pids_append, pids, val_of (atoi_itoa n h0 h1)]
  cases pids (fieldsD a) <;> cases pids (fieldsD b) <;> simp
end Go.Proofs.Qxb6629140aFmt
