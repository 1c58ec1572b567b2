/-
  Plain: one white-space character at a head, by its bytes; the scan of fields; the decimal with a limit.
-/
import Derived.Test.Qxb6629140aFmtInsPlain
namespace Go.Proofs.Qxb6629140aFmt
open Go.Lib

abbrev k1 (x : Nat) : Prop := x = 32 ∨ (9 ≤ x ∧ x ≤ 13)
abbrev k2 (x y : Nat) : Prop := x = 194 ∧ (y = 133 ∨ y = 160)
abbrev k3 (x y z : Nat) : Prop := (x = 225 ∧ y = 154 ∧ z = 128) ∨ (x = 226 ∧ y = 128 ∧ ((128 ≤ z ∧ z ≤ 138) ∨ z = 168 ∨ z = 169 ∨ z = 175)) ∨ (x = 226 ∧ y = 129 ∧ z = 159) ∨ (x = 227 ∧ y = 128 ∧ z = 128)
def cls : List UInt8 → Bool
  | [x] => decide (k1 x.toNat)
  | [x, y] => decide (k2 x.toNat y.toNat)
  | [x, y, z] => decide (k3 x.toNat y.toNat z.toNat)
  | _ => false
theorem cls_all : ∀ q ∈ spaceSeqs, cls q = true := by decide
theorem seq_alone : ∀ q ∈ spaceSeqs, ∀ q' ∈ spaceSeqs, q.isPrefixOf q' = true → q = q' := by decide
theorem hs_of (q l : List UInt8) (hq : q ∈ spaceSeqs) (h : q <+: l) : headSpace l = q.length := by
  unfold headSpace
  cases hf : spaceSeqs.find? (fun x => x.isPrefixOf l) with
  | none =>
    rw [List.find?_eq_none] at hf
    exact absurd (List.isPrefixOf_iff_prefix.2 h) (hf q hq)
  | some q' =>
    have h1 := List.find?_some hf
    have h2 := List.mem_of_find?_eq_some hf
    simp only [List.isPrefixOf_iff_prefix] at h1
    have : q = q' := by
      rcases List.prefix_or_prefix_of_prefix h h1 with h3 | h3
      · exact seq_alone q hq q' h2 (List.isPrefixOf_iff_prefix.2 h3)
      · exact (seq_alone q' h2 q hq (List.isPrefixOf_iff_prefix.2 h3)).symm
    subst this
    rfl
theorem u8_of (b : UInt8) : ∃ n : Fin 256, b = UInt8.ofNat n.val := ⟨⟨b.toNat, b.toNat_lt⟩, by simp⟩
set_option maxRecDepth 100000 in
theorem in1 : ∀ n : Fin 256, k1 (UInt8.ofNat n.val).toNat → [UInt8.ofNat n.val] ∈ spaceSeqs := by decide
set_option maxRecDepth 100000 in
theorem in2 : ∀ n : Fin 256, (n.val = 133 ∨ n.val = 160) → [194, UInt8.ofNat n.val] ∈ spaceSeqs := by decide
set_option maxRecDepth 100000 in
theorem in3 : ∀ n : Fin 256, ((128 ≤ n.val ∧ n.val ≤ 138) ∨ n.val = 168 ∨ n.val = 169 ∨ n.val = 175) → [226, 128, UInt8.ofNat n.val] ∈ spaceSeqs := by decide
theorem u8_eq {b : UInt8} {n : Nat} (h : b.toNat = n) : b = UInt8.ofNat n := by rw [← h]; simp
theorem ofNat_toNat (n : Fin 256) : (UInt8.ofNat n.val).toNat = n.val := by simp
theorem hsA (b : UInt8) (r : List UInt8) (h : k1 b.toNat) : headSpace (b :: r) = 1 := by
  obtain ⟨n, rfl⟩ := u8_of b
  exact hs_of [_] _ (in1 n h) ⟨r, rfl⟩
theorem hsB (b c : UInt8) (r : List UInt8) (h : k2 b.toNat c.toNat) : headSpace (b :: c :: r) = 2 := by
  obtain ⟨h1, h2⟩ := h
  have e := u8_eq h1
  obtain ⟨n, rfl⟩ := u8_of c
  rw [ofNat_toNat] at h2
  rw [e]
  exact hs_of [194, _] _ (in2 n h2) ⟨r, rfl⟩
theorem hsC (b c d : UInt8) (r : List UInt8) (h : k3 b.toNat c.toNat d.toNat) : headSpace (b :: c :: d :: r) = 3 := by
  rcases h with ⟨h1, h2, h3⟩ | ⟨h1, h2, h3⟩ | ⟨h1, h2, h3⟩ | ⟨h1, h2, h3⟩
  · rw [u8_eq h1, u8_eq h2, u8_eq h3]; exact hs_of [225, 154, 128] _ (by decide) ⟨r, rfl⟩
  · obtain ⟨n, rfl⟩ := u8_of d
    rw [ofNat_toNat] at h3
    rw [u8_eq h1, u8_eq h2]; exact hs_of [226, 128, _] _ (in3 n h3) ⟨r, rfl⟩
  · rw [u8_eq h1, u8_eq h2, u8_eq h3]; exact hs_of [226, 129, 159] _ (by decide) ⟨r, rfl⟩
  · rw [u8_eq h1, u8_eq h2, u8_eq h3]; exact hs_of [227, 128, 128] _ (by decide) ⟨r, rfl⟩
theorem hsZ (l : List UInt8) (h1 : ∀ b r, l = b :: r → ¬ k1 b.toNat) (h2 : ∀ b c r, l = b :: c :: r → ¬ k2 b.toNat c.toNat) (h3 : ∀ b c d r, l = b :: c :: d :: r → ¬ k3 b.toNat c.toNat d.toNat) : headSpace l = 0 := by
  unfold headSpace
  have e : spaceSeqs.find? (fun x => x.isPrefixOf l) = none := by
    rw [List.find?_eq_none]
    intro q hq hp
    have hc := cls_all q hq
    rw [List.isPrefixOf_iff_prefix] at hp
    obtain ⟨t, rfl⟩ := hp
    match q, hc with
    | [x], hc => exact h1 x t rfl (of_decide_eq_true hc)
    | [x, y], hc => exact h2 x y t rfl (of_decide_eq_true hc)
    | [x, y, z], hc => exact h3 x y z t rfl (of_decide_eq_true hc)
  rw [e]; rfl

/-- The text's bytes from i on. -/
def rest (s : ByteArray) (i : Nat) : List UInt8 := s.data.toList.drop i
theorem rest_len (s : ByteArray) (i : Nat) : (rest s i).length = s.size - i := by simp [rest]
theorem rest_at (s : ByteArray) (i : Nat) (h : i < s.size) : rest s i = s[i] :: rest s (i + 1) := by
  unfold rest
  rw [List.drop_eq_getElem_cons (by simpa using h)]
  rfl
theorem rest_end (s : ByteArray) (i : Nat) (h : s.size ≤ i) : rest s i = [] := List.eq_nil_of_length_eq_zero (by rw [rest_len]; omega)
theorem rest_drop (s : ByteArray) (i j : Nat) : (rest s i).drop j = rest s (i + j) := by unfold rest; rw [List.drop_drop]
theorem rA (s : ByteArray) (i : Nat) (h : i < s.size) (hk : k1 s[i].toNat) : headSpace (rest s i) = 1 := by rw [rest_at s i h]; exact hsA _ _ hk
theorem rB (s : ByteArray) (i : Nat) (h : i + 1 < s.size) (hk : k2 s[i].toNat s[i + 1].toNat) : headSpace (rest s i) = 2 := by rw [rest_at s i (by omega), rest_at s (i + 1) h]; exact hsB _ _ _ hk
theorem rC (s : ByteArray) (i : Nat) (h : i + 2 < s.size) (hk : k3 s[i].toNat s[i + 1].toNat s[i + 2].toNat) : headSpace (rest s i) = 3 := by
  rw [rest_at s i (by omega), rest_at s (i + 1) (by omega), rest_at s (i + 2) h]; exact hsC _ _ _ _ hk
theorem rZ (s : ByteArray) (i : Nat) (h : i < s.size) (h1 : ¬ k1 s[i].toNat) (h2 : ∀ (h : i + 1 < s.size), ¬ k2 s[i].toNat s[i + 1].toNat) (h3 : ∀ (h : i + 2 < s.size), ¬ k3 s[i].toNat s[i + 1].toNat s[i + 2].toNat) : headSpace (rest s i) = 0 := by
  refine hsZ _ ?_ ?_ ?_
  · intro b r e
    rw [rest_at s i h] at e
    simp only [List.cons.injEq] at e
    rw [← e.1]; exact h1
  · intro b c r e
    have hl : 2 ≤ (rest s i).length := by rw [e]; simp
    rw [rest_len] at hl
    rw [rest_at s i h, rest_at s (i + 1) (by omega)] at e
    simp only [List.cons.injEq] at e
    rw [← e.1, ← e.2.1]; exact h2 (by omega)
  · intro b c d r e
    have hl : 3 ≤ (rest s i).length := by rw [e]; simp
    rw [rest_len] at hl
    rw [rest_at s i h, rest_at s (i + 1) (by omega), rest_at s (i + 2) (by omega)] at e
    simp only [List.cons.injEq] at e
    rw [← e.1, ← e.2.1, ← e.2.2.1]; exact h3 (by omega)

/-! ### The scan. -/
theorem rest_hs_le (s : ByteArray) (i : Nat) : headSpace (rest s i) ≤ s.size - i := by have := headSpace_le (rest s i); rw [rest_len] at this; exact this
theorem fU_skip (s : ByteArray) (k : Nat) (h : k < s.size) (h0 : headSpace (rest s k) ≠ 0) : fU [] (rest s k) = fU [] (rest s (k + headSpace (rest s k))) := by
  have e := rest_at s k h
  have e2 := rest_drop s k (headSpace (rest s k))
  rw [e] at h0 e2 ⊢
  rw [fU_cons, if_neg h0, if_pos rfl, List.nil_append, e2]
theorem fU_step (s : ByteArray) (k : Nat) (cur : List UInt8) (h : k < s.size) (h0 : headSpace (rest s k) = 0) : fU cur (rest s k) = fU (cur ++ [s[k]]) (rest s (k + 1)) := by
  have e := rest_at s k h
  rw [e] at h0 ⊢
  rw [fU_cons, if_pos h0]
theorem fU_stop (s : ByteArray) (k : Nat) (cur : List UInt8) (hc : cur ≠ []) (h : s.size ≤ k ∨ headSpace (rest s k) ≠ 0) : fU cur (rest s k) = cur :: fU [] (rest s k) := by
  by_cases hk : k < s.size
  · have h0 := h.resolve_left (by omega)
    rw [fU_skip s k hk h0]
    have e := rest_at s k hk
    have e2 := rest_drop s k (headSpace (rest s k))
    rw [e] at h0 e2 ⊢
    rw [fU_cons, if_neg h0, if_neg hc, e2]; rfl
  · rw [rest_end s k (by omega), fU_nil, if_neg hc, fU_nil, if_pos rfl]
theorem ext_snoc (s : ByteArray) (i k : Nat) (h : i ≤ k) (hk : k < s.size) : (s.extract i (k + 1)).data.toList = (s.extract i k).data.toList ++ [s[k]] := by
  rw [extract_data, extract_data, show k + 1 - i = (k - i) + 1 from by omega, List.take_succ_eq_append_getElem (by simp; omega)]
  congr 1
  simp only [List.getElem_drop, show i + (k - i) = k from by omega]
  rfl
theorem ext_none (s : ByteArray) (i : Nat) : (s.extract i i).data.toList = [] := by rw [extract_data]; simp
theorem ext_ne (s : ByteArray) (i k : Nat) (h : i < k) (hk : k ≤ s.size) : (s.extract i k).data.toList ≠ [] := by
  intro e
  have := congrArg List.length e
  rw [extract_data] at this
  simp at this
  omega

/-! ### The decimal. -/
def dec (M : Nat) : Nat → List UInt8 → Option Nat
  | u, [] => some u
  | u, c :: r => if c.toNat < 48 ∨ 57 < c.toNat then none else if (M - (c.toNat - 48)) / 10 < u then none else dec M (u * 10 + (c.toNat - 48)) r
theorem parse_mono : ∀ (r : List UInt8) (a v : Nat), parseUint10 a r = .ok v → a ≤ v := by
  intro r
  induction r with
  | nil => intro a v h; simp only [parseUint10] at h; injection h with h; omega
  | cons c r ih =>
    intro a v h
    simp only [parseUint10] at h
    split at h
    · split at h
      · cases h
      · split at h
        · cases h
        · have := ih _ _ h; omega
    · cases h
theorem dec_parse (M : Nat) (hM : 9 ≤ M) (hM2 : M ≤ 9223372036854775808) : ∀ (r : List UInt8) (u : Nat), u ≤ M → dec M u r = (match parseUint10 u r with | .ok v => if v ≤ M then some v else none | _ => none) := by
  intro r
  induction r with
  | nil => intro u hu; simp only [dec, parseUint10, if_pos hu]
  | cons c r ih =>
    intro u hu
    simp only [dec, parseUint10]
    by_cases hc : 48 ≤ c.toNat ∧ c.toNat ≤ 57
    · rw [if_neg (by omega), if_pos hc]
      by_cases hb : (M - (c.toNat - 48)) / 10 < u
      · rw [if_pos hb]
        by_cases q1 : 1844674407370955162 ≤ u
        · rw [if_pos q1]
        · rw [if_neg q1]
          by_cases q2 : 18446744073709551616 ≤ u * 10 + (c.toNat - 48)
          · rw [if_pos q2]
          · rw [if_neg q2]
            cases hp : parseUint10 (u * 10 + (c.toNat - 48)) r with
            | ok v =>
              have := parse_mono _ _ _ hp
              simp only
              rw [if_neg (by omega)]
            | _ => rfl
      · rw [if_neg hb, if_neg (by omega), if_neg (by omega)]
        exact ih _ (by omega)
    · rw [if_pos (by omega), if_neg hc]
theorem dec_le (M : Nat) (hM : 9 ≤ M) (hM2 : M ≤ 9223372036854775808) (r : List UInt8) (v : Nat) (h : dec M 0 r = some v) : v ≤ M := by
  rw [dec_parse M hM hM2 r 0 (by omega)] at h
  split at h
  · split at h
    · rename_i h2; injection h with h; omega
    · cases h
  · cases h
theorem val_nil : val [] = none := rfl
theorem val_plus (c : UInt8) (r : List UInt8) (hc : c.toNat = 43) (hr : r ≠ []) : val (c :: r) = (dec 9223372036854775807 0 r).map fun u => (u : Int) := by
  rw [dec_parse _ (by decide) (by decide) r 0 (by omega)]
  have n2 : ¬ c.toNat = 45 := by omega
  unfold val atoiAll parseMag
  simp only [if_pos (Or.inl hc : c.toNat = 43 ∨ c.toNat = 45), if_neg hr]
  cases hp : parseUint10 0 r with
  | ok u =>
    simp only [n2, not_false_eq_true, true_and, false_and, if_false]
    by_cases h : u ≤ 9223372036854775807
    · rw [if_neg (by omega), if_pos h]; rfl
    · rw [if_pos (by omega), if_neg h]; rfl
  | _ => rfl
theorem val_minus (c : UInt8) (r : List UInt8) (hc : c.toNat = 45) (hr : r ≠ []) : val (c :: r) = (dec 9223372036854775808 0 r).map fun u => -(u : Int) := by
  rw [dec_parse _ (by decide) (by decide) r 0 (by omega)]
  unfold val atoiAll parseMag
  simp only [if_pos (Or.inr hc : c.toNat = 43 ∨ c.toNat = 45), if_neg hr]
  cases hp : parseUint10 0 r with
  | ok u =>
    simp only [hc, not_true, false_and, if_false, true_and, if_true]
    by_cases h : u ≤ 9223372036854775808
    · rw [if_neg (by omega), if_pos h]; rfl
    · rw [if_pos (by omega), if_neg h]; rfl
  | _ => rfl
theorem val_bare (c : UInt8) (r : List UInt8) (hc : ¬ (c.toNat = 43 ∨ c.toNat = 45)) : val (c :: r) = (dec 9223372036854775807 0 (c :: r)).map fun u => (u : Int) := by
  rw [dec_parse _ (by decide) (by decide) (c :: r) 0 (by omega)]
  have n2 : ¬ c.toNat = 45 := by omega
  unfold val atoiAll parseMag
  simp only [if_neg hc, reduceCtorEq, if_false]
  cases hp : parseUint10 0 (c :: r) with
  | ok u =>
    simp only [n2, not_false_eq_true, true_and, false_and, if_false]
    by_cases h : u ≤ 9223372036854775807
    · rw [if_neg (by omega), if_pos h]; rfl
    · rw [if_pos (by omega), if_neg h]; rfl
  | _ => rfl
theorem val_sign (c : UInt8) (hc : c.toNat = 43 ∨ c.toNat = 45) : val [c] = none := by
  unfold val atoiAll parseMag
  simp only [if_pos hc, if_true]
end Go.Proofs.Qxb6629140aFmt
