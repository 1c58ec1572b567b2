/-
  Plain: where the bytes of the encoding stand.
-/
import Derived.Test.Qxb6629099aPlain
namespace Go.Proofs.Qxb6629099a
theorem enc_split (sl : Bool) (s : ByteArray) (k : Nat) (h : k < s.size) :
    enc sl s.data.toList = enc sl (s.data.toList.take k) ++ (enc1 sl s[k] ++ enc sl (s.data.toList.drop (k + 1))) := by
  have e : s.data.toList = s.data.toList.take k ++ ([s[k]] ++ s.data.toList.drop (k + 1)) := by
    have h1 : s.data.toList = s.data.toList.take (k + 1) ++ s.data.toList.drop (k + 1) := (List.take_append_drop _ _).symm
    rw [take_snoc s k h, List.append_assoc] at h1
    exact h1
  calc enc sl s.data.toList = enc sl (s.data.toList.take k ++ ([s[k]] ++ s.data.toList.drop (k + 1))) := by rw [← e]
    _ = _ := by rw [enc_append, enc_append, enc_one]
theorem at_list (W : ByteArray) (p : Nat) (a : UInt8) (h : W.data.toList[p]? = some a) : ∃ hp : p < W.size, W[p] = a := by
  obtain ⟨hp, e⟩ := List.getElem?_eq_some_iff.1 h
  exact ⟨by simpa using hp, by rw [← e]; rfl⟩
theorem at_bare (sl : Bool) (s : ByteArray) (k p : Nat) (h : k < s.size) (hp : p = (enc sl (s.data.toList.take k)).length) (hb : bare sl s[k] = true) :
    ∃ h0 : p < (encB sl s).size, (encB sl s)[p] = s[k] := by
  apply at_list
  rw [encB_data, enc_split sl s k h, hp, List.getElem?_append_right (Nat.le_refl _), Nat.sub_self, enc1, if_pos hb]; rfl
theorem at_esc (sl : Bool) (s : ByteArray) (k p : Nat) (h : k < s.size) (hp : p = (enc sl (s.data.toList.take k)).length) (hb : bare sl s[k] = false) :
    (∃ h0 : p < (encB sl s).size, (encB sl s)[p] = 37) ∧ (∃ h0 : p + 1 < (encB sl s).size, (encB sl s)[p + 1] = hexd (s[k].toNat / 16)) ∧
    (∃ h0 : p + 2 < (encB sl s).size, (encB sl s)[p + 2] = hexd (s[k].toNat % 16)) := by
  have hn : ¬ bare sl s[k] = true := by simp [hb]
  refine ⟨?_, ?_, ?_⟩
  · apply at_list
    rw [encB_data, enc_split sl s k h, hp, List.getElem?_append_right (Nat.le_refl _), Nat.sub_self, enc1, if_neg hn]; rfl
  · apply at_list
    rw [encB_data, enc_split sl s k h, hp, List.getElem?_append_right (Nat.le_add_right _ _), Nat.add_sub_cancel_left, enc1, if_neg hn]; rfl
  · apply at_list
    rw [encB_data, enc_split sl s k h, hp, List.getElem?_append_right (Nat.le_add_right _ _), Nat.add_sub_cancel_left, enc1, if_neg hn]; rfl
theorem step_bare (sl : Bool) (s : ByteArray) (k p : Nat) (h : k < s.size) (hp : p = (enc sl (s.data.toList.take k)).length) (hb : bare sl s[k] = true) :
    p + 1 = (enc sl (s.data.toList.take (k + 1))).length := by
  rw [enc_take sl s k h, enc1, if_pos hb]; simp [hp]
theorem step_esc (sl : Bool) (s : ByteArray) (k p : Nat) (h : k < s.size) (hp : p = (enc sl (s.data.toList.take k)).length) (hb : bare sl s[k] = false) :
    p + 3 = (enc sl (s.data.toList.take (k + 1))).length := by
  rw [enc_take sl s k h, enc1, if_neg (by simp [hb])]; simp [hp]
theorem at_end (sl : Bool) (s : ByteArray) (k p : Nat) (h : ¬ k < s.size) (hk : k ≤ s.size) (hp : p = (enc sl (s.data.toList.take k)).length) : p = (encB sl s).size := by
  rw [encB_size, hp, List.take_of_length_le (by simp; omega)]
theorem not37 (sl : Bool) (c : UInt8) (hb : bare sl c = true) : ((c.toNat : Int) == 37) = false := by
  rw [beq_eq_false_iff_ne]
  rcases classes sl c with ⟨_, h⟩ | ⟨h, _⟩
  · omega
  · simp [hb] at h
end Go.Proofs.Qxb6629099a
