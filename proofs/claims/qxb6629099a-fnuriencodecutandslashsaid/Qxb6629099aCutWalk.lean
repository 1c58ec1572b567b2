/-
  The walk of FnURIEncodeCutAndSlash.
-/
import Derived.Test.Qxb6629099aEnc
import Derived.Test.Qxb6629099aPush
namespace Go.Proofs.Qxb6629099a
open Go.RowKit

set_option maxHeartbeats 400000 in
theorem bytes9_yes (a b : ByteArray) (sl : Bool) (w : World) (hs : (a.size : Int) + (b.size : Int) ≤ 1048576) :
    Calls Try.prog 9 #[.string a, .string b, .bool sl] w fun e w' => e = .returned (.bool true) ∧ w' = w := by
  go_enter Try.func9, Try.ntmps9
  go_wp2
  go_ret
  exact ⟨rfl, rfl⟩
set_option maxHeartbeats 400000 in
theorem bytes9_no (a b : ByteArray) (sl : Bool) (w : World) (hs : (1048576 : Int) < (a.size : Int) + (b.size : Int)) :
    Calls Try.prog 9 #[.string a, .string b, .bool sl] w fun e w' => e = .returned (.bool false) ∧ w' = w := by
  by_cases ha : (a.size : Int) ≤ 1048576
  · by_cases hb : (b.size : Int) ≤ 1048576
    all_goals
      go_enter Try.func9, Try.ntmps9
      go_wp2
      go_ret
      exact ⟨rfl, rfl⟩
  · go_enter Try.func9, Try.ntmps9
    go_wp2
    go_ret
    exact ⟨rfl, rfl⟩
theorem ret_bool {a b : Bool} (h : a = b) : Ending.returned (.bool a) = .returned (.bool b) := by rw [h]

set_option maxHeartbeats 400000 in
set_option maxRecDepth 100000 in
theorem cut_main (a b : ByteArray) (sl : Bool) (w : World) (ha : (a.size : Int) ≤ 524288) (hb : (b.size : Int) ≤ 524288) :
    Calls Try.prog 4 #[.string a, .string b, .bool sl] w fun e w' => e = .returned (.bool true) ∧ Below w.heap.size w w' := by
  have hab : (a ++ b).size ≤ 1048576 := by rw [ByteArray.size_append]; omega
  have sA := encB_le sl a
  have sB := encB_le sl b
  have sC := encB_le false (a ++ b)
  have sW := encB_le sl (a ++ b)
  have heq : ((encB sl (a ++ b)).toList == (encB sl a ++ encB sl b).toList) = true := by rw [encB_append]; exact beq_self_eq_true _
  have hfin : ((encB true (a ++ b)).toList == (slashB (encB false (a ++ b))).toList) = true := by rw [encB_slash]; exact beq_self_eq_true _
  have hp := encB_pct sl (a ++ b)
  obtain ⟨W, hW⟩ : ∃ W, W = encB sl (a ++ b) := ⟨_, rfl⟩
  have cU : ∀ w, Calls Try.prog 6 #[.string (a ++ b), .bool sl] w fun e w' => e = .returned (.string W) ∧ Below w.heap.size w w' := fun w => by rw [hW]; exact uri_call _ _ w hab
  rw [← hW] at heq hp sW
  have CU : Hid _ := cU
  have hp1 : (W.size : Int) ≤ (a.size : Int) + (b.size : Int) + 2 * (pct W.data.toList : Int) := by rw [ByteArray.size_append] at hp; omega
  have hp2 : (a.size : Int) + (b.size : Int) + 2 * (pct W.data.toList : Int) ≤ (W.size : Int) := by rw [ByteArray.size_append] at hp; omega
  clear hp hW cU
  go_enter Try.func4, Try.ntmps4
  go_wp2_with (go_at_call 9; refine (bytes9_yes _ _ _ _ (by omega)).mono ?_; rintro e w' ⟨rfl, rfl⟩)
  refine (CU.out _).mono ?_
  rintro e w1 ⟨rfl, b1⟩
  go_wp2_with fail
  refine (uri_call _ _ _ (by omega)).mono ?_
  rintro e w2 ⟨rfl, b2⟩
  go_wp2_with fail
  refine (uri_call _ _ _ (by omega)).mono ?_
  rintro e w3 ⟨rfl, b3⟩
  go_wp2_with fail
  go_loop [11, 12] (fun p i => ∃ k : Nat, k ≤ W.size ∧ i = .int .i64 k ∧ p = .int .i64 (pct (W.data.toList.take k))) (fun _ i => W.size - (intOf i).toNat)
  case atStart => exact ⟨0, Nat.zero_le _, rfl, rfl⟩
  case round =>
    obtain ⟨k, hk, rfl, rfl⟩ := hrel
    have hpk : pct (W.data.toList.take k) ≤ 3145728 := by
      have := pct_le (W.data.toList.take k)
      have : (W.data.toList.take k).length ≤ k := List.length_take_le _ _
      omega
    by_cases hlt : k < W.size
    · by_cases hc : W[k] = 37
      · have hx : ((W[k].toNat : Int) == 37) = true := by rw [hc]; rfl
        have HC : Hid (W[k] = 37) := hc
        clear hc
        go_wp2
        go_round
        case rel => exact ⟨k + 1, by omega, by go_num, by rw [pct_take W k hlt, if_pos HC.out]; go_num⟩
        case measure => simp [intOf]; omega
      · have hne : ((W[k].toNat : Int) == 37) = false := by
          rw [beq_eq_false_iff_ne]; intro h; apply hc; apply UInt8.toNat_inj.1; show W[k].toNat = 37; omega
        have HC : Hid (¬ W[k] = 37) := hc
        clear hc
        go_wp2
        go_round
        case rel => exact ⟨k + 1, by omega, by go_num, by rw [pct_take W k hlt, if_neg HC.out]; go_num⟩
        case measure => simp [intOf]; omega
    · have e : W.data.toList.take k = W.data.toList := List.take_of_length_le (by simp; omega)
      rw [e] at hpk
      rw [e]
      clear e
      go_wp2_with fail
      refine (uri_call _ _ _ hab).mono ?_
      rintro e w4 ⟨rfl, b4⟩
      go_wp2_with fail
      refine (uri_call _ _ _ hab).mono ?_
      rintro e w5 ⟨rfl, b5⟩
      go_wp2_with fail
      refine (slash_call _ _ (by omega)).mono ?_
      rintro e w6 ⟨rfl, b6⟩
      go_wp2
      go_ret
      have m1 := b1.size
      have m2 := b2.size
      have m3 := b3.size
      have m4 := b4.size
      have m5 := b5.size
      exact ⟨rfl, b1.trans ((b2.mono (by omega)).trans ((b3.mono (by omega)).trans ((b4.mono (by omega)).trans ((b5.mono (by omega)).trans (b6.mono (by omega))))))⟩

set_option maxHeartbeats 400000 in
theorem cut_any (a b : ByteArray) (sl : Bool) (w : World) :
    Calls Try.prog 4 #[.string a, .string b, .bool sl] w fun e w' => e = .returned (.bool true) ∧ Below w.heap.size w w' := by
  by_cases hs : (a.size : Int) + (b.size : Int) ≤ 1048576
  · by_cases ha : (a.size : Int) ≤ 524288
    · by_cases hb : (b.size : Int) ≤ 524288
      · exact cut_main a b sl w ha hb
      · go_enter Try.func4, Try.ntmps4
        go_wp2_with (go_at_call 9; refine (bytes9_yes _ _ _ _ hs).mono ?_; rintro e w' ⟨rfl, rfl⟩)
        go_ret
        exact ⟨rfl, Below.refl _ _⟩
    · go_enter Try.func4, Try.ntmps4
      go_wp2_with (go_at_call 9; refine (bytes9_yes _ _ _ _ hs).mono ?_; rintro e w' ⟨rfl, rfl⟩)
      go_ret
      exact ⟨rfl, Below.refl _ _⟩
  · have hn : (1048576 : Int) < (a.size : Int) + (b.size : Int) := by omega
    go_enter Try.func4, Try.ntmps4
    go_wp2_with (go_at_call 9; refine (bytes9_no _ _ _ _ hn).mono ?_; rintro e w' ⟨rfl, rfl⟩)
    go_ret
    exact ⟨rfl, Below.refl _ _⟩
end Go.Proofs.Qxb6629099a
