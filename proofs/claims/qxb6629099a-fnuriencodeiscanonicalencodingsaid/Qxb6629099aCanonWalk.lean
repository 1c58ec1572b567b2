/-
  The walk of FnURIEncodeIsCanonicalEncoding.
-/
import Derived.Test.Qxb6629099aEnc
import Derived.Test.Qxb6629099aPush
import Derived.Test.Qxb6629099aCanonPlain
namespace Go.Proofs.Qxb6629099a
open Go.RowKit

theorem or_nibbles (c : UInt8) : bits BinOp.or IntKind.u8 ((c.toNat : Int) / 16 * 16) ((c.toNat : Int) % 16) = (c.toNat : Int) := by
  have : ∀ n : Fin 256, bits BinOp.or IntKind.u8 (((UInt8.ofFin n).toNat : Int) / 16 * 16) (((UInt8.ofFin n).toNat : Int) % 16) = ((UInt8.ofFin n).toNat : Int) := by decide +kernel
  exact this c.toFin
set_option maxHeartbeats 400000 in
set_option maxRecDepth 100000 in
theorem canon_main (s : ByteArray) (sl : Bool) (w : World) (hs : (s.size : Int) ≤ 1048576) :
    Calls Try.prog 3 #[.string s, .bool sl] w fun e w' => e = .returned (.bool true) ∧ Below w.heap.size w w' := by
  have sW := encB_le sl s
  obtain ⟨W, hW⟩ : ∃ W, W = encB sl s := ⟨_, rfl⟩
  have cU : ∀ w, Calls Try.prog 6 #[.string s, .bool sl] w fun e w' => e = .returned (.string W) ∧ Below w.heap.size w w' := fun w => by rw [hW]; exact uri_call _ _ w (by omega)
  rw [← hW] at sW
  have CU : Hid _ := cU
  have HW : Hid (W = encB sl s) := hW
  clear hW cU
  go_enter Try.func3, Try.ntmps3
  go_wp2_with (go_at_call 5; refine (bytes5_yes _ _ _ (by omega)).mono ?_; rintro e w' ⟨rfl, rfl⟩)
  refine (CU.out _).mono ?_
  rintro e w1 ⟨rfl, b1⟩
  obtain ⟨w0, hm, hown0, hb0⟩ := make_own w1 w'.heap.size s.size (by omega) b1.size
  go_wp2_with fail
  go_loopw [6, 7] (fun v i wr => ∃ k p : Nat, k ≤ s.size ∧ p ≤ W.size ∧ i = .int .i64 p ∧ Hid (p = (enc sl (s.data.toList.take k)).length) ∧ OwnB w'.heap.size v (s.data.toList.take k) wr ∧ Below w'.heap.size w' wr) (fun _ i _ => W.size - (intOf i).toNat)
  case atStart => exact ⟨0, 0, Nat.zero_le _, Nat.zero_le _, rfl, rfl, hown0, b1.trans hb0⟩
  case round =>
    obtain ⟨k, p, hk, hpW, rfl, HP, hown, hb⟩ := hrel
    clear hm hown0
    have hlen : (s.data.toList.take k).length ≤ 1048576 := by
      have : (s.data.toList.take k).length ≤ k := List.length_take_le _ _
      omega
    by_cases hlt : k < s.size
    · cases hbr : bare sl s[k] with
      | true =>
        obtain ⟨h0, e0⟩ := at_bare sl s k p hlt HP.out hbr
        have hn := not37 sl s[k] hbr
        have H1 := step_bare sl s k p hlt HP.out hbr
        rw [← HW.out] at h0
        have e1 : W[p] = s[k] := by rw [← e0]; congr 1
        rw [← e1] at hn hbr
        have E1 : Hid (W[p] = s[k]) := e1
        have HN : Hid _ := H1
        clear e1 H1 e0
        go_wp2_with (first | (go_at_call 8; refine (bare_walk W[p] sl _).mono ?_; rintro e w' ⟨rfl, rfl⟩) | (at_builtin; refine wp_push rfl _ _ rfl _ _ _ hown rfl (W[p].toNat : Int) W[p] rfl rfl (by omega) hb.size ?_))
        intro v1 w1 hown1 hb1
        go_wp2
        go_roundw
        case rel => exact ⟨k + 1, p + 1, by omega, by omega, by go_num, HN.out, by rw [take_snoc s k hlt, ← E1.out]; exact hown1, hb.trans hb1⟩
        case measure => simp [intOf]; omega
      | false =>
        obtain ⟨⟨h0, e0⟩, ⟨h1, e1⟩, ⟨h2, e2⟩⟩ := at_esc sl s k p hlt HP.out hbr
        have h2' : p + 2 < W.size := by rw [HW.out]; exact h2
        have h1' : p + 1 < W.size := by rw [HW.out]; exact h1
        have h0' : p < W.size := by rw [HW.out]; exact h0
        have f0 : W[p] = 37 := by rw [← e0]; congr 1
        have f1 : W[p + 1] = hexd (s[k].toNat / 16) := by rw [← e1]; congr 1
        have f2 : W[p + 2] = hexd (s[k].toNat % 16) := by rw [← e2]; congr 1
        have hx : ((W[p].toNat : Int) == 37) = true := by rw [f0]; rfl
        have F1 : Hid _ := f1
        have F2 : Hid _ := f2
        have HN : Hid _ := step_esc sl s k p hlt HP.out hbr
        have HB : Hid _ := hbr
        have hc : s[k].toNat < 256 := s[k].toNat_lt
        have hor := or_nibbles s[k]
        clear f0 f1 f2 e0 e1 e2 h0 h1 h2 hbr
        go_wp2_with fail
        refine (hexv_walk _ _ (by omega) F1.out _).mono ?_
        rintro e w2 ⟨rfl, rfl⟩
        go_wp2_with fail
        refine (hexv_walk _ _ (by omega) F2.out _).mono ?_
        rintro e w2 ⟨rfl, rfl⟩
        go_wp2_with fail
        refine (bare_walk s[k] sl _).mono ?_
        rintro e w3 ⟨rfl, rfl⟩
        have hbr := HB.out
        go_wp2_with (at_builtin; refine wp_push rfl _ _ rfl _ _ _ hown rfl (s[k].toNat : Int) s[k] rfl rfl (by omega) hb.size ?_)
        intro v1 w1 hown1 hb1
        go_wp2
        go_roundw
        case rel => exact ⟨k + 1, p + 3, by omega, by omega, by go_num, HN.out, by rw [take_snoc s k hlt]; exact hown1, hb.trans hb1⟩
        case measure => simp [intOf]; omega
    · have hend := at_end sl s k p hlt hk HP.out
      rw [← HW.out] at hend
      have hge : ¬ (p : Int) < (W.size : Int) := by omega
      clear hend
      have e : s.data.toList.take k = s.data.toList := List.take_of_length_le (by simp; omega)
      rw [e] at hown
      clear e
      have hcv : (convert 24 9 u6).run Try.prog wr = .ok (.string s) wr := conv_own hown
      go_wp2
      go_ret
      exact ⟨rfl, hb⟩

set_option maxHeartbeats 400000 in
theorem canon_any (s : ByteArray) (sl : Bool) (w : World) :
    Calls Try.prog 3 #[.string s, .bool sl] w fun e w' => e = .returned (.bool true) ∧ Below w.heap.size w w' := by
  by_cases hs : (s.size : Int) ≤ 1048576
  · exact canon_main s sl w hs
  · have hn : (1048576 : Int) < (s.size : Int) := by omega
    go_enter Try.func3, Try.ntmps3
    go_wp2_with (go_at_call 5; refine (bytes5_no _ _ _ hn).mono ?_; rintro e w' ⟨rfl, rfl⟩)
    go_ret
    exact ⟨rfl, Below.refl _ _⟩
end Go.Proofs.Qxb6629099a
