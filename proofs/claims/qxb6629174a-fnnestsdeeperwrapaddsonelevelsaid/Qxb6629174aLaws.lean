/-
  The walks of the two laws.
-/
import Derived.Test.Qxb6629174aDeep
import Derived.WalkSpells
namespace Go.Proofs.Qxb6629174a
open Go.RowKit

set_option maxHeartbeats 400000 in
theorem bytes5_yes (a : Option Addr) (n c : Nat) (d : Int) (w : World) (hs : (n : Int) ≤ 1048576) :
    Calls Try.prog 5 #[.slice a n c, .int .i64 d] w fun e w' => e = .returned (.bool true) ∧ w' = w := by
  go_enter Try.func5, Try.ntmps5
  go_wp2
  go_ret
  exact ⟨rfl, rfl⟩
set_option maxHeartbeats 400000 in
theorem bytes5_no (a : Option Addr) (n c : Nat) (d : Int) (w : World) (hs : (1048576 : Int) < n) :
    Calls Try.prog 5 #[.slice a n c, .int .i64 d] w fun e w' => e = .returned (.bool false) ∧ w' = w := by
  go_enter Try.func5, Try.ntmps5
  go_wp2
  go_ret
  exact ⟨rfl, rfl⟩
set_option maxHeartbeats 400000 in
theorem bytes9_yes (a : Option Addr) (n c : Nat) (d : Int) (w : World) (hs : (n : Int) ≤ 1048576) :
    Calls Try.prog 9 #[.slice a n c, .int .i64 d] w fun e w' => e = .returned (.bool true) ∧ w' = w := by
  go_enter Try.func9, Try.ntmps9
  go_wp2
  go_ret
  exact ⟨rfl, rfl⟩
set_option maxHeartbeats 400000 in
theorem bytes9_no (a : Option Addr) (n c : Nat) (d : Int) (w : World) (hs : (1048576 : Int) < n) :
    Calls Try.prog 9 #[.slice a n c, .int .i64 d] w fun e w' => e = .returned (.bool false) ∧ w' = w := by
  go_enter Try.func9, Try.ntmps9
  go_wp2
  go_ret
  exact ⟨rfl, rfl⟩

/-- The three ways the law can go. -/
theorem three (l : List Int) (d : Int) : ∃ (op : Bool) (dp : Int), deep 0 false 0 l (mask false false l) = (op, dp) ∧
    ((op = false ∧ nst d 0 false false l = false) ∨ (op = true ∧ d < dp ∧ nst d 0 false false l = true) ∨ (op = true ∧ decide (d < dp) = false ∧ nst d 0 false false l = false)) := by
  obtain ⟨op, dp, h⟩ : ∃ op dp, deep 0 false 0 l (mask false false l) = (op, dp) := ⟨_, _, rfl⟩
  have hl := deep_nst d l 0 false 0 false false
  rw [h] at hl
  simp only [Bool.false_and, Bool.false_or] at hl
  refine ⟨op, dp, h, ?_⟩
  cases op with
  | false => left; simpa using hl.symm
  | true =>
    right
    by_cases hd : d < dp
    · left; simpa [hd] using hl.symm
    · right; refine ⟨rfl, by simpa using hd, ?_⟩; simpa [hd] using hl.symm

set_option maxHeartbeats 1000000 in
set_option maxRecDepth 100000 in
/-- The text that came in is not nil. -/
theorem match_some (x : Addr) (n cap : Nat) (l : List Int) (d : Int) (w : World) (hs : (n : Int) ≤ 1048576) (hl : l.length = n) (hx : 0 < n → x.block < w.heap.size) (hc : ∀ i, i < n → w.cell? (x.add i) = some (.int .u8 (l.getD i 0))) :
    Calls Try.prog 3 #[.slice (some x) n cap, .int .i64 d] w fun e w' => e = .returned (.bool true) ∧ Below w.heap.size w w' := by
  obtain ⟨w0, w1, hmk, hcp, hcells, hb1, hsz⟩ := copy_in w x n cap l (by omega) hl hx hc
  obtain ⟨op, dp, hdeep, hways⟩ := three l d
  obtain ⟨N, hN⟩ : ∃ N, N = nst d 0 false false l := ⟨_, rfl⟩
  obtain ⟨B, hB⟩ : ∃ B, B = w.heap.size := ⟨_, rfl⟩
  rw [← hB] at hmk hcp hcells hb1 hsz ⊢
  rw [← hN] at hways
  have HD : Hid _ := hdeep
  have HN : Hid _ := hN
  have HB : Hid _ := hB
  have HCL : Hid _ := hcells
  have HL : Hid _ := hl
  clear hB hc hcells hdeep hN hl
  have hnn := run_neq_slice_nil_any (P := Try.prog)
  rcases hways with ⟨rfl, rfl⟩ | ⟨rfl, hd, rfl⟩ | ⟨rfl, hd, rfl⟩
  all_goals
    go_enter Try.func3, Try.ntmps3
    go_wp2_with (go_at_call 5; refine (bytes5_yes _ _ _ _ _ hs).mono ?_; rintro e w' ⟨rfl, rfl⟩)
    refine (mask_walk _ B n n l _ (by omega) HL.out (fun _ => rfl) (fun _ => hsz) HCL.out).mono ?_
    rintro e w2 ⟨rfl, hmc, hb2⟩
    have HMC : Hid _ := hmc
    clear hmc
    have hcd : ∀ i, i < n → w2.cell? ⟨B, i, none⟩ = some (.int .u8 (l.getD i 0)) := fun i hi => (hb2.cell (p := ⟨B, i, none⟩) hsz).trans (HCL.out i hi)
    have HCD : Hid _ := hcd
    clear hcd
    go_wp2_with fail
    refine (deep_walk _ B _ n n l (mask false false l) _ (by omega) HL.out (by rw [mask_length]; exact HL.out) (fun _ => rfl) HCD.out HMC.out).mono ?_
    rintro e w3 ⟨rfl, rfl⟩
    rw [HD.out]
    go_wp2_with fail
    refine (nests_walk _ B n n l d _ (by omega) HL.out (fun _ => rfl) HCD.out).mono ?_
    rintro e w4 ⟨rfl, rfl⟩
    rw [← HN.out]
    go_wp2
    go_ret
    exact ⟨rfl, hb1.trans (hb2.mono (by omega))⟩

set_option maxHeartbeats 1000000 in
set_option maxRecDepth 100000 in
/-- The text is nil. -/
theorem match_nil (d : Int) (w : World) :
    Calls Try.prog 3 #[.slice none 0 0, .int .i64 d] w fun e w' => e = .returned (.bool true) ∧ Below w.heap.size w w' := by
  have hnn := run_neq_slice_nil_any (P := Try.prog)
  go_enter Try.func3, Try.ntmps3
  go_wp2_with (go_at_call 5; refine (bytes5_yes _ _ _ _ _ (by decide)).mono ?_; rintro e w' ⟨rfl, rfl⟩)
  refine (mask_walk none 0 0 0 [] _ (by omega) rfl (fun h => by omega) (fun h => by omega) (fun i h => by omega)).mono ?_
  rintro e w2 ⟨rfl, _, hb2⟩
  go_wp2_with fail
  refine (deep_walk none 0 _ 0 0 [] [] _ (by omega) rfl rfl (fun h => by omega) (fun i h => by omega) (fun i h => by omega)).mono ?_
  rintro e w3 ⟨rfl, rfl⟩
  have e1 : deep 0 false 0 [] [] = (false, 0) := rfl
  rw [e1]
  go_wp2_with fail
  refine (nests_walk none 0 0 0 [] d _ (by omega) rfl (fun h => by omega) (fun i h => by omega)).mono ?_
  rintro e w4 ⟨rfl, rfl⟩
  have e2 : nst d 0 false false [] = false := by simp [nst]
  rw [e2]
  go_wp2
  go_ret
  exact ⟨rfl, hb2⟩

set_option maxHeartbeats 400000 in
theorem match_long (a : Option Addr) (n c : Nat) (d : Int) (w : World) (hs : (1048576 : Int) < n) :
    Calls Try.prog 3 #[.slice a n c, .int .i64 d] w fun e w' => e = .returned (.bool true) ∧ Below w.heap.size w w' := by
  go_enter Try.func3, Try.ntmps3
  go_wp2_with (go_at_call 5; refine (bytes5_no _ _ _ _ _ hs).mono ?_; rintro e w' ⟨rfl, rfl⟩)
  go_ret
  exact ⟨rfl, Below.refl _ _⟩
end Go.Proofs.Qxb6629174a
