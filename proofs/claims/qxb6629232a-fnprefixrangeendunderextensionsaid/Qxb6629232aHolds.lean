/-
  The walk of FnPrefixRangeHoldsExactlyPrefixedKeys.
-/
import Derived.Test.Qxb6629232aRange
namespace Go.Proofs.Qxb6629232a
open Go.RowKit

/-- 'zzc := make([]byte, len(p)); copy(zzc, p)'. -/
theorem copy_in (w : World) (x : Addr) (n cap : Nat) (l : List Int) (hn : n ≤ 1048576) (hl : Sl w (some x) n l) :
    ∃ w0 w1, (Instr.makeSlice 22 (.int .i64 (n : Int)) (.int .i64 (n : Int))).run Try.prog w = .ok (.slice (some ⟨w.heap.size, 0, none⟩) n n) w0 ∧
      (Builtin.copy_ #[22, 22] 3 #[.slice (some ⟨w.heap.size, 0, none⟩) n n, .slice (some x) n cap]).run Try.prog w0 = .ok (goInt n) w1 ∧
      Hid (Sl w1 (some ⟨w.heap.size, 0, none⟩) n l) ∧ Below w.heap.size w w1 := by
  obtain ⟨i0, hi, hz0, hz1, hz2⟩ := info_parts Try.info5
  obtain ⟨w0, h1, h2, h3⟩ := run_make_full (P := Try.prog) w w.heap.size 22 5 i0 (.int .u8 0) 1 Try.underlying22 hi hz0 hz1 .i64 .i64 n (by rw [hz2]; omega) (by unfold maxLen; omega) (Nat.le_refl _)
  have hb0 : Below w.heap.size w w0 := (Below.refl _ w).grown h3 (Nat.le_refl _) (fun k e => by cases e)
  rcases h2.2 with ⟨hv, _⟩ | ⟨g, cap', cur, hv, _, hg, _, _, hcs, _⟩
  · cases hv
  · simp only [Value.slice.injEq, Option.some.injEq, Addr.mk.injEq, and_true, true_and] at hv
    obtain ⟨rfl, rfl⟩ := hv
    have hr := run_copy_row (P := Try.prog) w0 22 22 3 5 w.heap.size 0 n n x n cap cur 5 (l.map (Value.int .u8)) Try.underlying22 Try.size5 hg (by simp [hl.1]) (hl.below hb0).news (by simp [hl.1, hcs]) (by intro v hv; simp only [List.mem_map] at hv; obtain ⟨z, _, rfl⟩ := hv; rfl)
    have e : ((l.map (Value.int .u8)).length) = n := by simp [hl.1]
    rw [e] at hr
    refine ⟨w0, _, h1, hr, ⟨hl.1, fun _ => ⟨w.heap.size, 0, rfl, fun i hi => ?_⟩⟩, below_setRow hb0 (Nat.le_refl _) _⟩
    have hh := setRow_heap w0 w.heap.size cur (cur.toList.take 0 ++ l.map (Value.int .u8) ++ cur.toList.drop (0 + n)).toArray 5 _ hg
    rw [cell_of_row _ _ _ _ _ _ hh]
    simp [List.getElem?_append, hl.1, hi, List.getD]

/-- The answer's own variable. -/
theorem var_facts (w2 : World) (v1 v2 : Value) {w4 : World} (hb : Below (w2.heap.size + 1) (w2.alloc (.cells #[v1, v2] 25)) w4) :
    w4.cell? ⟨w2.heap.size, 0, none⟩ = some v1 ∧ w4.cell? ⟨w2.heap.size, 1, none⟩ = some v2 := by
  obtain ⟨h1, _⟩ := bcell hb
  refine ⟨?_, ?_⟩
  · rw [h1 _ _ (Nat.lt_succ_self _)]; simp
  · rw [h1 _ _ (Nat.lt_succ_self _)]; simp

set_option maxHeartbeats 400000 in
theorem bytes5_yes (a a' : Option Addr) (n c n' c' : Nat) (w : World) (hs : (n : Int) + (n' : Int) ≤ 1048576) :
    Calls Try.prog 5 #[.slice a n c, .slice a' n' c'] w fun e w' => e = .returned (.bool true) ∧ w' = w := by
  go_enter Try.func5, Try.ntmps5
  go_wp2
  go_ret
  exact ⟨rfl, rfl⟩
set_option maxHeartbeats 400000 in
theorem bytes5_no (a a' : Option Addr) (n c n' c' : Nat) (w : World) (hs : (1048576 : Int) < (n : Int) + (n' : Int)) :
    Calls Try.prog 5 #[.slice a n c, .slice a' n' c'] w fun e w' => e = .returned (.bool false) ∧ w' = w := by
  by_cases ha : (n : Int) ≤ 1048576
  · by_cases hb : (n' : Int) ≤ 1048576
    all_goals
      go_enter Try.func5, Try.ntmps5
      go_wp2
      go_ret
      exact ⟨rfl, rfl⟩
  · go_enter Try.func5, Try.ntmps5
    go_wp2
    go_ret
    exact ⟨rfl, rfl⟩
set_option maxHeartbeats 1000000 in
set_option maxRecDepth 100000 in
theorem holds_some (x : Addr) (n cap : Nat) (l : List Int) (a' : Option Addr) (n' c' : Nat) (key : List Int) (w : World) (hl : Sl w (some x) n l) (hbl : Bytes l) (hn : (n : Int) ≤ 65536)
    (hk : Sl w a' n' key) (hbk : Bytes key) (hn' : (n' : Int) ≤ 65536) :
    Calls Try.prog 3 #[.slice (some x) n cap, .slice a' n' c'] w fun e w' => e = .returned (.bool true) ∧ Below w.heap.size w w' := by
  obtain ⟨w0, w1, hmk, hcp, HS1, hb1⟩ := copy_in w x n cap l (by omega) hl
  obtain ⟨B, hB⟩ : ∃ B, B = w.heap.size := ⟨_, rfl⟩
  rw [← hB] at hmk hcp HS1
  have HB := hide hB
  clear hB hl
  have hdec : decide (0 ≤ cmp key l ∧ (endOf l = [] ∨ cmp key (endOf l) < 0)) = hasP key l := by
    rw [Bool.eq_iff_iff, decide_eq_true_eq]; exact in_range l key hbk
  obtain ⟨NN, hNN⟩ : ∃ NN, NN = hasP key l := ⟨_, rfl⟩
  have HNN := hide hNN
  have HK := hide hk
  have HBL := hide hbl
  have HDEC := hide hdec
  clear hNN hk hbk hbl hdec
  have hnn := run_neq_slice_nil_any (P := Try.prog)
  go_enter Try.func3, Try.ntmps3
  go_wp2_with (go_at_call 5; refine (bytes5_yes _ _ _ _ _ _ _ (by omega)).mono ?_; rintro e w' ⟨rfl, rfl⟩)
  refine (prefix_walk (some ⟨B, 0, none⟩) n n l _ HS1.out (fun h => by cases h) HBL.out (by omega)).mono ?_
  rintro e w2 ⟨s1, c1, s2, n2, c2, rfl, hs1, hs2, hn2, hb2⟩
  have m1 := hb1.size
  have m2 := hb2.size
  have K2 : Hid (Sl w2 a' n' key) := HK.out.below (hb1.trans (hb2.mono m1))
  have P2 : Hid (Sl w2 (some ⟨B, 0, none⟩) n l) := HS1.out.below hb2
  have S1 := hide hs1
  have S2 := hide hs2
  have B2 : Hid (Below w'.heap.size w' w2) := hb1.trans (hb2.mono m1)
  clear hs1 hs2 hb1 hb2
  go_wp2_with fail
  refine (same_walk s1 (some ⟨B, 0, none⟩) n c1 n n l l _ (S1.out.alloc _) (P2.out.alloc _) (by omega) (by omega) (cmp_self l)).mono ?_
  rintro e w4 ⟨rfl, hb4⟩
  obtain ⟨f0, f1⟩ := var_facts w2 (.slice s1 n c1) (.slice s2 n2 c2) (hb4.mono (by simp))
  have B4 := hide hb4
  clear hb4
  go_wp2_with fail
  have RW := range_walk s1 s2 a' n c1 n2 c2 n' c' l (endOf l) key w4 ((S1.out.alloc _).below B4.out) ((S2.out.alloc _).below B4.out) ((K2.out.alloc _).below B4.out) (by omega) (by omega) (by omega)
  rw [HDEC.out, ← HNN.out] at RW
  refine RW.mono ?_
  clear RW
  rintro e w5 ⟨rfl, hb5⟩
  have B5 := hide hb5
  clear hb5
  go_wp2_with fail
  have HW5 := hasP_walk a' (some ⟨B, 0, none⟩) n' c' n n key l w5 (((K2.out.alloc _).below B4.out).below B5.out) (((P2.out.alloc _).below B4.out).below B5.out) (by omega) (by omega)
  rw [← HNN.out] at HW5
  refine HW5.mono ?_
  clear HW5
  rintro e w6 ⟨rfl, hb6⟩
  go_wp2
  go_ret
  have q4 := B4.out.size
  have q5 := B5.out.size
  simp at q4
  refine ⟨rfl, B2.out.trans (((Below.refl _ w2).alloc (by omega) _).trans ((B4.out.mono (by simp; omega)).trans ((B5.out.mono (by omega)).trans (hb6.mono (by omega)))))⟩

set_option maxHeartbeats 1000000 in
set_option maxRecDepth 100000 in
theorem holds_nil (a' : Option Addr) (n' c' : Nat) (key : List Int) (w : World) (hk : Sl w a' n' key) (hbk : Bytes key) (hn' : (n' : Int) ≤ 65536) :
    Calls Try.prog 3 #[.slice none 0 0, .slice a' n' c'] w fun e w' => e = .returned (.bool true) ∧ Below w.heap.size w w' := by
  obtain ⟨l, hl0⟩ : ∃ l : List Int, l = [] := ⟨_, rfl⟩
  have hb1 : Below w.heap.size w w := Below.refl _ _
  have HS1 : Hid (Sl w none 0 l) := by rw [hl0]; exact ⟨rfl, fun h => by omega⟩
  have hbl : Bytes l := by rw [hl0]; intro x hx; simp at hx
  clear hl0
  have hdec : decide (0 ≤ cmp key l ∧ (endOf l = [] ∨ cmp key (endOf l) < 0)) = hasP key l := by
    rw [Bool.eq_iff_iff, decide_eq_true_eq]; exact in_range l key hbk
  obtain ⟨NN, hNN⟩ : ∃ NN, NN = hasP key l := ⟨_, rfl⟩
  have HNN := hide hNN
  have HK := hide hk
  have HBL := hide hbl
  have HDEC := hide hdec
  clear hNN hk hbk hbl hdec
  have hnn := run_neq_slice_nil_any (P := Try.prog)
  go_enter Try.func3, Try.ntmps3
  go_wp2_with (go_at_call 5; refine (bytes5_yes _ _ _ _ _ _ _ (by omega)).mono ?_; rintro e w' ⟨rfl, rfl⟩)
  refine (prefix_walk none 0 0 l _ HS1.out (fun _ => ⟨rfl, rfl⟩) HBL.out (by omega)).mono ?_
  rintro e w2 ⟨s1, c1, s2, n2, c2, rfl, hs1, hs2, hn2, hb2⟩
  have m1 := hb1.size
  have m2 := hb2.size
  have K2 : Hid (Sl w2 a' n' key) := HK.out.below (hb1.trans (hb2.mono m1))
  have P2 : Hid (Sl w2 none 0 l) := HS1.out.below hb2
  have S1 := hide hs1
  have S2 := hide hs2
  have B2 : Hid (Below w'.heap.size w' w2) := hb1.trans (hb2.mono m1)
  clear hs1 hs2 hb1 hb2
  go_wp2_with fail
  refine (same_walk s1 none 0 c1 0 0 l l _ (S1.out.alloc _) (P2.out.alloc _) (by omega) (by omega) (cmp_self l)).mono ?_
  rintro e w4 ⟨rfl, hb4⟩
  obtain ⟨f0, f1⟩ := var_facts w2 (.slice s1 0 c1) (.slice s2 n2 c2) (hb4.mono (by simp))
  have B4 := hide hb4
  clear hb4
  go_wp2_with fail
  have RW := range_walk s1 s2 a' 0 c1 n2 c2 n' c' l (endOf l) key w4 ((S1.out.alloc _).below B4.out) ((S2.out.alloc _).below B4.out) ((K2.out.alloc _).below B4.out) (by omega) (by omega) (by omega)
  rw [HDEC.out, ← HNN.out] at RW
  refine RW.mono ?_
  clear RW
  rintro e w5 ⟨rfl, hb5⟩
  have B5 := hide hb5
  clear hb5
  go_wp2_with fail
  have HW5 := hasP_walk a' none n' c' 0 0 key l w5 (((K2.out.alloc _).below B4.out).below B5.out) (((P2.out.alloc _).below B4.out).below B5.out) (by omega) (by omega)
  rw [← HNN.out] at HW5
  refine HW5.mono ?_
  clear HW5
  rintro e w6 ⟨rfl, hb6⟩
  go_wp2
  go_ret
  have q4 := B4.out.size
  have q5 := B5.out.size
  simp at q4
  refine ⟨rfl, B2.out.trans (((Below.refl _ w2).alloc (by omega) _).trans ((B4.out.mono (by simp; omega)).trans ((B5.out.mono (by omega)).trans (hb6.mono (by omega)))))⟩

set_option maxHeartbeats 400000 in
theorem holds_long (a a' : Option Addr) (n c n' c' : Nat) (w : World) (h : ¬ ((n : Int) ≤ 65536 ∧ (n' : Int) ≤ 65536)) :
    Calls Try.prog 3 #[.slice a n c, .slice a' n' c'] w fun e w' => e = .returned (.bool true) ∧ Below w.heap.size w w' := by
  by_cases hs : (n : Int) + (n' : Int) ≤ 1048576
  · by_cases h1 : (n : Int) ≤ 65536
    · have h2 : (65536 : Int) < (n' : Int) := by omega
      clear h
      go_enter Try.func3, Try.ntmps3
      go_wp2_with (go_at_call 5; refine (bytes5_yes _ _ _ _ _ _ _ hs).mono ?_; rintro e w' ⟨rfl, rfl⟩)
      go_ret
      exact ⟨rfl, Below.refl _ _⟩
    · clear h
      go_enter Try.func3, Try.ntmps3
      go_wp2_with (go_at_call 5; refine (bytes5_yes _ _ _ _ _ _ _ hs).mono ?_; rintro e w' ⟨rfl, rfl⟩)
      go_ret
      exact ⟨rfl, Below.refl _ _⟩
  · have hn : (1048576 : Int) < (n : Int) + (n' : Int) := by omega
    clear h
    go_enter Try.func3, Try.ntmps3
    go_wp2_with (go_at_call 5; refine (bytes5_no _ _ _ _ _ _ _ hn).mono ?_; rintro e w' ⟨rfl, rfl⟩)
    go_ret
    exact ⟨rfl, Below.refl _ _⟩
end Go.Proofs.Qxb6629232a
