/-
  The walk of FnPrefixRangeEndUnderExtension.
-/
import Derived.Test.Qxb6629232aHolds
namespace Go.Proofs.Qxb6629232a
open Go.RowKit
theorem Own.nilform {B : Nat} {v : Value} {l : List Int} {w : World} (h : Own B v l w) : ∃ ao cap, v = .slice ao l.length cap ∧ Sl w ao l.length l ∧ (ao = none → l.length = 0 ∧ cap = 0) := by
  obtain ⟨ao, cap, rfl, h2, h3⟩ := h.form
  refine ⟨ao, cap, rfl, h2, fun hn => ?_⟩
  have hl := h3 hn
  subst hl hn
  unfold Own at h
  rcases h.2 with ⟨hv, _⟩ | ⟨g, cap', cur, hv, _⟩
  · simp only [Value.slice.injEq] at hv; exact ⟨rfl, hv.2.2⟩
  · simp at hv
/-- 'make([]byte, 0, len(p)+len(q))'. -/
theorem make_pq (w : World) (n n' : Nat) (hn : n + n' ≤ 1048576) : ∃ w', (Instr.makeSlice 22 (.int .i64 0) (.int .i64 ((n : Int) + (n' : Int)))).run Try.prog w = .ok (.slice (some ⟨w.heap.size, 0, none⟩) 0 (n + n')) w' ∧
    Hid (Own w.heap.size (.slice (some ⟨w.heap.size, 0, none⟩) 0 (n + n')) [] w') ∧ Below w.heap.size w w' := by
  obtain ⟨i0, hi, hz0, hz1, hz2⟩ := info_parts Try.info5
  obtain ⟨w', h1, h2, h3⟩ := run_make_own (P := Try.prog) w w.heap.size 22 5 i0 (.int .u8 0) 1 Try.underlying22 hi hz0 hz1 .i64 .i64 (n + n') (by rw [hz2]; omega) (by unfold maxLen; omega) (Nat.le_refl _)
  have e : ((n + n' : Nat) : Int) = (n : Int) + (n' : Int) := by omega
  rw [e] at h1
  exact ⟨w', h1, h2, (Below.refl _ w).grown h3 (Nat.le_refl _) (fun k e => by cases e)⟩
/-- Both answers' variables, and all that they lead to, in whatever later world. -/
theorem later (w5 w6 : World) (a1 a2 b1 b2 : Value) (h6 : Below (w5.heap.size + 1) (w5.alloc (.cells #[a1, a2] 25)) w6) (X : World) (hX : Below (w6.heap.size + 1) (w6.alloc (.cells #[b1, b2] 25)) X) :
    X.cell? ⟨w6.heap.size, 0, none⟩ = some b1 ∧ X.cell? ⟨w6.heap.size, 1, none⟩ = some b2 ∧ X.cell? ⟨w5.heap.size, 1, none⟩ = some a2 := by
  obtain ⟨h1, h2⟩ := var_facts w6 b1 b2 hX
  refine ⟨h1, h2, ?_⟩
  have hs := h6.size
  simp at hs
  have ho : (w6.alloc (.cells #[b1, b2] 25)).cell? ⟨w5.heap.size, 1, none⟩ = w6.cell? ⟨w5.heap.size, 1, none⟩ := ((Below.refl _ w6).alloc (Nat.le_refl _) _).cell (p := ⟨w5.heap.size, 1, none⟩) (by show w5.heap.size < w6.heap.size; omega)
  rw [hX.cell (p := ⟨w5.heap.size, 1, none⟩) (by show w5.heap.size < w6.heap.size + 1; omega), ho]
  exact (var_facts w5 a1 a2 h6).2

set_option maxHeartbeats 400000 in
theorem bytes10_yes (a a' : Option Addr) (n c n' c' : Nat) (w : World) (hs : (n : Int) + (n' : Int) ≤ 1048576) :
    Calls Try.prog 10 #[.slice a n c, .slice a' n' c'] w fun e w' => e = .returned (.bool true) ∧ w = w' := by
  go_enter Try.func10, Try.ntmps10
  go_wp2
  go_ret
  exact ⟨rfl, rfl⟩
set_option maxHeartbeats 400000 in
theorem bytes10_no (a a' : Option Addr) (n c n' c' : Nat) (w : World) (hs : (1048576 : Int) < (n : Int) + (n' : Int)) :
    Calls Try.prog 10 #[.slice a n c, .slice a' n' c'] w fun e w' => e = .returned (.bool false) ∧ w = w' := by
  by_cases ha : (n : Int) ≤ 1048576
  · by_cases hb : (n' : Int) ≤ 1048576
    all_goals
      go_enter Try.func10, Try.ntmps10
      go_wp2
      go_ret
      exact ⟨rfl, rfl⟩
  · go_enter Try.func10, Try.ntmps10
    go_wp2
    go_ret
    exact ⟨rfl, rfl⟩
set_option maxHeartbeats 1000000 in
set_option maxRecDepth 100000 in
theorem ext_some (x : Addr) (n cap : Nat) (l : List Int) (a' : Option Addr) (n' c' : Nat) (m : List Int) (w : World) (hl : Sl w (some x) n l) (hbl : Bytes l) (hn : (n : Int) ≤ 65536)
    (hk : Sl w a' n' m) (hbk : Bytes m) (hnil : a' = none → n' = 0 ∧ c' = 0) (hn' : (n' : Int) ≤ 65536) :
    Calls Try.prog 4 #[.slice (some x) n cap, .slice a' n' c'] w fun e w' => e = .returned (.bool true) ∧ Below w.heap.size w w' := by
  obtain ⟨w0, w1, hmk, hcp, HS1, hb1⟩ := copy_in w x n cap l (by omega) hl
  obtain ⟨B, hB⟩ : ∃ B, B = w.heap.size := ⟨_, rfl⟩
  rw [← hB] at hmk hcp HS1
  have HB := hide hB
  clear hB hl
  obtain ⟨w2, hmk2, HO2, hb2⟩ := make_pq w1 n n' (by omega)
  obtain ⟨B2, hB2⟩ : ∃ B2, B2 = w1.heap.size := ⟨_, rfl⟩
  rw [← hB2] at hmk2 HO2 hb2
  have PF : Hid (∀ X, Below B2 w1 X → Sl X (some ⟨B, 0, none⟩) n l ∧ Sl X a' n' m) := fun X hX => ⟨HS1.out.below (by rw [← hB2]; exact hX), (hk.below hb1).below (by rw [← hB2]; exact hX)⟩
  have hm1 := hb1.size
  have hm2 := hb2.size
  have hB2l : B2 ≤ w2.heap.size := by omega
  have hwB2 : w.heap.size ≤ B2 := by omega
  have LW : Hid (Below w.heap.size w w1) := hb1
  have L2 : Hid (Below B2 w1 w2) := hb2
  have hll : l.length = n := HS1.out.1
  have hmm : m.length = n' := hk.1
  have HLL := hide hll
  have HMM := hide hmm
  have HBL := hide hbl
  have HBK := hide hbk
  have HNL := hide hnil
  have HBPQ : Hid (Bytes (l ++ m)) := by
    intro z hz
    simp only [List.mem_append] at hz
    rcases hz with hz | hz
    · exact hbl z hz
    · exact hbk z hz
  clear hB2 hb1 hb2 hm1 hm2 hk hbk hbl hnil hll hmm HS1
  have hnn := run_neq_slice_nil_any (P := Try.prog)
  go_enter Try.func4, Try.ntmps4
  go_wp2_with (first | (go_at_call 10; refine (bytes10_yes _ _ _ _ _ _ _ (by omega)).mono ?_; rintro e w' ⟨rfl, rfl⟩) | (at_builtin; refine wp_app rfl (.tmp 34) (.tmp 35) rfl B2 [] _ HO2.out rfl (some ⟨B, 0, none⟩) n n l (PF.out _ L2.out).1 (fun h => by cases h) rfl (by simp only [List.length_nil]; omega) hB2l ?_))
  intro v3 w3 ho3 hb3
  have L3 : Hid (Below B2 w1 w3) := L2.out.trans hb3
  have hm3 := hb3.size
  have hB3l : B2 ≤ w3.heap.size := by omega
  have HO3 : Hid (Own B2 v3 l w3) := ho3
  clear ho3 hb3 hm3 HO2
  go_wp2_with (at_builtin; refine wp_app rfl (.tmp 37) (.tmp 38) rfl B2 l _ HO3.out rfl a' n' c' m (PF.out _ L3.out).2 HNL.out rfl (by rw [HLL.out]; omega) hB3l ?_)
  intro v4 w4 ho4 hb4
  have L4 : Hid (Below B2 w1 w4) := L3.out.trans hb4
  have hm4 := hb4.size
  have hB4l : B2 ≤ w4.heap.size := by omega
  obtain ⟨po, pc, rfl, hpq, hpn⟩ := ho4.nilform
  have hlen : (l ++ m).length = n + n' := by rw [List.length_append, HLL.out, HMM.out]
  rw [hlen] at hpq hpn
  rw [hlen]
  have PQ4 := hide hpq
  have PN := hide hpn
  clear ho4 hb4 hm4 HO3 hpq hpn hlen
  go_wp2_with fail
  refine (prefix_walk (some ⟨B, 0, none⟩) n n l _ (PF.out _ L4.out).1 (fun h => by cases h) HBL.out (by omega)).mono ?_
  rintro e w5 ⟨sa1, ca1, sa2, na2, ca2, rfl, hsa1, hsa2, hna2, hb5⟩
  have L5 : Hid (Below w4.heap.size w4 w5) := hb5
  have SA2 := hide hsa2
  clear hsa1 hsa2 hb5
  go_wp2_with fail
  refine (prefix_walk po (n + n') pc (l ++ m) _ ((PQ4.out.below L5.out).alloc _) PN.out HBPQ.out (by omega)).mono ?_
  rintro e w6 ⟨sb1, cb1, sb2, nb2, cb2, rfl, hsb1, hsb2, hnb2, hb6⟩
  have L6 : Hid (Below (w5.heap.size + 1) (w5.alloc (.cells #[.slice sa1 n ca1, .slice sa2 na2 ca2] 25)) w6) := hb6.mono (by simp)
  have L56 : Hid (Below w5.heap.size w5 w6) := ((Below.refl _ w5).alloc (Nat.le_refl _) _).trans (hb6.mono (by simp))
  have SB1 := hide hsb1
  have SB2 := hide hsb2
  clear hsb1 hsb2 hb6
  have FX : Hid (∀ X, Below (w6.heap.size + 1) (w6.alloc (.cells #[.slice sb1 (n + n') cb1, .slice sb2 nb2 cb2] 25)) X →
      (X.cell? ⟨w6.heap.size, 0, none⟩ = some (.slice sb1 (n + n') cb1) ∧ X.cell? ⟨w6.heap.size, 1, none⟩ = some (.slice sb2 nb2 cb2) ∧ X.cell? ⟨w5.heap.size, 1, none⟩ = some (.slice sa2 na2 ca2)) ∧
      Hid (Sl X sb1 (n + n') (l ++ m) ∧ Sl X sb2 nb2 (endOf (l ++ m)) ∧ Sl X sa2 na2 (endOf l) ∧ Sl X (some ⟨B, 0, none⟩) n l ∧ Sl X a' n' m ∧ Sl X po (n + n') (l ++ m) ∧ Below w.heap.size w X)) := by
    intro X hX
    have h6X : Below w6.heap.size w6 X := ((Below.refl _ w6).alloc (Nat.le_refl _) _).trans (hX.mono (by omega))
    have s5 := L5.out.size
    have s56 := L56.out.size
    have h5X : Below w5.heap.size w5 X := L56.out.trans (h6X.mono s56)
    have h4X : Below w4.heap.size w4 X := L5.out.trans (h5X.mono s5)
    have hWX : Below B2 w1 X := L4.out.trans (h4X.mono hB4l)
    refine ⟨later w5 w6 _ _ _ _ L6.out X hX, SB1.out.below h6X, SB2.out.below h6X, SA2.out.below h5X, (PF.out _ hWX).1, (PF.out _ hWX).2, PQ4.out.below h4X, LW.out.trans (hWX.mono hwB2)⟩
  obtain ⟨V0, hV0⟩ : ∃ V0, V0 = w6.alloc (.cells #[.slice sb1 (n + n') cb1, .slice sb2 nb2 cb2] 25) := ⟨_, rfl⟩
  have HSA : na2 = (endOf l).length := SA2.out.1.symm
  have HSB : nb2 = (endOf (l ++ m)).length := SB2.out.1.symm
  have LSA := hide HSA
  have LSB := hide HSB
  clear HSA HSB L6 L56 SB1 SB2 SA2 L5 PQ4 PF L4 L3 L2
  go_wp2_with fail
  have G0 := (FX.out _ (Below.refl _ _)).2
  refine (same_walk sb1 po (n + n') cb1 (n + n') pc (l ++ m) (l ++ m) _ G0.out.1 G0.out.2.2.2.2.2.1 (by omega) (by omega) (cmp_self _)).mono ?_
  clear G0
  rintro e w7 ⟨rfl, hb7⟩
  have L7 : Hid (Below (w6.heap.size + 1) (w6.alloc (.cells #[.slice sb1 (n + n') cb1, .slice sb2 nb2 cb2] 25)) w7) := hb7.mono (by simp)
  have M7 : Hid (w6.heap.size + 1 ≤ w7.heap.size) := by have h := hb7.size; simp at h; exact h
  clear hb7
  obtain ⟨⟨f0, f1, f2⟩, G7⟩ := FX.out w7 L7.out
  cases hff : allFF m with
  | true =>
    have HFF := hide hff
    clear hff
    go_wp2_with fail
    refine (ff_walk a' n' c' m _ G7.out.2.2.2.2.1 (by omega)).mono ?_
    rw [HFF.out]
    rintro e w8 ⟨rfl, rfl⟩
    go_wp2_with fail
    refine (same_walk sb2 sa2 nb2 cb2 na2 ca2 (endOf (l ++ m)) (endOf l) _ G7.out.2.1 G7.out.2.2.1 (by omega) (by omega) (by rw [end_ff l m HFF.out]; exact cmp_self _)).mono ?_
    rintro e w9 ⟨rfl, hb9⟩
    go_wp2
    go_ret
    have hx := G7.out.2.2.2.2.2.2
    exact ⟨rfl, hx.trans (hb9.mono hx.size)⟩
  | false =>
    obtain ⟨x1, x2, x3, x4⟩ := end_ext l m HBL.out HBK.out hff
    have hnb : ((nb2 : Int) == 0) = false := by
      rw [beq_eq_false_iff_ne]
      intro h
      apply x1
      exact List.eq_nil_of_length_eq_zero (by have := LSB.out; omega)
    have X2 := hide x2
    have X3 := hide x3
    have X4 := hide x4
    have HFF := hide hff
    clear hff x1 x2 x3 x4
    go_wp2_with fail
    refine (ff_walk a' n' c' m _ G7.out.2.2.2.2.1 (by omega)).mono ?_
    rw [HFF.out]
    rintro e w8 ⟨rfl, rfl⟩
    go_wp2_with fail
    refine (hasP_walk sb2 (some ⟨B, 0, none⟩) nb2 cb2 n n (endOf (l ++ m)) l _ G7.out.2.1 G7.out.2.2.2.1 (by omega) (by omega)).mono ?_
    rw [X2.out]
    rintro e w9 ⟨rfl, hb9⟩
    have L9 : Hid (Below (w6.heap.size + 1) (w6.alloc (.cells #[.slice sb1 (n + n') cb1, .slice sb2 nb2 cb2] 25)) w9) := L7.out.trans (hb9.mono M7.out)
    have M9 : Hid (w6.heap.size + 1 ≤ w9.heap.size) := Nat.le_trans M7.out hb9.size
    clear hb9 f0 f1 f2 G7
    obtain ⟨⟨f0, f1, f2⟩, G9⟩ := FX.out w9 L9.out
    go_wp2_with fail
    refine (cmp_walk sb2 po nb2 cb2 (n + n') pc (endOf (l ++ m)) (l ++ m) _ G9.out.2.1 G9.out.2.2.2.2.2.1 (by omega) (by omega)).mono ?_
    rw [X3.out]
    rintro e w10 ⟨rfl, hb10⟩
    have L10 : Hid (Below (w6.heap.size + 1) (w6.alloc (.cells #[.slice sb1 (n + n') cb1, .slice sb2 nb2 cb2] 25)) w10) := L9.out.trans (hb10.mono M9.out)
    clear hb10 f0 f1 f2 G9
    obtain ⟨⟨f0, f1, f2⟩, G10⟩ := FX.out w10 L10.out
    by_cases hna : na2 = 0
    · have q1 : ((na2 : Int) != 0) = false := by simp [hna]
      clear hna
      go_wp2
      go_ret
      exact ⟨rfl, G10.out.2.2.2.2.2.2⟩
    · have q1 : ((na2 : Int) != 0) = true := by simp; omega
      have hcm : cmp (endOf (l ++ m)) (endOf l) = -1 := X4.out (by intro h; apply hna; rw [LSA.out, h]; rfl)
      have HCM := hide hcm
      clear hna hcm
      go_wp2_with fail
      refine (cmp_walk sb2 sa2 nb2 cb2 na2 ca2 (endOf (l ++ m)) (endOf l) _ G10.out.2.1 G10.out.2.2.1 (by omega) (by omega)).mono ?_
      rw [HCM.out]
      rintro e w11 ⟨rfl, hb11⟩
      go_wp2
      go_ret
      have hx := G10.out.2.2.2.2.2.2
      exact ⟨rfl, hx.trans (hb11.mono hx.size)⟩

set_option maxHeartbeats 1000000 in
set_option maxRecDepth 100000 in
theorem ext_nil (a' : Option Addr) (n' c' : Nat) (m : List Int) (w : World) (hk : Sl w a' n' m) (hbk : Bytes m) (hnil : a' = none → n' = 0 ∧ c' = 0) (hn' : (n' : Int) ≤ 65536) :
    Calls Try.prog 4 #[.slice none 0 0, .slice a' n' c'] w fun e w' => e = .returned (.bool true) ∧ Below w.heap.size w w' := by
  obtain ⟨l, hl0⟩ : ∃ l : List Int, l = [] := ⟨_, rfl⟩
  have hb1 : Below w.heap.size w w := Below.refl _ _
  have HS1 : Hid (Sl w none 0 l) := by rw [hl0]; exact ⟨rfl, fun h => by omega⟩
  have hbl : Bytes l := by rw [hl0]; intro x hx; simp at hx
  clear hl0
  obtain ⟨w2, hmk2', HO2, hb2⟩ := make_pq w 0 n' (by omega)
  have hmk2 : (Instr.makeSlice 22 (.int .i64 0) (.int .i64 (n' : Int))).run Try.prog w = .ok (.slice (some ⟨w.heap.size, 0, none⟩) 0 n') w2 := by simpa using hmk2'
  rw [Nat.zero_add] at HO2
  clear hmk2'
  obtain ⟨B2, hB2⟩ : ∃ B2, B2 = w.heap.size := ⟨_, rfl⟩
  rw [← hB2] at hmk2 HO2 hb2
  have PF : Hid (∀ X, Below B2 w X → Sl X none 0 l ∧ Sl X a' n' m) := fun X hX => ⟨HS1.out.below (by rw [← hB2]; exact hX), (hk.below hb1).below (by rw [← hB2]; exact hX)⟩
  have hm1 := hb1.size
  have hm2 := hb2.size
  have hB2l : B2 ≤ w2.heap.size := by omega
  have hwB2 : w.heap.size ≤ B2 := by omega
  have LW : Hid (Below w.heap.size w w) := hb1
  have L2 : Hid (Below B2 w w2) := hb2
  have hll : l.length = 0 := HS1.out.1
  have hmm : m.length = n' := hk.1
  have HLL := hide hll
  have HMM := hide hmm
  have HBL := hide hbl
  have HBK := hide hbk
  have HNL := hide hnil
  have HBPQ : Hid (Bytes (l ++ m)) := by
    intro z hz
    simp only [List.mem_append] at hz
    rcases hz with hz | hz
    · exact hbl z hz
    · exact hbk z hz
  clear hB2 hb1 hb2 hm1 hm2 hk hbk hbl hnil hll hmm HS1
  have hnn := run_neq_slice_nil_any (P := Try.prog)
  go_enter Try.func4, Try.ntmps4
  go_wp2_with (first | (go_at_call 10; refine (bytes10_yes _ _ _ _ _ _ _ (by omega)).mono ?_; rintro e w' ⟨rfl, rfl⟩) | (at_builtin; refine wp_app rfl (.tmp 34) (.tmp 35) rfl B2 [] _ HO2.out rfl none 0 0 l (PF.out _ L2.out).1 (fun _ => ⟨rfl, rfl⟩) rfl (by simp only [List.length_nil]; omega) hB2l ?_))
  intro v3 w3 ho3 hb3
  have L3 : Hid (Below B2 w w3) := L2.out.trans hb3
  have hm3 := hb3.size
  have hB3l : B2 ≤ w3.heap.size := by omega
  have HO3 : Hid (Own B2 v3 l w3) := ho3
  clear ho3 hb3 hm3 HO2
  go_wp2_with (at_builtin; refine wp_app rfl (.tmp 37) (.tmp 38) rfl B2 l _ HO3.out rfl a' n' c' m (PF.out _ L3.out).2 HNL.out rfl (by rw [HLL.out]; omega) hB3l ?_)
  intro v4 w4 ho4 hb4
  have L4 : Hid (Below B2 w w4) := L3.out.trans hb4
  have hm4 := hb4.size
  have hB4l : B2 ≤ w4.heap.size := by omega
  obtain ⟨po, pc, rfl, hpq, hpn⟩ := ho4.nilform
  have hlen : (l ++ m).length = n' := by rw [List.length_append, HLL.out, HMM.out, Nat.zero_add]
  rw [hlen] at hpq hpn
  rw [hlen]
  have PQ4 := hide hpq
  have PN := hide hpn
  clear ho4 hb4 hm4 HO3 hpq hpn hlen
  go_wp2_with fail
  refine (prefix_walk none 0 0 l _ (PF.out _ L4.out).1 (fun _ => ⟨rfl, rfl⟩) HBL.out (by omega)).mono ?_
  rintro e w5 ⟨sa1, ca1, sa2, na2, ca2, rfl, hsa1, hsa2, hna2, hb5⟩
  have L5 : Hid (Below w4.heap.size w4 w5) := hb5
  have SA2 := hide hsa2
  clear hsa1 hsa2 hb5
  go_wp2_with fail
  refine (prefix_walk po n' pc (l ++ m) _ ((PQ4.out.below L5.out).alloc _) PN.out HBPQ.out (by omega)).mono ?_
  rintro e w6 ⟨sb1, cb1, sb2, nb2, cb2, rfl, hsb1, hsb2, hnb2, hb6⟩
  have L6 : Hid (Below (w5.heap.size + 1) (w5.alloc (.cells #[.slice sa1 0 ca1, .slice sa2 na2 ca2] 25)) w6) := hb6.mono (by simp)
  have L56 : Hid (Below w5.heap.size w5 w6) := ((Below.refl _ w5).alloc (Nat.le_refl _) _).trans (hb6.mono (by simp))
  have SB1 := hide hsb1
  have SB2 := hide hsb2
  clear hsb1 hsb2 hb6
  have FX : Hid (∀ X, Below (w6.heap.size + 1) (w6.alloc (.cells #[.slice sb1 n' cb1, .slice sb2 nb2 cb2] 25)) X →
      (X.cell? ⟨w6.heap.size, 0, none⟩ = some (.slice sb1 n' cb1) ∧ X.cell? ⟨w6.heap.size, 1, none⟩ = some (.slice sb2 nb2 cb2) ∧ X.cell? ⟨w5.heap.size, 1, none⟩ = some (.slice sa2 na2 ca2)) ∧
      Hid (Sl X sb1 n' (l ++ m) ∧ Sl X sb2 nb2 (endOf (l ++ m)) ∧ Sl X sa2 na2 (endOf l) ∧ Sl X none 0 l ∧ Sl X a' n' m ∧ Sl X po n' (l ++ m) ∧ Below w.heap.size w X)) := by
    intro X hX
    have h6X : Below w6.heap.size w6 X := ((Below.refl _ w6).alloc (Nat.le_refl _) _).trans (hX.mono (by omega))
    have s5 := L5.out.size
    have s56 := L56.out.size
    have h5X : Below w5.heap.size w5 X := L56.out.trans (h6X.mono s56)
    have h4X : Below w4.heap.size w4 X := L5.out.trans (h5X.mono s5)
    have hWX : Below B2 w X := L4.out.trans (h4X.mono hB4l)
    refine ⟨later w5 w6 _ _ _ _ L6.out X hX, SB1.out.below h6X, SB2.out.below h6X, SA2.out.below h5X, (PF.out _ hWX).1, (PF.out _ hWX).2, PQ4.out.below h4X, LW.out.trans (hWX.mono hwB2)⟩
  obtain ⟨V0, hV0⟩ : ∃ V0, V0 = w6.alloc (.cells #[.slice sb1 n' cb1, .slice sb2 nb2 cb2] 25) := ⟨_, rfl⟩
  have HSA : na2 = (endOf l).length := SA2.out.1.symm
  have HSB : nb2 = (endOf (l ++ m)).length := SB2.out.1.symm
  have LSA := hide HSA
  have LSB := hide HSB
  clear HSA HSB L6 L56 SB1 SB2 SA2 L5 PQ4 PF L4 L3 L2
  go_wp2_with fail
  have G0 := (FX.out _ (Below.refl _ _)).2
  refine (same_walk sb1 po n' cb1 n' pc (l ++ m) (l ++ m) _ G0.out.1 G0.out.2.2.2.2.2.1 (by omega) (by omega) (cmp_self _)).mono ?_
  clear G0
  rintro e w7 ⟨rfl, hb7⟩
  have L7 : Hid (Below (w6.heap.size + 1) (w6.alloc (.cells #[.slice sb1 n' cb1, .slice sb2 nb2 cb2] 25)) w7) := hb7.mono (by simp)
  have M7 : Hid (w6.heap.size + 1 ≤ w7.heap.size) := by have h := hb7.size; simp at h; exact h
  clear hb7
  obtain ⟨⟨f0, f1, f2⟩, G7⟩ := FX.out w7 L7.out
  cases hff : allFF m with
  | true =>
    have HFF := hide hff
    clear hff
    go_wp2_with fail
    refine (ff_walk a' n' c' m _ G7.out.2.2.2.2.1 (by omega)).mono ?_
    rw [HFF.out]
    rintro e w8 ⟨rfl, rfl⟩
    go_wp2_with fail
    refine (same_walk sb2 sa2 nb2 cb2 na2 ca2 (endOf (l ++ m)) (endOf l) _ G7.out.2.1 G7.out.2.2.1 (by omega) (by omega) (by rw [end_ff l m HFF.out]; exact cmp_self _)).mono ?_
    rintro e w9 ⟨rfl, hb9⟩
    go_wp2
    go_ret
    have hx := G7.out.2.2.2.2.2.2
    exact ⟨rfl, hx.trans (hb9.mono hx.size)⟩
  | false =>
    obtain ⟨x1, x2, x3, x4⟩ := end_ext l m HBL.out HBK.out hff
    have hnb : ((nb2 : Int) == 0) = false := by
      rw [beq_eq_false_iff_ne]
      intro h
      apply x1
      exact List.eq_nil_of_length_eq_zero (by have := LSB.out; omega)
    have X2 := hide x2
    have X3 := hide x3
    have X4 := hide x4
    have HFF := hide hff
    clear hff x1 x2 x3 x4
    go_wp2_with fail
    refine (ff_walk a' n' c' m _ G7.out.2.2.2.2.1 (by omega)).mono ?_
    rw [HFF.out]
    rintro e w8 ⟨rfl, rfl⟩
    go_wp2_with fail
    refine (hasP_walk sb2 none nb2 cb2 0 0 (endOf (l ++ m)) l _ G7.out.2.1 G7.out.2.2.2.1 (by omega) (by omega)).mono ?_
    rw [X2.out]
    rintro e w9 ⟨rfl, hb9⟩
    have L9 : Hid (Below (w6.heap.size + 1) (w6.alloc (.cells #[.slice sb1 n' cb1, .slice sb2 nb2 cb2] 25)) w9) := L7.out.trans (hb9.mono M7.out)
    have M9 : Hid (w6.heap.size + 1 ≤ w9.heap.size) := Nat.le_trans M7.out hb9.size
    clear hb9 f0 f1 f2 G7
    obtain ⟨⟨f0, f1, f2⟩, G9⟩ := FX.out w9 L9.out
    go_wp2_with fail
    refine (cmp_walk sb2 po nb2 cb2 n' pc (endOf (l ++ m)) (l ++ m) _ G9.out.2.1 G9.out.2.2.2.2.2.1 (by omega) (by omega)).mono ?_
    rw [X3.out]
    rintro e w10 ⟨rfl, hb10⟩
    have L10 : Hid (Below (w6.heap.size + 1) (w6.alloc (.cells #[.slice sb1 n' cb1, .slice sb2 nb2 cb2] 25)) w10) := L9.out.trans (hb10.mono M9.out)
    clear hb10 f0 f1 f2 G9
    obtain ⟨⟨f0, f1, f2⟩, G10⟩ := FX.out w10 L10.out
    by_cases hna : na2 = 0
    · have q1 : ((na2 : Int) != 0) = false := by simp [hna]
      clear hna
      go_wp2
      go_ret
      exact ⟨rfl, G10.out.2.2.2.2.2.2⟩
    · have q1 : ((na2 : Int) != 0) = true := by simp; omega
      have hcm : cmp (endOf (l ++ m)) (endOf l) = -1 := X4.out (by intro h; apply hna; rw [LSA.out, h]; rfl)
      have HCM := hide hcm
      clear hna hcm
      go_wp2_with fail
      refine (cmp_walk sb2 sa2 nb2 cb2 na2 ca2 (endOf (l ++ m)) (endOf l) _ G10.out.2.1 G10.out.2.2.1 (by omega) (by omega)).mono ?_
      rw [HCM.out]
      rintro e w11 ⟨rfl, hb11⟩
      go_wp2
      go_ret
      have hx := G10.out.2.2.2.2.2.2
      exact ⟨rfl, hx.trans (hb11.mono hx.size)⟩

set_option maxHeartbeats 400000 in
theorem ext_long (a a' : Option Addr) (n c n' c' : Nat) (w : World) (h : ¬ ((n : Int) ≤ 65536 ∧ (n' : Int) ≤ 65536)) :
    Calls Try.prog 4 #[.slice a n c, .slice a' n' c'] w fun e w' => e = .returned (.bool true) ∧ Below w.heap.size w w' := by
  by_cases hs : (n : Int) + (n' : Int) ≤ 1048576
  · by_cases h1 : (n : Int) ≤ 65536
    · have h2 : (65536 : Int) < (n' : Int) := by omega
      clear h
      go_enter Try.func4, Try.ntmps4
      go_wp2_with (go_at_call 10; refine (bytes10_yes _ _ _ _ _ _ _ hs).mono ?_; rintro e w' ⟨rfl, rfl⟩)
      go_ret
      exact ⟨rfl, Below.refl _ _⟩
    · clear h
      go_enter Try.func4, Try.ntmps4
      go_wp2_with (go_at_call 10; refine (bytes10_yes _ _ _ _ _ _ _ hs).mono ?_; rintro e w' ⟨rfl, rfl⟩)
      go_ret
      exact ⟨rfl, Below.refl _ _⟩
  · have hn : (1048576 : Int) < (n : Int) + (n' : Int) := by omega
    clear h
    go_enter Try.func4, Try.ntmps4
    go_wp2_with (go_at_call 10; refine (bytes10_no _ _ _ _ _ _ _ hn).mono ?_; rintro e w' ⟨rfl, rfl⟩)
    go_ret
    exact ⟨rfl, Below.refl _ _⟩
end Go.Proofs.Qxb6629232a
