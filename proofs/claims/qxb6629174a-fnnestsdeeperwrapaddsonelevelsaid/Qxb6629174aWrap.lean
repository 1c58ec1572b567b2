/-
  The walk of FnNestsDeeperWrapAddsOneLevel.
-/
import Derived.Test.Qxb6629174aLaws
namespace Go.Proofs.Qxb6629174a
open Go.RowKit

/-- The wrapped text behind k rounds. -/
def wrow (l : List Int) (k : Nat) : List Int := 91 :: (l.take k ++ List.replicate (l.length + 1 - k) 0)
theorem wrow_step (l : List Int) (k : Nat) (h : k < l.length) : wrow l (k + 1) = (wrow l k).set (k + 1) (l.getD k 0) := by
  simp only [wrow, List.set_cons_succ]
  congr 1
  have e : l.length + 1 - k = (l.length + 1 - (k + 1)) + 1 := by omega
  rw [e, List.replicate_succ, List.set_append_right _ _ (by simp; omega), List.take_succ_eq_append_getElem h]
  have e2 : k - (l.take k).length = 0 := by simp; omega
  rw [e2]
  simp only [List.set_cons_zero, List.append_assoc, List.cons_append, List.nil_append]
  simp [List.getD, h]
theorem wrow_start (l : List Int) : wrow l 0 = (List.replicate (l.length + 2) (0 : Int)).set 0 91 := by simp [wrow, List.replicate_succ]
theorem wrow_end (l : List Int) : (wrow l l.length).set (l.length + 1) 93 = 91 :: (l ++ [93]) := by
  simp only [wrow, List.set_cons_succ, List.take_length]
  have e : l.length + 1 - l.length = 1 := by omega
  rw [e, List.set_append_right _ _ (by simp)]
  simp
/-- What holds at the head of each round. -/
def WRel (B n : Nat) (l : List Int) (w : World) (k : Nat) (wr : World) : Prop :=
  wr.ownsRow B 5 1 (.slice (some ⟨B, 0, none⟩) (n + 2) (n + 2)) (n + 2) ((wrow l k).map (Value.int .u8)) ∧ Below B w wr
theorem set_map (l : List Int) (k : Nat) (z : Int) : (l.map (Value.int .u8)).set k (.int .u8 z) = (l.set k z).map (Value.int .u8) := by rw [List.map_set]
theorem WRel.step {B n : Nat} {l : List Int} {w wr : World} {k : Nat} (h : WRel B n l w k wr) (hl : l.length = n) (hk : k < n) : WRel B n l w (k + 1) (wr.setCell ⟨B, k + 1, none⟩ (.int .u8 (l.getD k 0))) := by
  refine ⟨?_, h.2.setCell (Nat.le_refl _) _⟩
  rw [wrow_step l k (by omega), ← set_map]
  exact (h.1.stored (k + 1) _).1
theorem wrow_length (l : List Int) (k : Nat) (h : k ≤ l.length) : (wrow l k).length = l.length + 2 := by simp [wrow]; omega
theorem WRel.cell {B n : Nat} {l : List Int} {w wr : World} {k : Nat} (h : WRel B n l w k wr) (hl : l.length = n) (hk : k ≤ n) (j : Nat) (hj : j < n + 2) : (∃ z, wr.cell? ⟨B, j, none⟩ = some (.int .u8 z)) ∧ wr.frozen? ⟨B, j, none⟩ = false := by
  refine ⟨?_, h.1.frozenAt j⟩
  rw [h.1.cellAt j (by omega)]
  have : j < (wrow l k).length := by rw [wrow_length l k (by omega)]; omega
  exact ⟨(wrow l k)[j], by simp [this]⟩
/-- The row, made, its first byte laid. -/
theorem make_wrapped (w : World) (n : Nat) (l : List Int) (hl : l.length = n) (hn : n ≤ 1048576) :
    ∃ w0, (Instr.makeSlice 22 (.int .i64 ((n : Int) + 2)) (.int .i64 ((n : Int) + 2))).run Try.prog w = .ok (.slice (some ⟨w.heap.size, 0, none⟩) (n + 2) (n + 2)) w0 ∧
      w0.cell? ⟨w.heap.size, 0, none⟩ = some (.int .u8 0) ∧ w0.frozen? ⟨w.heap.size, 0, none⟩ = false ∧ WRel w.heap.size n l w 0 (w0.setCell ⟨w.heap.size, 0, none⟩ (.int .u8 91)) ∧ w.heap.size < w0.heap.size := by
  obtain ⟨w0, h1, h2, h3, h4⟩ := make_bytes w (n + 2) (by omega)
  have ec : ((n + 2 : Nat) : Int) = (n : Int) + 2 := by omega
  rw [ec] at h1
  refine ⟨w0, h1, ?_, h2.frozenAt 0, ⟨?_, h3.setCell (Nat.le_refl _) _⟩, h4⟩
  · rw [h2.cellAt 0 (by omega)]; simp
  · rw [wrow_start, hl]
    have e : (List.replicate (n + 2) (Value.int .u8 0)) = (List.replicate (n + 2) (0 : Int)).map (Value.int .u8) := by simp
    rw [e] at h2
    rw [← set_map]
    exact (h2.stored 0 _).1

set_option maxHeartbeats 1000000 in
set_option maxRecDepth 100000 in
/-- The text that came in is not nil. -/
theorem wrap_some (x : Addr) (n cap : Nat) (l : List Int) (d : Int) (w : World) (hs : (n : Int) ≤ 1048576) (hd0 : 0 ≤ d) (hd1 : d ≤ 1073741824) (hl : l.length = n) (hx : 0 < n → x.block < w.heap.size) (hc : ∀ i, i < n → w.cell? (x.add i) = some (.int .u8 (l.getD i 0))) :
    Calls Try.prog 4 #[.slice (some x) n cap, .int .i64 d] w fun e w' => e = .returned (.bool true) ∧ Below w.heap.size w w' := by
  obtain ⟨w0, w1, hmk, hcp, hcells, hb1, hsz⟩ := copy_in w x n cap l (by omega) hl hx hc
  obtain ⟨w2, hmk2, hw0, hwf, hrel0, hsz2⟩ := make_wrapped w1 n l hl (by omega)
  obtain ⟨B, hB⟩ : ∃ B, B = w.heap.size := ⟨_, rfl⟩
  obtain ⟨C, hC⟩ : ∃ C, C = w1.heap.size := ⟨_, rfl⟩
  rw [← hB] at hmk hcp hcells hb1 hsz ⊢
  rw [← hC] at hmk2 hw0 hwf hrel0 hsz2 hsz
  have HB : Hid _ := hB
  have HC : Hid _ := hC
  have HCL : Hid _ := hcells
  have HL : Hid _ := hl
  clear hB hc hcells hl hC
  have hnn := run_neq_slice_nil_any (P := Try.prog)
  go_enter Try.func4, Try.ntmps4
  go_wp2_with (go_at_call 9; refine (bytes9_yes _ _ _ _ _ hs).mono ?_; rintro e w' ⟨rfl, rfl⟩)
  go_loopw [7] (fun sk wr => ∃ k : Nat, k ≤ n ∧ sk = .int .i64 k ∧ WRel C n l w1 k wr) (fun sk _ => n - (intOf sk).toNat)
  case atStart => exact ⟨0, by omega, rfl, hrel0⟩
  case round =>
    obtain ⟨k, hk, rfl, hW⟩ := hrel
    clear hmk hmk2 hcp hw0 hwf hrel0
    have hcd : ∀ i, i < n → wr.cell? ⟨B, i, none⟩ = some (.int .u8 (l.getD i 0)) := fun i hi => (hW.2.cell (p := ⟨B, i, none⟩) hsz).trans (HCL.out i hi)
    by_cases hlt : k < n
    · have hck := hcd k hlt
      obtain ⟨⟨z, hz⟩, hzf⟩ := hW.cell HL.out hk (k + 1) (by omega)
      clear hcd
      have W2 := hW.step HL.out hlt
      obtain ⟨c, hcc⟩ : ∃ c, c = l.getD k 0 := ⟨_, rfl⟩
      rw [← hcc] at hck W2
      clear hcc
      go_wp2
      go_roundw
      case rel => exact ⟨k + 1, by omega, by go_num, W2⟩
      case measure => simp [intOf]; omega
    · have ek : k = n := by omega
      subst ek
      obtain ⟨⟨z, hz⟩, hzf⟩ := hW.cell HL.out (Nat.le_refl _) (k + 1) (by omega)
      clear hcd
      obtain ⟨N, hN⟩ : ∃ N, N = nst d 0 false false l := ⟨_, rfl⟩
      have HN : Hid _ := hN
      clear hN
      have hb3 : Below C w1 (wr.setCell ⟨C, k + 1, none⟩ (.int .u8 93)) := hW.2.setCell (Nat.le_refl _) _
      have hrow : ∀ i, i < k + 2 → (wr.setCell ⟨C, k + 1, none⟩ (.int .u8 93)).cell? ⟨C, i, none⟩ = some (.int .u8 ((91 :: (l ++ [93])).getD i 0)) := by
        intro i hi
        have h := (hW.1.stored (k + 1) (.int .u8 93)).1
        rw [set_map] at h
        have e := wrow_end l
        rw [HL.out] at e
        rw [e] at h
        rw [h.cellAt i (by omega)]
        have hlen : i < (91 :: (l ++ [93])).length := by simp [HL.out]; omega
        rw [List.getElem?_map, List.getElem?_eq_getElem hlen]
        simp only [Option.map_some, List.getD, List.getElem?_eq_getElem hlen, Option.getD_some]
      have HROW : Hid _ := hrow
      have hcd3 : ∀ i, i < k → (wr.setCell ⟨C, k + 1, none⟩ (.int .u8 93)).cell? ⟨B, i, none⟩ = some (.int .u8 (l.getD i 0)) := fun i hi => (hb3.cell (p := ⟨B, i, none⟩) hsz).trans (HCL.out i hi)
      have HCD3 : Hid _ := hcd3
      clear hrow hcd3
      go_wp2_with fail
      refine (nests_walk (some ⟨B, 0, none⟩) B k k l d _ (by omega) HL.out (fun _ => rfl) HCD3.out).mono ?_
      rintro e w4 ⟨rfl, rfl⟩
      rw [← HN.out]
      go_wp2_with fail
      refine (nests_walk (some ⟨C, 0, none⟩) C (k + 2) (k + 2) (91 :: (l ++ [93])) (d + 1) _ (by omega) (by simp [HL.out]) (fun _ => rfl) HROW.out).mono ?_
      rintro e w5 ⟨rfl, rfl⟩
      rw [nst_wrapped d l hd0, ← HN.out]
      go_wp2_with fail
      refine (nests_walk (some ⟨C, 0, none⟩) C (k + 2) (k + 2) (91 :: (l ++ [93])) 0 _ (by omega) (by simp [HL.out]) (fun _ => rfl) HROW.out).mono ?_
      rintro e w6 ⟨rfl, rfl⟩
      rw [nst_zero]
      go_wp2
      go_ret
      exact ⟨rfl, hb1.trans (hb3.mono (by omega))⟩

set_option maxHeartbeats 1000000 in
set_option maxRecDepth 100000 in
/-- The text is nil. -/
theorem wrap_nil (d : Int) (w : World) (hd0 : 0 ≤ d) (hd1 : d ≤ 1073741824) :
    Calls Try.prog 4 #[.slice none 0 0, .int .i64 d] w fun e w' => e = .returned (.bool true) ∧ Below w.heap.size w w' := by
  obtain ⟨w2, hmk2, hw0, hwf, hrel0, hsz2⟩ := make_wrapped w 0 [] rfl (by omega)
  have hmk : (Instr.makeSlice 22 (.int .i64 2) (.int .i64 2)).run Try.prog w = .ok (.slice (some ⟨w.heap.size, 0, none⟩) 2 2) w2 := hmk2
  clear hmk2
  obtain ⟨C, hC⟩ : ∃ C, C = w.heap.size := ⟨_, rfl⟩
  rw [← hC] at hmk hw0 hwf hrel0 hsz2 ⊢
  have HC : Hid _ := hC
  clear hC
  have hnn := run_neq_slice_nil_any (P := Try.prog)
  go_enter Try.func4, Try.ntmps4
  go_wp2_with (go_at_call 9; refine (bytes9_yes _ _ _ _ _ (by decide)).mono ?_; rintro e w' ⟨rfl, rfl⟩)
  go_loopw [7] (fun sk wr => sk = .int .i64 0 ∧ WRel C 0 [] w' 0 wr) (fun _ _ => 0)
  case atStart => exact ⟨rfl, hrel0⟩
  case round =>
    obtain ⟨rfl, hW⟩ := hrel
    clear hmk hw0 hwf hrel0
    obtain ⟨⟨z, hz⟩, hzf⟩ := hW.cell rfl (Nat.le_refl _) 1 (by omega)
    have hb3 : Below C w' (wr.setCell ⟨C, 1, none⟩ (.int .u8 93)) := hW.2.setCell (Nat.le_refl _) _
    have hrow : ∀ i, i < 2 → (wr.setCell ⟨C, 1, none⟩ (.int .u8 93)).cell? ⟨C, i, none⟩ = some (.int .u8 (([91, 93] : List Int).getD i 0)) := by
      intro i hi
      have h := (hW.1.stored 1 (.int .u8 93)).1
      rw [h.cellAt i (by omega)]
      match i, hi with
      | 0, _ => rfl
      | 1, _ => rfl
    have HROW : Hid _ := hrow
    clear hrow
    go_wp2_with fail
    refine (nests_walk none 0 0 0 [] d _ (by omega) rfl (fun h => by omega) (fun i h => by omega)).mono ?_
    rintro e w4 ⟨rfl, rfl⟩
    have e1 : nst d 0 false false [] = false := by simp [nst]
    have e2 : nst (d + 1) 0 false false [91, 93] = false := by rw [← e1]; exact nst_wrapped d [] hd0
    have E1 : Hid _ := e1
    have E2 : Hid _ := e2
    clear e1 e2
    rw [E1.out]
    go_wp2_with fail
    refine (nests_walk (some ⟨C, 0, none⟩) C 2 2 [91, 93] (d + 1) _ (by omega) rfl (fun _ => rfl) HROW.out).mono ?_
    rintro e w5 ⟨rfl, rfl⟩
    rw [E2.out]
    go_wp2_with fail
    refine (nests_walk (some ⟨C, 0, none⟩) C 2 2 [91, 93] 0 _ (by omega) rfl (fun _ => rfl) HROW.out).mono ?_
    rintro e w6 ⟨rfl, rfl⟩
    rw [nst_zero]
    go_wp2
    go_ret
    exact ⟨rfl, hb3⟩

set_option maxHeartbeats 400000 in
theorem wrap_long (a : Option Addr) (n c : Nat) (d : Int) (w : World) (hs : (1048576 : Int) < n) :
    Calls Try.prog 4 #[.slice a n c, .int .i64 d] w fun e w' => e = .returned (.bool true) ∧ Below w.heap.size w w' := by
  go_enter Try.func4, Try.ntmps4
  go_wp2_with (go_at_call 9; refine (bytes9_no _ _ _ _ _ hs).mono ?_; rintro e w' ⟨rfl, rfl⟩)
  go_ret
  exact ⟨rfl, Below.refl _ _⟩
set_option maxHeartbeats 400000 in
theorem wrap_out (a : Option Addr) (n c : Nat) (d : Int) (w : World) (hs : (n : Int) ≤ 1048576) (hd : d < 0 ∨ 1073741824 < d) :
    Calls Try.prog 4 #[.slice a n c, .int .i64 d] w fun e w' => e = .returned (.bool true) ∧ Below w.heap.size w w' := by
  rcases hd with hd | hd
  · go_enter Try.func4, Try.ntmps4
    go_wp2_with (go_at_call 9; refine (bytes9_yes _ _ _ _ _ hs).mono ?_; rintro e w' ⟨rfl, rfl⟩)
    go_ret
    exact ⟨rfl, Below.refl _ _⟩
  · have h0 : decide (d < 0) = false := by simp; omega
    go_enter Try.func4, Try.ntmps4
    go_wp2_with (go_at_call 9; refine (bytes9_yes _ _ _ _ _ hs).mono ?_; rintro e w' ⟨rfl, rfl⟩)
    go_ret
    exact ⟨rfl, Below.refl _ _⟩
end Go.Proofs.Qxb6629174a
