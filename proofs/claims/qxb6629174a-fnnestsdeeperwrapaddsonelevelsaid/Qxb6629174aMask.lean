/-
  The copy that each law makes first; zzStructuralMask's and zzDeepestOpenLevel's contracts.
-/
import Derived.Test.Qxb6629174aNests
import Derived.Laws.CopyOwn
namespace Go.Proofs.Qxb6629174a
open Go.RowKit
theorem Try.info5 : (Try.prog.info? 5).map (fun i => (i.zero, i.size, i.bytes)) = some (some (.int .u8 0), 1, 1) := by kernel_rfl
theorem Try.info4 : (Try.prog.info? 4).map (fun i => (i.zero, i.size, i.bytes)) = some (some (.bool false), 1, 1) := by kernel_rfl
theorem Try.size5 : (Try.prog.info? 5).map (·.size) = some 1 := by kernel_rfl

/-- A new row of n zero bytes; a new row of n times false. -/
theorem make_bytes (w : World) (n : Nat) (hn : n ≤ 1048578) : ∃ w', (Instr.makeSlice 22 (.int .i64 (n : Int)) (.int .i64 (n : Int))).run Try.prog w = .ok (.slice (some ⟨w.heap.size, 0, none⟩) n n) w' ∧
    w'.ownsRow w.heap.size 5 1 (.slice (some ⟨w.heap.size, 0, none⟩) n n) n (List.replicate n (.int .u8 0)) ∧ Below w.heap.size w w' ∧ w.heap.size < w'.heap.size := by
  obtain ⟨i0, hi, hz0, hz1, hz2⟩ := info_parts Try.info5
  obtain ⟨w', h1, h2, h3⟩ := run_make_full (P := Try.prog) w w.heap.size 22 5 i0 (.int .u8 0) 1 Try.underlying22 hi hz0 hz1 .i64 .i64 n (by rw [hz2]; omega) (by unfold maxLen; omega) (Nat.le_refl _)
  refine ⟨w', h1, ?_, (Below.refl _ w).grown h3 (Nat.le_refl _) (fun k e => by cases e), (h2.lt w.heap.size rfl).2⟩
  have e : (madeCells (Value.int .u8 0).cells (n * 1)).toList = List.replicate n (.int .u8 0) := by rw [Nat.mul_one]; exact toList_madeCells_one _ _
  rw [e] at h2; exact h2
theorem make_bools (w : World) (n : Nat) (hn : n ≤ 1048578) : ∃ w', (Instr.makeSlice 24 (.int .i64 (n : Int)) (.int .i64 (n : Int))).run Try.prog w = .ok (.slice (some ⟨w.heap.size, 0, none⟩) n n) w' ∧
    w'.ownsRow w.heap.size 4 1 (.slice (some ⟨w.heap.size, 0, none⟩) n n) n (List.replicate n (.bool false)) ∧ Below w.heap.size w w' ∧ w.heap.size < w'.heap.size := by
  obtain ⟨i0, hi, hz0, hz1, hz2⟩ := info_parts Try.info4
  obtain ⟨w', h1, h2, h3⟩ := run_make_full (P := Try.prog) w w.heap.size 24 4 i0 (.bool false) 1 Try.underlying24 hi hz0 hz1 .i64 .i64 n (by rw [hz2]; omega) (by unfold maxLen; omega) (Nat.le_refl _)
  refine ⟨w', h1, ?_, (Below.refl _ w).grown h3 (Nat.le_refl _) (fun k e => by cases e), (h2.lt w.heap.size rfl).2⟩
  have e : (madeCells (Value.bool false).cells (n * 1)).toList = List.replicate n (.bool false) := by rw [Nat.mul_one]; exact toList_madeCells_one _ _
  rw [e] at h2; exact h2

/-- 'zzc := make([]byte, len(data)); copy(zzc, data)'. -/
theorem copy_in (w : World) (x : Addr) (n cap : Nat) (l : List Int) (hn : n ≤ 1048578) (hl : l.length = n) (hx : 0 < n → x.block < w.heap.size) (hc : ∀ i, i < n → w.cell? (x.add i) = some (.int .u8 (l.getD i 0))) :
    ∃ w0 w1, (Instr.makeSlice 22 (.int .i64 (n : Int)) (.int .i64 (n : Int))).run Try.prog w = .ok (.slice (some ⟨w.heap.size, 0, none⟩) n n) w0 ∧
      (Builtin.copy_ #[22, 22] 3 #[.slice (some ⟨w.heap.size, 0, none⟩) n n, .slice (some x) n cap]).run Try.prog w0 = .ok (goInt n) w1 ∧
      (∀ i, i < n → w1.cell? ⟨w.heap.size, i, none⟩ = some (.int .u8 (l.getD i 0))) ∧ Below w.heap.size w w1 ∧ w.heap.size < w1.heap.size := by
  obtain ⟨w0, h1, h2, h3, h4⟩ := make_bytes w n hn
  rcases h2.2 with ⟨hv, _⟩ | ⟨g, cap', cur, hv, _, hg, _, _, hcs, _⟩
  · cases hv
  · simp only [Value.slice.injEq, Option.some.injEq, Addr.mk.injEq, and_true, true_and] at hv
    obtain ⟨rfl, rfl⟩ := hv
    have hr := run_copy_row (P := Try.prog) w0 22 22 3 5 w.heap.size 0 n n x n cap cur 5 (l.map (Value.int .u8)) Try.underlying22 Try.size5 hg (by simp [hl]) (by
      intro j v hj
      have hjl : j < l.length := by have := (List.getElem?_eq_some_iff.1 hj).1; simpa using this
      have hx' := hx (by omega)
      have hb : (x.add j).block < w.heap.size := by unfold Addr.add; split <;> simpa using hx'
      rw [h3.cell hb, hc j (by omega)]
      simp [hjl] at hj
      simp [← hj, List.getD, hjl]) (by simp [hl, hcs]) (by intro v hv; simp only [List.mem_map] at hv; obtain ⟨z, _, rfl⟩ := hv; rfl)
    have e : ((l.map (Value.int .u8)).length) = n := by simp [hl]
    rw [e] at hr
    refine ⟨w0, _, h1, hr, ?_, below_setRow h3 (Nat.le_refl _) _, by simpa [World.setRow] using h4⟩
    intro i hi
    have hh := setRow_heap w0 w.heap.size cur (cur.toList.take 0 ++ l.map (Value.int .u8) ++ cur.toList.drop (0 + n)).toArray 5 _ hg
    rw [cell_of_row _ _ _ _ _ _ hh]
    simp [List.getElem?_append, hl, hi, List.getD]

/-- The mask's row behind k rounds: what is done, then false. -/
def mrow (done : List Bool) (n : Nat) : List Value := done.map Value.bool ++ List.replicate (n - done.length) (.bool false)
theorem mrow_at (done : List Bool) (n k : Nat) (hk : done.length = k) (h : k < n) : (mrow done n)[k]? = some (.bool false) := by
  subst hk
  simp only [mrow]
  rw [List.getElem?_append_right (by simp)]
  simp only [List.length_map, Nat.sub_self]
  rw [List.getElem?_replicate, if_pos (by omega)]
theorem mrow_no (done : List Bool) (n k : Nat) (hk : done.length = k) (h : k < n) : mrow (done ++ [false]) n = mrow done n := by
  subst hk
  simp only [mrow, List.length_append, List.map_append, List.append_assoc, List.length_cons, List.length_nil]
  have e : n - done.length = (n - (done.length + (0 + 1))) + 1 := by omega
  rw [e, List.replicate_succ]; rfl
theorem mrow_yes (done : List Bool) (n k : Nat) (hk : done.length = k) (h : k < n) : mrow (done ++ [true]) n = (mrow done n).set k (.bool true) := by
  subst hk
  simp only [mrow, List.length_append, List.map_append, List.append_assoc, List.length_cons, List.length_nil]
  have e : n - done.length = (n - (done.length + (0 + 1))) + 1 := by omega
  rw [e, List.replicate_succ, List.set_append_right _ _ (by simp)]
  simp
theorem mrow_end (done : List Bool) (n : Nat) (h : done.length = n) : mrow done n = done.map Value.bool := by simp [mrow, h]
/-- What holds at the head of each round. -/
def MRel (B n : Nat) (l : List Int) (w : World) (k : Nat) (ins esc : Bool) (wr : World) : Prop :=
  ∃ done : List Bool, done.length = k ∧ done ++ mask ins esc (l.drop k) = mask false false l ∧ wr.ownsRow B 4 1 (.slice (some ⟨B, 0, none⟩) n n) n (mrow done n) ∧ Below B w wr
theorem MRel.no {B n : Nat} {l : List Int} {w wr : World} {k : Nat} {ins esc ins' esc' : Bool} (h : MRel B n l w k ins esc wr) (hk : k < n) (hm : mask ins esc (l.drop k) = false :: mask ins' esc' (l.drop (k + 1))) : MRel B n l w (k + 1) ins' esc' wr := by
  obtain ⟨done, h1, h2, h3, h4⟩ := h
  refine ⟨done ++ [false], by simp [h1], by rw [← h2, hm]; simp, ?_, h4⟩
  rw [mrow_no done n k h1 hk]; exact h3
theorem MRel.yes {B n : Nat} {l : List Int} {w wr : World} {k : Nat} {ins esc ins' esc' : Bool} (h : MRel B n l w k ins esc wr) (hk : k < n) (hm : mask ins esc (l.drop k) = true :: mask ins' esc' (l.drop (k + 1))) : MRel B n l w (k + 1) ins' esc' (wr.setCell ⟨B, k, none⟩ (.bool true)) := by
  obtain ⟨done, h1, h2, h3, h4⟩ := h
  refine ⟨done ++ [true], by simp [h1], by rw [← h2, hm]; simp, ?_, h4.setCell (Nat.le_refl _) _⟩
  rw [mrow_yes done n k h1 hk]; exact (h3.stored k _).1
theorem MRel.cell {B n : Nat} {l : List Int} {w wr : World} {k : Nat} {ins esc : Bool} (h : MRel B n l w k ins esc wr) (hk : k < n) : wr.cell? ⟨B, k, none⟩ = some (.bool false) ∧ wr.frozen? ⟨B, k, none⟩ = false := by
  obtain ⟨done, h1, h2, h3, h4⟩ := h
  exact ⟨by rw [h3.cellAt k (by omega)]; exact mrow_at done n k h1 hk, h3.frozenAt k⟩
theorem mask_esc (ins : Bool) (c : Int) (t : List Int) : mask ins true (c :: t) = false :: mask ins false t := by cases ins <;> rfl

set_option maxHeartbeats 1000000 in
set_option maxRecDepth 100000 in
theorem mask_walk (ao : Option Addr) (b n cap : Nat) (l : List Int) (w : World) (hn : n ≤ 1048578) (hl : l.length = n) (hao : 0 < n → ao = some ⟨b, 0, none⟩) (hbw : 0 < n → b < w.heap.size)
    (hc : ∀ i, i < n → w.cell? ⟨b, i, none⟩ = some (.int .u8 (l.getD i 0))) :
    Calls Try.prog 6 #[.slice ao n cap] w fun e w' => e = .returned (.slice (some ⟨w.heap.size, 0, none⟩) n n) ∧ (∀ i, i < n → w'.cell? ⟨w.heap.size, i, none⟩ = some (.bool ((mask false false l).getD i false))) ∧ Below w.heap.size w w' := by
  obtain ⟨w0, hm, hown0, hb0, _⟩ := make_bools w n hn
  have hml := mask_length l false false
  obtain ⟨B, hB⟩ : ∃ B, B = w.heap.size := ⟨_, rfl⟩
  rw [← hB] at hm hown0 hb0 hbw ⊢
  have h0 : MRel B n l w 0 false false w0 := ⟨[], rfl, rfl, by simpa [mrow] using hown0, hb0⟩
  clear hown0 hb0
  have HB : Hid _ := hB
  clear hB
  go_enter Try.func6, Try.ntmps6
  go_wp2
  go_loopw [4, 5, 6] (fun si se sk wr => ∃ (k : Nat) (ins esc : Bool), k ≤ n ∧ si = .bool ins ∧ se = .bool esc ∧ sk = .int .i64 k ∧ MRel B n l w k ins esc wr) (fun _ _ sk _ => n - (intOf sk).toNat)
  case atStart => exact ⟨0, false, false, by omega, rfl, rfl, rfl, h0⟩
  case round =>
    obtain ⟨k, ins, esc, hk, rfl, rfl, rfl, hM⟩ := hrel
    clear hm h0
    by_cases hlt : k < n
    · have ha := hao (by omega)
      subst ha
      have hbl : Below B w wr := by obtain ⟨_, _, _, _, h⟩ := hM; exact h
      have hcell := (hbl.cell (p := ⟨b, k, none⟩) (hbw (by omega))).trans (hc k hlt)
      obtain ⟨hmc, hmf⟩ := hM.cell hlt
      have hd := drop_at l k (by omega)
      obtain ⟨c, hcc⟩ : ∃ c, c = l.getD k 0 := ⟨_, rfl⟩
      rw [← hcc] at hcell hd
      have HD : Hid (l.drop k = c :: l.drop (k + 1)) := hd
      clear hcc hd hc hbl
      cases esc with
      | true =>
        go_wp2
        go_roundw
        case rel => exact ⟨k + 1, ins, false, by omega, rfl, rfl, by go_num, hM.no hlt (by rw [HD.out, mask_esc])⟩
        case measure => simp [intOf]; omega
      | false =>
        cases ins with
        | true =>
          by_cases h92 : c = 92
          · subst h92
            go_wp2
            go_roundw
            case rel => exact ⟨k + 1, true, true, by omega, rfl, rfl, by go_num, hM.no hlt (by rw [HD.out, mask, if_pos rfl])⟩
            case measure => simp [intOf]; omega
          · by_cases h34 : c = 34
            · subst h34
              go_wp2
              go_roundw
              case rel => exact ⟨k + 1, false, false, by omega, rfl, rfl, by go_num, hM.no hlt (by rw [HD.out, mask, if_neg (by decide), if_pos rfl])⟩
              case measure => simp [intOf]; omega
            · have q1 : (c == 92) = false := by simpa using h92
              have q2 : (c == 34) = false := by simpa using h34
              have N1 : Hid _ := h92
              have N2 : Hid _ := h34
              clear h92 h34
              go_wp2
              go_roundw
              case rel => exact ⟨k + 1, true, false, by omega, rfl, rfl, by go_num, hM.no hlt (by rw [HD.out, mask, if_neg N1.out, if_neg N2.out])⟩
              case measure => simp [intOf]; omega
        | false =>
          by_cases h34 : c = 34
          · subst h34
            go_wp2
            go_roundw
            case rel => exact ⟨k + 1, true, false, by omega, rfl, rfl, by go_num, hM.no hlt (by rw [HD.out, mask, if_pos rfl])⟩
            case measure => simp [intOf]; omega
          · have q2 : (c == 34) = false := by simpa using h34
            have N2 : Hid _ := h34
            clear h34
            go_wp2
            go_roundw
            case rel => exact ⟨k + 1, false, false, by omega, rfl, rfl, by go_num, hM.yes hlt (by rw [HD.out, mask, if_neg N2.out])⟩
            case measure => simp [intOf]; omega
    · go_wp2
      go_ret
      obtain ⟨done, h1, h2, h3, h4⟩ := hM
      have e : done = mask false false l := by rw [← h2, List.drop_eq_nil_of_le (by omega)]; simp [mask]
      refine ⟨rfl, ?_, h4⟩
      intro i hi
      rw [h3.cellAt i (by omega), mrow_end done n (by omega), e]
      simp [List.getD, hml, hl, hi]
end Go.Proofs.Qxb6629174a
