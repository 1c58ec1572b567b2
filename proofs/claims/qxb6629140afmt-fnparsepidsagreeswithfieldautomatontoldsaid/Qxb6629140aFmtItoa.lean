/-
  zzItoa's contract.
-/
import Derived.Test.Qxb6629140aFmtRows
import Derived.Lib.ItoaNum
import Derived.Lib.ItoaLen
import Derived.Laws.Bits64
import Derived.WalkKit
import Derived.WalkSpells
import Derived.BigCall
namespace Go.Proofs.Qxb6629140aFmt
open Go.RowKit Go.Lib

/-- The digits ds stand at the end of the buffer, from place k on. -/
def Buf (B k : Nat) (ds : List UInt8) (w wr : World) : Prop :=
  ∃ row : Array Value, row.size = 24 ∧ wr.heap[B]? = some (.cells row 39 (0, 0)) ∧ k + ds.length = 24 ∧ (∀ j (h : j < ds.length), row[k + j]? = some (.int .u8 (ds[j].toNat : Int))) ∧ Below B w wr
theorem Buf.cell {B k : Nat} {ds : List UInt8} {w wr : World} (h : Buf B k ds w wr) (j : Nat) (hj : j < 24) : (∃ v, wr.cell? ⟨B, j, none⟩ = some v) ∧ wr.frozen? ⟨B, j, none⟩ = false := by
  obtain ⟨row, h1, h2, _⟩ := h
  refine ⟨⟨row[j]'(by omega), ?_⟩, by simp [World.frozen?, h2]⟩
  simp [World.cell?, h2, h1, hj]
theorem Buf.put {B k : Nat} {ds : List UInt8} {w wr : World} (h : Buf B (k + 1) ds w wr) (d : UInt8) (z : Int) (hz : z = (d.toNat : Int)) : Buf B k (d :: ds) w (wr.setCell ⟨B, k, none⟩ (.int .u8 z)) := by
  subst hz
  obtain ⟨row, h1, h2, h3, h4, h5⟩ := h
  refine ⟨row.setIfInBounds k (.int .u8 (d.toNat : Int)), by simpa using h1, heap_setCell_same wr B k row 39 _ h2, by simp; omega, ?_, h5.setCell (Nat.le_refl _) _⟩
  intro j hj
  cases j with
  | zero =>
    have hk : k < row.size := by omega
    simp [hk]
  | succ j =>
    have hj' : j < ds.length := by simpa using hj
    have := h4 j hj'
    rw [show k + (j + 1) = k + 1 + j from by omega, Array.getElem?_setIfInBounds_ne (by omega)]
    simpa using this
theorem Buf.text {B k : Nat} {ds : List UInt8} {w wr : World} (h : Buf B k ds w wr) : (convert 40 9 (.slice (some ⟨B, k, none⟩) (24 - k) (24 - k))).run Tryf.prog wr = .ok (.string ⟨ds.toArray⟩) wr := by
  obtain ⟨row, h1, h2, h3, h4, h5⟩ := h
  have e : 24 - k = ds.length := by omega
  rw [e]
  refine run_convert_bytes_back (P := Tryf.prog) wr 40 9 5 _ _ ds Tryf.underlying40 Tryf.underlying5 Tryf.underlying9 ?_
  intro j hj
  have ea : (⟨B, k, none⟩ : Addr).add j = ⟨B, k + j, none⟩ := by unfold Addr.add; split <;> simp_all
  rw [ea]
  simp only [World.cell?, h2]
  simpa using h4 j hj
/-- 'buf[k:]'. -/
theorem cut_buf (B k : Nat) (h : k < 24) (X : World) : (Instr.sliceAt 39 (.pointer (some ⟨B, 0, none⟩)) (some (.int .i64 (k : Int))) none none).run Tryf.prog X = .ok (.slice (some ⟨B, k, none⟩) (24 - k) (24 - k)) X := by
  have ht : Tryf.prog.underlying 39 = some (.array (Tryf.prog.arrayLen 39) (Tryf.prog.elem 39)) := by kernel_rfl
  have e24 : Tryf.prog.arrayLen 39 = 24 := by kernel_rfl
  have hz : ∀ X, (sizeOf (Tryf.prog.elem 39)).run Tryf.prog X = .ok 1 X := fun X => by
    have e : Tryf.prog.elem 39 = 5 := by kernel_rfl
    rw [e]; exact Tryf.sizeOf5 X
  rw [run_sliceAt_array_l (P := Tryf.prog) X 39 ⟨B, 0, none⟩ ht .i64 (k : Int) (by omega) (by rw [e24]; omega), hz, e24]
  have e : ¬ 24 = k := by omega
  simp only [Result.andThen, slicedAt, Int.toNat_natCast, if_neg e, Nat.mul_one]
  have ea : (⟨B, 0, none⟩ : Addr).add k = ⟨B, k, none⟩ := by unfold Addr.add; split <;> simp_all
  rw [ea]
theorem dec_small (q : Nat) (h : q < 10) : decDigits q = [UInt8.ofNat (48 + q)] := by rw [decDigits, dif_pos h]
theorem dec_big (q : Nat) (h : 10 ≤ q) : decDigits q = decDigits (q / 10) ++ [UInt8.ofNat (48 + q % 10)] := by rw [decDigits, dif_neg (by omega)]
theorem dig_nat (d : Nat) (h : d < 10) : (UInt8.ofNat (48 + d)).toNat = 48 + d := by
  have : ∀ n : Fin 10, (UInt8.ofNat (48 + n.val)).toNat = 48 + n.val := by decide
  exact this ⟨d, h⟩
theorem ret_str {a b : List UInt8} (h : a = b) : Ending.returned (.string ⟨a.toArray⟩) = .returned (.string ⟨b.toArray⟩) := by rw [h]
theorem hide' {p : Prop} (h : p) : Hid p := h
theorem buf_start (w : World) : Buf w.heap.size 24 [] w (w.alloc (.cells #[.int .u8 0, .int .u8 0, .int .u8 0, .int .u8 0, .int .u8 0, .int .u8 0, .int .u8 0, .int .u8 0, .int .u8 0, .int .u8 0, .int .u8 0, .int .u8 0, .int .u8 0, .int .u8 0, .int .u8 0, .int .u8 0, .int .u8 0, .int .u8 0, .int .u8 0, .int .u8 0, .int .u8 0, .int .u8 0, .int .u8 0, .int .u8 0] 39)) :=
  ⟨#[.int .u8 0, .int .u8 0, .int .u8 0, .int .u8 0, .int .u8 0, .int .u8 0, .int .u8 0, .int .u8 0, .int .u8 0, .int .u8 0, .int .u8 0, .int .u8 0, .int .u8 0, .int .u8 0, .int .u8 0, .int .u8 0, .int .u8 0, .int .u8 0, .int .u8 0, .int .u8 0, .int .u8 0, .int .u8 0, .int .u8 0, .int .u8 0], rfl, Array.getElem?_push_size, rfl, fun j h => by simp at h, (Below.refl _ w).alloc (Nat.le_refl _) _⟩

set_option maxHeartbeats 1000000 in
set_option maxRecDepth 100000 in
theorem itoa_pos_walk (U : Nat) (w : World) (h1 : U ≤ 9223372036854775807) :
    Calls Tryf.prog 11 #[.int .i64 (U)] w fun e w' => e = .returned (.string ⟨(decDigits U).toArray⟩) ∧ Below w.heap.size w w' := by
  have h20 := nDigits_le20 U (by omega)
  rw [← decDigits_length] at h20
  have hst := buf_start w
  obtain ⟨D, hD⟩ : ∃ D, D = decDigits U := ⟨_, rfl⟩
  rw [← hD] at h20 ⊢
  obtain ⟨B, hB⟩ : ∃ B, B = w.heap.size := ⟨_, rfl⟩
  have HB := hide' hB
  have HD := hide' hD
  have HST := hide' hst
  have hcut := cut_buf w.heap.size
  have hlt0 : decide ((U : Int) < 0) = false := by simp
  clear hB hD hst
  go_enter Tryf.func11, Tryf.ntmps11
  go_wp2
  go_loopw [3, 6] (fun su si wr => ∃ (q k : Nat) (ds : List UInt8), su = .int .u64 (q : Int) ∧ si = .int .i64 (k : Int) ∧ q ≤ U ∧ k ≤ 24 ∧ Hid (D = decDigits q ++ ds) ∧ Hid (Buf w.heap.size k ds w wr)) (fun su _ _ => (intOf su).toNat)
  case atStart => exact ⟨U, 24, [], rfl, rfl, Nat.le_refl _, Nat.le_refl _, by show D = _; rw [HD.out, List.append_nil], HST.out⟩
  case round =>
    obtain ⟨q, k, ds, rfl, rfl, hqU, hk24, HQ, HBUF⟩ := hrel
    have hkd : k + ds.length = 24 := by obtain ⟨_, _, _, h, _⟩ := HBUF.out; exact h
    have hdl : (decDigits q).length + ds.length ≤ 20 := by rw [← List.length_append, ← HQ.out]; exact h20
    by_cases hq : 10 ≤ q
    · have hn := dec_big q hq
      have hl1 : 1 ≤ (decDigits (q / 10)).length := by rw [decDigits_length]; exact nDigits_pos _
      rw [hn, List.length_append, List.length_singleton] at hdl
      obtain ⟨j, hkj⟩ : ∃ j, k = j + 1 := ⟨k - 1, by omega⟩
      obtain ⟨⟨v, hv⟩, hf⟩ := HBUF.out.cell j (by omega)
      have hj : j < 24 := by omega
      have hi1 : (k : Int) - 1 = (j : Int) := by omega
      have HB1 : Hid (Buf w.heap.size (j + 1) ds w wr) := by rw [← hkj]; exact HBUF.out
      have P2 := hide' (HB1.out.put (UInt8.ofNat (48 + q % 10)) (48 + (q : Int) % 10) (by rw [dig_nat _ (by omega)]; omega))
      have Q2 : Hid (D = decDigits (q / 10) ++ (UInt8.ofNat (48 + q % 10) :: ds)) := by show D = _; rw [HQ.out, hn]; simp
      clear hn hl1 hdl hkd hkj
      go_wp2
      go_roundw
      case rel => exact ⟨q / 10, j, _, by go_num, by go_num, by omega, by omega, Q2.out, P2.out⟩
      case measure => simp [intOf]; omega
    · have hn := dec_small q (by omega)
      rw [hn, List.length_singleton] at hdl
      obtain ⟨j1, hkj⟩ : ∃ j1, k = j1 + 1 := ⟨k - 1, by omega⟩
      obtain ⟨j, hkj2⟩ : ∃ j, j1 = j + 1 := ⟨j1 - 1, by omega⟩
      obtain ⟨⟨v, hv⟩, hf⟩ := HBUF.out.cell j1 (by omega)
      have hj : j1 < 24 := by omega
      have hi1 : (k : Int) - 1 = (j1 : Int) := by omega
      have hi2 : (j1 : Int) - 1 = (j : Int) := by omega
      have HB1 : Hid (Buf w.heap.size (j1 + 1) ds w wr) := by rw [← hkj]; exact HBUF.out
      obtain ⟨d, hdd⟩ : ∃ d, d = UInt8.ofNat (48 + q) := ⟨_, rfl⟩
      have P2 := hide' (HB1.out.put d (48 + (q : Int)) (by rw [hdd, dig_nat _ (by omega)]; omega))
      have Q2 : Hid (D = d :: ds) := by show D = _; rw [HQ.out, hn, hdd]; rfl
      clear hdd
      have hcv := P2.out.text
      have hcj := hcut j1 hj
      clear hn hdl hkd hcut hkj hkj2 hi2
      go_wp2
      go_ret
      obtain ⟨_, _, _, _, _, hbel⟩ := P2.out
      exact ⟨ret_str (by rw [Q2.out]), hbel⟩

set_option maxHeartbeats 1000000 in
set_option maxRecDepth 100000 in
theorem itoa_neg_walk (U : Nat) (w : World) (h0 : 0 < U) (h1 : U ≤ 9223372036854775808) :
    Calls Tryf.prog 11 #[.int .i64 (-(U : Int))] w fun e w' => e = .returned (.string ⟨(45 :: decDigits U).toArray⟩) ∧ Below w.heap.size w w' := by
  have h20 := nDigits_le20 U (by omega)
  rw [← decDigits_length] at h20
  have hst := buf_start w
  obtain ⟨D, hD⟩ : ∃ D, D = decDigits U := ⟨_, rfl⟩
  rw [← hD] at h20 ⊢
  obtain ⟨B, hB⟩ : ∃ B, B = w.heap.size := ⟨_, rfl⟩
  have HB := hide' hB
  have HD := hide' hD
  have HST := hide' hst
  have hcut := cut_buf w.heap.size
  have hwr : IntKind.u64.wrap (-IntKind.u64.wrap (-(U : Int))) = (U : Int) := by rw [IntKind.wrap_u64, IntKind.wrap_u64]; omega
  have hlt0 : decide (-(U : Int) < 0) = true := by simp; omega
  clear hB hD hst
  go_enter Tryf.func11, Tryf.ntmps11
  go_wp2
  go_loopw [3, 6] (fun su si wr => ∃ (q k : Nat) (ds : List UInt8), su = .int .u64 (q : Int) ∧ si = .int .i64 (k : Int) ∧ q ≤ U ∧ k ≤ 24 ∧ Hid (D = decDigits q ++ ds) ∧ Hid (Buf w.heap.size k ds w wr)) (fun su _ _ => (intOf su).toNat)
  case atStart => exact ⟨U, 24, [], rfl, rfl, Nat.le_refl _, Nat.le_refl _, by show D = _; rw [HD.out, List.append_nil], HST.out⟩
  case round =>
    obtain ⟨q, k, ds, rfl, rfl, hqU, hk24, HQ, HBUF⟩ := hrel
    have hkd : k + ds.length = 24 := by obtain ⟨_, _, _, h, _⟩ := HBUF.out; exact h
    have hdl : (decDigits q).length + ds.length ≤ 20 := by rw [← List.length_append, ← HQ.out]; exact h20
    by_cases hq : 10 ≤ q
    · have hn := dec_big q hq
      have hl1 : 1 ≤ (decDigits (q / 10)).length := by rw [decDigits_length]; exact nDigits_pos _
      rw [hn, List.length_append, List.length_singleton] at hdl
      obtain ⟨j, hkj⟩ : ∃ j, k = j + 1 := ⟨k - 1, by omega⟩
      obtain ⟨⟨v, hv⟩, hf⟩ := HBUF.out.cell j (by omega)
      have hj : j < 24 := by omega
      have hi1 : (k : Int) - 1 = (j : Int) := by omega
      have HB1 : Hid (Buf w.heap.size (j + 1) ds w wr) := by rw [← hkj]; exact HBUF.out
      have P2 := hide' (HB1.out.put (UInt8.ofNat (48 + q % 10)) (48 + (q : Int) % 10) (by rw [dig_nat _ (by omega)]; omega))
      have Q2 : Hid (D = decDigits (q / 10) ++ (UInt8.ofNat (48 + q % 10) :: ds)) := by show D = _; rw [HQ.out, hn]; simp
      clear hn hl1 hdl hkd hkj
      go_wp2
      go_roundw
      case rel => exact ⟨q / 10, j, _, by go_num, by go_num, by omega, by omega, Q2.out, P2.out⟩
      case measure => simp [intOf]; omega
    · have hn := dec_small q (by omega)
      rw [hn, List.length_singleton] at hdl
      obtain ⟨j1, hkj⟩ : ∃ j1, k = j1 + 1 := ⟨k - 1, by omega⟩
      obtain ⟨j, hkj2⟩ : ∃ j, j1 = j + 1 := ⟨j1 - 1, by omega⟩
      obtain ⟨⟨v, hv⟩, hf⟩ := HBUF.out.cell j1 (by omega)
      have hj : j1 < 24 := by omega
      have hi1 : (k : Int) - 1 = (j1 : Int) := by omega
      have hi2 : (j1 : Int) - 1 = (j : Int) := by omega
      have HB1 : Hid (Buf w.heap.size (j1 + 1) ds w wr) := by rw [← hkj]; exact HBUF.out
      obtain ⟨d, hdd⟩ : ∃ d, d = UInt8.ofNat (48 + q) := ⟨_, rfl⟩
      have P2 := hide' (HB1.out.put d (48 + (q : Int)) (by rw [hdd, dig_nat _ (by omega)]; omega))
      have Q2 : Hid (D = d :: ds) := by show D = _; rw [HQ.out, hn, hdd]; rfl
      clear hdd
      obtain ⟨⟨v2, hv2⟩, hf2⟩ := P2.out.cell j (by omega)
      have P2' : Hid (Buf w.heap.size (j + 1) (d :: ds) w (wr.setCell ⟨w.heap.size, j1, none⟩ (.int .u8 (48 + (q : Int))))) := by rw [← hkj2]; exact P2.out
      have P3 := hide' (P2'.out.put 45 45 rfl)
      have hcv := P3.out.text
      have hcj := hcut j (by omega)
      clear hn hdl hkd hcut hkj hkj2
      go_wp2
      go_ret
      obtain ⟨_, _, _, _, _, hbel⟩ := P3.out
      exact ⟨ret_str (by rw [Q2.out]), hbel⟩

theorem itoa_walk (n : Int) (w : World) (h0 : -9223372036854775808 ≤ n) (h1 : n ≤ 9223372036854775807) :
    Calls Tryf.prog 11 #[.int .i64 n] w fun e w' => e = .returned (.string ⟨(itoa n).toArray⟩) ∧ Below w.heap.size w w' := by
  by_cases hn : n < 0
  · obtain ⟨U, rfl⟩ : ∃ U : Nat, n = -(U : Int) := ⟨n.natAbs, by omega⟩
    have e : itoa (-(U : Int)) = 45 :: decDigits U := by
      unfold itoa
      rw [if_pos hn]
      simp
    rw [e]
    exact itoa_neg_walk U w (by omega) (by omega)
  · obtain ⟨U, rfl⟩ : ∃ U : Nat, n = (U : Int) := ⟨n.toNat, by omega⟩
    have e : itoa (U : Int) = decDigits U := by
      unfold itoa
      rw [if_neg hn]
      simp
    rw [e]
    exact itoa_pos_walk U w (by omega)
end Go.Proofs.Qxb6629140aFmt
