import Derived.Test.Qxb6629099aRows
import Derived.Test.Qxb6629099aShelf
import Derived.Test.Qxb6629099aPlain
import Derived.WalkKit
import Derived.BigCall
namespace Go.Proofs.Qxb6629099a
open Go.RowKit
theorem alloc_at (w : World) (o : Obj) : (w.alloc o).heap[w.heap.size]? = some o := Array.getElem?_push_size
set_option maxHeartbeats 1000000 in
set_option maxRecDepth 100000 in
theorem uri_walk (s : ByteArray) (sl : Bool) (w : World) (hs : s.size ≤ 1048576) :
    Calls Try.prog 6 #[.string s, .bool sl] w fun e w' => e = .returned (.string ⟨(enc sl s.data.toList).toArray⟩) ∧ Below w.heap.size w w' := by
  go_enter Try.func6, Try.ntmps6
  go_wp2_with (go_at_call 11; refine (Try.Builder_Grow_fresh w.heap.size w.heap.size s.size _ (Nat.le_refl _) ?hb (by simp) (by omega)).mono ?_)
  case hb => exact alloc_at w _
  rintro e w1 ⟨rfl, h1, b1⟩
  go_wp2
  go_loopw [6] (fun i wr => ∃ k : Nat, k ≤ s.size ∧ i = .int .i64 k ∧ Lib.BuilderAt 33 5 w.heap.size w.heap.size (.pointer (some ⟨w.heap.size, 0, none⟩)) (Lib.byteCells (enc sl (s.data.toList.take k))) wr ∧ Below w.heap.size w wr) (fun i _ => s.size - (intOf i).toNat)
  case atStart =>
    exact ⟨0, Nat.zero_le _, rfl, h1, ((Below.refl _ w).alloc (Nat.le_refl _) _).trans b1⟩
  case round =>
    obtain ⟨k, hk, rfl, hB, hb⟩ := hrel
    by_cases hlt : k < s.size
    · have hle : (enc sl (s.data.toList.take k)).length ≤ 3145728 := by
        have := enc_le sl (s.data.toList.take k)
        have : (s.data.toList.take k).length ≤ k := List.length_take_le _ _
        omega
      have hsz : w.heap.size ≤ wr.heap.size := hb.size
      rcases classes sl s[k] with ⟨hc, hcl⟩ | ⟨hc, hcl⟩
      · have HC : Hid (bare sl s[k] = true) := hc
        clear hc
        rcases hcl with hcl | hcl | hcl | hcl | hcl | hcl | hcl | ⟨hcl, rfl⟩
        all_goals
          obtain ⟨hx, hy⟩ := hcl
          go_wp2_with fail
          refine (Try.Builder_WriteByte w.heap.size w.heap.size _ _ _ (Or.inr hB) (by rw [Lib.byteCells_length]; omega) hsz).mono ?_
          rintro e w2 ⟨rfl, h2, b2⟩
          go_wp2
          go_roundw
          case rel => exact ⟨k + 1, by omega, by go_num, by rw [← cells_bare _ s k hlt HC.out]; first | exact h2 | (have he : s[k].toNat = 47 := (by omega); rw [he]; exact h2), hb.trans b2⟩
          case measure => simp [intOf]; omega
      · have HC : Hid (bare sl s[k] = false) := hc
        clear hc
        rcases hcl with hcl | hcl | hcl | hcl | hcl | hcl | ⟨hcl, rfl⟩
        all_goals
          obtain ⟨hx, hy⟩ := hcl
          go_wp2_with fail
          refine (Try.Builder_WriteByte w.heap.size w.heap.size _ _ _ (Or.inr hB) (by rw [Lib.byteCells_length]; omega) hsz).mono ?_
          rintro e w2 ⟨rfl, h2, b2⟩
          go_wp2_with fail
          refine (Try.Builder_WriteByte w.heap.size w.heap.size _ _ _ (Or.inr h2) (by simp [Lib.byteCells_length]; omega) (Nat.le_trans hsz b2.size)).mono ?_
          rintro e w3 ⟨rfl, h3, b3⟩
          go_wp2_with fail
          refine (Try.Builder_WriteByte w.heap.size w.heap.size _ _ _ (Or.inr h3) (by simp [Lib.byteCells_length]; omega) (Nat.le_trans hsz (Nat.le_trans b2.size b3.size))).mono ?_
          rintro e w4 ⟨rfl, h4, b4⟩
          go_wp2
          go_roundw
          case rel =>
            refine ⟨k + 1, by omega, by go_num, ?_, hb.trans (b2.trans (b3.trans b4))⟩
            first
              | (rw [← cells_esc _ s k hlt HC.out _ _ (hex_at _ (by omega)) (hex_at _ (by omega))]; exact h4)
              | (have he : s[k].toNat = 47 := by omega
                 rw [← cells_esc _ s k hlt HC.out 50 70 (by rw [he]; rfl) (by rw [he]; rfl)]; exact h4)
          case measure => simp [intOf]; omega
    · go_wp2_with (go_at_call 13; refine (Try.Builder_String_any w.heap.size w.heap.size _ _ (Or.inr hB) hb.size).mono ?_)
      rintro e w2 ⟨rfl, b2⟩
      go_wp2
      go_ret
      have e : s.data.toList.take k = s.data.toList := List.take_of_length_le (by simp; omega)
      rw [e]
      exact ⟨rfl, hb.trans b2⟩
theorem uri_call (s : ByteArray) (sl : Bool) (w : World) (hs : s.size ≤ 1048576) :
    Calls Try.prog 6 #[.string s, .bool sl] w fun e w' => e = .returned (.string (encB sl s)) ∧ Below w.heap.size w w' := uri_walk s sl w hs
end Go.Proofs.Qxb6629099a
