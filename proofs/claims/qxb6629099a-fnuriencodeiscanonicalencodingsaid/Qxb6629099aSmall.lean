/-
  The small callees' contracts.
-/
import Derived.Test.Qxb6629099aRows
import Derived.Test.Qxb6629099aPlain
import Derived.WalkKit
import Derived.BigCall
namespace Go.Proofs.Qxb6629099a
open Go.RowKit
theorem Try.info5 : (Try.prog.info? 5).map (fun i => (i.zero, i.size, i.bytes)) = some (some (.int .u8 0), 1, 1) := by kernel_rfl

set_option maxHeartbeats 400000 in
theorem bytes5_yes (s : ByteArray) (sl : Bool) (w : World) (hs : (s.size : Int) ≤ 1048576) :
    Calls Try.prog 5 #[.string s, .bool sl] w fun e w' => e = .returned (.bool true) ∧ w' = w := by
  go_enter Try.func5, Try.ntmps5
  go_wp2
  go_ret
  exact ⟨rfl, rfl⟩
set_option maxHeartbeats 400000 in
theorem bytes5_no (s : ByteArray) (sl : Bool) (w : World) (hs : (1048576 : Int) < s.size) :
    Calls Try.prog 5 #[.string s, .bool sl] w fun e w' => e = .returned (.bool false) ∧ w' = w := by
  go_enter Try.func5, Try.ntmps5
  go_wp2
  go_ret
  exact ⟨rfl, rfl⟩

set_option maxHeartbeats 400000 in
theorem bare_walk (c : UInt8) (sl : Bool) (w : World) :
    Calls Try.prog 8 #[.int .u8 (c.toNat : Int), .bool sl] w fun e w' => e = .returned (.bool (bare sl c)) ∧ w' = w := by
  rcases classes sl c with ⟨hc, hcl⟩ | ⟨hc, hcl⟩
  · rw [hc]
    clear hc
    rcases hcl with hcl | hcl | hcl | hcl | hcl | hcl | hcl | ⟨hcl, rfl⟩
    all_goals
      obtain ⟨hx, hy⟩ := hcl
      first | have q45 : ((c.toNat : Int) == 45) = false := (by rw [beq_eq_false_iff_ne]; omega) | have q45 : ((c.toNat : Int) == 45) = true := (by rw [beq_iff_eq]; omega)
      first | have q95 : ((c.toNat : Int) == 95) = false := (by rw [beq_eq_false_iff_ne]; omega) | have q95 : ((c.toNat : Int) == 95) = true := (by rw [beq_iff_eq]; omega)
      first | have q46 : ((c.toNat : Int) == 46) = false := (by rw [beq_eq_false_iff_ne]; omega) | have q46 : ((c.toNat : Int) == 46) = true := (by rw [beq_iff_eq]; omega)
      first | have q126 : ((c.toNat : Int) == 126) = false := (by rw [beq_eq_false_iff_ne]; omega) | have q126 : ((c.toNat : Int) == 126) = true := (by rw [beq_iff_eq]; omega)
      first | have q47 : ((c.toNat : Int) == 47) = false := (by rw [beq_eq_false_iff_ne]; omega) | have q47 : ((c.toNat : Int) == 47) = true := (by rw [beq_iff_eq]; omega)
      go_enter Try.func8, Try.ntmps8
      go_wp2
      go_ret
      exact ⟨rfl, rfl⟩
  · rw [hc]
    clear hc
    rcases hcl with hcl | hcl | hcl | hcl | hcl | hcl | ⟨hcl, rfl⟩
    all_goals
      obtain ⟨hx, hy⟩ := hcl
      first | have q45 : ((c.toNat : Int) == 45) = false := (by rw [beq_eq_false_iff_ne]; omega) | have q45 : ((c.toNat : Int) == 45) = true := (by rw [beq_iff_eq]; omega)
      first | have q95 : ((c.toNat : Int) == 95) = false := (by rw [beq_eq_false_iff_ne]; omega) | have q95 : ((c.toNat : Int) == 95) = true := (by rw [beq_iff_eq]; omega)
      first | have q46 : ((c.toNat : Int) == 46) = false := (by rw [beq_eq_false_iff_ne]; omega) | have q46 : ((c.toNat : Int) == 46) = true := (by rw [beq_iff_eq]; omega)
      first | have q126 : ((c.toNat : Int) == 126) = false := (by rw [beq_eq_false_iff_ne]; omega) | have q126 : ((c.toNat : Int) == 126) = true := (by rw [beq_iff_eq]; omega)
      first | have q47 : ((c.toNat : Int) == 47) = false := (by rw [beq_eq_false_iff_ne]; omega) | have q47 : ((c.toNat : Int) == 47) = true := (by rw [beq_iff_eq]; omega)
      go_enter Try.func8, Try.ntmps8
      go_wp2
      go_ret
      exact ⟨rfl, rfl⟩

theorem hexd_lo (n : Nat) (h : n < 10) : (hexd n).toNat = 48 + n := by
  have : ∀ n : Fin 10, (hexd n.val).toNat = 48 + n.val := by decide
  exact this ⟨n, h⟩
theorem hexd_hi (n : Nat) (h : 10 ≤ n) (h2 : n < 16) : (hexd n).toNat = 55 + n := by
  have : ∀ n : Fin 16, 10 ≤ n.val → (hexd n.val).toNat = 55 + n.val := by decide
  exact this ⟨n, h2⟩ h
theorem ret_pair {k : IntKind} {a b : Int} {x : Bool} (h : a = b) : Ending.returned (.tuple #[.int k a, .bool x]) = .returned (.tuple #[.int k b, .bool x]) := by rw [h]
set_option maxHeartbeats 400000 in
theorem hexv_walk (c : UInt8) (n : Nat) (hn : n < 16) (hc : c = hexd n) (w : World) :
    Calls Try.prog 7 #[.int .u8 (c.toNat : Int)] w fun e w' => e = .returned (.tuple #[.int .u8 (n : Int), .bool true]) ∧ w' = w := by
  by_cases h : n < 10
  · have e : c.toNat = 48 + n := by rw [hc]; exact hexd_lo n h
    have hx : 48 ≤ (c.toNat : Int) := by omega
    have hy : (c.toNat : Int) ≤ 57 := by omega
    have E : Hid (c.toNat = 48 + n) := e
    clear e hc
    go_enter Try.func7, Try.ntmps7
    go_wp2
    go_ret2
    refine ⟨?_, rfl⟩
    have e := E.out
    exact ret_pair (by omega)
  · have e : c.toNat = 55 + n := by rw [hc]; exact hexd_hi n (by omega) hn
    have hx : 65 ≤ (c.toNat : Int) := by omega
    have hy : (c.toNat : Int) ≤ 70 := by omega
    have E : Hid (c.toNat = 55 + n) := e
    clear e hc
    go_enter Try.func7, Try.ntmps7
    go_wp2
    go_ret2
    refine ⟨?_, rfl⟩
    have e := E.out
    exact ret_pair (by omega)

/-- The slice value v owns, from block B on, a row that holds the bytes l. -/
def OwnB (B : Nat) (v : Value) (l : List UInt8) (w : World) : Prop := w.ownsRow B 5 1 v l.length (Lib.byteCells l)
/-- 'string(b)' of a row that the call owns. -/
theorem conv_own {w : World} {B : Nat} {v : Value} {l : List UInt8} (h : OwnB B v l w) :
    (convert 24 9 v).run Try.prog w = .ok (.string ⟨l.toArray⟩) w := by
  unfold OwnB at h
  rcases h.2 with ⟨rfl, h0⟩ | ⟨g, cap, cur, rfl, _, hg, _⟩
  · have : l = [] := by simpa using h0
    subst this
    exact run_convert_bytes_nil (P := Try.prog) w 24 5 Try.underlying24 Try.underlying5 0 0 9 Try.underlying9
  · refine run_convert_bytes_back (P := Try.prog) w 24 9 5 _ _ l Try.underlying24 Try.underlying5 Try.underlying9 ?_
    intro j hj
    have := h.cells (g := g) rfl j (.int .u8 (l[j].toNat : Int)) (by simp [Lib.byteCells, hj])
    simpa [Addr.add] using this
end Go.Proofs.Qxb6629099a
