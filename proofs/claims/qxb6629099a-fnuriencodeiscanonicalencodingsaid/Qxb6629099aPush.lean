/-
  One byte appended to a row that the call owns, in the words of 'byteCells' and 'Below'; zzSlashToPct2F's contract.
-/
import Derived.Test.Qxb6629099aSmall
namespace Go.Proofs.Qxb6629099a
open Go.RowKit

theorem wp_push {ops : Array Oper} {rest : List Oper} {o : Oper} {a : Act} {Q : Exit → Act → World → Prop} (hgd : o.guard = none) (s x : Operand)
    (ho : o.op = .call { callee := .builtin .append, args := #[s, x], argTypes := #[24, 24] }) (B : Nat) {v : Value} (l : List UInt8) (wr : World)
    (hown : OwnB B v l wr) (hs : a.eval s = v) (c : Int) (cb : UInt8) (hcb : c = (cb.toNat : Int)) (hx : a.eval x = .slice (some ⟨wr.heap.size, 0, none⟩) 1 1)
    (hlen : l.length + 1 ≤ 140737488355328) (hB : B ≤ wr.heap.size)
    (h : ∀ v' w', OwnB B v' (l ++ [cb]) w' → Below B wr w' → wpList Try.prog ops Q rest (a.put o.dst v') w') :
    wpList Try.prog ops Q (o :: rest) a (wr.alloc (.cells #[.int .u8 c] 5)) := by
  subst hcb
  unfold OwnB at hown h
  obtain ⟨i0, hi, hz0, hz1, hz2⟩ := info_parts Try.info5
  refine wpList_append_own _ hgd s x 24 ho B 5 i0 (.int .u8 0) 1 1 Try.underlying24 hi hz0 hz1 hz2 rfl (by decide) v l.length _ hs (hown.alloc _) ⟨wr.heap.size, 0, none⟩ 1 1 [.int .u8 (cb.toNat : Int)] hx rfl ?_ ?_ ?_ ?_ ?_ ?_
  · intro j u hj
    match j, hj with
    | 0, hj => simp at hj; subst hj; simp [Addr.add]
  · intro u hu; simp at hu; subst hu; rfl
  · unfold maxLen; omega
  · omega
  · simp; omega
  · intro v' w' h1 h2 _
    refine h v' w' ?_ (((Below.refl B wr).alloc hB _).grown h2 (by simp; omega) (fun k e => (hown.lt k e).1))
    rw [Lib.byteCells_append, List.length_append]
    exact h1

theorem make_own (w : World) (B n : Nat) (hn : n ≤ 140737488355328) (hB : B ≤ w.heap.size) : ∃ w', (Instr.makeSlice 24 (.int .i64 0) (.int .i64 (n : Int))).run Try.prog w = .ok (.slice (some ⟨w.heap.size, 0, none⟩) 0 n) w' ∧
    OwnB B (.slice (some ⟨w.heap.size, 0, none⟩) 0 n) [] w' ∧ Below B w w' := by
  obtain ⟨i0, hi, hz0, hz1, hz2⟩ := info_parts Try.info5
  obtain ⟨w', h1, h2, h3⟩ := run_make_own (P := Try.prog) w B 24 5 i0 (.int .u8 0) 1 Try.underlying24 hi hz0 hz1 .i64 .i64 n (by rw [hz2]; omega) (by unfold maxLen; omega) hB
  exact ⟨w', h1, h2, (Below.refl B w).grown h3 hB (fun k e => by cases e)⟩

set_option maxHeartbeats 400000 in
set_option maxRecDepth 100000 in
theorem slash_walk (t : ByteArray) (w : World) (hs : t.size ≤ 4194304) :
    Calls Try.prog 10 #[.string t] w fun e w' => e = .returned (.string ⟨(slashTo t.data.toList).toArray⟩) ∧ Below w.heap.size w w' := by
  obtain ⟨w0, hm, hown0, hb0⟩ := make_own w w.heap.size t.size (by omega) (Nat.le_refl _)
  go_enter Try.func10, Try.ntmps10
  go_wp2
  go_loopw [3, 4] (fun v i wr => ∃ k : Nat, k ≤ t.size ∧ i = .int .i64 k ∧ OwnB w.heap.size v (slashTo (t.data.toList.take k)) wr ∧ Below w.heap.size w wr) (fun _ i _ => t.size - (intOf i).toNat)
  case atStart => exact ⟨0, Nat.zero_le _, rfl, hown0, hb0⟩
  case round =>
    obtain ⟨k, hk, rfl, hown, hb⟩ := hrel
    have hle : (slashTo (t.data.toList.take k)).length ≤ 12582912 := by
      have := slashTo_le (t.data.toList.take k)
      have : (t.data.toList.take k).length ≤ k := List.length_take_le _ _
      omega
    by_cases hlt : k < t.size
    · by_cases hc : t[k] = 47
      · have hx : 47 ≤ (t[k].toNat : Int) := by rw [hc]; decide
        have hy : (t[k].toNat : Int) ≤ 47 := by rw [hc]; decide
        have HC : Hid (t[k] = 47) := hc
        clear hc hm hown0
        go_wp2_with (at_builtin; refine wp_push rfl _ _ rfl w.heap.size (slashTo (t.data.toList.take k)) wr hown rfl 37 37 rfl rfl (by omega) hb.size ?_)
        intro v1 w1 hown1 hb1
        go_wp2_with (at_builtin; refine wp_push rfl _ _ rfl w.heap.size _ w1 hown1 rfl 50 50 rfl rfl (by simp only [List.length_append, List.length_cons, List.length_nil]; omega) (Nat.le_trans hb.size hb1.size) ?_)
        intro v2 w2 hown2 hb2
        go_wp2_with (at_builtin; refine wp_push rfl _ _ rfl w.heap.size _ w2 hown2 rfl 70 70 rfl rfl (by simp only [List.length_append, List.length_cons, List.length_nil]; omega) (Nat.le_trans hb.size (Nat.le_trans hb1.size hb2.size)) ?_)
        intro v3 w3 hown3 hb3
        go_wp2
        go_roundw
        case rel =>
          have e := slash_yes t k hlt HC.out
          exact ⟨k + 1, by omega, by go_num, by rw [e]; simpa using hown3, hb.trans (hb1.trans (hb2.trans hb3))⟩
        case measure => simp [intOf]; omega
      · have hne : ((t[k].toNat : Int) == 47) = false := by
          rw [beq_eq_false_iff_ne]; intro h; apply hc; apply UInt8.toNat_inj.1; show t[k].toNat = 47; omega
        have HC : Hid (¬ t[k] = 47) := hc
        clear hc hm hown0
        go_wp2_with (at_builtin; refine wp_push rfl _ _ rfl w.heap.size (slashTo (t.data.toList.take k)) wr hown rfl (t[k].toNat : Int) t[k] rfl rfl (by omega) hb.size ?_)
        intro v1 w1 hown1 hb1
        go_wp2
        go_roundw
        case rel =>
          have e := slash_no t k hlt HC.out
          exact ⟨k + 1, by omega, by go_num, by rw [e]; exact hown1, hb.trans hb1⟩
        case measure => simp [intOf]; omega
    · have hcv := conv_own hown
      clear hm hown0
      go_wp2
      go_ret
      have e : t.data.toList.take k = t.data.toList := List.take_of_length_le (by simp; omega)
      rw [e]
      exact ⟨rfl, hb⟩
theorem slash_call (t : ByteArray) (w : World) (hs : t.size ≤ 4194304) :
    Calls Try.prog 10 #[.string t] w fun e w' => e = .returned (.string (slashB t)) ∧ Below w.heap.size w w' := slash_walk t w hs
end Go.Proofs.Qxb6629099a
