/-
  zzSkipSpace's and zzFieldEnd's contracts.
-/
import Derived.Test.Qxb6629140aFmtAutSpace
namespace Go.Proofs.Qxb6629140aFmt
open Go.RowKit Go.Lib
theorem space_use (s : ByteArray) (k n : Nat) (w : World) (hs : s.size ≤ 1048576) (hk : k < s.size) (hn : headSpace (rest s k) = n) :
    Calls Tryf.prog 15 #[.string s, .int .i64 (k : Int)] w fun e w' => e = .returned (.int .i64 (n : Int)) ∧ w' = w := by
  rw [← hn]; exact space_walk s k w hs hk
set_option maxHeartbeats 1000000 in
set_option maxRecDepth 100000 in
theorem skip_walk (s : ByteArray) (i : Nat) (w : World) (hs : s.size ≤ 1048576) (hi : i ≤ s.size) :
    Calls Tryf.prog 7 #[.string s, .int .i64 (i : Int)] w fun e w' => (∃ j : Nat, e = .returned (.int .i64 (j : Int)) ∧ i ≤ j ∧ j ≤ s.size ∧ Hid (fU [] (rest s i) = fU [] (rest s j)) ∧ Hid (j < s.size → headSpace (rest s j) = 0)) ∧ w' = w := by
  go_enter Tryf.func7, Tryf.ntmps7
  go_wp2
  go_loop [1] (fun si => ∃ k : Nat, si = .int .i64 (k : Int) ∧ i ≤ k ∧ k ≤ s.size ∧ Hid (fU [] (rest s i) = fU [] (rest s k))) (fun si => s.size - (intOf si).toNat)
  case atStart => exact ⟨i, rfl, Nat.le_refl _, hi, hid rfl⟩
  case round =>
    obtain ⟨k, rfl, hik, hks, HU⟩ := hrel
    by_cases hlt : k < s.size
    · obtain ⟨n, hn⟩ : ∃ n, headSpace (rest s k) = n := ⟨_, rfl⟩
      have hle := rest_hs_le s k
      rw [hn] at hle
      have HN := hid hn
      have CS := hid (space_use s k n w hs hlt hn)
      clear hn
      by_cases h0 : n = 0
      · subst h0
        go_wp2_with fail
        refine CS.out.mono ?_
        rintro e w' ⟨rfl, rfl⟩
        go_wp2
        go_ret
        exact ⟨⟨k, rfl, hik, hks, HU, hid fun _ => HN.out⟩, rfl⟩
      · have q0 : ((n : Int) == 0) = false := nb (by omega)
        have HS : Hid (fU [] (rest s i) = fU [] (rest s (k + n))) := by
          have := fU_skip s k hlt (by rw [HN.out]; exact h0)
          rw [HN.out] at this
          exact HU.out.trans this
        have hpos : 0 < n := by omega
        clear h0
        go_wp2_with fail
        refine CS.out.mono ?_
        rintro e w' ⟨rfl, rfl⟩
        go_wp2
        go_round
        case rel => exact ⟨k + n, by go_num, by omega, by omega, HS⟩
        case measure => simp [intOf]; omega
    · go_wp2
      go_ret
      exact ⟨⟨k, rfl, hik, hks, HU, hid fun h => absurd h hlt⟩, rfl⟩
/-- The field's bytes. -/
def fld (s : ByteArray) (i j : Nat) : List UInt8 := (s.extract i j).data.toList
set_option maxHeartbeats 1000000 in
set_option maxRecDepth 100000 in
theorem end_walk (s : ByteArray) (i : Nat) (w : World) (hs : s.size ≤ 1048576) (hi : i < s.size) (h0 : headSpace (rest s i) = 0) :
    Calls Tryf.prog 8 #[.string s, .int .i64 (i : Int)] w fun e w' => (∃ j : Nat, e = .returned (.int .i64 (j : Int)) ∧ i < j ∧ j ≤ s.size ∧ Hid (fU [] (rest s i) = fld s i j :: fU [] (rest s j))) ∧ w' = w := by
  have H0 := hid h0
  have E0 : Hid (fU [] (rest s i) = fU (s.extract i i).data.toList (rest s i)) := by show fU [] (rest s i) = _; rw [ext_none]
  clear h0
  go_enter Tryf.func8, Tryf.ntmps8
  go_wp2
  go_loop [1] (fun si => ∃ k : Nat, si = .int .i64 (k : Int) ∧ i ≤ k ∧ k ≤ s.size ∧ Hid (fU [] (rest s i) = fU (s.extract i k).data.toList (rest s k))) (fun si => s.size - (intOf si).toNat)
  case atStart => exact ⟨i, rfl, Nat.le_refl _, by omega, E0⟩
  case round =>
    obtain ⟨k, rfl, hik, hks, HU⟩ := hrel
    by_cases hlt : k < s.size
    · obtain ⟨n, hn⟩ : ∃ n, headSpace (rest s k) = n := ⟨_, rfl⟩
      have HN := hid hn
      have CS := hid (space_use s k n w hs hlt hn)
      clear hn
      by_cases h0 : n = 0
      · subst h0
        have HS : Hid (fU [] (rest s i) = fU (s.extract i (k + 1)).data.toList (rest s (k + 1))) := by
          show fU [] (rest s i) = _
          rw [ext_snoc s i k hik hlt, ← fU_step s k _ hlt HN.out]
          exact HU.out
        go_wp2_with fail
        refine CS.out.mono ?_
        rintro e w' ⟨rfl, rfl⟩
        go_wp2
        go_round
        case rel => exact ⟨k + 1, by go_num, by omega, by omega, HS⟩
        case measure => simp [intOf]; omega
      · have q0 : ((n : Int) == 0) = false := nb (by omega)
        have hik2 : i < k := by
          rcases Nat.lt_or_eq_of_le hik with h | h
          · exact h
          · subst h; exact absurd (HN.out.symm.trans H0.out) h0
        have HS : Hid (fU [] (rest s i) = fld s i k :: fU [] (rest s k)) := by
          show fU [] (rest s i) = (s.extract i k).data.toList :: fU [] (rest s k)
          rw [← fU_stop s k _ (ext_ne s i k hik2 hks) (Or.inr (by rw [HN.out]; exact h0))]
          exact HU.out
        clear h0
        go_wp2_with fail
        refine CS.out.mono ?_
        rintro e w' ⟨rfl, rfl⟩
        go_wp2
        go_ret
        exact ⟨⟨k, rfl, hik2, hks, HS⟩, rfl⟩
    · have hke : k = s.size := by omega
      have HS : Hid (fU [] (rest s i) = fld s i k :: fU [] (rest s k)) := by
        show fU [] (rest s i) = (s.extract i k).data.toList :: fU [] (rest s k)
        rw [← fU_stop s k _ (ext_ne s i k (by omega) hks) (Or.inl (by omega))]
        exact HU.out
      clear hke
      go_wp2
      go_ret
      exact ⟨⟨k, rfl, by omega, hks, HS⟩, rfl⟩
end Go.Proofs.Qxb6629140aFmt
