/-
  zzParseDecimal's contract.
-/
import Derived.Test.Qxb6629140aFmtAutSpace
import Derived.Laws.Bits64
namespace Go.Proofs.Qxb6629140aFmt
open Go.RowKit Go.Lib

theorem dec_end (M u : Nat) (s : ByteArray) (k : Nat) (h : s.size ≤ k) : dec M u (rest s k) = some u := by rw [rest_end s k h]; rfl
theorem dec_bad (M u : Nat) (s : ByteArray) (k : Nat) (h : k < s.size) (hx : s[k].toNat < 48 ∨ 57 < s[k].toNat) : dec M u (rest s k) = none := by rw [rest_at s k h, dec, if_pos hx]
theorem dec_over (M u : Nat) (s : ByteArray) (k : Nat) (h : k < s.size) (hx : 48 ≤ s[k].toNat ∧ s[k].toNat ≤ 57) (hu : (M - (s[k].toNat - 48)) / 10 < u) : dec M u (rest s k) = none := by
  rw [rest_at s k h, dec, if_neg (by omega), if_pos hu]
theorem dec_next (M u : Nat) (s : ByteArray) (k : Nat) (h : k < s.size) (hx : 48 ≤ s[k].toNat ∧ s[k].toNat ≤ 57) (hu : ¬ (M - (s[k].toNat - 48)) / 10 < u) : dec M u (rest s k) = dec M (u * 10 + (s[k].toNat - 48)) (rest s (k + 1)) := by
  rw [rest_at s k h, dec, if_neg (by omega), if_neg hu]
/-- What zzParseDecimal answers for an outcome. -/
def decE : Option Int → Ending
  | some v => .returned (.tuple #[.int .i64 v, .bool true])
  | none => .returned (.tuple #[.int .i64 0, .bool false])
set_option maxHeartbeats 1000000 in
set_option maxRecDepth 100000 in
theorem dec_bare (s : ByteArray) (w : World) (hs : s.size ≤ 1048576) (h0 : 0 < s.size) (h43 : s[0].toNat ≠ 43) (h45 : s[0].toNat ≠ 45) :
    Calls Tryf.prog 9 #[.string s] w fun e w' => e = decE ((dec 9223372036854775807 0 (rest s 0)).map (fun u : Nat => (u : Int))) ∧ w' = w := by
  obtain ⟨R, hR⟩ : ∃ R, R = dec 9223372036854775807 0 (rest s 0) := ⟨_, rfl⟩
  rw [← hR]
  have HR := hid hR
  clear hR
  have q43 : ((s[0].toNat : Int) == 43) = false := nb (by omega)
  have q45 : ((s[0].toNat : Int) == 45) = false := nb (by omega)
  have hne : ¬ s = ByteArray.empty := by intro e; rw [e] at h0; simp at h0
  have hne2 : decide (s = ByteArray.empty) = false := decide_eq_false hne
  clear h43 h45
  go_enter Tryf.func9, Tryf.ntmps9
  go_wp2
  go_loop [5, 7] (fun si su => ∃ k u : Nat, si = .int .i64 (k : Int) ∧ su = .int .u64 (u : Int) ∧ k ≤ s.size ∧ u ≤ 9223372036854775807 ∧ Hid (R = dec 9223372036854775807 u (rest s k))) (fun si _ => s.size - (intOf si).toNat)
  case atStart => exact ⟨0, 0, rfl, rfl, by omega, by omega, HR⟩
  case round =>
    obtain ⟨k, u, rfl, rfl, hk, hu, HU⟩ := hrel
    by_cases hlt : k < s.size
    · by_cases hd : 48 ≤ s[k].toNat ∧ s[k].toNat ≤ 57
      · by_cases ho : (9223372036854775807 - (s[k].toNat - 48)) / 10 < u
        · have hR : R = none := HU.out.trans (dec_over _ u s k hlt hd ho)
          subst hR
          clear HU HR
          obtain ⟨hd1, hd2⟩ := hd
          have hoi : (9223372036854775807 - ((s[k].toNat : Int) - 48)) / 10 < (u : Int) := by omega
          go_wp2
          go_ret2
          exact ⟨rfl, rfl⟩
        · have HN : Hid (R = dec 9223372036854775807 (u * 10 + (s[k].toNat - 48)) (rest s (k + 1))) := HU.out.trans (dec_next _ u s k hlt hd ho)
          clear HU HR
          obtain ⟨hd1, hd2⟩ := hd
          have hoi : ¬ (9223372036854775807 - ((s[k].toNat : Int) - 48)) / 10 < (u : Int) := by omega
          have hub : u * 10 + (s[k].toNat - 48) ≤ 9223372036854775807 := by omega
          go_wp2
          go_round
          case rel => exact ⟨k + 1, _, by go_num, by go_num, by omega, hub, HN⟩
          case measure => simp [intOf]; omega
      · have hR : R = none := HU.out.trans (dec_bad _ u s k hlt (by omega))
        subst hR
        clear HU HR
        have hd' : s[k].toNat < 48 ∨ 57 < s[k].toNat := by omega
        clear hd
        rcases hd' with hd | hd
        all_goals
          go_wp2
          go_ret2
          exact ⟨rfl, rfl⟩
    · have hR : R = some u := HU.out.trans (dec_end _ u s k (by omega))
      subst hR
      clear HU HR
      have hwr : IntKind.i64.wrap (u : Int) = (u : Int) := by rw [IntKind.wrap_i64]; omega
      go_wp2
      go_ret2
      exact ⟨rfl, rfl⟩
set_option maxHeartbeats 1000000 in
set_option maxRecDepth 100000 in
theorem dec_plus (s : ByteArray) (w : World) (hs : s.size ≤ 1048576) (h0 : 1 < s.size) (h43 : s[0].toNat = 43) :
    Calls Tryf.prog 9 #[.string s] w fun e w' => e = decE ((dec 9223372036854775807 0 (rest s 1)).map (fun u : Nat => (u : Int))) ∧ w' = w := by
  obtain ⟨R, hR⟩ : ∃ R, R = dec 9223372036854775807 0 (rest s 1) := ⟨_, rfl⟩
  rw [← hR]
  have HR := hid hR
  clear hR
  go_enter Tryf.func9, Tryf.ntmps9
  go_wp2
  go_loop [5, 7] (fun si su => ∃ k u : Nat, si = .int .i64 (k : Int) ∧ su = .int .u64 (u : Int) ∧ k ≤ s.size ∧ u ≤ 9223372036854775807 ∧ Hid (R = dec 9223372036854775807 u (rest s k))) (fun si _ => s.size - (intOf si).toNat)
  case atStart => exact ⟨1, 0, rfl, rfl, by omega, by omega, HR⟩
  case round =>
    obtain ⟨k, u, rfl, rfl, hk, hu, HU⟩ := hrel
    by_cases hlt : k < s.size
    · by_cases hd : 48 ≤ s[k].toNat ∧ s[k].toNat ≤ 57
      · by_cases ho : (9223372036854775807 - (s[k].toNat - 48)) / 10 < u
        · have hR : R = none := HU.out.trans (dec_over _ u s k hlt hd ho)
          subst hR
          clear HU HR
          obtain ⟨hd1, hd2⟩ := hd
          have hoi : (9223372036854775807 - ((s[k].toNat : Int) - 48)) / 10 < (u : Int) := by omega
          go_wp2
          go_ret2
          exact ⟨rfl, rfl⟩
        · have HN : Hid (R = dec 9223372036854775807 (u * 10 + (s[k].toNat - 48)) (rest s (k + 1))) := HU.out.trans (dec_next _ u s k hlt hd ho)
          clear HU HR
          obtain ⟨hd1, hd2⟩ := hd
          have hoi : ¬ (9223372036854775807 - ((s[k].toNat : Int) - 48)) / 10 < (u : Int) := by omega
          have hub : u * 10 + (s[k].toNat - 48) ≤ 9223372036854775807 := by omega
          go_wp2
          go_round
          case rel => exact ⟨k + 1, _, by go_num, by go_num, by omega, hub, HN⟩
          case measure => simp [intOf]; omega
      · have hR : R = none := HU.out.trans (dec_bad _ u s k hlt (by omega))
        subst hR
        clear HU HR
        have hd' : s[k].toNat < 48 ∨ 57 < s[k].toNat := by omega
        clear hd
        rcases hd' with hd | hd
        all_goals
          go_wp2
          go_ret2
          exact ⟨rfl, rfl⟩
    · have hR : R = some u := HU.out.trans (dec_end _ u s k (by omega))
      subst hR
      clear HU HR
      have hwr : IntKind.i64.wrap (u : Int) = (u : Int) := by rw [IntKind.wrap_i64]; omega
      go_wp2
      go_ret2
      exact ⟨rfl, rfl⟩
set_option maxHeartbeats 1000000 in
set_option maxRecDepth 100000 in
theorem dec_minus (s : ByteArray) (w : World) (hs : s.size ≤ 1048576) (h0 : 1 < s.size) (h45 : s[0].toNat = 45) :
    Calls Tryf.prog 9 #[.string s] w fun e w' => e = decE ((dec 9223372036854775808 0 (rest s 1)).map (fun u : Nat => -(u : Int))) ∧ w' = w := by
  obtain ⟨R, hR⟩ : ∃ R, R = dec 9223372036854775808 0 (rest s 1) := ⟨_, rfl⟩
  rw [← hR]
  have HR := hid hR
  clear hR
  go_enter Tryf.func9, Tryf.ntmps9
  go_wp2
  go_loop [5, 7] (fun si su => ∃ k u : Nat, si = .int .i64 (k : Int) ∧ su = .int .u64 (u : Int) ∧ k ≤ s.size ∧ u ≤ 9223372036854775808 ∧ Hid (R = dec 9223372036854775808 u (rest s k))) (fun si _ => s.size - (intOf si).toNat)
  case atStart => exact ⟨1, 0, rfl, rfl, by omega, by omega, HR⟩
  case round =>
    obtain ⟨k, u, rfl, rfl, hk, hu, HU⟩ := hrel
    by_cases hlt : k < s.size
    · by_cases hd : 48 ≤ s[k].toNat ∧ s[k].toNat ≤ 57
      · by_cases ho : (9223372036854775808 - (s[k].toNat - 48)) / 10 < u
        · have hR : R = none := HU.out.trans (dec_over _ u s k hlt hd ho)
          subst hR
          clear HU HR
          obtain ⟨hd1, hd2⟩ := hd
          have hoi : (9223372036854775808 - ((s[k].toNat : Int) - 48)) / 10 < (u : Int) := by omega
          go_wp2
          go_ret2
          exact ⟨rfl, rfl⟩
        · have HN : Hid (R = dec 9223372036854775808 (u * 10 + (s[k].toNat - 48)) (rest s (k + 1))) := HU.out.trans (dec_next _ u s k hlt hd ho)
          clear HU HR
          obtain ⟨hd1, hd2⟩ := hd
          have hoi : ¬ (9223372036854775808 - ((s[k].toNat : Int) - 48)) / 10 < (u : Int) := by omega
          have hub : u * 10 + (s[k].toNat - 48) ≤ 9223372036854775808 := by omega
          go_wp2
          go_round
          case rel => exact ⟨k + 1, _, by go_num, by go_num, by omega, hub, HN⟩
          case measure => simp [intOf]; omega
      · have hR : R = none := HU.out.trans (dec_bad _ u s k hlt (by omega))
        subst hR
        clear HU HR
        have hd' : s[k].toNat < 48 ∨ 57 < s[k].toNat := by omega
        clear hd
        rcases hd' with hd | hd
        all_goals
          go_wp2
          go_ret2
          exact ⟨rfl, rfl⟩
    · have hR : R = some u := HU.out.trans (dec_end _ u s k (by omega))
      subst hR
      clear HU HR
      have hu2 : u ≤ 9223372036854775808 := by omega
      have hwr : IntKind.i64.wrap (IntKind.u64.wrap (-(u : Int))) = -(u : Int) := by rw [IntKind.wrap_i64, IntKind.wrap_u64]; omega
      go_wp2
      go_ret2
      exact ⟨rfl, rfl⟩
set_option maxHeartbeats 400000 in
theorem dec_none0 (w : World) : Calls Tryf.prog 9 #[.string ⟨#[]⟩] w fun e w' => e = decE none ∧ w' = w := by
  go_enter Tryf.func9, Tryf.ntmps9
  go_wp2
  go_ret2
  exact ⟨rfl, rfl⟩
set_option maxHeartbeats 400000 in
theorem dec_none1 (s : ByteArray) (w : World) (h1 : s.size = 1) (h : s[0].toNat = 43 ∨ s[0].toNat = 45) : Calls Tryf.prog 9 #[.string s] w fun e w' => e = decE none ∧ w' = w := by
  rcases h with h | h
  all_goals
    go_enter Tryf.func9, Tryf.ntmps9
    go_wp2
    go_ret2
    exact ⟨rfl, rfl⟩
/-- zzParseDecimal: the field's value, where it spells an int. -/
theorem dec_walk (s : ByteArray) (w : World) (hs : s.size ≤ 1048576) : Calls Tryf.prog 9 #[.string s] w fun e w' => e = decE (val s.data.toList) ∧ w' = w := by
  by_cases h0 : 0 < s.size
  · have e0 : s.data.toList = rest s 0 := rfl
    by_cases hp : s[0].toNat = 43
    · by_cases h1 : 1 < s.size
      · have hv : val s.data.toList = (dec 9223372036854775807 0 (rest s 1)).map (fun u : Nat => (u : Int)) := by
          rw [e0, rest_at s 0 h0, val_plus _ _ hp (by intro e; have := congrArg List.length e; rw [rest_len] at this; simp at this; omega)]
          cases dec 9223372036854775807 0 (rest s (0 + 1)) <;> rfl
        rw [hv]; exact dec_plus s w hs h1 hp
      · have hv : val s.data.toList = none := by rw [e0, rest_at s 0 h0, rest_end s (0 + 1) (by omega), val_sign _ (Or.inl hp)]
        rw [hv]; exact dec_none1 s w (by omega) (Or.inl hp)
    · by_cases hm : s[0].toNat = 45
      · by_cases h1 : 1 < s.size
        · have hv : val s.data.toList = (dec 9223372036854775808 0 (rest s 1)).map (fun u : Nat => -(u : Int)) := by
            rw [e0, rest_at s 0 h0, val_minus _ _ hm (by intro e; have := congrArg List.length e; rw [rest_len] at this; simp at this; omega)]
            cases dec 9223372036854775808 0 (rest s (0 + 1)) <;> rfl
          rw [hv]; exact dec_minus s w hs h1 hm
        · have hv : val s.data.toList = none := by rw [e0, rest_at s 0 h0, rest_end s (0 + 1) (by omega), val_sign _ (Or.inr hm)]
          rw [hv]; exact dec_none1 s w (by omega) (Or.inr hm)
      · have hv : val s.data.toList = (dec 9223372036854775807 0 (rest s 0)).map (fun u : Nat => (u : Int)) := by
          rw [e0, rest_at s 0 h0, val_bare _ _ (by omega), ← rest_at s 0 h0]
          cases dec 9223372036854775807 0 (rest s 0) <;> rfl
        rw [hv]; exact dec_bare s w hs h0 hp hm
  · have e : s = ⟨#[]⟩ := ByteArray.size_eq_zero_iff.1 (by omega)
    subst e
    exact dec_none0 w
end Go.Proofs.Qxb6629140aFmt
