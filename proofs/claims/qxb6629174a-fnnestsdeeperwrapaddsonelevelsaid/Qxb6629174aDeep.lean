/-
  zzDeepestOpenLevel's contract.
-/
import Derived.Test.Qxb6629174aMask
namespace Go.Proofs.Qxb6629174a
open Go.RowKit
theorem drop_atB (l : List Bool) (k : Nat) (h : k < l.length) : l.drop k = l.getD k false :: l.drop (k + 1) := by
  rw [List.drop_eq_getElem_cons h]; simp [List.getD, h]
theorem deep_no (lv : Int) (op : Bool) (dp c : Int) (t : List Int) (m : List Bool) : deep lv op dp (c :: t) (false :: m) = deep lv op dp t m := rfl
theorem deep_open (lv : Int) (op : Bool) (dp c : Int) (t : List Int) (m : List Bool) (h : c = 123 ∨ c = 91) : deep lv op dp (c :: t) (true :: m) = deep (lv + 1) true (if op = false ∨ dp < lv + 1 then lv + 1 else dp) t m := by
  rw [deep, if_pos h]
theorem deep_close (lv : Int) (op : Bool) (dp c : Int) (t : List Int) (m : List Bool) (h : c = 125 ∨ c = 93) : deep lv op dp (c :: t) (true :: m) = deep (lv - 1) op dp t m := by
  rw [deep, if_neg (by omega), if_pos h]
theorem deep_other (lv : Int) (op : Bool) (dp c : Int) (t : List Int) (m : List Bool) (h : ¬ (c = 123 ∨ c = 91)) (h2 : ¬ (c = 125 ∨ c = 93)) : deep lv op dp (c :: t) (true :: m) = deep lv op dp t m := by
  rw [deep, if_neg h, if_neg h2]
theorem ret_pair {a : Bool} {x : Int} (R : Bool × Int) (h : (a, x) = R) : Ending.returned (.tuple #[.bool a, .int .i64 x]) = .returned (.tuple #[.bool R.1, .int .i64 R.2]) := by rw [← h]

set_option maxHeartbeats 1000000 in
set_option maxRecDepth 100000 in
theorem deep_walk (ao : Option Addr) (b g n cap : Nat) (l : List Int) (m : List Bool) (w : World) (hn : n ≤ 1048578) (hl : l.length = n) (hm : m.length = n) (hao : 0 < n → ao = some ⟨b, 0, none⟩)
    (hc : ∀ i, i < n → w.cell? ⟨b, i, none⟩ = some (.int .u8 (l.getD i 0))) (hg : ∀ i, i < n → w.cell? ⟨g, i, none⟩ = some (.bool (m.getD i false))) :
    Calls Try.prog 7 #[.slice ao n cap, .slice (some ⟨g, 0, none⟩) n n] w fun e w' => e = .returned (.tuple #[.bool (deep 0 false 0 l m).1, .int .i64 (deep 0 false 0 l m).2]) ∧ w' = w := by
  obtain ⟨R, hR⟩ : ∃ R, R = deep 0 false 0 l m := ⟨_, rfl⟩
  rw [← hR]
  have HR : Hid (R = deep 0 false 0 l m) := hR
  clear hR
  go_enter Try.func7, Try.ntmps7
  go_wp2
  go_loop [6, 7, 8, 9] (fun sl so sd sk => ∃ (k : Nat) (lv dp : Int) (op : Bool), k ≤ n ∧ sl = .int .i64 lv ∧ so = .bool op ∧ sd = .int .i64 dp ∧ sk = .int .i64 k ∧ -(k : Int) ≤ lv ∧ lv ≤ (k : Int) ∧ -(k : Int) ≤ dp ∧ dp ≤ (k : Int) ∧ Hid (deep lv op dp (l.drop k) (m.drop k) = R)) (fun _ _ _ sk => n - (intOf sk).toNat)
  case atStart => exact ⟨0, 0, 0, false, by omega, rfl, rfl, rfl, rfl, by omega, by omega, by omega, by omega, by rw [HR.out]; rfl⟩
  case round =>
    obtain ⟨k, lv, dp, op, hk, rfl, rfl, rfl, rfl, hv1, hv2, hp1, hp2, HI⟩ := hrel
    by_cases hlt : k < n
    · have ha := hao (by omega)
      subst ha
      have hcell := hc k hlt
      have hcm := hg k hlt
      have hd := drop_at l k (by omega)
      have hdm := drop_atB m k (by omega)
      obtain ⟨c, hcc⟩ : ∃ c, c = l.getD k 0 := ⟨_, rfl⟩
      obtain ⟨q, hq⟩ : ∃ q, q = m.getD k false := ⟨_, rfl⟩
      rw [← hcc] at hcell hd
      rw [← hq] at hcm hdm
      have HN : Hid (deep lv op dp (c :: l.drop (k + 1)) (q :: m.drop (k + 1)) = R) := by have h := HI.out; rw [hd, hdm] at h; exact h
      clear hcc hq hd hdm HI hc hg
      cases q with
      | false =>
        go_wp2
        go_round
        case rel => exact ⟨k + 1, lv, dp, op, by omega, rfl, rfl, rfl, by go_num, by omega, by omega, by omega, by omega, HN⟩
        case measure => simp [intOf]; omega
      | true =>
        by_cases hop : c = 123 ∨ c = 91
        · have HM : Hid (deep (lv + 1) true (if op = false ∨ dp < lv + 1 then lv + 1 else dp) (l.drop (k + 1)) (m.drop (k + 1)) = R) := by have h := HN.out; rw [deep_open _ _ _ _ _ _ hop] at h; exact h
          clear HN
          cases op with
          | false =>
            have HK : Hid (deep (lv + 1) true (lv + 1) (l.drop (k + 1)) (m.drop (k + 1)) = R) := by have h := HM.out; rw [if_pos (Or.inl rfl)] at h; exact h
            clear HM
            rcases hop with rfl | rfl
            all_goals
              go_wp2
              go_round
              case rel => exact ⟨k + 1, lv + 1, lv + 1, true, by omega, by go_num, rfl, by go_num, by go_num, by omega, by omega, by omega, by omega, HK⟩
              case measure => simp [intOf]; omega
          | true =>
            by_cases hgt : dp < lv + 1
            · have HK : Hid (deep (lv + 1) true (lv + 1) (l.drop (k + 1)) (m.drop (k + 1)) = R) := by have h := HM.out; rw [if_pos (Or.inr hgt)] at h; exact h
              clear HM
              rcases hop with rfl | rfl
              all_goals
                go_wp2
                go_round
                case rel => exact ⟨k + 1, lv + 1, lv + 1, true, by omega, by go_num, rfl, by go_num, by go_num, by omega, by omega, by omega, by omega, HK⟩
                case measure => simp [intOf]; omega
            · have HK : Hid (deep (lv + 1) true dp (l.drop (k + 1)) (m.drop (k + 1)) = R) := by have h := HM.out; rw [if_neg (by simp; omega)] at h; exact h
              clear HM
              rcases hop with rfl | rfl
              all_goals
                go_wp2
                go_round
                case rel => exact ⟨k + 1, lv + 1, dp, true, by omega, by go_num, rfl, by go_num, by go_num, by omega, by omega, by omega, by omega, HK⟩
                case measure => simp [intOf]; omega
        · by_cases hcl : c = 125 ∨ c = 93
          · have HM : Hid (deep (lv - 1) op dp (l.drop (k + 1)) (m.drop (k + 1)) = R) := by have h := HN.out; rw [deep_close _ _ _ _ _ _ hcl] at h; exact h
            clear HN
            rcases hcl with rfl | rfl
            all_goals
              go_wp2
              go_round
              case rel => exact ⟨k + 1, lv - 1, dp, op, by omega, by go_num, rfl, rfl, by go_num, by omega, by omega, by omega, by omega, HM⟩
              case measure => simp [intOf]; omega
          · have HM : Hid (deep lv op dp (l.drop (k + 1)) (m.drop (k + 1)) = R) := by have h := HN.out; rw [deep_other _ _ _ _ _ _ hop hcl] at h; exact h
            have q1 : (c == 123) = false := by rw [beq_eq_false_iff_ne]; omega
            have q2 : (c == 91) = false := by rw [beq_eq_false_iff_ne]; omega
            have q3 : (c == 125) = false := by rw [beq_eq_false_iff_ne]; omega
            have q4 : (c == 93) = false := by rw [beq_eq_false_iff_ne]; omega
            clear HN hop hcl
            go_wp2
            go_round
            case rel => exact ⟨k + 1, lv, dp, op, by omega, rfl, rfl, rfl, by go_num, by omega, by omega, by omega, by omega, HM⟩
            case measure => simp [intOf]; omega
    · go_wp2
      go_ret2
      refine ⟨ret_pair R ?_, rfl⟩
      have h := HI.out
      rw [List.drop_eq_nil_of_le (by omega)] at h
      exact h
end Go.Proofs.Qxb6629174a
