/-
  NestsDeeper's contract.
-/
import Derived.Test.Qxb6629174aRows
import Derived.Test.Qxb6629174aPlain
import Derived.WalkKit
import Derived.BigCall
namespace Go.Proofs.Qxb6629174a
open Go.RowKit

theorem drop_at (l : List Int) (k : Nat) (h : k < l.length) : l.drop k = l.getD k 0 :: l.drop (k + 1) := by
  rw [List.drop_eq_getElem_cons h]; simp [List.getD, h]

set_option maxHeartbeats 1000000 in
set_option maxRecDepth 100000 in
theorem nests_walk (ao : Option Addr) (b n cap : Nat) (l : List Int) (d : Int) (w : World) (hn : n ≤ 1048578) (hl : l.length = n) (hao : 0 < n → ao = some ⟨b, 0, none⟩)
    (hc : ∀ i, i < n → w.cell? ⟨b, i, none⟩ = some (.int .u8 (l.getD i 0))) :
    Calls Try.prog 8 #[.slice ao n cap, .int .i64 d] w fun e w' => e = .returned (.bool (nst d 0 false false l)) ∧ w' = w := by
  obtain ⟨R, hR⟩ : ∃ R, R = nst d 0 false false l := ⟨_, rfl⟩
  rw [← hR]
  have HR : Hid (R = nst d 0 false false l) := hR
  clear hR
  go_enter Try.func8, Try.ntmps8
  go_wp2
  go_loop [5, 6, 7] (fun so si sk => ∃ (k : Nat) (o : Int) (ins : Bool), k ≤ n + 1 ∧ so = .int .i64 o ∧ si = .bool ins ∧ sk = .int .i64 k ∧ -(k : Int) ≤ o ∧ o ≤ (k : Int) ∧ Hid (nst d o ins false (l.drop k) = R)) (fun _ _ sk => n + 1 - (intOf sk).toNat)
  case atStart => exact ⟨0, 0, false, by omega, rfl, rfl, rfl, by omega, by omega, by rw [HR.out]; rfl⟩
  case round =>
    obtain ⟨k, o, ins, hk, rfl, rfl, rfl, ho1, ho2, HI⟩ := hrel
    by_cases hlt : k < n
    · have ha := hao (by omega)
      subst ha
      have hcell := hc k hlt
      have hd := drop_at l k (by omega)
      obtain ⟨c, hcc⟩ : ∃ c, c = l.getD k 0 := ⟨_, rfl⟩
      rw [← hcc] at hcell hd
      have HN : Hid (nst d o ins false (c :: l.drop (k + 1)) = R) := by have h := HI.out; rw [hd] at h; exact h
      clear hcc hd HI hc
      cases ins with
      | true =>
        by_cases h92 : c = 92
        · subst h92
          go_wp2
          go_round
          case rel => exact ⟨k + 2, o, true, by omega, rfl, rfl, by go_num, by omega, by omega, by have h := HN.out; rw [nst_back, List.drop_drop] at h; exact h⟩
          case measure => simp [intOf]; omega
        · by_cases h34 : c = 34
          · subst h34
            go_wp2
            go_round
            case rel => exact ⟨k + 1, o, false, by omega, rfl, rfl, by go_num, by omega, by omega, by have h := HN.out; rw [nst_quote] at h; exact h⟩
            case measure => simp [intOf]; omega
          · have q1 : (c == 92) = false := by simpa using h92
            have q2 : (c == 34) = false := by simpa using h34
            have N1 : Hid _ := h92
            have N2 : Hid _ := h34
            clear h92 h34
            go_wp2
            go_round
            case rel => exact ⟨k + 1, o, true, by omega, rfl, rfl, by go_num, by omega, by omega, by have h := HN.out; rw [nst_in d o c _ N1.out N2.out] at h; exact h⟩
            case measure => simp [intOf]; omega
      | false =>
        by_cases h34 : c = 34
        · subst h34
          go_wp2
          go_round
          case rel => exact ⟨k + 1, o, true, by omega, rfl, rfl, by go_num, by omega, by omega, by have h := HN.out; rw [nst_quote] at h; exact h⟩
          case measure => simp [intOf]; omega
        · by_cases hop : c = 123 ∨ c = 91
          · by_cases hgt : d < o + 1
            · have hR : R = true := by have h := HN.out; rw [nst_open d o c _ hop, if_pos hgt] at h; exact h.symm
              clear HN HR
              subst hR
              rcases hop with rfl | rfl
              all_goals
                go_wp2
                go_ret
                exact ⟨rfl, rfl⟩
            · have HM : Hid (nst d (o + 1) false false (l.drop (k + 1)) = R) := by have h := HN.out; rw [nst_open d o c _ hop, if_neg hgt] at h; exact h
              have hle : o + 1 ≤ d := by omega
              clear HN
              rcases hop with rfl | rfl
              all_goals
                go_wp2
                go_round
                case rel => exact ⟨k + 1, o + 1, false, by omega, by go_num, rfl, by go_num, by omega, by omega, HM⟩
                case measure => simp [intOf]; omega
          · by_cases hcl : c = 125 ∨ c = 93
            · have HM : Hid (nst d (o - 1) false false (l.drop (k + 1)) = R) := by have h := HN.out; rw [nst_close d o c _ hcl] at h; exact h
              clear HN
              rcases hcl with rfl | rfl
              all_goals
                go_wp2
                go_round
                case rel => exact ⟨k + 1, o - 1, false, by omega, by go_num, rfl, by go_num, by omega, by omega, HM⟩
                case measure => simp [intOf]; omega
            · have HM : Hid (nst d o false false (l.drop (k + 1)) = R) := by have h := HN.out; rw [nst_other d o c _ h34 (by omega) (by omega) (by omega) (by omega)] at h; exact h
              have q0 : (c == 34) = false := by simpa using h34
              have q1 : (c == 123) = false := by rw [beq_eq_false_iff_ne]; omega
              have q2 : (c == 91) = false := by rw [beq_eq_false_iff_ne]; omega
              have q3 : (c == 125) = false := by rw [beq_eq_false_iff_ne]; omega
              have q4 : (c == 93) = false := by rw [beq_eq_false_iff_ne]; omega
              clear HN h34 hop hcl
              go_wp2
              go_round
              case rel => exact ⟨k + 1, o, false, by omega, rfl, rfl, by go_num, by omega, by omega, HM⟩
              case measure => simp [intOf]; omega
    · have hR : R = false := by have h := HI.out; rw [List.drop_eq_nil_of_le (by omega), nst] at h; exact h.symm
      clear HI HR
      subst hR
      go_wp2
      go_ret
      exact ⟨rfl, rfl⟩
end Go.Proofs.Qxb6629174a
