/-
  The walk of FnParsePidsAgreesWithFieldAutomaton.
-/
import Derived.Test.Qxb6629140aFmtInsWalk
import Derived.Test.Qxb6629140aFmtAutScan
import Derived.Test.Qxb6629140aFmtAutDec
namespace Go.Proofs.Qxb6629140aFmt
open Go.RowKit Go.Extern.Stop Go.Stop Go.Extern Go.Lib

theorem bytes5_yes (nm t : ByteArray) (w : World) (hs : (nm.size : Int) + (t.size : Int) ≤ 1048576) :
    Calls Tryf.prog 5 #[.string nm, .string t] w fun e w' => e = .returned (.bool true) ∧ w = w' := by
  go_enter Tryf.func5, Tryf.ntmps5
  go_wp2
  go_ret
  exact ⟨rfl, rfl⟩
set_option maxHeartbeats 400000 in
theorem bytes5_no (nm t : ByteArray) (w : World) (hs : (1048576 : Int) < (nm.size : Int) + (t.size : Int)) :
    Calls Tryf.prog 5 #[.string nm, .string t] w fun e w' => e = .returned (.bool false) ∧ w = w' := by
  by_cases h1 : (nm.size : Int) ≤ 1048576
  · by_cases h2 : (t.size : Int) ≤ 1048576
    all_goals
      go_enter Tryf.func5, Tryf.ntmps5
      go_wp2
      go_ret
      exact ⟨rfl, rfl⟩
  · go_enter Tryf.func5, Tryf.ntmps5
    go_wp2
    go_ret
    exact ⟨rfl, rfl⟩
set_option maxHeartbeats 400000 in
theorem aut_long (nm t : ByteArray) (w : World) (hs : (1048576 : Int) < (nm.size : Int) + (t.size : Int)) :
    Calls Tryf.prog 3 #[.string nm, .string t] w fun e w' => e = .returned (.bool true) ∧ Below w.heap.size w w' := by
  go_enter Tryf.func3, Tryf.ntmps3
  go_wp2_with (go_at_call 5; refine (bytes5_no _ _ _ hs).mono ?_; rintro e w' ⟨rfl, rfl⟩)
  go_ret
  exact ⟨rfl, Below.refl _ _⟩

theorem fields_rest (t : ByteArray) : fieldsD t.data.toList = fU [] (rest t 0) := by rw [← fieldsU_eq]; rfl
/-- One field further, all of them ints. -/
theorem pids_one {L T : List (List UInt8)} {f : List UInt8} {vs : List Int} {k : Nat} (hL : L = f :: T) (h : pids L = some (vs.drop k)) : ∃ x, val f = some x ∧ pids T = some (vs.drop (k + 1)) ∧ k < vs.length ∧ vs.getD k 0 = x := by
  rw [hL] at h
  simp only [pids] at h
  cases hv : val f with
  | none => rw [hv] at h; cases h
  | some x =>
    rw [hv] at h
    cases ht : pids T with
    | none => rw [ht] at h; cases h
    | some u =>
      rw [ht] at h
      simp only [Option.bind_some, Option.map_some, Option.some.injEq] at h
      have hk : k < vs.length := by
        have := congrArg List.length h
        simp at this; omega
      rw [List.drop_eq_getElem_cons hk] at h
      simp only [List.cons.injEq] at h
      exact ⟨x, rfl, by rw [h.2], hk, by simp [List.getD, hk, h.1]⟩
/-- One field further, where some field is no int. -/
theorem pids_no {L T : List (List UInt8)} {f : List UInt8} {x : Int} (hL : L = f :: T) (h : pids L = none) (hv : val f = some x) : pids T = none := by
  rw [hL] at h
  simp only [pids, hv] at h
  cases ht : pids T with
  | none => rfl
  | some u => rw [ht] at h; cases h

theorem dec_some (s : ByteArray) (x : Int) (hs : s.size ≤ 1048576) (hv : val s.data.toList = some x) (w : World) : Calls Tryf.prog 9 #[.string s] w fun e w' => e = .returned (.tuple #[.int .i64 x, .bool true]) ∧ w' = w := by
  have h := dec_walk s w hs
  rw [hv] at h; exact h
theorem dec_no (s : ByteArray) (hs : s.size ≤ 1048576) (hv : val s.data.toList = none) (w : World) : Calls Tryf.prog 9 #[.string s] w fun e w' => e = .returned (.tuple #[.int .i64 0, .bool false]) ∧ w' = w := by
  have h := dec_walk s w hs
  rw [hv] at h; exact h
set_option maxHeartbeats 1000000 in
set_option maxRecDepth 100000 in
theorem aut_main (F : Interp) (nm t : ByteArray) (w : World) (hF : F.answers w.tape) (hlib : Lib0 w) (hs : (nm.size : Int) + (t.size : Int) ≤ 1048576) :
    Calls Tryf.prog 3 #[.string nm, .string t] w fun e w' => e = .returned (.bool true) ∧ Below w.heap.size w w' := by
  have hts : t.size ≤ 1048576 := by omega
  have CP := hide (pids_walk F nm t w hF (by omega) hlib)
  have hnn := Lib.run_eql_slice_nil (P := Tryf.prog)
  clear hF hlib
  go_enter Tryf.func3, Tryf.ntmps3
  go_wp2_with (go_at_call 5; refine (bytes5_yes _ _ _ hs).mono ?_; rintro e w' ⟨rfl, rfl⟩)
  refine CP.out.mono ?_
  rintro e wa ⟨hba, hra⟩
  have LA := hide hba
  clear hba CP
  rcases hra with ⟨vs, va, hpa, rfl, hoa⟩ | ⟨pe, hpa, rfl⟩
  · obtain ⟨ao, ac, rfl, hsa, hno, _⟩ := hoa.form
    have SA := hide hsa
    have NO := hide hno
    have PA := hide hpa
    have hlen := pids_length _ _ hpa
    have hcnt := fields_count t.data.toList
    have et : t.data.toList.length = t.size := by simp
    have hvl : vs.length ≤ 1048577 := by omega
    obtain ⟨NV, hNV⟩ : ∃ NV, NV = vs.length := ⟨_, rfl⟩
    have HNV := hide hNV
    rw [← hNV] at SA hvl ⊢
    clear hoa hsa hno hpa hlen hcnt et hNV
    go_wp2_with fail
    refine (skip_walk t 0 wa hts (Nat.zero_le _)).mono ?_
    rintro e w2 ⟨⟨j, rfl, hj0, hj, HU, HZ⟩, rfl⟩
    have PJ : Hid (pids (fU [] (rest t j)) = some (vs.drop 0)) := by show pids _ = some _; rw [← HU.out, ← fields_rest]; exact PA.out
    clear PA HU
    go_wp2_with fail
    go_loopw [7, 8] (fun sk si wr => ∃ k i : Nat, sk = .int .i64 (k : Int) ∧ si = .int .i64 (i : Int) ∧ k ≤ NV ∧ k ≤ i ∧ i ≤ t.size ∧ Hid (pids (fU [] (rest t i)) = some (vs.drop k)) ∧ Hid (i < t.size → headSpace (rest t i) = 0) ∧ Below w2.heap.size w2 wr) (fun _ si _ => t.size - (intOf si).toNat)
    case atStart => exact ⟨0, j, rfl, rfl, Nat.zero_le _, Nat.zero_le _, hj, PJ, HZ, Below.refl _ _⟩
    case round =>
      obtain ⟨k, i, rfl, rfl, hkle, hki, hit, HP, HS, hb⟩ := hrel
      clear PJ HZ
      have HB := hide hb
      clear hb
      by_cases hlt : i < t.size
      · have CE := hide (end_walk t i wr hts hlt (HS.out hlt))
        go_wp2_with fail
        refine CE.out.mono ?_
        rintro e w3 ⟨⟨m, rfl, him, hmt, HE⟩, rfl⟩
        clear CE
        obtain ⟨x, hx, hp2, hkl, hgx⟩ := pids_one HE.out HP.out
        have CD := hide (dec_some (t.extract i m) x (by rw [ByteArray.size_extract]; omega) hx w3)
        have HP2 := hide hp2
        rw [← HNV.out] at hkl
        obtain ⟨ga, rfl, hca⟩ := (SA.out.below HB.out).2 (by omega)
        have g1 := hca k hkl
        rw [hgx] at g1
        have hki1 : (k : Int) < (NV : Int) := by omega
        clear hx hp2 hgx hca HP HE
        go_wp2_with fail
        refine CD.out.mono ?_
        rintro e w4 ⟨rfl, rfl⟩
        clear CD
        go_wp2_with fail
        refine (skip_walk t m _ hts hmt).mono ?_
        rintro e w5 ⟨⟨j2, rfl, hmj, hjt, HU2, HZ2⟩, rfl⟩
        clear g1
        go_wp2
        go_roundw
        case rel => exact ⟨k + 1, j2, by go_num, rfl, by omega, by omega, hjt, by show pids _ = some _; rw [← HU2.out]; exact HP2.out, HZ2, HB.out⟩
        case measure => simp [intOf]; omega
      · have hd : pids (fU [] (rest t i)) = some [] := by rw [rest_end t i (by omega), fU_nil]; rfl
        have hp := HP.out
        rw [hd] at hp
        simp only [Option.some.injEq] at hp
        have hkn : NV ≤ k := by
          have := congrArg List.length hp
          rw [List.length_drop, ← HNV.out] at this
          simp at this; omega
        have hke : k = NV := by omega
        clear hd hp HP HS hkn hkle
        subst hke
        by_cases h0 : k = 0
        · have hvs : vs = [] := List.eq_nil_of_length_eq_zero (by rw [← HNV.out]; exact h0)
          have hn := NO.out.2 hvs
          cases ao with
          | some a => cases hn
          | none =>
            subst h0
            clear hvs hn
            go_wp2
            go_ret
            exact ⟨rfl, LA.out.trans (HB.out.mono LA.out.size)⟩
        · have hvs : vs ≠ [] := by intro e; apply h0; rw [HNV.out, e]; rfl
          have q0 : ((k : Int) == 0) = false := nb (by omega)
          cases ao with
          | none => exact absurd (NO.out.1 rfl) hvs
          | some a =>
            clear hvs h0
            go_wp2
            go_ret
            exact ⟨rfl, LA.out.trans (HB.out.mono LA.out.size)⟩
  · have PA := hide hpa
    clear hpa
    go_wp2_with fail
    refine (skip_walk t 0 wa hts (Nat.zero_le _)).mono ?_
    rintro e w2 ⟨⟨j, rfl, hj0, hj, HU, HZ⟩, rfl⟩
    have PJ : Hid (pids (fU [] (rest t j)) = none) := by show pids _ = none; rw [← HU.out, ← fields_rest]; exact PA.out
    clear PA HU
    go_wp2_with fail
    go_loopw [7, 8] (fun sk si wr => ∃ k i : Nat, sk = .int .i64 (k : Int) ∧ si = .int .i64 (i : Int) ∧ k ≤ i ∧ i ≤ t.size ∧ Hid (pids (fU [] (rest t i)) = none) ∧ Hid (i < t.size → headSpace (rest t i) = 0) ∧ Below w2.heap.size w2 wr) (fun _ si _ => t.size - (intOf si).toNat)
    case atStart => exact ⟨0, j, rfl, rfl, Nat.zero_le _, hj, PJ, HZ, Below.refl _ _⟩
    case round =>
      obtain ⟨k, i, rfl, rfl, hki, hit, HP, HS, hb⟩ := hrel
      clear PJ HZ
      by_cases hlt : i < t.size
      · have CE := hide (end_walk t i wr hts hlt (HS.out hlt))
        go_wp2_with fail
        refine CE.out.mono ?_
        rintro e w3 ⟨⟨m, rfl, him, hmt, HE⟩, rfl⟩
        clear CE
        have hxs : (t.extract i m).size ≤ 1048576 := by rw [ByteArray.size_extract]; omega
        cases hv : val (t.extract i m).data.toList with
        | none =>
          have CD := hide (dec_no (t.extract i m) hxs hv w3)
          clear hv hxs
          go_wp2_with fail
          refine CD.out.mono ?_
          rintro e w4 ⟨rfl, rfl⟩
          clear CD
          go_wp2
          go_ret
          exact ⟨rfl, LA.out.trans (hb.mono LA.out.size)⟩
        | some x =>
          have CD := hide (dec_some (t.extract i m) x hxs hv w3)
          have HP2 : Hid (pids (fU [] (rest t m)) = none) := pids_no HE.out HP.out hv
          clear hv hxs HP HS HE
          go_wp2_with fail
          refine CD.out.mono ?_
          rintro e w4 ⟨rfl, rfl⟩
          clear CD
          go_wp2_with fail
          refine (skip_walk t m _ hts hmt).mono ?_
          rintro e w5 ⟨⟨j2, rfl, hmj, hjt, HU2, HZ2⟩, rfl⟩
          go_wp2
          go_roundw
          case rel => exact ⟨k + 1, j2, by go_num, rfl, by omega, hjt, by show pids _ = none; rw [← HU2.out]; exact HP2.out, HZ2, hb⟩
          case measure => simp [intOf]; omega
      · have hd : pids (fU [] (rest t i)) = some [] := by rw [rest_end t i (by omega), fU_nil]; rfl
        rw [HP.out] at hd
        cases hd
end Go.Proofs.Qxb6629140aFmt
