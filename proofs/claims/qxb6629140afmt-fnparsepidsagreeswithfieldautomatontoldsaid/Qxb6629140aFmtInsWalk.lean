/-
  The walk of FnParsePidsInsertAnyPidBetweenParts.
-/
import Derived.Test.Qxb6629140aFmtPids
import Derived.Test.Qxb6629140aFmtItoa
import Derived.Test.Qxb6629140aFmtInsPlain
import Derived.Deep.QuietTactic
import Derived.BigQuiet
import Derived.Lib.AppendIntMem
namespace Go.Proofs.Qxb6629140aFmt
open Go.RowKit Go.Extern.Stop Go.Stop Go.Extern Go.Lib

theorem Lib0.below {w w' : World} (h : Lib0 w) (hb : Below w.heap.size w w') : Lib0 w' := by
  obtain ⟨t2, p2, h2⟩ := h.s2
  obtain ⟨t3, p3, h3⟩ := h.s3
  exact ⟨tabBelow_of_tabIs h.tab w' hb, WhiteTab_below h.white hb, ⟨t2, p2, (hb.cell (World.block_lt_of_cell? _ _ h2)).trans h2⟩, ⟨t3, p3, (hb.cell (World.block_lt_of_cell? _ _ h3)).trans h3⟩⟩
theorem below_drewN {B : Nat} {a w : World} (h : Below B a w) (n : Nat) : Below B a (w.drewN n) := h.trans ⟨rfl, rfl, rfl, Nat.le_refl _, fun _ _ => rfl⟩

/-- The slice (ao, n) reads as the ints l. -/
def SlI (w : World) (ao : Option Addr) (n : Nat) (l : List Int) : Prop :=
  l.length = n ∧ (0 < n → ∃ b, ao = some ⟨b, 0, none⟩ ∧ ∀ i, i < n → w.cell? ⟨b, i, none⟩ = some (.int .i64 (l.getD i 0)))
theorem SlI.below {w w' : World} {ao : Option Addr} {n : Nat} {l : List Int} (h : SlI w ao n l) (hb : Below w.heap.size w w') : SlI w' ao n l := by
  refine ⟨h.1, fun h0 => ?_⟩
  obtain ⟨b, ha, hc⟩ := h.2 h0
  exact ⟨b, ha, fun i hi => (hb.cell (World.block_lt_of_cell? _ _ (hc i hi))).trans (hc i hi)⟩
theorem OwnI.form {B : Nat} {v : Value} {l : List Int} {w : World} (h : OwnI B v l w) : ∃ ao cap, v = .slice ao l.length cap ∧ SlI w ao l.length l ∧ (ao.isNone = true ↔ l = []) ∧ (ao = none → cap = 0) := by
  obtain ⟨h1, hn⟩ := h
  rcases h1.2 with ⟨rfl, h0⟩ | ⟨g, cap, cur, rfl, _, hg, _⟩
  · have : l = [] := by simpa using h0
    subst this
    exact ⟨none, 0, rfl, ⟨rfl, fun h => by simp at h⟩, by simp, fun _ => rfl⟩
  · refine ⟨_, cap, rfl, ⟨rfl, fun _ => ⟨g, rfl, fun i hi => ?_⟩⟩, ?_, fun h => by cases h⟩
    · rw [h1.cellAt i (by omega)]
      simp [List.getD, hi]
    · constructor
      · intro h; cases h
      · intro h; have := hn.2 h; cases this

/-- Three texts' lengths, as zzBytes asks them. -/
theorem bytes10_yes (nm a b : ByteArray) (n : Int) (w : World) (hs : (nm.size : Int) + (a.size : Int) + (b.size : Int) ≤ 1048576) :
    Calls Tryf.prog 10 #[.string nm, .string a, .string b, .int .i64 n] w fun e w' => e = .returned (.bool true) ∧ w = w' := by
  go_enter Tryf.func10, Tryf.ntmps10
  go_wp2
  go_ret
  exact ⟨rfl, rfl⟩
set_option maxHeartbeats 400000 in
theorem bytes10_no (nm a b : ByteArray) (n : Int) (w : World) (hs : (1048576 : Int) < (nm.size : Int) + (a.size : Int) + (b.size : Int)) :
    Calls Tryf.prog 10 #[.string nm, .string a, .string b, .int .i64 n] w fun e w' => e = .returned (.bool false) ∧ w = w' := by
  by_cases h1 : (nm.size : Int) ≤ 1048576
  · by_cases h2 : (a.size : Int) ≤ 1048576
    · by_cases h3 : (nm.size : Int) + (a.size : Int) ≤ 1048576
      · by_cases h4 : (b.size : Int) ≤ 1048576
        all_goals
          go_enter Tryf.func10, Tryf.ntmps10
          go_wp2
          go_ret
          exact ⟨rfl, rfl⟩
      · go_enter Tryf.func10, Tryf.ntmps10
        go_wp2
        go_ret
        exact ⟨rfl, rfl⟩
    · go_enter Tryf.func10, Tryf.ntmps10
      go_wp2
      go_ret
      exact ⟨rfl, rfl⟩
  · go_enter Tryf.func10, Tryf.ntmps10
    go_wp2
    go_ret
    exact ⟨rfl, rfl⟩
set_option maxHeartbeats 400000 in
theorem ins_long (nm a b : ByteArray) (n : Int) (w : World) (hs : (1048576 : Int) < (nm.size : Int) + (a.size : Int) + (b.size : Int)) :
    Calls Tryf.prog 4 #[.string nm, .string a, .string b, .int .i64 n] w fun e w' => e = .returned (.bool true) ∧ Below w.heap.size w w' := by
  go_enter Tryf.func4, Tryf.ntmps4
  go_wp2_with (go_at_call 10; refine (bytes10_no _ _ _ _ _ hs).mono ?_; rintro e w' ⟨rfl, rfl⟩)
  go_ret
  exact ⟨rfl, Below.refl _ _⟩

theorem joined_data (a b : ByteArray) (I : List UInt8) : (a ++ ⟨#[32]⟩ ++ ⟨I.toArray⟩ ++ ⟨#[32]⟩ ++ b).data.toList = a.data.toList ++ 32 :: (I ++ 32 :: b.data.toList) := by
  simp

theorem ljA (la lb : List Int) (n : Int) (k : Nat) (h : k < la.length) : (la ++ n :: lb).getD k 0 = la.getD k 0 := by
  simp only [List.getD]; rw [List.getElem?_append_left h]
theorem ljN (la lb : List Int) (n : Int) : (la ++ n :: lb).getD la.length 0 = n := by
  simp only [List.getD]; rw [List.getElem?_append_right (Nat.le_refl _)]; simp
theorem ljB (la lb : List Int) (n : Int) (k : Nat) : (la ++ n :: lb).getD (la.length + 1 + k) 0 = lb.getD k 0 := by
  simp only [List.getD]; rw [List.getElem?_append_right (by omega), show la.length + 1 + k - la.length = k + 1 from by omega]; simp

set_option maxHeartbeats 1000000 in
set_option maxRecDepth 100000 in
theorem ins_main (F : Interp) (nm a b : ByteArray) (n : Int) (w : World) (hF : F.answers w.tape) (hlib : Lib0 w) (hs : (nm.size : Int) + (a.size : Int) + (b.size : Int) ≤ 1048576)
    (h0 : -9223372036854775808 ≤ n) (h1 : n ≤ 9223372036854775807) :
    Calls Tryf.prog 4 #[.string nm, .string a, .string b, .int .i64 n] w fun e w' => e = .returned (.bool true) ∧ Below w.heap.size w w' := by
  have CP : Hid (∀ (t : ByteArray) (X : World), t.size ≤ 2097152 → Below w.heap.size w X → _) := fun (t : ByteArray) (X : World) (ht : t.size ≤ 2097152) (hb : Below w.heap.size w X) => pids_walk F nm t X (by rw [hb.tape]; exact hF) ht (hlib.below hb)
  have hI := itoa_length_le n h0 h1
  have hjn := pids_insert a.data.toList b.data.toList n h0 h1
  rw [← joined_data] at hjn
  obtain ⟨I, hI2⟩ : ∃ I : ByteArray, I = ⟨(itoa n).toArray⟩ := ⟨_, rfl⟩
  have hIs : I.size ≤ 21 := by rw [hI2, Lib.size_eq]; exact hI
  have CI := hide (itoa_walk n · h0 h1)
  rw [← hI2] at hjn CI
  obtain ⟨J, hJ⟩ : ∃ J, J = a ++ ⟨#[32]⟩ ++ I ++ ⟨#[32]⟩ ++ b := ⟨_, rfl⟩
  rw [← hJ] at hjn
  have hJs : J.size ≤ 2097152 := by
    have e1 : (⟨#[32]⟩ : ByteArray).size = 1 := rfl
    rw [hJ]; simp only [ByteArray.size_append, e1]; omega
  have HJE := hide hJ
  have HJ := hide hjn
  clear hJ
  have hnn := Lib.run_eql_slice_nil (P := Tryf.prog)
  clear hjn hI hI2 hF hlib
  go_enter Tryf.func4, Tryf.ntmps4
  go_wp2_with (go_at_call 10; refine (bytes10_yes _ _ _ _ _ hs).mono ?_; rintro e w' ⟨rfl, rfl⟩)
  refine (CP.out a w (by omega) (Below.refl _ _)).mono ?_
  rintro e wa ⟨hba, hra⟩
  have LA := hide hba
  clear hba
  rcases hra with ⟨la, va, hpa, rfl, hoa⟩ | ⟨pe, hpa, rfl⟩
  · obtain ⟨ao, ac, rfl, hsa, _, _⟩ := hoa.form
    have SA := hide hsa
    have PA := hide hpa
    clear hoa hsa hpa
    go_wp2_with fail
    refine (CP.out b wa (by omega) LA.out).mono ?_
    rintro e wb ⟨hbb, hrb⟩
    have LB : Hid (Below w.heap.size w wb) := LA.out.trans (hbb.mono LA.out.size)
    have SA2 : Hid (SlI wb ao la.length la) := SA.out.below hbb
    clear hbb
    rcases hrb with ⟨lb, vb, hpb, rfl, hob⟩ | ⟨pe, hpb, rfl⟩
    · obtain ⟨bo, bc, rfl, hsb, _, _⟩ := hob.form
      have SB := hide hsb
      have PB := hide hpb
      clear hob hsb hpb
      go_wp2_with fail
      refine (CI.out wb).mono ?_
      rintro e wi ⟨rfl, hbi⟩
      have LI : Hid (Below w.heap.size w wi) := LB.out.trans (hbi.mono LB.out.size)
      have SA3 : Hid (SlI wi ao la.length la) := SA2.out.below hbi
      have SB3 : Hid (SlI wi bo lb.length lb) := SB.out.below hbi
      clear hbi
      go_wp2_with fail
      rw [← HJE.out]
      refine (CP.out J wi hJs LI.out).mono ?_
      rintro e wj ⟨hbj, hrj⟩
      have LJ : Hid (Below w.heap.size w wj) := LI.out.trans (hbj.mono LI.out.size)
      have SA4 : Hid (SlI wj ao la.length la) := SA3.out.below hbj
      have SB4 : Hid (SlI wj bo lb.length lb) := SB3.out.below hbj
      clear hbj
      have hjn : pids (fieldsD J.data.toList) = some (la ++ n :: lb) := by rw [HJ.out, PA.out, PB.out]; rfl
      rcases hrj with ⟨lj, vj, hpj, rfl, hoj⟩ | ⟨pj, hpj, rfl⟩
      · rw [hjn] at hpj
        have e : lj = la ++ n :: lb := by injection hpj with h; exact h.symm
        subst e
        obtain ⟨jo, jc, rfl, hsj, _, _⟩ := hoj.form
        have hjl : (la ++ n :: lb).length = la.length + 1 + lb.length := by simp; omega
        rw [hjl] at hsj ⊢
        obtain ⟨gj, rfl, hcj⟩ := hsj.2 (by omega)
        have hla := pids_length _ _ PA.out
        have hlb := pids_length _ _ PB.out
        have hca := fields_count a.data.toList
        have hcb := fields_count b.data.toList
        have ea : a.data.toList.length = a.size := by simp
        have eb : b.data.toList.length = b.size := by simp
        have bla : la.length ≤ 1048577 := by omega
        have blb : lb.length ≤ 1048577 := by omega
        have SJ := hide hsj
        have CJ := hide hcj
        obtain ⟨NA, hNA⟩ : ∃ NA, NA = la.length := ⟨_, rfl⟩
        obtain ⟨NB, hNB⟩ : ∃ NB, NB = lb.length := ⟨_, rfl⟩
        have HNA := hide hNA
        have HNB := hide hNB
        rw [← hNA] at SA4 SJ CJ bla ⊢
        rw [← hNB] at SB4 SJ CJ blb ⊢
        clear hjn hpj hoj hsj hcj hjl hla hlb hca hcb ea eb hNA hNB SA SB SA2 SA3 SB3
        go_wp2_with fail
        go_loopw [15] (fun si wr => ∃ k : Nat, k ≤ NA ∧ si = .int .i64 k ∧ Below wj.heap.size wj wr) (fun si _ => NA - (intOf si).toNat)
        case atStart => exact ⟨0, Nat.zero_le _, rfl, Below.refl _ _⟩
        case round =>
          obtain ⟨k, hk, rfl, hb⟩ := hrel
          by_cases hlt : k < NA
          · obtain ⟨ga, rfl, hca⟩ := (SA4.out.below hb).2 (by omega)
            have g1 := hca k hlt
            have g2 := (hb.cell (World.block_lt_of_cell? _ _ (CJ.out k (by omega)))).trans (CJ.out k (by omega))
            rw [ljA la lb n k (by rw [← HNA.out]; exact hlt)] at g2
            obtain ⟨x, hx⟩ : ∃ x, x = la.getD k 0 := ⟨_, rfl⟩
            rw [← hx] at g1 g2
            clear hx hca
            have hi1 : (k : Int) < (NA : Int) := by omega
            have hi2 : (k : Int) < (NA : Int) + 1 + (NB : Int) := by omega
            have hi3 : (k : Int) < ((NA + 1 + NB : Nat) : Int) := by omega
            go_wp2
            go_quiet (fail)
            go_wp2
            go_roundw
            case rel => exact ⟨k + 1, by omega, by go_num, below_drewN hb _⟩
            case measure => simp [intOf]; omega
          · have hke : k = NA := by omega
            have g2 := (hb.cell (World.block_lt_of_cell? _ _ (CJ.out NA (by omega)))).trans (CJ.out NA (by omega))
            have en : (la ++ n :: lb).getD NA 0 = n := by rw [HNA.out]; exact ljN la lb n
            rw [en] at g2
            clear en
            have hB := hide hb
            have hi1 : (NA : Int) < (NA : Int) + 1 + (NB : Int) := by omega
            have hge : ¬ (k : Int) < (NA : Int) := by omega
            clear hke hb
            go_wp2_with fail
            go_loopw [16] (fun si wx => ∃ m : Nat, m ≤ NB ∧ si = .int .i64 m ∧ Below wj.heap.size wj wx) (fun si _ => NB - (intOf si).toNat)
            case atStart => exact ⟨0, Nat.zero_le _, rfl, hB.out⟩
            case round =>
              obtain ⟨m, hm, rfl, hb⟩ := hrel
              clear g2 hi1 hge
              by_cases hlt2 : m < NB
              · obtain ⟨gb, rfl, hcb⟩ := (SB4.out.below hb).2 (by omega)
                have g1 := hcb m hlt2
                have g2 := (hb.cell (World.block_lt_of_cell? _ _ (CJ.out (NA + 1 + m) (by omega)))).trans (CJ.out (NA + 1 + m) (by omega))
                have en : (la ++ n :: lb).getD (NA + 1 + m) 0 = lb.getD m 0 := by rw [HNA.out]; exact ljB la lb n m
                rw [en] at g2
                obtain ⟨x, hx⟩ : ∃ x, x = lb.getD m 0 := ⟨_, rfl⟩
                rw [← hx] at g1 g2
                clear hx hcb en
                have hi1 : (m : Int) < (NB : Int) := by omega
                have hi2 : (NA : Int) + 1 + (m : Int) < (NA : Int) + 1 + (NB : Int) := by omega
                have hi3 : (NA : Int) + 1 + (m : Int) < ((NA + 1 + NB : Nat) : Int) := by omega
                go_wp2
                go_quiet (fail)
                go_wp2
                go_roundw
                case rel => exact ⟨m + 1, by omega, by go_num, below_drewN hb _⟩
                case measure => simp [intOf]; omega
              · have hge : ¬ (m : Int) < (NB : Int) := by omega
                go_wp2
                go_ret
                exact ⟨rfl, LJ.out.trans (hb.mono LJ.out.size)⟩
      · rw [hjn] at hpj; cases hpj
    · have PB := hide hpb
      clear hpb
      go_wp2_with fail
      refine (CI.out wb).mono ?_
      rintro e wi ⟨rfl, hbi⟩
      have LI : Hid (Below w.heap.size w wi) := LB.out.trans (hbi.mono LB.out.size)
      clear hbi
      go_wp2_with fail
      rw [← HJE.out]
      refine (CP.out J wi hJs LI.out).mono ?_
      rintro e wj ⟨hbj, hrj⟩
      have LJ : Hid (Below w.heap.size w wj) := LI.out.trans (hbj.mono LI.out.size)
      clear hbj
      have hjn : pids (fieldsD J.data.toList) = none := by rw [HJ.out, PA.out, PB.out]; rfl
      rcases hrj with ⟨lj, vj, hpj, _⟩ | ⟨pj, _, rfl⟩
      · rw [hjn] at hpj; cases hpj
      · clear hjn
        go_wp2
        go_ret
        exact ⟨rfl, LJ.out⟩
  · have PA := hide hpa
    clear hpa
    go_wp2_with fail
    refine (CP.out b wa (by omega) LA.out).mono ?_
    rintro e wb ⟨hbb, hrb⟩
    have LB : Hid (Below w.heap.size w wb) := LA.out.trans (hbb.mono LA.out.size)
    clear hbb
    rcases hrb with ⟨lb, vb, _, rfl, hob⟩ | ⟨pe2, _, rfl⟩
    · obtain ⟨bo, bc, rfl, _, _, _⟩ := hob.form
      clear hob
      go_wp2_with fail
      refine (CI.out wb).mono ?_
      rintro e wi ⟨rfl, hbi⟩
      have LI : Hid (Below w.heap.size w wi) := LB.out.trans (hbi.mono LB.out.size)
      clear hbi
      go_wp2_with fail
      rw [← HJE.out]
      refine (CP.out J wi hJs LI.out).mono ?_
      rintro e wj ⟨hbj, hrj⟩
      have LJ : Hid (Below w.heap.size w wj) := LI.out.trans (hbj.mono LI.out.size)
      clear hbj
      have hjn : pids (fieldsD J.data.toList) = none := by rw [HJ.out, PA.out]; rfl
      rcases hrj with ⟨lj, vj, hpj, _⟩ | ⟨pj, _, rfl⟩
      · rw [hjn] at hpj; cases hpj
      · clear hjn
        go_wp2
        go_ret
        exact ⟨rfl, LJ.out⟩
    · go_wp2_with fail
      refine (CI.out wb).mono ?_
      rintro e wi ⟨rfl, hbi⟩
      have LI : Hid (Below w.heap.size w wi) := LB.out.trans (hbi.mono LB.out.size)
      clear hbi
      go_wp2_with fail
      rw [← HJE.out]
      refine (CP.out J wi hJs LI.out).mono ?_
      rintro e wj ⟨hbj, hrj⟩
      have LJ : Hid (Below w.heap.size w wj) := LI.out.trans (hbj.mono LI.out.size)
      clear hbj
      have hjn : pids (fieldsD J.data.toList) = none := by rw [HJ.out, PA.out]; rfl
      rcases hrj with ⟨lj, vj, hpj, _⟩ | ⟨pj, _, rfl⟩
      · rw [hjn] at hpj; cases hpj
      · clear hjn
        go_wp2
        go_ret
        exact ⟨rfl, LJ.out⟩
end Go.Proofs.Qxb6629140aFmt
