/-
  The small functions' contracts: zzCmp, zzSame, zzHasPrefix, zzInRange, zzAllFF.
-/
import Derived.Test.Qxb6629232aRows
import Derived.Test.Qxb6629232aPlain
import Derived.WalkKit
import Derived.BigCall
import Derived.Deep.QuietTactic
import Derived.BigQuiet
namespace Go.Proofs.Qxb6629232a
open Go.RowKit

theorem hide {p : Prop} (h : p) : Hid p := h
/-- The slice (ao, n) reads as the bytes l. -/
def Sl (w : World) (ao : Option Addr) (n : Nat) (l : List Int) : Prop :=
  l.length = n ∧ (0 < n → ∃ b o, ao = some ⟨b, o, none⟩ ∧ ∀ i, i < n → w.cell? ⟨b, o + i, none⟩ = some (.int .u8 (l.getD i 0)))
theorem Sl.below {w w' : World} {ao : Option Addr} {n : Nat} {l : List Int} (h : Sl w ao n l) (hb : Below w.heap.size w w') : Sl w' ao n l := by
  refine ⟨h.1, fun h0 => ?_⟩
  obtain ⟨b, o, ha, hc⟩ := h.2 h0
  refine ⟨b, o, ha, fun i hi => ?_⟩
  exact (hb.cell (World.block_lt_of_cell? _ _ (hc i hi))).trans (hc i hi)
theorem below_drewN {B : Nat} {a w : World} (h : Below B a w) (n : Nat) : Below B a (w.drewN n) := h.trans ⟨rfl, rfl, rfl, Nat.le_refl _, fun _ _ => rfl⟩
theorem drop_at (l : List Int) (k : Nat) (h : k < l.length) : l.drop k = l.getD k 0 :: l.drop (k + 1) := by
  rw [List.drop_eq_getElem_cons h]; simp [List.getD, h]
theorem cmp_step (l m : List Int) (k : Nat) (h1 : k < l.length) (h2 : k < m.length) : cmp (l.drop k) (m.drop k) = if l.getD k 0 = m.getD k 0 then cmp (l.drop (k + 1)) (m.drop (k + 1)) else if l.getD k 0 < m.getD k 0 then -1 else 1 := by
  rw [drop_at l k h1, drop_at m k h2, cmp]

set_option maxHeartbeats 1000000 in
set_option maxRecDepth 100000 in
theorem cmp_walk (a a' : Option Addr) (n c n' c' : Nat) (l m : List Int) (w : World) (hl : Sl w a n l) (hm : Sl w a' n' m) (hn : n ≤ 1048576) (hn' : n' ≤ 1048576) :
    Calls Try.prog 12 #[.slice a n c, .slice a' n' c'] w fun e w' => e = .returned (.int .i64 (cmp l m)) ∧ Below w.heap.size w w' := by
  obtain ⟨R, hR⟩ : ∃ R, R = cmp l m := ⟨_, rfl⟩
  rw [← hR]
  have HR : Hid (R = cmp l m) := hR
  clear hR
  by_cases hlt : n' < n
  · go_enter Try.func12, Try.ntmps12
    go_wp2
    go_loopw [6] (fun si wr => ∃ k : Nat, k ≤ n' ∧ si = .int .i64 k ∧ Hid (cmp (l.drop k) (m.drop k) = R) ∧ Below w.heap.size w wr) (fun si _ => n' - (intOf si).toNat)
    case atStart => exact ⟨0, by omega, rfl, by rw [HR.out]; rfl, Below.refl _ _⟩
    case round =>
      obtain ⟨k, hk, rfl, HI, hb⟩ := hrel
      by_cases hkn : k < n'
      · obtain ⟨b, o, rfl, hc⟩ := (hl.below hb).2 (by omega)
        obtain ⟨b', o', rfl, hc'⟩ := (hm.below hb).2 (by omega)
        have g1 := hc k (by omega)
        have g2 := hc' k (by omega)
        have hs := cmp_step l m k (by have := hl.1; omega) (by have := hm.1; omega)
        rw [HI.out] at hs
        obtain ⟨x, hx⟩ : ∃ x, x = l.getD k 0 := ⟨_, rfl⟩
        obtain ⟨y, hy⟩ : ∃ y, y = m.getD k 0 := ⟨_, rfl⟩
        rw [← hx] at g1 hs
        rw [← hy] at g2 hs
        clear hx hy hc hc' HI hl hm HR
        have hi1 : (k : Int) < (n : Int) := by omega
        have hi2 : (k : Int) < (n' : Int) := by omega
        by_cases hxy : x = y
        · rw [if_pos hxy] at hs
          have HS : Hid _ := hs
          clear hs
          subst hxy
          go_wp2
          go_quiet (fail)
          go_wp2
          go_roundw
          case rel => exact ⟨k + 1, by omega, by go_num, HS.out.symm, below_drewN hb _⟩
          case measure => simp [intOf]; omega
        · rw [if_neg hxy] at hs
          have q1 : (x == y) = false := by simpa using hxy
          have q2 : (x != y) = true := by simpa using hxy
          clear hxy
          by_cases hlt2 : x < y
          · rw [if_pos hlt2] at hs
            subst hs
            go_wp2
            go_quiet (fail)
            go_wp2
            go_quiet (fail)
            go_wp2
            go_ret
            exact ⟨rfl, below_drewN (below_drewN hb _) _⟩
          · rw [if_neg hlt2] at hs
            subst hs
            have hge : y ≤ x := by omega
            go_wp2
            go_quiet (fail)
            go_wp2
            go_quiet (fail)
            go_wp2
            go_ret
            exact ⟨rfl, below_drewN (below_drewN hb _) _⟩
      · have ek : k = n' := by omega
        subst ek
        have hRR := HI.out
        have l1 := hl.1
        have l2 := hm.1
        clear HI HR hl hm
        have hd : l.drop k = l.getD k 0 :: l.drop (k + 1) := drop_at l k (by omega)
        have hd2 : m.drop k = [] := List.drop_eq_nil_of_le (by omega)
        rw [hd, hd2, cmp] at hRR
        clear hd2
        clear hd l1 l2
        subst hRR
        go_wp2
        go_ret
        exact ⟨rfl, hb⟩
  · go_enter Try.func12, Try.ntmps12
    go_wp2
    go_loopw [6] (fun si wr => ∃ k : Nat, k ≤ n ∧ si = .int .i64 k ∧ Hid (cmp (l.drop k) (m.drop k) = R) ∧ Below w.heap.size w wr) (fun si _ => n - (intOf si).toNat)
    case atStart => exact ⟨0, by omega, rfl, by rw [HR.out]; rfl, Below.refl _ _⟩
    case round =>
      obtain ⟨k, hk, rfl, HI, hb⟩ := hrel
      by_cases hkn : k < n
      · obtain ⟨b, o, rfl, hc⟩ := (hl.below hb).2 (by omega)
        obtain ⟨b', o', rfl, hc'⟩ := (hm.below hb).2 (by omega)
        have g1 := hc k (by omega)
        have g2 := hc' k (by omega)
        have hs := cmp_step l m k (by have := hl.1; omega) (by have := hm.1; omega)
        rw [HI.out] at hs
        obtain ⟨x, hx⟩ : ∃ x, x = l.getD k 0 := ⟨_, rfl⟩
        obtain ⟨y, hy⟩ : ∃ y, y = m.getD k 0 := ⟨_, rfl⟩
        rw [← hx] at g1 hs
        rw [← hy] at g2 hs
        clear hx hy hc hc' HI hl hm HR
        have hi1 : (k : Int) < (n : Int) := by omega
        have hi2 : (k : Int) < (n' : Int) := by omega
        by_cases hxy : x = y
        · rw [if_pos hxy] at hs
          have HS : Hid _ := hs
          clear hs
          subst hxy
          go_wp2
          go_quiet (fail)
          go_wp2
          go_roundw
          case rel => exact ⟨k + 1, by omega, by go_num, HS.out.symm, below_drewN hb _⟩
          case measure => simp [intOf]; omega
        · rw [if_neg hxy] at hs
          have q1 : (x == y) = false := by simpa using hxy
          have q2 : (x != y) = true := by simpa using hxy
          clear hxy
          by_cases hlt2 : x < y
          · rw [if_pos hlt2] at hs
            subst hs
            go_wp2
            go_quiet (fail)
            go_wp2
            go_quiet (fail)
            go_wp2
            go_ret
            exact ⟨rfl, below_drewN (below_drewN hb _) _⟩
          · rw [if_neg hlt2] at hs
            subst hs
            have hge : y ≤ x := by omega
            go_wp2
            go_quiet (fail)
            go_wp2
            go_quiet (fail)
            go_wp2
            go_ret
            exact ⟨rfl, below_drewN (below_drewN hb _) _⟩
      · have ek : k = n := by omega
        subst ek
        have hRR := HI.out
        have l1 := hl.1
        have l2 := hm.1
        clear HI HR hl hm
        rw [List.drop_eq_nil_of_le (by omega)] at hRR
        by_cases hlt3 : k < n'
        · have hd : m.drop k = m.getD k 0 :: m.drop (k + 1) := drop_at m k (by omega)
          rw [hd, cmp] at hRR
          clear hd l1 l2
          subst hRR
          go_wp2
          go_ret
          exact ⟨rfl, hb⟩
        · rw [List.drop_eq_nil_of_le (by omega), cmp] at hRR
          clear l1 l2
          subst hRR
          have e : k = n' := by omega
          subst e
          go_wp2
          go_ret
          exact ⟨rfl, hb⟩

set_option maxHeartbeats 400000 in
theorem same_walk (a a' : Option Addr) (n c n' c' : Nat) (l m : List Int) (w : World) (hl : Sl w a n l) (hm : Sl w a' n' m) (hn : n ≤ 1048576) (hn' : n' ≤ 1048576) (heq : cmp l m = 0) :
    Calls Try.prog 7 #[.slice a n c, .slice a' n' c'] w fun e w' => e = .returned (.bool true) ∧ Below w.heap.size w w' := by
  have HC := cmp_walk a a' n c n' c' l m w hl hm hn hn'
  rw [heq] at HC
  have H := hide HC
  clear HC heq
  go_enter Try.func7, Try.ntmps7
  go_wp2_with (go_at_call 12; refine H.out.mono ?_; rintro e w' ⟨rfl, hb⟩)
  go_ret
  exact ⟨rfl, hb⟩

theorem hasP_step (l m : List Int) (k : Nat) (h1 : k < l.length) (h2 : k < m.length) : hasP (l.drop k) (m.drop k) = if l.getD k 0 = m.getD k 0 then hasP (l.drop (k + 1)) (m.drop (k + 1)) else false := by
  rw [drop_at l k h1, drop_at m k h2, hasP]
theorem hasP_short : ∀ (l m : List Int), l.length < m.length → hasP l m = false := by
  intro l
  induction l with
  | nil => intro m h; cases m with
    | nil => simp at h
    | cons b t => rfl
  | cons a s ih => intro m h; cases m with
    | nil => simp at h
    | cons b t =>
      rw [hasP]
      split
      · exact ih t (by simp at h; omega)
      · rfl
theorem hasP_nil (l : List Int) : hasP l [] = true := by cases l <;> rfl

set_option maxHeartbeats 1000000 in
set_option maxRecDepth 100000 in
/-- zzHasPrefix(s, p). -/
theorem hasP_walk (a a' : Option Addr) (n c n' c' : Nat) (l m : List Int) (w : World) (hl : Sl w a n l) (hm : Sl w a' n' m) (hn : n ≤ 1048576) (hn' : n' ≤ 1048576) :
    Calls Try.prog 9 #[.slice a n c, .slice a' n' c'] w fun e w' => e = .returned (.bool (hasP l m)) ∧ Below w.heap.size w w' := by
  by_cases hlt : n < n'
  · rw [hasP_short l m (by have := hl.1; have := hm.1; omega)]
    clear hl hm
    go_enter Try.func9, Try.ntmps9
    go_wp2
    go_ret
    exact ⟨rfl, Below.refl _ _⟩
  · obtain ⟨R, hR⟩ : ∃ R, R = hasP l m := ⟨_, rfl⟩
    rw [← hR]
    have HR : Hid (R = hasP l m) := hR
    clear hR
    go_enter Try.func9, Try.ntmps9
    go_wp2
    go_loopw [5] (fun si wr => ∃ k : Nat, k ≤ n' ∧ si = .int .i64 k ∧ Hid (hasP (l.drop k) (m.drop k) = R) ∧ Below w.heap.size w wr) (fun si _ => n' - (intOf si).toNat)
    case atStart => exact ⟨0, by omega, rfl, by rw [HR.out]; rfl, Below.refl _ _⟩
    case round =>
      obtain ⟨k, hk, rfl, HI, hb⟩ := hrel
      by_cases hkn : k < n'
      · obtain ⟨b, o, rfl, hc⟩ := (hl.below hb).2 (by omega)
        obtain ⟨b', o', rfl, hc'⟩ := (hm.below hb).2 (by omega)
        have g1 := hc k (by omega)
        have g2 := hc' k (by omega)
        have hs := hasP_step l m k (by have := hl.1; omega) (by have := hm.1; omega)
        rw [HI.out] at hs
        obtain ⟨x, hx⟩ : ∃ x, x = l.getD k 0 := ⟨_, rfl⟩
        obtain ⟨y, hy⟩ : ∃ y, y = m.getD k 0 := ⟨_, rfl⟩
        rw [← hx] at g1 hs
        rw [← hy] at g2 hs
        clear hx hy hc hc' HI hl hm HR
        have hi1 : (k : Int) < (n : Int) := by omega
        have hi2 : (k : Int) < (n' : Int) := by omega
        by_cases hxy : x = y
        · rw [if_pos hxy] at hs
          have HS : Hid _ := hs
          clear hs
          subst hxy
          go_wp2
          go_quiet (fail)
          go_wp2
          go_roundw
          case rel => exact ⟨k + 1, by omega, by go_num, HS.out.symm, below_drewN hb _⟩
          case measure => simp [intOf]; omega
        · rw [if_neg hxy] at hs
          have q1 : (x == y) = false := by simpa using hxy
          have q2 : (x != y) = true := by simpa using hxy
          clear hxy
          subst hs
          go_wp2
          go_quiet (fail)
          go_wp2
          go_ret
          exact ⟨rfl, below_drewN hb _⟩
      · have hRR := HI.out
        have l2 := hm.1
        have hd : m.drop k = [] := List.drop_eq_nil_of_le (by omega)
        rw [hd, hasP_nil] at hRR
        clear HI HR hl hm hd l2
        subst hRR
        go_wp2
        go_ret
        exact ⟨rfl, hb⟩

set_option maxHeartbeats 400000 in
/-- zzInRange(start, end, k): no upper bound, or one. -/
theorem range_walk (a a' a'' : Option Addr) (n c n' c' n'' c'' : Nat) (st en key : List Int) (w : World) (h1 : Sl w a n st) (h2 : Sl w a' n' en) (h3 : Sl w a'' n'' key) (hn : n ≤ 1048576) (hn' : n' ≤ 1048576) (hn'' : n'' ≤ 1048576) :
    Calls Try.prog 8 #[.slice a n c, .slice a' n' c', .slice a'' n'' c''] w fun e w' => e = .returned (.bool (decide (0 ≤ cmp key st ∧ (en = [] ∨ cmp key en < 0)))) ∧ Below w.heap.size w w' := by
  have C1 := hide (cmp_walk a'' a n'' c'' n c key st w h3 h1 hn'' hn)
  have C2 := hide (fun w1 (hb : Below w.heap.size w w1) => cmp_walk a'' a' n'' c'' n' c' key en w1 (h3.below hb) (h2.below hb) hn'' hn')
  have hen : en.length = n' := h2.1
  obtain ⟨A, hA⟩ : ∃ A, A = cmp key st := ⟨_, rfl⟩
  obtain ⟨E, hE⟩ : ∃ E, E = cmp key en := ⟨_, rfl⟩
  rw [← hA, ← hE]
  have HA : Hid _ := hA
  have HE : Hid _ := hE
  clear hA hE h1 h2 h3
  by_cases q1 : A < 0
  · have e : decide (0 ≤ A ∧ (en = [] ∨ E < 0)) = false := by simp; omega
    rw [e]
    clear e hen
    go_enter Try.func8, Try.ntmps8
    go_wp2_with (go_at_call 12; refine C1.out.mono ?_; rw [← HA.out]; rintro e w' ⟨rfl, hb⟩)
    go_ret
    exact ⟨rfl, hb⟩
  · by_cases q2 : n' = 0
    · have e : decide (0 ≤ A ∧ (en = [] ∨ E < 0)) = true := by
        have : en = [] := List.eq_nil_of_length_eq_zero (by omega)
        simp [this]; omega
      rw [e]
      clear e hen
      subst q2
      go_enter Try.func8, Try.ntmps8
      go_wp2_with (go_at_call 12; refine C1.out.mono ?_; rw [← HA.out]; rintro e w' ⟨rfl, hb⟩)
      go_ret
      exact ⟨rfl, hb⟩
    · have e : decide (0 ≤ A ∧ (en = [] ∨ E < 0)) = decide (E < 0) := by
        have : en ≠ [] := by intro h; rw [h] at hen; exact q2 (by simpa using hen.symm)
        simp [this]; omega
      rw [e]
      clear e hen
      have q3 : ((n' : Int) == 0) = false := by rw [beq_eq_false_iff_ne]; omega
      go_enter Try.func8, Try.ntmps8
      go_wp2_with fail
      refine C1.out.mono ?_
      rw [← HA.out]
      rintro e w1 ⟨rfl, hb1⟩
      go_wp2_with fail
      refine (C2.out w1 hb1).mono ?_
      rw [← HE.out]
      rintro e w2 ⟨rfl, hb2⟩
      go_wp2
      go_ret
      exact ⟨rfl, hb1.trans (hb2.mono hb1.size)⟩

theorem allFF_step (l : List Int) (k : Nat) (h : k < l.length) : allFF (l.drop k) = if l.getD k 0 = 255 then allFF (l.drop (k + 1)) else false := by
  rw [drop_at l k h]
  generalize l.getD k 0 = x
  by_cases h : x = 255 <;> simp [allFF, h]
set_option maxHeartbeats 1000000 in
set_option maxRecDepth 100000 in
theorem ff_walk (a : Option Addr) (n c : Nat) (l : List Int) (w : World) (hl : Sl w a n l) (hn : n ≤ 1048576) :
    Calls Try.prog 11 #[.slice a n c] w fun e w' => e = .returned (.bool (allFF l)) ∧ w' = w := by
  obtain ⟨R, hR⟩ : ∃ R, R = allFF l := ⟨_, rfl⟩
  rw [← hR]
  have HR : Hid (R = allFF l) := hR
  clear hR
  go_enter Try.func11, Try.ntmps11
  go_wp2
  go_loop [3] (fun si => ∃ k : Nat, k ≤ n ∧ si = .int .i64 k ∧ Hid (allFF (l.drop k) = R)) (fun si => n - (intOf si).toNat)
  case atStart => exact ⟨0, by omega, rfl, by rw [HR.out]; rfl⟩
  case round =>
    obtain ⟨k, hk, rfl, HI⟩ := hrel
    by_cases hkn : k < n
    · obtain ⟨b, o, rfl, hc⟩ := hl.2 (by omega)
      have g1 := hc k (by omega)
      have hs := allFF_step l k (by have := hl.1; omega)
      rw [HI.out] at hs
      obtain ⟨x, hx⟩ : ∃ x, x = l.getD k 0 := ⟨_, rfl⟩
      rw [← hx] at g1 hs
      clear hx hc HI hl HR
      by_cases hxy : x = 255
      · rw [if_pos hxy] at hs
        have HS : Hid _ := hs
        clear hs
        subst hxy
        go_wp2
        go_round
        case rel => exact ⟨k + 1, by omega, by go_num, HS.out.symm⟩
        case measure => simp [intOf]; omega
      · rw [if_neg hxy] at hs
        have q1 : (x == 255) = false := by simpa using hxy
        have q2 : (x != 255) = true := by simpa using hxy
        clear hxy
        subst hs
        go_wp2
        go_ret
        exact ⟨rfl, rfl⟩
    · have hRR := HI.out
      have l2 := hl.1
      have hd : l.drop k = [] := List.drop_eq_nil_of_le (by omega)
      rw [hd] at hRR
      have e : R = true := hRR.symm
      clear HI HR hl hd l2 hRR
      subst e
      go_wp2
      go_ret
      exact ⟨rfl, rfl⟩
end Go.Proofs.Qxb6629232a
