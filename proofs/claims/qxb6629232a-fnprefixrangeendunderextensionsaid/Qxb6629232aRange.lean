/-
  slices.Clone's contract at bytes; PrefixRange's.
-/
import Derived.Test.Qxb6629232aSmall
import Derived.Laws.CopyOwn
import Derived.Lib.SliceRun
import Derived.Deep.RegionWith
import Derived.WalkSpells
import Derived.Laws.AppendOwnNone
namespace Go.Proofs.Qxb6629232a
open Go.RowKit
theorem Try.info5 : (Try.prog.info? 5).map (fun i => (i.zero, i.size, i.bytes)) = some (some (.int .u8 0), 1, 1) := by kernel_rfl
theorem Try.size5 : (Try.prog.info? 5).map (·.size) = some 1 := by kernel_rfl

theorem addr_add (b o j : Nat) : (⟨b, o, none⟩ : Addr).add j = ⟨b, o + j, none⟩ := by unfold Addr.add; split <;> simp_all
/-- The slice value v owns a row of the bytes l. -/
def Own (B : Nat) (v : Value) (l : List Int) (w : World) : Prop := w.ownsRow B 5 1 v l.length (l.map (Value.int .u8))
theorem Own.form {B : Nat} {v : Value} {l : List Int} {w : World} (h : Own B v l w) : ∃ ao cap, v = .slice ao l.length cap ∧ Sl w ao l.length l ∧ (ao = none → l = []) := by
  unfold Own at h
  rcases h.2 with ⟨rfl, h0⟩ | ⟨g, cap, cur, rfl, _, hg, _⟩
  · have : l = [] := by simpa using h0
    subst this
    exact ⟨none, 0, rfl, ⟨rfl, fun h => by simp at h⟩, fun _ => rfl⟩
  · refine ⟨_, cap, rfl, ⟨rfl, fun _ => ⟨g, 0, rfl, fun i hi => ?_⟩⟩, fun h => by cases h⟩
    have := h.cells (g := g) rfl i (.int .u8 (l.getD i 0)) (by simp [List.getD, hi])
    simpa [addr_add] using this

theorem Sl.news {w : World} {x : Addr} {n : Nat} {m : List Int} (h : Sl w (some x) n m) : ∀ (j : Nat) (u : Value), (m.map (Value.int .u8))[j]? = some u → w.cell? (x.add j) = some u := by
  intro j u hj
  have hjl : j < m.length := by have := (List.getElem?_eq_some_iff.1 hj).1; simpa using this
  obtain ⟨b, o, hx, hc⟩ := h.2 (by have := h.1; omega)
  cases hx
  have hv := hc j (by have := h.1; omega)
  simp [hjl] at hj
  rw [← hj]
  simpa [addr_add, List.getD, hjl] using hv
theorem Sl.alloc {w : World} {ao : Option Addr} {n : Nat} {m : List Int} (h : Sl w ao n m) (o : Obj) : Sl (w.alloc o) ao n m := h.below ((Below.refl _ w).alloc (Nat.le_refl _) o)

/-- 'append(v, s...)' onto a row that the call owns. -/
theorem wp_app {ops : Array Oper} {rest : List Oper} {o : Oper} {a : Act} {Q : Exit → Act → World → Prop} (hgd : o.guard = none) (s x : Operand)
    (ho : o.op = .call { callee := .builtin .append, args := #[s, x], argTypes := #[22, 22] }) (B : Nat) {v : Value} (l : List Int) (w : World) (hown : Own B v l w) (hs : a.eval s = v)
    (ao : Option Addr) (n c : Nat) (m : List Int) (hm : Sl w ao n m) (hnil : ao = none → n = 0 ∧ c = 0) (hx : a.eval x = .slice ao n c) (hlen : l.length + n ≤ 4194304) (hB : B ≤ w.heap.size)
    (h : ∀ v' w', Own B v' (l ++ m) w' → Below B w w' → wpList Try.prog ops Q rest (a.put o.dst v') w') : wpList Try.prog ops Q (o :: rest) a w := by
  obtain ⟨i0, hi, hz0, hz1, hz2⟩ := info_parts Try.info5
  unfold Own at hown h
  cases ao with
  | none =>
    obtain ⟨rfl, rfl⟩ := hnil rfl
    have e : m = [] := List.eq_nil_of_length_eq_zero hm.1
    subst e
    refine wpList_append_own_none hgd s x 22 ho B 5 i0 1 Try.underlying22 hi v l.length _ hs hown hx ?_
    refine h v w ?_ (Below.refl _ _)
    rw [List.append_nil]; exact hown
  | some ad =>
    refine wpList_append_own _ hgd s x 22 ho B 5 i0 (.int .u8 0) 1 1 Try.underlying22 hi hz0 hz1 hz2 rfl (by decide) v l.length _ hs hown ad n c (m.map (Value.int .u8)) hx (by simp [hm.1]) hm.news ?_ (by unfold maxLen; omega) (by omega) hB ?_
    · intro u hu; simp only [List.mem_map] at hu; obtain ⟨z, _, rfl⟩ := hu; rfl
    · intro v' w' h1 h2 _
      refine h v' w' ?_ ((Below.refl B w).grown h2 hB (fun k e => (hown.lt k e).1))
      rw [List.map_append, List.length_append, hm.1]
      exact h1

theorem own_empty (w : World) : Own w.heap.size (.slice (some ⟨w.heap.size, 0, none⟩) 0 0) [] (w.alloc (.cells #[] 5)) :=
  World.ownsRow_made w #[] 0 (Nat.le_refl _) (by unfold maxLen; omega) rfl
theorem own_nil (B : Nat) (w : World) : Own B (.slice none 0 0) [] w := World.ownsRow_nil _ _ _ _

set_option maxHeartbeats 400000 in
set_option maxRecDepth 100000 in
/-- slices.Clone: a row of its own, the same bytes. -/
theorem clone_walk (ao : Option Addr) (n c : Nat) (l : List Int) (w : World) (hl : Sl w ao n l) (hnil : ao = none → n = 0 ∧ c = 0) (hn : n ≤ 1048576) :
    Calls Try.prog 13 #[.slice ao n c] w fun e w' => ∃ v, e = .returned v ∧ Own w.heap.size v l w' ∧ Below w.heap.size w w' := by
  have hnn := Lib.run_eql_slice_nil (P := Try.prog)
  cases ao with
  | none =>
    obtain ⟨rfl, rfl⟩ := hnil rfl
    have e : l = [] := List.eq_nil_of_length_eq_zero hl.1
    subst e
    clear hl
    go_enter Try.func13, Try.ntmps13
    go_wp2
    go_ret
    exact ⟨_, rfl, own_nil _ _, Below.refl _ _⟩
  | some x =>
    have HL := hide hl
    clear hl hnil
    go_enter Try.func13, Try.ntmps13
    go_wp2_with (at_builtin; refine wp_app rfl _ _ rfl w.heap.size [] _ (own_empty w) rfl (some x) n c l (HL.out.alloc _) (fun h => by cases h) rfl (by simp only [List.length_nil]; omega) (by simp) ?_)
    intro v' w' h1 h2
    go_wp2
    go_ret
    exact ⟨v', rfl, h1, ((Below.refl _ w).alloc (Nat.le_refl _) _).trans h2⟩

theorem bcell {B : Nat} {W w1 : World} (hb : Below B W w1) : (∀ b o, b < B → w1.cell? ⟨b, o, none⟩ = W.cell? ⟨b, o, none⟩) ∧ (∀ b o, b < B → w1.frozen? ⟨b, o, none⟩ = W.frozen? ⟨b, o, none⟩) :=
  ⟨fun b o h => hb.cell (p := ⟨b, o, none⟩) h, fun b o h => hb.frozen (p := ⟨b, o, none⟩) h⟩
/-- The trailing 0xff bytes that the loop has passed. -/
def Tail (l : List Int) (k : Nat) : Prop := l = l.take k ++ List.replicate (l.length - k) 255
theorem Tail.start (l : List Int) : Tail l l.length := by simp [Tail]
theorem Tail.step (l : List Int) (k : Nat) (h : Tail l (k + 1)) (hk : k < l.length) (hc : l.getD k 0 = 255) : Tail l k := by
  unfold Tail at h ⊢
  have e : l.length - k = (l.length - (k + 1)) + 1 := by omega
  rw [e, List.replicate_succ]
  have e2 : l.take (k + 1) = l.take k ++ [255] := by
    rw [List.take_succ_eq_append_getElem hk]
    congr 2
    simpa [List.getD, hk] using hc
  rw [e2] at h
  simpa using h
theorem Tail.all (l : List Int) (h : Tail l 0) : endOf l = [] := by
  unfold Tail at h
  rw [h]; simpa using endOf_rep _
theorem Tail.at (l : List Int) (k : Nat) (h : Tail l (k + 1)) (hk : k < l.length) (hc : l.getD k 0 ≠ 255) : endOf l = l.take k ++ [l.getD k 0 + 1] := by
  unfold Tail at h
  have e2 : l.take (k + 1) = l.take k ++ [l.getD k 0] := by
    rw [List.take_succ_eq_append_getElem hk]
    simp [List.getD, hk]
  rw [e2] at h
  have h' : l = l.take k ++ l.getD k 0 :: List.replicate (l.length - (k + 1)) 255 := by simpa using h
  generalize hq : l.getD k 0 = q at h' hc ⊢
  generalize hp : l.take k = p at h' ⊢
  rw [h', endOf_at p q _ hc]

theorem Own.row {B : Nat} {eo : Option Addr} {ec : Nat} {l : List Int} {w : World} (h : Own B (.slice eo l.length ec) l w) (h0 : 0 < l.length) :
    ∃ g, eo = some ⟨g, 0, none⟩ ∧ B ≤ g ∧ g < w.heap.size ∧ l.length ≤ ec ∧ ec ≤ maxLen ∧ (∀ i, i < l.length → w.cell? ⟨g, i, none⟩ = some (.int .u8 (l.getD i 0))) ∧ ∀ i, w.frozen? ⟨g, i, none⟩ = false := by
  unfold Own at h
  have hlt := h.lt
  rcases h.2 with ⟨hv, _⟩ | ⟨g, cap, cur, hv, hB, hg, hle, hmx, _⟩
  · simp only [Value.slice.injEq] at hv; omega
  · simp only [Value.slice.injEq, true_and] at hv
    obtain ⟨rfl, rfl⟩ := hv
    refine ⟨g, rfl, hB, (hlt g rfl).2, hle, hmx, fun i hi => ?_, h.frozenAt⟩
    rw [h.cellAt i (by omega)]
    simp [List.getD, hi]
theorem getD_mem (l : List Int) (j : Nat) (h : j < l.length) : l.getD j 0 ∈ l := by simp [List.getD, h]
/-- slices.Clone, its answer's form laid open. -/
theorem clone_form (ao : Option Addr) (n c : Nat) (l : List Int) (w : World) (hl : Sl w ao n l) (hnil : ao = none → n = 0 ∧ c = 0) (hn : n ≤ 1048576) :
    Calls Try.prog 13 #[.slice ao n c] w fun e w' => ∃ s1 c1, e = .returned (.slice s1 n c1) ∧ Hid (Own w.heap.size (.slice s1 n c1) l w') ∧ Below w.heap.size w w' := by
  have hll := hl.1
  refine (clone_walk ao n c l w hl hnil hn).mono ?_
  rintro e w' ⟨v, rfl, hown, hb⟩
  obtain ⟨s1, c1, rfl, _, _⟩ := hown.form
  rw [hll] at hown ⊢
  exact ⟨s1, c1, rfl, hown, hb⟩
/-- A store into another block. -/
theorem Own.setOld {B : Nat} {v : Value} {l : List Int} {w : World} (h : Own B v l w) (p : Addr) (hp : p.block < B) (u : Value) : Own B v l (w.setCell p u) := by
  unfold Own at h ⊢
  refine h.kept (row := some p.block) ⟨rfl, rfl, rfl, by simp [World.setCell], fun k _ hk => Below.heap_setCell _ _ _ _ (fun e => hk (by simp [e]))⟩ (Or.inr ?_)
  intro e
  have := (h.lt _ e).1
  omega
/-- The result's own block, empty yet. -/
def rowR : Obj := .cells #[.slice none 0 0, .slice none 0 0] 25
theorem rowR_facts (w : World) {B : Nat} {w1 : World} (hB : w.heap.size < B) (hb : Below B (w.alloc rowR) w1) :
    w1.cell? ⟨w.heap.size, 0, none⟩ = some (.slice none 0 0) ∧ w1.cell? ⟨w.heap.size, 1, none⟩ = some (.slice none 0 0) ∧ w1.frozen? ⟨w.heap.size, 0, none⟩ = false ∧ w1.frozen? ⟨w.heap.size, 1, none⟩ = false ∧ w.heap.size < w1.heap.size := by
  obtain ⟨h1, h2⟩ := bcell hb
  have hs := hb.size
  refine ⟨?_, ?_, ?_, ?_, ?_⟩
  · rw [h1 _ _ hB]; simp [rowR]
  · rw [h1 _ _ hB]; simp [rowR]
  · rw [h2 _ _ hB]; simp [rowR]
  · rw [h2 _ _ hB]; simp [rowR]
  · simp at hs; omega

theorem far (w : World) (p q : Addr) (v : Value) (h : q.block ≠ p.block) : (w.setCell p v).cell? q = w.cell? q := World.cell?_of_block (w := w) (Below.heap_setCell w p v q.block h)
/-- The end's own cells, behind the last stores. -/
theorem end_cells {w1 W w3 : World} {g j R : Nat} {q : Int} {l : List Int} (hj : j < l.length) (hgR : R ≠ g) (hgw : g < w1.heap.size) (hW : W = w1.setCell ⟨g, j, none⟩ (.int .u8 (q + 1)))
    (hc : ∀ i, i < l.length → w1.cell? ⟨g, i, none⟩ = some (.int .u8 (l.getD i 0))) (hb : Below W.drew.heap.size W.drew w3) (v1 v2 : Value) :
    Sl ((w3.setCell ⟨R, 0, none⟩ v1).setCell ⟨R, 1, none⟩ v2) (some ⟨g, 0, none⟩) (j + 1) (l.take j ++ [q + 1]) := by
  refine ⟨by simp; omega, fun _ => ⟨g, 0, rfl, fun i hi => ?_⟩⟩
  have hsz : W.drew.heap.size = w1.heap.size := by rw [hW]; simp [World.setCell, World.drew]
  rw [far _ _ _ _ (by simpa using Ne.symm hgR), far _ _ _ _ (by simpa using Ne.symm hgR), Nat.zero_add, hb.cell (p := ⟨g, i, none⟩) (by rw [hsz]; exact hgw)]
  show W.cell? _ = _
  rw [hW]
  by_cases e : i = j
  · subst e
    have hsame : ∀ v, (w1.setCell ⟨g, i, none⟩ v).cell? ⟨g, i, none⟩ = some v := fun v => World.cell?_setCell_same' w1 _ v (by rw [hc i hj]; rfl)
    rw [hsame]
    have e2 : (l.take i ++ [q + 1]).getD i 0 = q + 1 := by
      simp only [List.getD]
      rw [List.getElem?_append_right (by simp; omega)]
      have e3 : i - (l.take i).length = 0 := by simp; omega
      rw [e3]; rfl
    rw [e2]
  · have ho : ∀ v, (w1.setCell ⟨g, j, none⟩ v).cell? ⟨g, i, none⟩ = w1.cell? ⟨g, i, none⟩ := fun v => World.cell?_setCell_other w1 _ _ v (fun h => e (by cases h; rfl))
    rw [ho, hc i (by omega)]
    have e2 : (l.take j ++ [q + 1]).getD i 0 = l.getD i 0 := by
      simp only [List.getD]
      rw [List.getElem?_append_left (by simp; omega), List.getElem?_take, if_pos (by omega)]
    rw [e2]
/-- 'end[:j+1]'. -/
theorem cut_end (g n ec j : Nat) (h : j + 1 ≤ ec) (X : World) :
    (Instr.slice 22 (.slice (some ⟨g, 0, none⟩) n ec) none (some (.int .i64 ((j : Int) + 1))) none).run Try.prog X = .ok (.slice (some ⟨g, 0, none⟩) (j + 1) ec) X := by
  have ht : Try.prog.underlying 22 = some (.slice (Try.prog.elem 22)) := by kernel_rfl
  have hz : ∀ X, (sizeOf (Try.prog.elem 22)).run Try.prog X = .ok 1 X := fun X => by
    have e : Try.prog.elem 22 = 5 := by kernel_rfl
    rw [e]; exact Try.sizeOf5 X
  rw [run_slice_h (P := Try.prog) X 22 (some ⟨g, 0, none⟩) n ec ht .i64 ((j : Int) + 1) (by omega) (by omega), hz]
  have e : ((j : Int) + 1).toNat = j + 1 := by omega
  simp [Result.andThen, sliced, e]
  intro _
  simp [addr_add]

set_option maxHeartbeats 400000 in
set_option maxRecDepth 100000 in
theorem prefix_walk (ao : Option Addr) (n c : Nat) (l : List Int) (w : World) (hl : Sl w ao n l) (hnil : ao = none → n = 0 ∧ c = 0) (hby : Bytes l) (hn : n ≤ 1048576) :
    Calls Try.prog 6 #[.slice ao n c] w fun e w' => ∃ s1 c1 s2 n2 c2, e = .returned (.agg #[.slice s1 n c1, .slice s2 n2 c2]) ∧ Sl w' s1 n l ∧ Sl w' s2 n2 (endOf l) ∧ n2 ≤ n ∧ Below w.heap.size w w' := by
  have HL := hide hl
  have hll : l.length = n := hl.1
  have HB := hide hby
  have HNIL := hide hnil
  clear hl hby hnil
  go_enter Try.func6, Try.ntmps6
  go_wp2_with fail
  refine (clone_walk ao n c l _ (HL.out.alloc _) HNIL.out hn).mono ?_
  rintro e w1 ⟨v, rfl, hown, hb1⟩
  obtain ⟨eo, ec, rfl, hsl, henil⟩ := hown.form
  have HOWN := hide hown
  have HSL := hide hsl
  clear hown hsl
  have HLL := hide hll
  rw [hll]
  clear hll
  go_wp2_with fail
  go_loop [4] (fun si => ∃ i : Int, si = .int .i64 i ∧ -1 ≤ i ∧ i < n ∧ Hid (Tail l (i + 1).toNat)) (fun si => (intOf si + 1).toNat)
  case atStart =>
    refine ⟨_, rfl, by omega, by omega, ?_⟩
    have e : ((n : Int) - 1 + 1).toNat = l.length := by rw [HLL.out]; omega
    rw [e]; exact Tail.start l
  case round =>
    obtain ⟨i, rfl, h1, h2, HT⟩ := hrel
    by_cases h0 : 0 ≤ i
    · obtain ⟨j, rfl⟩ : ∃ j : Nat, i = (j : Int) := ⟨i.toNat, by omega⟩
      have ell : l.length = n := HLL.out
      obtain ⟨g, rfl, hBg, hgw, hle, hmx, hcs, hfs⟩ := HOWN.out.row (by omega)
      have hT : Tail l (j + 1) := by
        have h := HT.out
        have e : ((j : Int) + 1).toNat = j + 1 := by omega
        rw [e] at h; exact h
      have hcj := hcs j (by omega)
      have hfj := hfs j
      have hbj : 0 ≤ l.getD j 0 ∧ l.getD j 0 ≤ 255 := HB.out _ (getD_mem l j (by omega))
      have hT1 := Tail.step l j hT (by omega)
      have hT2 := Tail.at l j hT (by omega)
      obtain ⟨q, hq⟩ : ∃ q, q = l.getD j 0 := ⟨_, rfl⟩
      rw [← hq] at hcj hbj hT1 hT2
      have HQ := hide hq
      have HCS := hide hcs
      have hle' : n ≤ ec := by omega
      clear hq hcs hfs hT HT ell hle henil
      unfold maxLen at hmx
      simp at hBg
      by_cases hc : q = 255
      · have HT1 := hide (hT1 hc)
        clear hT1 hT2
        subst hc
        go_wp2
        go_round
        case rel =>
          refine ⟨(j : Int) - 1, by go_num, by omega, by omega, ?_⟩
          have e : ((j : Int) - 1 + 1).toNat = j := by omega
          rw [e]; exact HT1.out
        case measure => simp [intOf]
      · have HT2 := hide (hT2 hc)
        have q1 : (q == 255) = false := by simpa using hc
        have q2 : (q != 255) = true := by simpa using hc
        have q3 : q ≤ 254 := by omega
        have q4 : 0 ≤ q := hbj.1
        clear hT1 hT2 hc hbj
        go_wp2
        obtain ⟨W, hW⟩ : ∃ W, W = w1.setCell ⟨g, j, none⟩ (.int .u8 (q + 1)) := ⟨_, rfl⟩
        rw [← hW]
        have hbW : Below (w.heap.size + 1) (w.alloc rowR) W := by rw [hW]; exact (hb1.mono (by simp)).setCell hBg _
        have HLW : Hid (Sl W ao n l) := HL.out.below (((Below.refl _ w).alloc (Nat.le_refl _) _).trans (hbW.mono (by omega)))
        have HBW := hide hbW
        have hszW : w.heap.size + 1 ≤ W.heap.size := by have h := hbW.size; simp at h; exact h
        have hj1 : (j : Int) + 1 ≤ (ec : Int) := by omega
        have hcut := cut_end g n ec j (by omega)
        have hwr : IntKind.i64.wrap ((j : Int) + 1) = (j : Int) + 1 := by rw [IntKind.wrap_i64]; omega
        have hj2 : (j : Int) + 1 ≤ (n : Int) := by omega
        have hsW : W.heap.size = w1.heap.size := by rw [hW]; simp [World.setCell]
        have HSW := hide hsW
        have HW := hide hW
        clear hW hbW hsW
        go_region_with (go_at_call 13; refine (clone_form ao n c l _ ?_ HNIL.out hn).mono ?_; exact HLW.out.below (Below.refl _ W).drew; rintro e w3 ⟨s1, c1, rfl, HO3, hb3⟩; obtain ⟨r1, r2, r3, r4, r5⟩ := rowR_facts w (Nat.lt_succ_self _) (HBW.out.trans ((Below.refl _ W).drew.trans (hb3.mono hszW))))
        all_goals
          go_wp2
          refine bodyPost_ret (v := .agg #[.slice s1 n c1, .slice (some ⟨g, 0, none⟩) (j + 1) ec]) (by simp [results, Try.results6, go_sem, r1, r2]) rfl ⟨s1, c1, some ⟨g, 0, none⟩, j + 1, ec, rfl, ?_, ?_, by omega, ?_⟩
          · have e := HLL.out
            have h3 := HO3.out
            rw [← e] at h3
            have h := ((h3.setOld ⟨w.heap.size, 0, none⟩ (by show w.heap.size < W.heap.size; omega) (.slice s1 n c1)).setOld ⟨w.heap.size, 1, none⟩ (by show w.heap.size < W.heap.size; omega) (.slice (some ⟨g, 0, none⟩) (j + 1) ec)).form
            obtain ⟨a2, cap2, he, hs, _⟩ := h
            cases he
            rw [e] at hs; exact hs
          · rw [HT2.out]
            exact end_cells (by have := HLL.out; omega) (by omega) hgw HW.out HCS.out hb3 _ _
          · exact ((((Below.refl _ w).alloc (Nat.le_refl _) _).trans ((HBW.out.mono (by omega)).trans ((Below.refl _ W).drew.trans (hb3.mono (by show w.heap.size ≤ W.heap.size; omega))))).setCell (Nat.le_refl _) _).setCell (Nat.le_refl _) _
    · have ei : i = -1 := by omega
      subst ei
      have het : endOf l = [] := Tail.all l HT.out
      have HET := hide het
      clear het henil
      go_wp2_with fail
      refine (clone_walk ao n c l _ (HL.out.below (((Below.refl _ w).alloc (Nat.le_refl _) _).trans (hb1.mono (by simp)))) HNIL.out hn).mono ?_
      rintro e w2 ⟨v2, rfl, hown2, hb2⟩
      obtain ⟨s1, c1, rfl, hsl1, _⟩ := hown2.form
      have hb12 : Below (w.heap.size + 1) (w.alloc rowR) w2 := by
        have hs := hb1.size
        simp at hs
        exact (hb1.mono (by simp)).trans (hb2.mono (by omega))
      obtain ⟨r1, r2, r3, r4, r5⟩ := rowR_facts w (by omega) hb12
      have HOWN2 := hide hown2
      have HB12 := hide hb12
      have hs1 := hb1.size
      simp at hs1
      clear hown2 hsl1 hb2 hb12
      have ell : l.length = n := HLL.out
      rw [ell]
      clear ell
      go_wp2
      refine bodyPost_ret (v := .agg #[.slice s1 n c1, .slice none 0 0]) (by simp [results, Try.results6, go_sem, r1, r2]) rfl ⟨s1, c1, none, 0, 0, rfl, ?_, ?_, Nat.zero_le _, ?_⟩
      · have h := ((HOWN2.out.setOld ⟨w.heap.size, 0, none⟩ (by show w.heap.size < _; omega) (.slice s1 n c1)).setOld ⟨w.heap.size, 1, none⟩ (by show w.heap.size < _; omega) (.slice none 0 0)).form
        obtain ⟨a2, cap2, he, hs, _⟩ := h
        cases he
        have e := HLL.out
        rw [e] at hs; exact hs
      · rw [HET.out]; exact ⟨rfl, fun h => by omega⟩
      · exact ((((Below.refl _ w).alloc (Nat.le_refl _) _).trans (HB12.out.mono (by omega))).setCell (Nat.le_refl _) _).setCell (Nat.le_refl _) _
end Go.Proofs.Qxb6629232a
