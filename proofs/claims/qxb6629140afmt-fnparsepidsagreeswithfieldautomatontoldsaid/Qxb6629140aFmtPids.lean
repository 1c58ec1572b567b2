/-
  ParsePids's contract.
-/
import Derived.Test.Qxb6629140aFmtShelf
import Derived.Test.Qxb6629140aFmtErr
import Derived.Test.Qxb6629140aFmtPlain
namespace Go.Proofs.Qxb6629140aFmt
open Go.RowKit Go.Extern.Stop Go.Stop Go.Extern Go.Lib
theorem hide {p : Prop} (h : p) : Hid p := h
theorem Tryf.info3 : (Tryf.prog.info? 3).map (fun i => (i.zero, i.size, i.bytes)) = some (some (.int .i64 0), 1, 8) := by kernel_rfl

/-- The slice value v owns, from block B on, a row of the ints l; it is nil just where there is none. -/
def OwnI (B : Nat) (v : Value) (l : List Int) (w : World) : Prop := w.ownsRow B 3 1 v l.length (l.map (Value.int .i64)) ∧ (v = .slice none 0 0 ↔ l = [])
theorem ownI_nil (B : Nat) (w : World) : OwnI B (.slice none 0 0) [] w := ⟨World.ownsRow_nil _ _ _ _, by simp⟩
/-- What the road asks of memory: the tables and sentinels of the library, each where it lies. -/
structure Lib0 (w : World) : Prop where
  tab : Lib.TabIs Tryf.prog w "strings.asciiSpace" .u8 Lib.asciiSpaceTab
  white : Lib.WhiteTab 1 w
  s2 : ∃ t p, w.cell? ⟨2, 0, none⟩ = some (.iface t p)
  s3 : ∃ t p, w.cell? ⟨3, 0, none⟩ = some (.iface t p)

theorem OwnI.below {B : Nat} {v : Value} {l : List Int} {w w' : World} (h : OwnI B v l w) (hb : Below w.heap.size w w') : OwnI B v l w' := by
  refine ⟨h.1.kept (row := none) ⟨hb.os, hb.tape, hb.output, hb.size, fun k hk _ => hb.block k hk⟩ ?_, h.2⟩
  cases hv : v.ownBlock with
  | none => exact Or.inl rfl
  | some g => exact Or.inr (by simp)
theorem OwnI.base {B B' : Nat} {v : Value} {l : List Int} {w : World} (h : OwnI B v l w) (hB : B' ≤ B) : OwnI B' v l w := by
  refine ⟨⟨h.1.1, ?_⟩, h.2⟩
  rcases h.1.2 with h1 | ⟨g, cap, cur, h1, h2, h3⟩
  · exact Or.inl h1
  · exact Or.inr ⟨g, cap, cur, h1, by omega, h3⟩
theorem pids_step (L : List (List UInt8)) (k : Nat) (acc : List Int) (f : List UInt8) (v : Int) (hd : L.drop k = f :: L.drop (k + 1)) (hv : val f = some v) (hp : pids L = (pids (L.drop k)).map (acc ++ ·)) :
    pids L = (pids (L.drop (k + 1))).map ((acc ++ [v]) ++ ·) := by
  rw [hp, hd, pids, hv]
  cases pids (L.drop (k + 1)) <;> simp
theorem pids_stop (L : List (List UInt8)) (k : Nat) (acc : List Int) (f : List UInt8) (hd : L.drop k = f :: L.drop (k + 1)) (hv : val f = none) (hp : pids L = (pids (L.drop k)).map (acc ++ ·)) : pids L = none := by
  rw [hp, hd, pids, hv]; rfl
theorem wp_push {ops : Array Oper} {rest : List Oper} {o : Oper} {a : Act} {Q : Exit → Act → World → Prop} (hgd : o.guard = none) (s x : Operand)
    (ho : o.op = .call { callee := .builtin .append, args := #[s, x], argTypes := #[23, 23] }) (B : Nat) {v : Value} (l : List Int) (wr : World)
    (hown : OwnI B v l wr) (hs : a.eval s = v) (c : Int) (hx : a.eval x = .slice (some ⟨wr.heap.size, 0, none⟩) 1 1)
    (hlen : l.length + 1 ≤ 4194304) (hB : B ≤ wr.heap.size)
    (h : ∀ v' w', Hid (OwnI B v' (l ++ [c]) w') → Below B wr w' → wpList Tryf.prog ops Q rest (a.put o.dst v') w') :
    wpList Tryf.prog ops Q (o :: rest) a (wr.alloc (.cells #[.int .i64 c] 3)) := by
  obtain ⟨i0, hi, hz0, hz1, hz2⟩ := info_parts Tryf.info3
  obtain ⟨hown, _⟩ := hown
  refine wpList_append_own _ hgd s x 23 ho B 3 i0 (.int .i64 0) 1 8 Tryf.underlying23 hi hz0 hz1 hz2 rfl (by decide) v l.length _ hs (hown.alloc _) ⟨wr.heap.size, 0, none⟩ 1 1 [.int .i64 c] hx rfl ?_ ?_ ?_ ?_ ?_ ?_
  · intro j u hj
    match j, hj with
    | 0, hj => simp at hj; subst hj; simp [Addr.add]
  · intro u hu; simp at hu; subst hu; rfl
  · unfold maxLen; omega
  · omega
  · simp; omega
  · intro v' w' h1 h2 h3
    refine h v' w' ⟨?_, ?_⟩ (((Below.refl B wr).alloc hB _).grown h2 (by simp; omega) (fun k e => (hown.lt k e).1))
    · rw [List.map_append, List.length_append]; exact h1
    · rw [h3]; simp

theorem field_at (L : List (List UInt8)) (k : Nat) (h : k < L.length) : L.drop k = L.getD k [] :: L.drop (k + 1) := by
  rw [List.drop_eq_getElem_cons h]; simp [List.getD, h]

set_option maxHeartbeats 400000 in
set_option maxRecDepth 100000 in
theorem pids_walk (F : Interp) (nm text : ByteArray) (w : World) (hF : F.answers w.tape) (hs : text.size ≤ 2097152) (hlib : Lib0 w) :
    Calls Tryf.prog 6 #[.string nm, .string text] w fun e w' => Below w.heap.size w w' ∧
      ((∃ vs v, pids (fieldsD text.data.toList) = some vs ∧ e = .returned (.tuple #[v, .nilIface]) ∧ OwnI w.heap.size v vs w') ∨
       (∃ p, pids (fieldsD text.data.toList) = none ∧ e = .returned (.tuple #[.slice none 0 0, .iface 60 p]))) := by
  have hfl := fields_len text.data.toList
  have hfc := fields_count text.data.toList
  obtain ⟨L, hL⟩ : ∃ L, L = fieldsD text.data.toList := ⟨_, rfl⟩
  have CF := hide (Tryf.strings_Fields_any text w (by omega) hlib.tab hlib.white)
  rw [← hL] at CF hfl hfc ⊢
  obtain ⟨t2, p2, hs2⟩ := hlib.s2
  obtain ⟨t3, p3, hs3⟩ := hlib.s3
  have S2 := hide hs2
  have S3 := hide hs3
  have HF := hide hF
  have HFL := hide hfl
  have hLn : L.length ≤ 2097153 := by
    have e : text.data.toList.length = text.size := by simp
    omega
  clear hlib hs2 hs3 hF hL hfl hfc
  go_enter Tryf.func6, Tryf.ntmps6
  go_wp2_with fail
  refine CF.out.mono ?_
  rintro e w1 ⟨A, rfl, hA, hown, hb1⟩
  have hAl := (hown.lt A rfl).2
  have hcell : Hid (∀ i, i < L.length → w1.cell? ⟨A, i, none⟩ = some (.string ⟨(L.getD i []).toArray⟩)) := by
    intro i hi
    rw [hown.cellAt i (by omega)]
    simp [List.getD, hi]
  have m1 := hb1.size
  have B1 := hide hb1
  clear hown hb1
  obtain ⟨C, hC⟩ : ∃ C, C = w1.heap.size := ⟨_, rfl⟩
  have HC := hide hC
  have hCw : w.heap.size ≤ C := by omega
  have hAC : A < C := by omega
  clear hC CF
  go_wp2_with fail
  go_loopw [6, 14] (fun v si wr => ∃ (k : Nat) (acc : List Int), k ≤ L.length ∧ si = .int .i64 k ∧ acc.length = k ∧ Hid (pids L = (pids (L.drop k)).map (acc ++ ·)) ∧ Hid (OwnI C v acc wr) ∧ Hid (Below C w1 wr)) (fun _ si _ => L.length - (intOf si).toNat)
  case atStart =>
    refine ⟨0, [], Nat.zero_le _, rfl, rfl, ?_, ownI_nil _ _, Below.refl _ _⟩
    show pids L = _
    cases h : pids L <;> simp [h]
  case round =>
    obtain ⟨k, acc, hk, rfl, hak, HP, HO, HBW⟩ := hrel
    have mC := HBW.out.size
    have hCr : C ≤ wr.heap.size := by rw [HC.out]; exact mC
    have hwr : Hid (Below w.heap.size w wr) := B1.out.trans (HBW.out.mono hCw)
    by_cases hlt : k < L.length
    · have hck := (HBW.out.cell (p := ⟨A, k, none⟩) hAC).trans (hcell.out k hlt)
      obtain ⟨f, hf⟩ : ∃ f, f = L.getD k [] := ⟨_, rfl⟩
      rw [← hf] at hck
      have hd := field_at L k hlt
      rw [← hf] at hd
      have HD := hide hd
      have hfs : f.length ≤ 2097152 := by
        have hm : f ∈ L := by rw [hf]; simp [List.getD, hlt]
        have := HFL.out f hm
        have e : text.data.toList.length = text.size := by simp
        omega
      obtain ⟨fb, hfb⟩ : ∃ fb : ByteArray, fb = ⟨f.toArray⟩ := ⟨_, rfl⟩
      rw [← hfb] at hck
      have hfl : fb.data.toList = f := by rw [hfb]
      have hfz : fb.size ≤ 2097152 := by rw [Lib.size_eq, hfl]; exact hfs
      have FL := hide hfl
      clear hf hd hfb hfl hfs
      have hkI : (k : Int) < (L.length : Int) := by omega
      cases hv : val f with
      | some v =>
        have hat := val_ok hv
        have CA := hide (Tryf.strconv_Atoi_ok fb (by omega) v (by rw [FL.out]; exact hat))
        have HV := hide hv
        clear hv hat
        go_wp2_with fail
        refine (CA.out wr).mono ?_
        rintro e w2 ⟨rfl, hw2⟩
        have hb2 : Below wr.heap.size wr w2 := by
          rcases hw2 with rfl | ⟨t, rfl⟩
          · exact Below.refl _ _
          · exact Lib.bytesWorld_below _ _ _
        have m2 := hb2.size
        have B2 := hide hb2
        clear hw2 hb2
        go_wp2_with (at_builtin; refine wp_push rfl _ _ rfl C acc w2 (HO.out.below B2.out) rfl v rfl (by omega) (by omega) ?_)
        intro v3 w3 HO3 hb3
        have B3 := hide hb3
        clear hb3
        go_wp2
        go_roundw
        case rel =>
          exact ⟨k + 1, acc ++ [v], by omega, by go_num, by simp [hak], pids_step L k acc f v HD.out HV.out HP.out, HO3.out, HBW.out.trans ((B2.out.mono hCr).trans B3.out)⟩
        case measure => simp [intOf]; omega
      | none =>
        have hnv := val_none hv
        have HV := hide hv
        have c2 := ((hwr.out.cell (p := ⟨2, 0, none⟩) (World.block_lt_of_cell? _ _ S2.out)).trans S2.out)
        have c3 := ((hwr.out.cell (p := ⟨3, 0, none⟩) (World.block_lt_of_cell? _ _ S3.out)).trans S3.out)
        have CA := hide (Tryf.strconv_Atoi_fail fb (by omega) (by rw [FL.out]; exact hnv) wr _ _ c2 (Or.inr ⟨_, _, rfl⟩) c3 (Or.inr ⟨_, _, rfl⟩))
        clear hv hnv c2 c3
        go_wp2_with fail
        refine CA.out.mono ?_
        rintro e w2 ⟨z, pe, rfl, hb2⟩
        have B2 := hide hb2
        have hF2 : Hid (F.answers w2.tape) := by show F.answers w2.tape; rw [hb2.tape, hwr.out.tape]; exact HF.out
        clear hb2
        go_wp2_with fail
        refine (errorf_walk F nm fb w2.heap.size _ ?ha ?h0 ?h1).mono ?_
        case ha => exact hF2.out
        case h0 => simp
        case h1 => simp
        rintro e w3 ⟨rfl, hb3⟩
        have q2 := B2.out.size
        have q3 := hwr.out.size
        go_wp2
        go_ret2
        refine ⟨hwr.out.trans ((B2.out.mono q3).trans (((Below.refl _ w2).alloc (by omega) _).trans (hb3.mono (by simp; omega)))), Or.inr ⟨_, pids_stop L k acc f HD.out HV.out HP.out, rfl⟩⟩
    · have hd : L.drop k = [] := List.drop_eq_nil_of_le (by omega)
      have hpe : pids L = some acc := by rw [HP.out, hd]; simp [pids]
      have HPE := hide hpe
      clear hd hpe
      go_wp2
      go_ret2
      exact ⟨hwr.out, Or.inl ⟨acc, _, HPE.out, rfl, HO.out.base hCw⟩⟩
end Go.Proofs.Qxb6629140aFmt
