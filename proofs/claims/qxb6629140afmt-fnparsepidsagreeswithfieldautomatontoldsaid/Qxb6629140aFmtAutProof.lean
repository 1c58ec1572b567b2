/-
  The proof of 'Rows.FnParsePidsAgreesWithFieldAutomatonToldSaid': told and tied.
-/
import Derived.Test.Qxb6629140aFmtCards
import Derived.Test.Qxb6629140aFmtTie
import Derived.Test.Qxb6629140aFmtLaid
import Derived.Test.Qxb6629140aFmtFrame
import Derived.Test.Qxb6629140aFmtAutWalk
import Derived.Stop.JoinedAt
import Derived.Stop.JoinedTold
import Derived.SevenTiedAt
import Derived.OpenShut
import Derived.ShutString
import Derived.ChangeOld
import Derived.Deep.DeepWitnessRef
namespace Go.Proofs.Qxb6629140aFmt.aut
open Go.ChangeShapes Go.WideShapes Go.ChangeAt Go.RowKit Go.Kit Go.Lib Go.Shelf
open Go.ChangeMaps (open_string shut_string)
open Go.Extern.Stop Go.Stop Go.Extern

theorem own : ownKnob Tryf.prog.godebug = none := by kernel_rfl
theorem laidOut : laidOutB Tryf.pinned.checked.prog = true := by kernel_rfl
theorem stops : Tryf.pinned.checked.prog.stops = ["fmt.errorf"] := by kernel_rfl
theorem stopKnobs : Tryf.pinned.checked.prog.stopKnobs = [] := by kernel_rfl
theorem quiet (os : Os) : Stop.quiet Tryf.pinned.checked.prog os := by
  intro k hk
  rw [stopKnobs] at hk
  cases hk

theorem aut_any (F : Interp) (nm t : ByteArray) (w : World) (hF : F.answers w.tape) (hlib : Lib0 w) :
    Calls Tryf.prog 3 #[.string nm, .string t] w fun e w' => e = .returned (.bool true) ∧ Below w.heap.size w w' := by
  by_cases hs : (nm.size : Int) + (t.size : Int) ≤ 1048576
  · exact aut_main F nm t w hF hlib hs
  · exact aut_long nm t w (by omega)

set_option maxRecDepth 1000000 in
theorem witness_row (os : Os) {H : Type} (enc : TypeId × Value → H) :
    (OpenSpec.ofChange Rows.fnParsePidsAgreesWithFieldAutomatonSpec).preRow enc Tryf.prog Tryf.f3 Rows.fnParsePidsAgreesWithFieldAutomatonRow.domain false Rows.fnParsePidsAgreesWithFieldAutomatonRow.laid
      ((laidOver (World.holding Tryf.prog os ⟨laidBlocks 13, #[], []⟩) 13).forCall (fun _ _ => 0) ⟨#[], #[.string ⟨#[]⟩, .string ⟨#[]⟩], []⟩).memory #[.string ⟨#[]⟩, .string ⟨#[]⟩] := by
  have hw : (DataW.whole enc Tryf.prog ((laidOver (World.holding Tryf.prog os ⟨laidBlocks 13, #[], []⟩) 13).forCall (fun _ _ => 0) ⟨#[], #[.string ⟨#[]⟩, .string ⟨#[]⟩], []⟩).memory Tryf.f3.params.toList (OpenSpec.ofChange Rows.fnParsePidsAgreesWithFieldAutomatonSpec).vars false #[Value.string ⟨#[]⟩, .string ⟨#[]⟩].toList 8).map (fun x => (x.1, x.2.1)) =
      some ([.lit (.string []), .lit (.string [])], []) := by kernel_rfl
  obtain ⟨⟨x1, x2, x3⟩, hx, hx1⟩ := Option.map_eq_some_iff.1 hw
  simp only [Prod.mk.injEq] at hx1
  obtain ⟨rfl, rfl⟩ := hx1
  exact OpenSpec.preRow_of_cond 8 hx (by kernel_rfl) (fun k hk => by cases hk) (by kernel_rfl) (laid_met os _)

set_option maxRecDepth 1000000 in
theorem lifted (os : Os) (started : os.Started) (H : Type) (enc : TypeId × Value → H) :
    ReturnsInTold none {} Tryf.checked os 3 .any Input.okWide ((OpenSpec.ofChange Rows.fnParsePidsAgreesWithFieldAutomatonSpec).preRow enc Tryf.prog Tryf.f3 Rows.fnParsePidsAgreesWithFieldAutomatonRow.domain false Rows.fnParsePidsAgreesWithFieldAutomatonRow.laid)
      (fun F => ((OpenSpec.ofChange Rows.fnParsePidsAgreesWithFieldAutomatonSpec).at F).post enc Tryf.prog Tryf.f3 false true false false) (aloneAtReturn Tryf.prog) nothingAlways := by
  refine returnsInTold_of_row (C := Tryf.checked) (s := OpenSpec.ofChange Rows.fnParsePidsAgreesWithFieldAutomatonSpec) (by kernel_rfl) own started (by kernel_rfl) Tryf.func3
    (OpenSpec.witness_stopped_atRef (enc := enc) (C := Tryf.checked) false (laidOver (World.holding Tryf.prog os ⟨laidBlocks 13, #[], []⟩) 13) #[.string ⟨#[]⟩, .string ⟨#[]⟩] rfl (by kernel_rfl) (by kernel_rfl) (by kernel_rfl) (witness_row os enc)) ?_
  intro F W base args ds gs before _ hF hval0 hW hcnd0 _ _ hL _
  have hval : ∀ (j : Nat) t v, Tryf.f3.params[j]? = some t → args[j]? = some v → Value.okWide Tryf.prog W .any base t v := hval0
  have hW' := hW
  obtain ⟨p, q, hA0, hV0, rfl, _, _⟩ := hW
  have hA : DataW.TrodAll enc Tryf.prog W 0 (fun _ => true) true Tryf.f3.params.toList args.toList ds p := hA0
  rw [Tryf.params3] at hA hval
  obtain ⟨v0, vs0, d0, ds0, p0, q0, hargs, rfl, rfl, h0, r0⟩ := trodAll_cons hA
  obtain ⟨v1, vs1, d1, ds1, p1, q1, rfl, rfl, rfl, h1, r1⟩ := trodAll_cons r0
  obtain ⟨rfl, rfl, rfl⟩ := trodAll_nil r1
  obtain rfl : args = #[v0, v1] := by cases args; simp_all
  obtain ⟨rfl, rfl⟩ := trodVars_none hV0
  obtain ⟨a0, rfl, rfl, rfl, w0⟩ := open_string Tryf.underlying9 (hval 0 9 v0 rfl rfl) h0
  obtain ⟨a1, rfl, rfl, rfl, w1⟩ := open_string Tryf.underlying9 (hval 1 9 v1 rfl rfl) h1
  clear hA0 hV0 hval0
  have hlib : Lib0 W := lib0_of_laid hL
  refine (aut_any F.told a0 a1 W hF hlib).mono fun e W' ⟨he, bel⟩ => ?_
  subst he
  exact ⟨_, rfl, _, _, _, [], [], [], hW', trodAll_mk1 (shut_bool Tryf.underlying4 _), (trodAll_cons_mk (shut_string Tryf.underlying9 w0) (trodAll_cons_mk (shut_string Tryf.underlying9 w1) trodAll_mk0)), rfl, bel.frame _, fun h => by cases h⟩

theorem proved : Rows.FnParsePidsAgreesWithFieldAutomatonToldSaid :=
  Claim7.holds_of_told_tied_any_at .later 3 Tryf.f3 "fmt.errorf" [] [] _ _ _ _ _ (by kernel_rfl) rfl rfl rfl laidOut (by kernel_rfl) rfl ⟨rfl, rfl, rfl, rfl, rfl, rfl, rfl⟩ rfl rfl (by kernel_rfl) (by kernel_rfl) Tryf.func3 (by kernel_rfl)
    (of_decide_eq_true (by kernel_rfl)) (of_decide_eq_true (by kernel_rfl)) stops.symm rfl stopKnobs.symm (by kernel_rfl)
    (by kernel_rfl) (by kernel_rfl) (by kernel_rfl) (by kernel_rfl) (by kernel_rfl) (by kernel_rfl) (by kernel_rfl) (by kernel_rfl) (by kernel_rfl) rfl (by kernel_rfl) rfl rfl
    rfl rfl
    rfl (by kernel_rfl) (by kernel_rfl) (by kernel_rfl) (by decide) (by kernel_rfl) fnParsePidsAgreesWithFieldAutomaton_row_tie
    (OpenClaim.moreEntering_of (by kernel_rfl) (by kernel_rfl) (by kernel_rfl) (by kernel_rfl) (by kernel_rfl) (by kernel_rfl) (by kernel_rfl) (by kernel_rfl) (by kernel_rfl) (by kernel_rfl))
    ⟨_, WideRow.started_initial, quiet _⟩
    (fun os started _ H enc _ => lifted os started H enc)
end Go.Proofs.Qxb6629140aFmt.aut
namespace Go.Proofs.Qxb6629140aFmt
theorem agrees_automaton_proved : Rows.FnParsePidsAgreesWithFieldAutomatonToldSaid := aut.proved
end Go.Proofs.Qxb6629140aFmt
