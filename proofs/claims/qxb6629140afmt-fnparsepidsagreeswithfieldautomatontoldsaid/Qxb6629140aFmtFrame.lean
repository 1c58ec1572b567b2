/-
  From the listed variables to what the road asks of memory.
-/
import Derived.Test.Qxb6629140aFmtPids
import Derived.Stop.LaidErr
import Derived.Lib.LaidTab
import Derived.Lib.LaidU8
namespace Go.Proofs.Qxb6629140aFmt
open Go.Shelf Go.Lib
/-- The sentinels' type, by the name that the row's own datum bears. -/
def errName : String := match (Rows.laid_strconv_ErrRange : DataW Unit) with | .iface nm _ => nm | _ => ""
theorem row60 (u : TypeId) (h : Tryf.prog.typeName? 3 u = some errName) : u = 60 :=
  typeName_ptr_named (P := Tryf.prog) (nm := "errors.errorString") (tp := 60) (by kernel_rfl) (by kernel_rfl) (by decide) u (h.trans (by kernel_rfl))
theorem white_data : (Rows.laid_unicode_White_Space : DataW Unit) = whiteData := by kernel_rfl
theorem ascii_data : (Rows.laid_strings_asciiSpace : DataW Unit) = .agg (Lib.asciiSpaceTab.map fun z => .lit (.int .u8 z)) := by kernel_rfl
theorem lib0_of_laid {W : World} (h : laidMet Tryf.prog Rows.fnParsePidsAgreesWithFieldAutomatonRow.laid W) : Lib0 W := by
  have hL := h
  obtain ⟨a3, t3, hv3, _⟩ := laid_sentinel (g := 3) hL.tail.tail.tail (by kernel_rfl) (by kernel_rfl) Tryf.underlying25 row60 Tryf.underlying60 Tryf.underlying62 rfl rfl Tryf.underlying9 (by kernel_rfl) (by kernel_rfl)
  obtain ⟨a2, t2, hv2, _⟩ := laid_sentinel (g := 2) hL.tail.tail.tail.tail (by kernel_rfl) (by kernel_rfl) Tryf.underlying25 row60 Tryf.underlying60 Tryf.underlying62 rfl rfl Tryf.underlying9 (by kernel_rfl) (by kernel_rfl)
  have hw := Lib.laidMet.reads hL (n := "unicode.White_Space") (d := Rows.laid_unicode_White_Space) (by unfold Rows.fnParsePidsAgreesWithFieldAutomatonRow; simp)
  rw [white_data] at hw
  have hT := hL.tail.tail.tail.tail.tail.tail
  rw [ascii_data] at hT
  refine ⟨?_, ?_, ⟨60, .pointer (some a2), ?_⟩, ⟨60, .pointer (some a3), ?_⟩⟩
  · exact tabIs_of_head (g := 0) (t := 41) (e := 5) (n := 256) (by kernel_rfl) (by kernel_rfl) Tryf.underlying41 Tryf.underlying5 (by kernel_rfl) (by kernel_rfl) hT
  · exact whiteTab_of_reads (ρ := Tryf.lays157_ren) { Tryf.lays157 with } ⟨by kernel_rfl, by kernel_rfl, by kernel_rfl, by kernel_rfl, by kernel_rfl, by kernel_rfl, by kernel_rfl, by kernel_rfl⟩ hw
  · have h0 := World.var?_cell (g := 2) (by kernel_rfl) hv2 0; simpa using h0
  · have h0 := World.var?_cell (g := 3) (by kernel_rfl) hv3 0; simpa using h0
end Go.Proofs.Qxb6629140aFmt
