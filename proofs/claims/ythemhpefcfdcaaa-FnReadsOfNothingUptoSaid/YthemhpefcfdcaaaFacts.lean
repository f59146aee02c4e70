/- Closed facts on the program that every row asks for. -/
import Derived.Test.YthemhpefcfdcaaaRows
import Derived.JoinedOf
import Derived.KernelRfl
namespace Go.Proofs.Ythemhpefcfdcaaa
theorem and_mk {a b : Bool} (ha : a = true) (hb : b = true) : (a && b) = true := by rw [ha, hb]; rfl
theorem prog_laid : laidOutB Try.prog = true := by kernel_rfl
theorem prog_maps : mapsRowed Try.prog = true := by kernel_rfl
theorem prog_stops : (Try.prog.stops == []) = true := by kernel_rfl
theorem prog_knobs : (Try.prog.stopKnobs == []) = true := by kernel_rfl
theorem prog_heard : Try.prog.stopsHeard = true := by kernel_rfl
theorem prog_enter : Try.prog.mayEnter = true := by kernel_rfl
theorem prog_lifts : (Rows.fnSqueezeStartRow.lifted == Try.prog.liftsFinal) = true := by kernel_rfl
theorem prog_make : (Try.prog.make == some Rows.fnSqueezeStartRow.make) = true := by kernel_rfl
theorem prog_keys : (Rows.fnSqueezeStartRow.plainKeys == Try.prog.plainKeys) = true := by kernel_rfl
end Go.Proofs.Ythemhpefcfdcaaa
