/- impl.GoOn: its deferred closure. -/
import Derived.Test.YthemhpefcfdcaaaSpec
import Derived.Defers
import Derived.Recover
namespace Go.Proofs.Ythemhpefcfdcaaa
open Go.RowKit
set_option linter.unusedVariables false

theorem catch_panicking (O C : Addr) (xo xc : Value) (u : TypeId) (pv : Value) (older : List PanicEntry) (w : World) (ho : w.cell? O = some xo) (fo : w.frozen? O = false) (hc : w.cell? C = some xc) (fc : w.frozen? C = false) (hne : O ≠ C) :
    CallsD Try.prog 36 #[.pointer (some O), .pointer (some C)] (.panicking ({ v := .iface u pv, recovered := false } :: older)) w fun e u' w' =>
      e = .returned (.tuple #[]) ∧ u' = .panicking ({ v := .iface u pv, recovered := true } :: older) ∧ w' = (w.setCell O (.slice none 0 0)).setCell C (.int .i64 2) := by
  have c2 : (w.setCell O (.slice none 0 0)).cell? C = some xc := by rw [World.cell?_setCell_other _ _ _ _ hne]; exact hc
  refine callsD_of_wpS Try.func36 rfl fun c₀ cs hu => ?_
  apply wpS_seq
  apply wpS_region
  simp [wpOpsS, go_sem, recoverD, hu, Try.ntmps36, Exit.thenS]
  refine wpS_cond (t := true) (by simp [Act.eval, Array.replicate]) ?_
  simp only [if_true]
  apply wpS_region
  simp [wpOpsS, go_sem, ho, fo, fc, c2, bodyPostS, results, Try.results36]

theorem catch_idle (O C : Addr) (w : World) :
    CallsD Try.prog 36 #[.pointer (some O), .pointer (some C)] .returning w fun e u' w' => e = .returned (.tuple #[]) ∧ u' = .returning ∧ w' = w := by
  refine callsD_of_wpS Try.func36 rfl fun c₀ cs hu => ?_
  apply wpS_seq
  apply wpS_region
  simp [wpOpsS, go_sem, recoverD, hu, Try.ntmps36, Exit.thenS]
  refine wpS_cond (t := false) (by simp [Act.eval, Array.replicate]) ?_
  simp only [Bool.false_eq_true, if_false]
  refine wpS_of_wp (wp_skip ?_)
  cases c₀
  simp_all [bodyPostS, results, Try.results36]
end Go.Proofs.Ythemhpefcfdcaaa
