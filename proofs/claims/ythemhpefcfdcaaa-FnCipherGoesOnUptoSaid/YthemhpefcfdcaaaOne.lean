/- Slices of one part, of one number; one read. -/
import Derived.Test.YthemhpefcfdcaaaSqd
namespace Go.Proofs.Ythemhpefcfdcaaa
open Go.RowKit
set_option linter.unusedVariables false
theorem rdLen_nat (k : Nat) (h : k ≤ 4096) : rdLen (k : Int) = k := by unfold rdLen; omega
theorem outs_one (k : Nat) (h : k ≤ 4096) (s : Sp) : (outs [(k : Int)] s).flatten = s.out k := by
  simp [outs, rdLen_nat k h]
/-- one part alone -/
theorem rows2_one {w : World} {a : Option Addr} {c n : Nat} {l : List UInt8} (hn : l.length = n) (h : Bs w.heap.size w a c l) : Rows2 (w.alloc (.cells #[.slice a n c] 22)).heap.size (w.alloc (.cells #[.slice a n c] 22)) (some ⟨w.heap.size, 0, none⟩) 1 [l] := by
  have bl : Below w.heap.size w (w.alloc (.cells #[.slice a n c] 22)) := (Below.refl _ _).alloc (Nat.le_refl _) _
  refine ⟨Nat.le_refl _, by omega, .inr ⟨w.heap.size, 0, rfl, by simp, fun i x hi => ?_⟩⟩
  cases i with
  | succ i => cases hi
  | zero =>
    simp only [List.getElem?_cons_zero, Option.some.injEq] at hi
    subst hi
    exact ⟨a, c, by rw [hn]; exact cell_one_new _ _ _ 0 _ rfl, (h.keep bl).mono bl.size⟩
theorem ints_one' (w : World) (z : Int) : Ints (w.alloc (.cells #[.int .i64 z] 3)).heap.size (w.alloc (.cells #[.int .i64 z] 3)) (some ⟨w.heap.size, 0, none⟩) 1 [z] := by
  refine ⟨Nat.le_refl _, by omega, .inr ⟨w.heap.size, 0, rfl, by simp, fun i x hi => ?_⟩⟩
  cases i with
  | succ i => cases hi
  | zero =>
    simp only [List.getElem?_cons_zero, Option.some.injEq] at hi
    subst hi
    exact cell_one_new _ _ _ 0 _ rfl
end Go.Proofs.Ythemhpefcfdcaaa
