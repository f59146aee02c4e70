/- The beginning of bytes, and of ciphered bytes. -/
import Derived.Test.YthemhpefcfdcaaaReach
import Derived.Deep.RegionHeld3
namespace Go.Proofs.Ythemhpefcfdcaaa
open Go.RowKit
set_option linter.unusedVariables false
theorem Bs.take {B : Nat} {w : World} {a : Option Addr} {cap : Nat} {l : List UInt8} (h : Bs B w a cap l) (k : Nat) : Bs B w a cap (l.take k) := by
  obtain ⟨h1, h2, h3⟩ := h
  refine ⟨by simp; omega, h2, ?_⟩
  rcases h3 with h3 | ⟨pb, po, e, hb, hl⟩
  · exact .inl (by rw [h3]; simp)
  · refine .inr ⟨pb, po, e, hb, fun i x hi => hl i x ?_⟩
    rw [List.getElem?_take] at hi
    split at hi
    · exact hi
    · cases hi
theorem ciph_take (s : Sp) (data : List UInt8) (k : Nat) (hk : k ≤ data.length) : ciph s (data.take k) = (ciph s data).take k := by
  have e : (data.take k).length = k := by simp; omega
  rw [ciph, ciph, e, List.take_zipWith]
  congr 1
  have : data.length = k + (data.length - k) := by omega
  rw [this, Sp.out_add, List.take_append_of_le_length (by rw [Sp.out_length]; exact Nat.le_refl _), List.take_of_length_le (by rw [Sp.out_length]; exact Nat.le_refl _)]
theorem ints_nil (w : World) : Ints w.heap.size w none 0 [] := ⟨Nat.le_refl _, by omega, .inl rfl⟩
end Go.Proofs.Ythemhpefcfdcaaa
