/- What the reach of the arguments' bytes bounds; small laws on ciphered bytes. -/
import Derived.Test.YthemhpefcfdcaaaArgs
import Derived.Test.YthemhpefcfdcaaaCiph
namespace Go.Proofs.Ythemhpefcfdcaaa
open Go.RowKit Go.Deep
open Go.ChangeShapes Go.WideShapes Go.ChangeAt
set_option linter.unusedVariables false
theorem bytes5 : Try.prog.bytesOf 5 = 1 := by kernel_rfl
theorem bytes3 : Try.prog.bytesOf 3 = 8 := by kernel_rfl
theorem reachBs {H : Type} {enc : TypeId × Value → H} {W : World} {fuel : Nat} {a : Option Addr} {len cap : Nat} {d : DataW H} {p : List MemPlace} (hf : DataW.trod enc Try.prog W 0 (fun _ => true) true fuel 22 [.slice a len cap] = some (d, p))
    {ts : List TypeId} {ds : List (DataW H)} (hs : (DataW.weightsEach Try.prog ts ds).all (· ≤ reachBytes) = true) (j : Nat) (ht : ts[j]? = some 22) (hd : ds[j]? = some d) : cap ≤ 140737488351232 := by
  rcases open_ints Try.underlying22 Try.underlying5 cells5 hf with ⟨hcs, hx⟩ | ⟨x, l, c, zs, hcs, _, hl, hm, hz, hx, hcell, hwz⟩
  · simp only [List.cons.injEq, Value.slice.injEq, and_true] at hcs
    omega
  · simp only [List.cons.injEq, Value.slice.injEq, and_true] at hcs
    obtain ⟨rfl, rfl, rfl⟩ := hcs
    simp only [if_true] at hz
    simp only [Prod.mk.injEq] at hx
    have := sized_slice hs ht (by rw [hd, hx.1]) Try.underlying22
    rw [bytes5] at this
    simp only [lits, List.length_map, List.length_take, List.length_drop] at this
    have e : reachBytes = 140737488351232 := rfl
    omega
theorem ciph_len (s : Sp) (data : List UInt8) : (ciph s data).length = data.length := by simp [ciph, Sp.out_length]
theorem zip_xor_twice : ∀ (l k : List UInt8), l.length ≤ k.length → List.zipWith (· ^^^ ·) (List.zipWith (· ^^^ ·) l k) k = l
  | [], _, _ => rfl
  | x :: l, [], h => by simp at h
  | x :: l, y :: k, h => by
    simp only [List.zipWith_cons_cons, UInt8.xor_assoc, UInt8.xor_self, UInt8.xor_zero]
    rw [zip_xor_twice l k (by simpa using h)]
theorem ciph_twice (s : Sp) (data : List UInt8) : ciph s (ciph s data) = data := by
  rw [ciph, ciph_len, ciph]
  exact zip_xor_twice _ _ (by rw [Sp.out_length]; exact Nat.le_refl _)
theorem Below.eqvN' {B : Nat} {a w : World} (h : Below B a w) (k : Nat) : Below B a (w.drewN k) := h.trans ⟨rfl, rfl, rfl, Nat.le_refl _, fun _ _ => rfl⟩

end Go.Proofs.Ythemhpefcfdcaaa
