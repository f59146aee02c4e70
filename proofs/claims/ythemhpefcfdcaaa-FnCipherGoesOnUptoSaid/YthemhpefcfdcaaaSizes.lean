/- spec.Sizes. -/
import Derived.Test.YthemhpefcfdcaaaOne
namespace Go.Proofs.Ythemhpefcfdcaaa
open Go.RowKit
set_option linter.unusedVariables false

/-- one cut -/
def cutLen (z : Int) (left : Nat) : Nat := (min (max z 0) (left : Int)).toNat
theorem cutLen_le (z : Int) (left : Nat) : cutLen z left ≤ left := by unfold cutLen; omega
/-- the sizes of all cuts -/
def sizes : Nat → List Int → List Nat
  | left, [] => [left]
  | left, z :: zs => cutLen z left :: sizes (left - cutLen z left) zs
theorem sizes_len : ∀ (zs : List Int) (left : Nat), (sizes left zs).length = zs.length + 1
  | [], _ => rfl
  | z :: zs, left => by simp [sizes, sizes_len zs]
theorem sizes_sum : ∀ (zs : List Int) (left : Nat), (sizes left zs).sum = left
  | [], left => by simp [sizes]
  | z :: zs, left => by
    have := cutLen_le z left
    simp only [sizes, List.sum_cons, sizes_sum zs]
    omega
theorem sizes_le : ∀ (zs : List Int) (left : Nat), ∀ k ∈ sizes left zs, k ≤ left
  | [], left, k, h => by simp [sizes] at h; omega
  | z :: zs, left, k, h => by
    have h1 := cutLen_le z left
    simp only [sizes, List.mem_cons] at h
    rcases h with rfl | h
    · exact h1
    · have := sizes_le zs _ k h; omega

/-- where the sizes stand -/
def SiO (w : World) (T : Nat) (zs : List Int) (v o l : Value) (wr : World) : Prop :=
  ∃ (i left : Nat) (xs : List Nat), v = .int .i64 (i : Int) ∧ l = .int .i64 (left : Int) ∧ i ≤ zs.length ∧ left ≤ T ∧ Below w.heap.size w wr ∧
    wr.ownsRow w.heap.size 3 1 o i ((xs.map Int.ofNat).map (Value.int .i64)) ∧ xs ++ sizes left (zs.drop i) = sizes T zs

theorem SiO.step {w : World} {T : Nat} {zs : List Int} {i left k : Nat} {xs : List Nat} {z : Int} (hz : zs[i]? = some z) (hk : k = cutLen z left) (h : xs ++ sizes left (zs.drop i) = sizes T zs) :
    (xs ++ [k]) ++ sizes (left - k) (zs.drop (i + 1)) = sizes T zs := by
  have e : zs.drop i = z :: zs.drop (i + 1) := by
    have hi := (List.getElem?_eq_some_iff.1 hz)
    obtain ⟨hi, hz'⟩ := hi
    rw [← hz']; exact List.drop_eq_getElem_cons hi
  rw [e, sizes, ← hk] at h
  rw [← h]; simp

set_option maxRecDepth 100000 in
set_option maxHeartbeats 2000000 in
theorem sizes_any (w : World) (T r c : Nat) (a : Option Addr) (zs : List Int) (hr : zs.length = r) (hR : Ints w.heap.size w a c zs) (hT : T ≤ 9223372036854775807) (hrb : (r + 1) * 8 ≤ 140737488355328) :
    Calls Try.prog 23 #[.int .i64 (T : Int), .slice a r c] w fun e w' => ∃ a cap, e = .returned (.slice a (r + 1) cap) ∧ w'.ownsRow w.heap.size 3 1 (.slice a (r + 1) cap) (r + 1) (((sizes T zs).map Int.ofNat).map (Value.int .i64)) ∧ Below w.heap.size w w' := by
  have HR := Lib.hid hr
  have st : SiO w T zs (.int .i64 ((0 : Nat) : Int)) (.slice (some ⟨w.heap.size, 0, none⟩) 0 0) (.int .i64 (T : Int)) (w.alloc (.cells #[] 3)) :=
    ⟨0, T, [], rfl, rfl, Nat.zero_le _, Nat.le_refl _, (Below.refl _ _).alloc (Nat.le_refl _) _, own_empty w 3 w.heap.size (Nat.le_refl _), rfl⟩
  obtain ⟨i0, hi0, hz0, hz1, hz2⟩ := info_parts info3
  have HI0 := Lib.hid hi0
  have HZ0 := Lib.hid hz0
  have HZ1 := Lib.hid hz1
  have HZ2 := Lib.hid hz2
  clear hr hi0 hz0 hz1 hz2
  go_enter Try.func23, Try.ntmps23
  go_wp2_with fail
  generalize w.alloc (.cells #[] 3) = w2 at *
  generalize Value.slice (some ⟨w.heap.size, 0, none⟩) 0 0 = o2 at *
  generalize hl2 : Value.int .i64 (T : Int) = l2 at *
  go_loopw [13, 5, 6] (fun v o l wr => SiO w T zs v o l wr) (fun v _ _ _ => r - (intOf v).toNat)
  case atStart => exact st
  case round =>
    obtain ⟨i, left, xs, rfl, rfl, hi, hlT, bl4, own4, hxs⟩ := hrel
    have HXS := Lib.hid hxs
    have s4 := bl4.size
    clear hxs
    by_cases hlt : i < r
    · obtain ⟨z, hz⟩ : ∃ z, zs[i]? = some z := ⟨zs[i]'(by rw [HR.out]; exact hlt), by simp [HR.out, hlt]⟩
      obtain ⟨pb, po, e1, e2, c1⟩ := (hR.keep bl4).at hz
      subst e1
      have i1 : (i : Int) < (r : Int) := by omega
      have n0 : ¬ (left : Int) < 0 := by omega
      obtain ⟨k, hk⟩ : ∃ k, k = cutLen z left := ⟨_, rfl⟩
      have hkl : k ≤ left := by rw [hk]; exact cutLen_le _ _
      have HZ := Lib.hid hz
      have HK := Lib.hid hk
      have hcase : (z < 0 ∧ k = 0) ∨ (0 ≤ z ∧ ¬ (left : Int) < z ∧ z = (k : Int)) ∨ (0 ≤ z ∧ (left : Int) < z ∧ k = left) := by
        rw [hk]; unfold cutLen; omega
      clear hz hk
      have nx : ∀ (v' l' : Value) (w6 : World), w6.ownsRow w.heap.size 3 1 v' (i + 1) (((xs ++ [k]).map Int.ofNat).map (Value.int .i64)) → Below w.heap.size w w6 → l' = .int .i64 ((left - k : Nat) : Int) → SiO w T zs (.int .i64 ((i : Int) + 1)) v' l' w6 := fun v' l' w6 h1 h2 h3 =>
        ⟨i + 1, left - k, xs ++ [k], by go_num, h3, by rw [HR.out]; omega, by omega, h2, h1, SiO.step (w := w) HZ.out HK.out HXS.out⟩
      have NX := Lib.hid nx
      clear nx
      rcases hcase with ⟨h1, rfl⟩ | ⟨h1, h2, rfl⟩ | ⟨h1, h2, rfl⟩
      · go_wp2_with (refine wpList_append_own _ rfl _ _ 24 rfl w.heap.size 3 i0 (.int .i64 0) 1 8 Try.underlying24 HI0.out HZ0.out HZ1.out HZ2.out rfl (by decide) _ _ _ rfl (own4.alloc _) ⟨wr.heap.size, 0, none⟩ 1 1 [.int .i64 0] rfl rfl (cell_one_new _ _ _) (by simp [Value.oneCell']) (by unfold maxLen; omega) (by omega) (by simp; omega) ?_; intro v' w6 own6 grow6 _)
        exact ⟨NX.out v' _ w6 (by simpa using own6) ((bl4.alloc bl4.size _).grown grow6 (by simp; omega) fun k' hk' => (own4.lt k' hk').1) (by simp only [Value.int.injEq, true_and]; omega), by simp [intOf]; omega⟩
      · go_wp2_with (refine wpList_append_own _ rfl _ _ 24 rfl w.heap.size 3 i0 (.int .i64 0) 1 8 Try.underlying24 HI0.out HZ0.out HZ1.out HZ2.out rfl (by decide) _ _ _ rfl (own4.alloc _) ⟨wr.heap.size, 0, none⟩ 1 1 [.int .i64 (k : Int)] rfl rfl (cell_one_new _ _ _) (by simp [Value.oneCell']) (by unfold maxLen; omega) (by omega) (by simp; omega) ?_; intro v' w6 own6 grow6 _)
        exact ⟨NX.out v' _ w6 (by simpa using own6) ((bl4.alloc bl4.size _).grown grow6 (by simp; omega) fun k' hk' => (own4.lt k' hk').1) (by simp only [Value.int.injEq, true_and]; omega), by simp [intOf]; omega⟩
      · go_wp2_with (refine wpList_append_own _ rfl _ _ 24 rfl w.heap.size 3 i0 (.int .i64 0) 1 8 Try.underlying24 HI0.out HZ0.out HZ1.out HZ2.out rfl (by decide) _ _ _ rfl (own4.alloc _) ⟨wr.heap.size, 0, none⟩ 1 1 [.int .i64 (k : Int)] rfl rfl (cell_one_new _ _ _) (by simp [Value.oneCell']) (by unfold maxLen; omega) (by omega) (by simp; omega) ?_; intro v' w6 own6 grow6 _)
        exact ⟨NX.out v' _ w6 (by simpa using own6) ((bl4.alloc bl4.size _).grown grow6 (by simp; omega) fun k' hk' => (own4.lt k' hk').1) (by simp only [Value.int.injEq, true_and]; omega), by simp [intOf]; omega⟩
    · have hir : i = r := by rw [HR.out] at hi; omega
      have hdr : zs.drop i = [] := List.drop_eq_nil_of_le (by rw [HR.out]; omega)
      have e : sizes T zs = xs ++ [left] := by rw [← HXS.out, hdr]; rfl
      have HE := Lib.hid e
      clear hdr e
      go_wp2_with (refine wpList_append_own _ rfl _ _ 24 rfl w.heap.size 3 i0 (.int .i64 0) 1 8 Try.underlying24 HI0.out HZ0.out HZ1.out HZ2.out rfl (by decide) _ _ _ rfl (own4.alloc _) ⟨wr.heap.size, 0, none⟩ 1 1 [.int .i64 (left : Int)] rfl rfl (cell_one_new _ _ _) (by simp [Value.oneCell']) (by unfold maxLen; omega) (by omega) (by simp; omega) ?_; intro v' w6 own6 grow6 _)
      go_ret
      have own7 : w6.ownsRow w.heap.size 3 1 v' (i + 1) (((sizes T zs).map Int.ofNat).map (Value.int .i64)) := by rw [HE.out]; simpa using own6
      obtain ⟨a', c', rfl⟩ := own_slice own7
      subst hir
      exact ⟨a', c', rfl, own7, (bl4.alloc bl4.size _).grown grow6 (by simp; omega) fun k' hk' => (own4.lt k' hk').1⟩
end Go.Proofs.Ythemhpefcfdcaaa
