/- Lists of parts in memory; append of a list of parts. -/
import Derived.Test.YthemhpefcfdcaaaChain
namespace Go.Proofs.Ythemhpefcfdcaaa
open Go.RowKit
set_option linter.unusedVariables false

/-- slices that hold lists of bytes -/
def Vals (B : Nat) (w : World) (xs : List Value) (ls : List (List UInt8)) : Prop :=
  xs.length = ls.length ∧ ∀ (i : Nat) (l : List UInt8), ls[i]? = some l → ∃ a c, xs[i]? = some (Value.slice a l.length c) ∧ Bs B w a c l
theorem Vals.nil (B : Nat) (w : World) : Vals B w [] [] := ⟨rfl, fun i o h => by cases h⟩
theorem Vals.keep {B : Nat} {w w' : World} {xs : List Value} {ls : List (List UInt8)} (h : Vals B w xs ls) (hb : Below B w w') : Vals B w' xs ls :=
  ⟨h.1, fun i l hi => by obtain ⟨a, c, e1, e2⟩ := h.2 i l hi; exact ⟨a, c, e1, e2.keep hb⟩⟩
theorem Vals.mono {B B' : Nat} {w : World} {xs : List Value} {ls : List (List UInt8)} (h : Vals B w xs ls) (hb : B ≤ B') : Vals B' w xs ls :=
  ⟨h.1, fun i l hi => by obtain ⟨a, c, e1, e2⟩ := h.2 i l hi; exact ⟨a, c, e1, e2.mono hb⟩⟩
theorem Vals.append {B : Nat} {w : World} {xs ys : List Value} {ls ms : List (List UInt8)} (h : Vals B w xs ls) (h' : Vals B w ys ms) : Vals B w (xs ++ ys) (ls ++ ms) := by
  refine ⟨by simp [h.1, h'.1], fun i l hi => ?_⟩
  by_cases hlt : i < ls.length
  · rw [List.getElem?_append_left hlt] at hi
    rw [List.getElem?_append_left (by rw [h.1]; exact hlt)]
    exact h.2 i l hi
  · rw [List.getElem?_append_right (by omega)] at hi
    rw [List.getElem?_append_right (by rw [h.1]; omega), h.1]
    exact h'.2 _ l hi
theorem Vals.one {B : Nat} {w : World} {xs : List Value} {ls : List (List UInt8)} (h : Vals B w xs ls) : ∀ u ∈ xs, u.oneCell' = true := by
  intro u hu
  obtain ⟨i, hi, rfl⟩ := List.getElem_of_mem hu
  obtain ⟨a, c, e1, _⟩ := h.2 i (ls[i]'(by rw [← h.1]; exact hi)) (by simp)
  rw [List.getElem?_eq_getElem hi, Option.some.injEq] at e1
  rw [e1]; rfl
/-- what a slice of slices holds -/
theorem Rows2.vals {B : Nat} {w : World} {a : Option Addr} {cap : Nat} {ls : List (List UInt8)} (h : Rows2 B w a cap ls) :
    ∃ xs, Vals B w xs ls ∧ (xs = [] ∨ ∃ ad, a = some ad ∧ ad.block < B ∧ ∀ j u, xs[j]? = some u → w.cell? (ad.add j) = some u) := by
  rcases h.2.2 with h0 | ⟨pb, po, e, hb, hl⟩
  · subst h0
    exact ⟨[], Vals.nil _ _, .inl rfl⟩
  · refine ⟨(List.range ls.length).map fun j => (w.cell? ⟨pb, po + j, none⟩).getD (.bool false), ⟨by simp, fun i l hi => ?_⟩, .inr ⟨_, e, hb, fun j u hj => ?_⟩⟩
    · obtain ⟨va, vc, c1, c2⟩ := hl i l hi
      have hil : i < ls.length := (List.getElem?_eq_some_iff.1 hi).1
      refine ⟨va, vc, ?_, c2⟩
      rw [List.getElem?_map, List.getElem?_range hil, Option.map_some, c1]; rfl
    · have hjl : j < ls.length := by have := (List.getElem?_eq_some_iff.1 hj).1; simpa using this
      rw [List.getElem?_map, List.getElem?_range hjl, Option.map_some, Option.some.injEq] at hj
      obtain ⟨va, vc, c1, c2⟩ := hl j (ls[j]) (by simp [hjl])
      rw [c1] at hj
      rw [add_row, c1, ← hj]; rfl
theorem Rows2.of_own {base : Nat} {w : World} {a : Option Addr} {n c : Nat} {xs : List Value} {ls : List (List UInt8)} (hown : w.ownsRow base 22 1 (.slice a n c) n xs) (h : Vals w.heap.size w xs ls) : ls.length = n ∧ Rows2 w.heap.size w a c ls := by
  obtain ⟨h1, h2⟩ := hown
  have hn : ls.length = n := by rw [← h.1, h1]; omega
  refine ⟨hn, ?_⟩
  rcases h2 with ⟨e, h0⟩ | ⟨g, cap, cur, e, hg, hh, hle, hm, hsz, htk⟩
  · simp only [Value.slice.injEq] at e
    have : ls = [] := List.eq_nil_of_length_eq_zero (by omega)
    exact ⟨by omega, by omega, .inl this⟩
  · simp only [Value.slice.injEq] at e
    obtain ⟨rfl, _, rfl⟩ := e
    refine ⟨by omega, by unfold maxLen at hm; omega, .inr ⟨g, 0, rfl, (Array.getElem?_eq_some_iff.1 hh).1, fun i l hi => ?_⟩⟩
    obtain ⟨va, vc, e1, e2⟩ := h.2 i l hi
    refine ⟨va, vc, ?_, e2⟩
    rw [← htk] at e1
    rw [List.getElem?_take] at e1
    split at e1
    · simp only [World.cell?, hh, Nat.zero_add]
      simpa using e1
    · cases e1
/-- append of a whole slice of slices to a slice of slices that the call owns -/
theorem app_rows (w : World) (base : Nat) (a0 : Option Addr) (n c0 : Nat) (xs : List Value) (ls : List (List UInt8)) (hown : w.ownsRow base 22 1 (.slice a0 n c0) n xs) (hv : Vals base w xs ls) (hbase : base ≤ w.heap.size)
    (a : Option Addr) (m cap : Nat) (ms : List (List UInt8)) (hm : ms.length = m) (hR : Rows2 base w a cap ms) (hbytes : (n + m) * 24 ≤ 140737488355328) :
    ∃ a' c' w' ys, (Builtin.append_ #[23, 23] 23 #[.slice a0 n c0, .slice a m cap]).run Try.prog w = .ok (.slice a' (n + m) c') w' ∧ w'.ownsRow base 22 1 (.slice a' (n + m) c') (n + m) ys ∧ Vals base w' ys (ls ++ ms) ∧ Below base w w' := by
  obtain ⟨news, hn, hsrc⟩ := hR.vals
  have hl : news.length = m := by rw [hn.1, hm]
  obtain ⟨a', c', w', h1, h2, h3⟩ := app_own w base 23 22 (.slice none 0 0) 24 Try.underlying23 info22 rfl a0 n c0 xs hown hbase a m cap news hl (hsrc.imp (fun x => x) (fun ⟨ad, e, _, h⟩ => ⟨ad, e, h⟩)) hn.one (by omega) hbytes 23
  have bl : Below base w w' := (Below.refl _ _).grown h3 hbase fun k hk => (hown.lt k hk).1
  exact ⟨a', c', w', xs ++ news, h1, h2, (hv.append hn).keep bl, bl⟩
end Go.Proofs.Ythemhpefcfdcaaa
