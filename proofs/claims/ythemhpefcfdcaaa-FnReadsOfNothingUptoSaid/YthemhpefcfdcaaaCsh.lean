/- bytepadWrite and newCShake: how a cSHAKE starts. -/
import Derived.Test.YthemhpefcfdcaaaEnc
namespace Go.Proofs.Ythemhpefcfdcaaa
open Go.RowKit
set_option linter.unusedVariables false

theorem Mod.ofEqv {b : Nat} {x z : World} (c : Array Value) (k : Eqv (x.setRow b c) z) : Mod b x z := ((Mod.refl b x).setRow c).eqv k

/-- a row of bytes in a block -/
theorem lies_row {w : World} {g : Nat} {t : TypeId} {fr : Nat × Nat} {l : List UInt8} (hg : w.heap[g]? = some (.cells (l.map BV).toArray t fr)) (o : Nat) : Lies w ⟨g, o, none⟩ (l.drop o) := by
  intro j x hj
  rw [add_row]
  rw [List.getElem?_drop] at hj
  simp [World.cell?, hg, hj]

theorem Arg.row {w : World} {b g : Nat} {t : TypeId} {fr : Nat × Nat} {l : List UInt8} (hg : w.heap[g]? = some (.cells (l.map BV).toArray t fr)) (o cap : Nat) (m : List UInt8) (hm : m = (l.drop o)) (hne : g ≠ b) (hcap : m.length ≤ cap) (hcm : cap ≤ 9223372036854775807) :
    Arg w b (some ⟨g, o, none⟩) cap m := ⟨hcap, hcm, .inr ⟨g, o, rfl, hne, by rw [hm]; exact lies_row hg o⟩⟩

def padN (rate k : Nat) : Nat := (rate - k % rate) % rate
def bytepad (s : Sp) (rate : Nat) (l : List UInt8) : Sp := s.absorb (lenc rate ++ l ++ zeros (padN rate ((lenc rate).length + l.length)))

set_option maxRecDepth 100000 in
set_option maxHeartbeats 1000000 in
theorem bytepad_any (w : World) (b : Nat) (t : TypeId) (s : Sp) (ib : Value) (h : Has w b t s ib) (hs : s.Ok) (hq : s.sq = false) (rate : Nat) (hr1 : 1 ≤ rate) (hr2 : rate ≤ 168)
    (a : Option Addr) (cap n : Nat) (l : List UInt8) (hn : l.length = n) (hlm : n ≤ 562949953421312) (ha : Arg w b a cap l) :
    Calls Try.prog 73 #[.pointer (some ⟨b, 0, none⟩), .slice a n cap, .int .i64 (rate : Int)] w
      fun e w' => e = .returned (.tuple #[]) ∧ Has w' b t (bytepad s rate l) ib ∧ Mod b w w' := by
  have hb := h.size
  obtain ⟨m, hm⟩ : ∃ m, m = encN rate := ⟨_, rfl⟩
  have hmb := encN_bd rate (by omega)
  rw [← hm] at hmb
  have hce := leftEncode_any w rate m (by omega) hm
  have hll := lenc_len rate (by omega)
  rw [← hm] at hll
  obtain ⟨w1, hw1⟩ : ∃ w1, w1 = w.alloc (.cells ((encRow rate).map BV).toArray 5) := ⟨_, rfl⟩
  rw [← hw1] at hce
  have m1 : Mod b w w1 := by rw [hw1]; exact (Mod.refl _ _).alloc _
  have h1 : Has w1 b t s ib := by rw [hw1]; exact h.alloc _
  have g1 : w1.heap[w.heap.size]? = some (.cells ((encRow rate).map BV).toArray 5 (0, 0)) := by rw [hw1]; exact heap_alloc_new _ _
  have hc1 := fwrite_any w1 b t s ib h1 hs hq (some ⟨w.heap.size, 8 - m, none⟩) (m + 1) (m + 1) (lenc rate) hll (Arg.row g1 (8 - m) (m + 1) (lenc rate) (by rw [hm]; rfl) (by omega) (by rw [hll]; exact Nat.le_refl _) (by omega))
  obtain ⟨s1, hs1⟩ : ∃ s1, s1 = s.absorb (lenc rate) := ⟨_, rfl⟩
  obtain ⟨k1, q1⟩ := hs.absorb hq (lenc rate)
  rw [← hs1] at hc1 k1 q1
  have HCE := Lib.hid hce
  have HC1 := Lib.hid hc1
  have HS1 := Lib.hid hs1
  have HLL := Lib.hid hll
  clear hce hc1 hs1 hll hw1 hm
  go_enter Try.func73, Try.ntmps73
  go_wp2_with fail
  refine HCE.out.mono ?_
  rintro e w' ⟨rfl, rfl⟩
  go_wp2_with fail
  refine HC1.out.mono ?_
  rintro e w2 ⟨rfl, e2⟩
  have h2 : Has w2 b t s1 ib := e2.has (h1.setRow _ _)
  have m2 : Mod b w w2 := (m1.setRow _).eqv e2
  have hc2 := fwrite_any w2 b t s1 ib h2 k1 q1 a cap n l hn (ha.mod m2)
  obtain ⟨s2, hs2⟩ : ∃ s2, s2 = s1.absorb l := ⟨_, rfl⟩
  obtain ⟨k2, q2⟩ := k1.absorb q1 l
  rw [← hs2] at hc2 k2 q2
  have HC2 := Lib.hid hc2
  have HS2 := Lib.hid hs2
  clear hc2 hs2 e2
  go_wp2_with fail
  refine HC2.out.mono ?_
  rintro e w3 ⟨rfl, e3⟩
  have h3 : Has w3 b t s2 ib := e3.has (h2.setRow _ _)
  have m3 : Mod b w w3 := (m2.setRow _).eqv e3
  clear e3
  obtain ⟨r, hr⟩ : ∃ r, r = (m + 1 + n) % rate := ⟨_, rfl⟩
  have hr0 : r < rate := by rw [hr]; exact Nat.mod_lt _ (by omega)
  have hri : ((m : Int) + 1 + (n : Int)) % (rate : Int) = (r : Int) := by rw [hr]; simp
  have HR := Lib.hid hr
  have hp0 : ¬ (rate : Int) = 0 := by omega
  have hp1 : (0 : Int) < (rate : Int) := by omega
  clear hr
  by_cases hz : r = 0
  · subst hz
    rw [show ((0 : Nat) : Int) = 0 from rfl] at hri
    have fin : bytepad s rate l = s2 := by
      have e : padN rate ((lenc rate).length + l.length) = 0 := by
        unfold padN
        rw [HLL.out, hn, ← HR.out, Nat.sub_zero, Nat.mod_self]
      unfold bytepad
      rw [e, show zeros 0 = [] from rfl, List.append_nil, Sp.absorb_append, ← HS1.out, ← HS2.out]
    have FIN := Lib.hid fin
    clear fin
    go_wp2_with fail
    go_end0
    exact ⟨rfl, by rw [FIN.out]; exact h3, m3⟩
  · obtain ⟨p, hp⟩ : ∃ p, p = rate - r := ⟨_, rfl⟩
    have hpi : (rate : Int) - (r : Int) = (p : Int) := by omega
    have hp2 : (p : Int) < (rate : Int) := by omega
    have hp3 : p < rate := by omega
    have fin : bytepad s rate l = s2.absorb (zeros p) := by
      have e : padN rate ((lenc rate).length + l.length) = p := by
        unfold padN
        rw [HLL.out, hn, ← HR.out, ← hp, Nat.mod_eq_of_lt hp3]
      unfold bytepad
      rw [e, Sp.absorb_append, Sp.absorb_append, ← HS1.out, ← HS2.out]
    have mk := run_make22 (p : Int) 168 p 168 rfl rfl (by omega) (by omega) w3
    obtain ⟨w4, hw4⟩ : ∃ w4, w4 = w3.alloc (.cells ((zeros 168).map BV).toArray 5) := ⟨_, rfl⟩
    rw [← hw4] at mk
    have m4 : Mod b w w4 := by rw [hw4]; exact m3.alloc _
    have h4 : Has w4 b t s2 ib := by rw [hw4]; exact h3.alloc _
    have g4 : w4.heap[w3.heap.size]? = some (.cells ((zeros 168).map BV).toArray 5 (0, 0)) := by rw [hw4]; exact heap_alloc_new _ _
    have hl4 : Lies w4 ⟨w3.heap.size, 0, none⟩ (zeros p) := by
      have e : zeros p = ((zeros 168).drop 0).take p := by
        simp only [zeros, List.drop_zero, List.take_replicate]
        rw [Nat.min_eq_left (by omega)]
      rw [e]
      exact (lies_row g4 0).take p
    have hc4 := fwrite_any w4 b t s2 ib h4 k2 q2 (some ⟨w3.heap.size, 0, none⟩) 168 p (zeros p) (zeros_len p) ⟨by rw [zeros_len]; omega, by omega, .inr ⟨_, _, rfl, by have := h3.size; omega, hl4⟩⟩
    have FIN := Lib.hid fin
    have HC4 := Lib.hid hc4
    have HPP := Lib.hid hp
    clear fin hc4 hw4 g4 hp
    go_wp2_with fail
    refine HC4.out.mono ?_
    rintro e w5 ⟨rfl, e5⟩
    go_wp2_with fail
    go_end0
    exact ⟨rfl, by rw [FIN.out]; exact e5.has (h4.setRow _ _), (m4.setRow _).eqv e5⟩
end Go.Proofs.Ythemhpefcfdcaaa
