/- spec.Joined, spec.Mixed. -/
import Derived.Test.YthemhpefcfdcaaaTake
import Derived.Deep.RegionLaw
import Derived.Deep.AppendLies
namespace Go.Proofs.Ythemhpefcfdcaaa
open Go.RowKit
set_option linter.unusedVariables false

theorem Bs.of_own {w : World} {base : Nat} {a : Option Addr} {n c : Nat} {l : List UInt8} (h : w.ownsRow base 5 1 (.slice a n c) n (l.map BV)) : l.length = n ∧ Bs w.heap.size w a c l := by
  have hn : l.length = n := by have := h.1; simp at this; omega
  refine ⟨hn, ?_⟩
  rcases h.2 with ⟨e, h0⟩ | ⟨g, cap, cur, e, hg, hh, hle, hm, hsz, htk⟩
  · simp only [Value.slice.injEq] at e
    have : l = [] := List.eq_nil_of_length_eq_zero (by omega)
    exact ⟨by omega, by omega, .inl this⟩
  · simp only [Value.slice.injEq] at e
    obtain ⟨rfl, _, rfl⟩ := e
    refine ⟨by omega, by unfold maxLen at hm; omega, .inr ⟨g, 0, rfl, (Array.getElem?_eq_some_iff.1 hh).1, fun i z hi => ?_⟩⟩
    have e1 : (l.map BV)[i]? = some (BV z) := by rw [List.getElem?_map, hi]; rfl
    rw [← htk, List.getElem?_take] at e1
    split at e1
    · rw [add_row]
      simp only [World.cell?, hh, Nat.zero_add]
      simpa using e1
    · cases e1

/-- where the joining stands: i parts are joined -/
def JoO (w : World) (ls : List (List UInt8)) (v o : Value) (wr : World) : Prop :=
  ∃ (i n : Nat), v = .int .i64 (i : Int) ∧ i ≤ ls.length ∧ Below w.heap.size w wr ∧ wr.ownsRow w.heap.size 5 1 o n (((ls.take i).flatten).map BV)
/-- and j bytes of a further part -/
def JoI (w : World) (pre l : List UInt8) (v o : Value) (wr : World) : Prop :=
  ∃ (j n : Nat), v = .int .i64 (j : Int) ∧ j ≤ l.length ∧ Below w.heap.size w wr ∧ wr.ownsRow w.heap.size 5 1 o n ((pre ++ l.take j).map BV)

theorem flatten_take_le (ls : List (List UInt8)) (i : Nat) : (ls.take i).flatten.length ≤ ls.flatten.length := by
  have : ls.flatten = (ls.take i).flatten ++ (ls.drop i).flatten := by rw [← List.flatten_append, List.take_append_drop]
  rw [this, List.length_append]; omega

set_option maxRecDepth 100000 in
set_option maxHeartbeats 2000000 in
theorem joined_any (w : World) (a : Option Addr) (c p L : Nat) (ls : List (List UInt8)) (hp : ls.length = p) (hL : ls.flatten.length = L) (hW : Rows2 w.heap.size w a c ls) (hb : L ≤ 140737488355328) :
    Calls Try.prog 28 #[.slice a p c] w fun e w' => ∃ a cap, e = .returned (.slice a L cap) ∧ Bs w'.heap.size w' a cap ls.flatten ∧ Below w.heap.size w w' := by
  have hpb : p ≤ 9223372036854775807 := by have := hW.1; have := hW.2.1; omega
  have HP := Lib.hid hp
  have HL := Lib.hid hL
  have st : JoO w ls (.int .i64 ((0 : Nat) : Int)) (.slice (some ⟨w.heap.size, 0, none⟩) 0 0) (w.alloc (.cells #[] 5)) :=
    ⟨0, 0, rfl, Nat.zero_le _, (Below.refl _ _).alloc (Nat.le_refl _) _, own_empty w 5 w.heap.size (Nat.le_refl _)⟩
  clear hp hL
  go_enter Try.func28, Try.ntmps28
  go_wp2_with fail
  generalize w.alloc (.cells #[] 5) = w2 at *
  generalize Value.slice (some ⟨w.heap.size, 0, none⟩) 0 0 = o2 at *
  go_loopw [11, 3] (fun v o wr => JoO w ls v o wr) (fun v _ _ => p - (intOf v).toNat)
  case atStart => exact st
  case round =>
    obtain ⟨i, n0, rfl, hi, bl2, own2⟩ := hrel
    by_cases hlt : i < p
    · obtain ⟨l, hl⟩ : ∃ l, ls[i]? = some l := ⟨ls[i]'(by rw [HP.out]; exact hlt), by simp [HP.out, hlt]⟩
      obtain ⟨pb, po, va, vc, e1, e2, c0, bs⟩ := hW.at hl
      subst e1
      have c1 : wr.cell? ⟨pb, po + i, none⟩ = some (.slice va l.length vc) := by rw [bl2.cell (p := ⟨pb, po + i, none⟩) e2]; exact c0
      have i1 : (i : Int) < (p : Int) := by omega
      obtain ⟨lm, hlm⟩ : ∃ lm, lm = l.length := ⟨_, rfl⟩
      rw [← hlm] at c1
      have hlb : lm ≤ 9223372036854775807 := by have := bs.1; have := bs.2.1; omega
      have hsuc := take_flatten_succ ls i l hl
      have htot : ((ls.take i).flatten ++ l).length ≤ L := by rw [← hsuc, ← HL.out]; exact flatten_take_le _ _
      have HSUC := Lib.hid hsuc
      have HLM := Lib.hid hlm
      have HLL := Lib.hid hl
      obtain ⟨pre, hpre⟩ : ∃ pre, pre = (ls.take i).flatten := ⟨_, rfl⟩
      rw [← hpre] at own2 HSUC htot
      have HPRE := Lib.hid hpre
      have HTOT := Lib.hid htot
      clear hl hlm hsuc hpre htot c0
      go_wp2_with fail
      have own2' : wr.ownsRow w.heap.size 5 1 u3 n0 ((pre ++ l.take 0).map BV) := by simpa using own2
      have st2 : JoI w pre l (.int .i64 ((0 : Nat) : Int)) u3 wr := ⟨0, n0, rfl, Nat.zero_le _, bl2, own2'⟩
      clear own2 own2' bl2 st c1
      obtain ⟨w3, rfl⟩ : ∃ w3 : World, w3 = wr := ⟨_, rfl⟩
      go_loopw [17, 3] (fun v o wr => JoI w pre l v o wr) (fun v _ _ => lm - (intOf v).toNat)
      case atStart => exact st2
      case round =>
        obtain ⟨j, n1, rfl, hj, bl4, own4⟩ := hrel
        by_cases hlt2 : j < lm
        · obtain ⟨x, hx⟩ : ∃ x, l[j]? = some x := ⟨l[j]'(by rw [← HLM.out]; exact hlt2), by simp [← HLM.out, hlt2]⟩
          obtain ⟨qb, qo, e3, e4, c2⟩ := (bs.keep bl4).at hx
          subst e3
          have i2 : (j : Int) < (lm : Int) := by omega
          obtain ⟨i0, hi0, hz0, hz1, hz2⟩ := info_parts info5
          have HI0 := Lib.hid hi0
          have HZ0 := Lib.hid hz0
          have HZ1 := Lib.hid hz1
          have HZ2 := Lib.hid hz2
          have hn1 : n1 + 1 ≤ 140737488355328 := by
            have h1 := own4.1
            have h2 := HTOT.out
            have h3 := HLM.out
            simp at h1 h2
            omega
          have HX := Lib.hid hx
          have s4 := bl4.size
          clear hi0 hz0 hz1 hz2 hx
          go_wp2_with (refine wpList_append_own _ rfl _ _ 22 rfl w.heap.size 5 i0 (.int .u8 0) 1 1 Try.underlying22 HI0.out HZ0.out HZ1.out HZ2.out rfl (by decide) _ _ _ rfl (own4.alloc _) ⟨wr.heap.size, 0, none⟩ 1 1 [BV x] rfl rfl (cell_one_new _ _ _) (by simp [Value.oneCell', BV]) (by unfold maxLen; omega) (by omega) (by simp; omega) ?_; intro v' w6 own6 grow6 _)
          refine ⟨⟨j + 1, n1 + 1, by go_num, by rw [← HLM.out]; omega, ?_, ?_⟩, ?_⟩
          · exact (bl4.alloc bl4.size _).grown grow6 (by simp; omega) fun k' hk' => (own4.lt k' hk').1
          · have e : (pre ++ l.take (j + 1)).map BV = (pre ++ l.take j).map BV ++ [BV x] := by
              rw [List.take_add_one, HX.out]; simp
            rw [e]; exact own6
          · simp [intOf]; omega
        · have hjm : j = lm := by rw [← HLM.out] at hj; omega
          have htk : l.take j = l := List.take_of_length_le (by rw [← HLM.out]; omega)
          rw [htk, ← HSUC.out] at own4
          have fin : JoO w ls (.int .i64 ((i + 1 : Nat) : Int)) u3 wr := ⟨i + 1, n1, rfl, by rw [HP.out]; omega, bl4, own4⟩
          clear htk own4 hjm
          go_wp2_with fail
          go_roundw
          case rel => exact fin
          case measure => simp [intOf]; omega
    · have hip : i = p := by rw [HP.out] at hi; omega
      have htk : ls.take i = ls := List.take_of_length_le (by rw [HP.out]; omega)
      rw [htk] at own2
      obtain ⟨a', c', rfl⟩ := own_slice own2
      obtain ⟨hn0, hB⟩ := Bs.of_own own2
      have hnL : n0 = L := by rw [← HL.out, hn0]
      clear htk own2 hip hn0
      subst hnL
      go_wp2_with fail
      go_ret
      exact ⟨a', c', rfl, hB, bl2⟩

/-- where the mixing stands -/
def MiO (w : World) (l k : List UInt8) (v o : Value) (wr : World) : Prop :=
  ∃ (i : Nat), v = .int .i64 (i : Int) ∧ i ≤ min l.length k.length ∧ Below w.heap.size w wr ∧ wr.ownsRow w.heap.size 5 1 o i ((List.zipWith (· ^^^ ·) (l.take i) (k.take i)).map BV)

set_option maxRecDepth 100000 in
set_option maxHeartbeats 2000000 in
theorem mixed_any (w : World) (a1 a2 : Option Addr) (c1 c2 n m k : Nat) (l1 l2 : List UInt8) (hn : l1.length = n) (hm : l2.length = m) (hk : min n m = k) (h1 : Bs w.heap.size w a1 c1 l1) (h2 : Bs w.heap.size w a2 c2 l2) (hb : k ≤ 140737488355328) :
    Calls Try.prog 27 #[.slice a1 n c1, .slice a2 m c2] w fun e w' => ∃ a cap, e = .returned (.slice a k cap) ∧ Bs w'.heap.size w' a cap (List.zipWith (· ^^^ ·) l1 l2) ∧ Below w.heap.size w w' := by
  have hnb : n ≤ 9223372036854775807 := by have := h1.1; have := h1.2.1; omega
  have hmb : m ≤ 9223372036854775807 := by have := h2.1; have := h2.2.1; omega
  have HN := Lib.hid hn
  have HM := Lib.hid hm
  have st : MiO w l1 l2 (.int .i64 ((0 : Nat) : Int)) (.slice (some ⟨w.heap.size, 0, none⟩) 0 0) (w.alloc (.cells #[] 5)) :=
    ⟨0, rfl, Nat.zero_le _, (Below.refl _ _).alloc (Nat.le_refl _) _, own_empty w 5 w.heap.size (Nat.le_refl _)⟩
  have hmin : (if m < n then (m : Int) else (n : Int)) = (k : Int) := by split <;> omega
  have HK := Lib.hid hk
  clear hk
  clear hn hm
  go_enter Try.func27, Try.ntmps27
  go_wp2_with fail
  generalize w.alloc (.cells #[] 5) = w2 at *
  generalize Value.slice (some ⟨w.heap.size, 0, none⟩) 0 0 = o2 at *
  go_loopw [6, 5] (fun v o wr => MiO w l1 l2 v o wr) (fun v _ _ => k - (intOf v).toNat)
  case atStart => exact st
  case round =>
    obtain ⟨i, rfl, hi, bl2, own2⟩ := hrel
    by_cases hlt : i < k
    · have q1 : i < n := by have := HK.out; omega
      have q2 : i < m := by have := HK.out; omega
      obtain ⟨x, hx⟩ : ∃ x, l1[i]? = some x := ⟨l1[i]'(by rw [HN.out]; exact q1), by simp [HN.out, q1]⟩
      obtain ⟨y, hy⟩ : ∃ y, l2[i]? = some y := ⟨l2[i]'(by rw [HM.out]; exact q2), by simp [HM.out, q2]⟩
      obtain ⟨pb, po, e1, e2, d1⟩ := (h1.keep bl2).at hx
      obtain ⟨qb, qo, e3, e4, d2⟩ := (h2.keep bl2).at hy
      subst e1 e3
      have i1 : (i : Int) < (n : Int) := by omega
      have i2 : (i : Int) < (m : Int) := by omega
      have i3 : (i : Int) < (k : Int) := by omega
      have HX := Lib.hid hx
      have HY := Lib.hid hy
      obtain ⟨i0, hi0, hz0, hz1, hz2⟩ := info_parts info5
      have HI0 := Lib.hid hi0
      have HZ0 := Lib.hid hz0
      have HZ1 := Lib.hid hz1
      have HZ2 := Lib.hid hz2
      clear hi0 hz0 hz1 hz2 hx hy
      go_wp2_with fail
      have bl3 : Below w.heap.size w wr.drew := bl2.trans ⟨rfl, rfl, rfl, Nat.le_refl _, fun _ _ => rfl⟩
      have own3 : wr.drew.ownsRow w.heap.size 5 1 u5 i ((List.zipWith (· ^^^ ·) (l1.take i) (l2.take i)).map BV) := own2
      obtain ⟨a0, c0, rfl⟩ := own_slice own3
      have s3 := bl3.size
      have bl4 : Below w.heap.size w (wr.drew.alloc (.cells #[.int .u8 (bits .xor .u8 x.toNat y.toNat)] 5)) := bl3.alloc bl3.size _
      have own4 := own3.alloc (Obj.cells #[.int .u8 (bits .xor .u8 x.toNat y.toNat)] 5)
      obtain ⟨a6, c6, w6, hap, own6, grow6⟩ := app_own (wr.drew.alloc (.cells #[.int .u8 (bits .xor .u8 x.toNat y.toNat)] 5)) w.heap.size 22 5 (.int .u8 0) 1 Try.underlying22 info5 rfl a0 i c0 _ own4 bl4.size (some ⟨wr.drew.heap.size, 0, none⟩) 1 1 [.int .u8 (bits .xor .u8 x.toNat y.toNat)] rfl (.inr ⟨_, rfl, cell_one_new _ _ _⟩) (by simp [Value.oneCell']) (by omega) (by omega) 22
      have HAP := Lib.hid hap
      rw [bits_xor] at own6
      have bl6 : Below w.heap.size w w6 := bl4.grown grow6 bl4.size fun k' hk' => (own3.lt k' hk').1
      have e : (List.zipWith (· ^^^ ·) (l1.take (i + 1)) (l2.take (i + 1))).map BV = (List.zipWith (· ^^^ ·) (l1.take i) (l2.take i)).map BV ++ [BV (x ^^^ y)] := by
        rw [List.take_add_one, List.take_add_one, HX.out, HY.out, Option.toList_some, Option.toList_some, List.zipWith_append (by simp [HN.out, HM.out]; omega)]
        simp
      have own6' : w6.ownsRow w.heap.size 5 1 (.slice a6 (i + 1) c6) (i + 1) ((List.zipWith (· ^^^ ·) (l1.take (i + 1)) (l2.take (i + 1))).map BV) := by rw [e]; exact own6
      have fin : MiO w l1 l2 (.int .i64 ((i + 1 : Nat) : Int)) (.slice a6 (i + 1) c6) w6 := ⟨i + 1, rfl, by rw [HN.out, HM.out]; have := HK.out; omega, bl6, own6'⟩
      have d3 : wr.drew.cell? ⟨pb, po + i, none⟩ = some (.int .u8 (x.toNat : Int)) := d1
      have d4 : wr.drew.cell? ⟨qb, qo + i, none⟩ = some (.int .u8 (y.toNat : Int)) := d2
      clear hap own6 own6' e own2 own3 own4 bl4 grow6 bl6 bl3 bl2
      go_region_law (first | (refine step_appendR (by rfl) _ _ _ (by rfl) _ _ (by rfl) (by rfl) _ _ HAP.out ?_))
      all_goals go_wp2_with fail
      all_goals exact ⟨fin, by simp [intOf]; omega⟩
    · have hik : i = k := by have := HK.out; rw [HN.out, HM.out] at hi; omega
      have i3 : ¬ (i : Int) < (k : Int) := by omega
      have e : List.zipWith (· ^^^ ·) (l1.take i) (l2.take i) = List.zipWith (· ^^^ ·) l1 l2 := by
        rw [← List.take_zipWith]
        exact List.take_of_length_le (by rw [List.length_zipWith, HN.out, HM.out, HK.out]; omega)
      rw [e] at own2
      obtain ⟨a', c', rfl⟩ := own_slice own2
      obtain ⟨hn0, hB⟩ := Bs.of_own own2
      clear own2 e hn0
      subst hik
      go_wp2_with fail
      go_ret
      exact ⟨a', c', rfl, hB, bl2⟩
end Go.Proofs.Ythemhpefcfdcaaa
