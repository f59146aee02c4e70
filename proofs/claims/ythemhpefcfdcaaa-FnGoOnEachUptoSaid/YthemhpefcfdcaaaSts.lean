/- impl.States: the states behind each write and each read. -/
import Derived.Test.YthemhpefcfdcaaaState
import Derived.Test.YthemhpefcfdcaaaSpec
namespace Go.Proofs.Ythemhpefcfdcaaa
open Go.RowKit
set_option linter.unusedVariables false

/-- the states behind each write -/
def wsts (l : List UInt8) : List (List UInt8) → Sp → List (List UInt8)
  | [], _ => []
  | d :: ds, s => (marsh (s.absorb d) ++ l) :: wsts l ds (s.absorb d)
/-- the states behind each read -/
def rsts (l : List UInt8) : List Int → Sp → List (List UInt8)
  | [], _ => []
  | n :: ns, s => (marsh (s.read (rdLen n)) ++ l) :: rsts l ns (s.read (rdLen n))
theorem wsts_len (l : List UInt8) : ∀ (ds : List (List UInt8)) (s : Sp), (wsts l ds s).length = ds.length
  | [], _ => rfl
  | d :: ds, s => by simp [wsts, wsts_len l ds]
theorem rsts_len (l : List UInt8) : ∀ (ns : List Int) (s : Sp), (rsts l ns s).length = ns.length
  | [], _ => rfl
  | n :: ns, s => by simp [rsts, rsts_len l ns]
theorem wsts_append (l : List UInt8) : ∀ (a b : List (List UInt8)) (s : Sp), wsts l (a ++ b) s = wsts l a s ++ wsts l b (s.absorb a.flatten)
  | [], b, s => by simp [wsts, Sp.absorb]
  | d :: a, b, s => by simp [wsts, wsts_append l a b, Sp.absorb_append]
theorem rsts_append (l : List UInt8) : ∀ (a b : List Int) (s : Sp), rsts l (a ++ b) s = rsts l a s ++ rsts l b (after a s)
  | [], b, s => rfl
  | n :: a, b, s => by simp [rsts, after, rsts_append l a b]
theorem wsts_snoc (l : List UInt8) (ls : List (List UInt8)) (i : Nat) (d : List UInt8) (s : Sp) (h : ls[i]? = some d) : wsts l (ls.take (i + 1)) s = wsts l (ls.take i) s ++ [marsh (s.absorb (ls.take (i + 1)).flatten) ++ l] := by
  rw [take_flatten_succ ls i d h, Sp.absorb_append, List.take_add_one, h, Option.toList_some, wsts_append]
  rfl
theorem rsts_snoc (l : List UInt8) (zs : List Int) (i : Nat) (z : Int) (s : Sp) (h : zs[i]? = some z) : rsts l (zs.take (i + 1)) s = rsts l (zs.take i) s ++ [marsh (after (zs.take (i + 1)) s) ++ l] := by
  rw [after_snoc zs i z s h, List.take_add_one, h, Option.toList_some, rsts_append]
  rfl

/-- one part more in a row that the call owns -/
theorem step_app {w w5 w6 : World} {b g m k : Nat} {s : Sp} {ib o : Value} {l x : List UInt8} {xs : List Value} {os : List (List UInt8)} (own5 : w5.ownsRow w.heap.size 22 1 o k xs) (out5 : Outs w.heap.size w5 xs os) (sh5 : Shk w5 b s ib) (ib5 : IbIs w5 w.heap.size ib l) (bel5 : Below w.heap.size w w5)
    (hx : x.length = m) (hxb : m ≤ 9223372036854775807) (hg : w.heap.size ≤ g) (hrow : w5.heap[g]? = some (.cells (x.map BV).toArray 5 (0, 0))) (grow6 : (w5.alloc (.cells #[.slice (some ⟨g, 0, none⟩) m m] 22)).grownBy w6 o.ownBlock) :
    Shk w6 b s ib ∧ IbIs w6 w.heap.size ib l ∧ Below w.heap.size w w6 ∧ Outs w.heap.size w6 (xs ++ [.slice (some ⟨g, 0, none⟩) m m]) (os ++ [x]) := by
  have own5a := own5.alloc (Obj.cells #[.slice (some ⟨g, 0, none⟩) m m] 22)
  have al : ∀ (g' : Nat) (c : Array Value), w5.heap[g']? = some (.cells c 5 (0, 0)) → (w5.alloc (Obj.cells #[.slice (some ⟨g, 0, none⟩) m m] 22)).heap[g']? = w5.heap[g']? := fun g' c hc => Below.heap_alloc _ _ _ (Array.getElem?_eq_some_iff.1 hc).1
  have ks : ∀ (g' : Nat) (c : Array Value), w5.heap[g']? = some (.cells c 5 (0, 0)) → w6.heap[g']? = w5.heap[g']? := fun g' c hc => by
    have := al g' c hc
    rw [grown_bytes own5a grow6 g' c (by rw [this]; exact hc), this]
  have hs5 := bel5.size
  refine ⟨grown_shk own5a grow6 (sh5.keep (Below.heap_alloc _ _ _ sh5.size)), ib5.keep5 ks, ?_, ?_⟩
  · exact (bel5.alloc bel5.size _).grown grow6 (by simp; omega) fun k' hk' => (own5.lt k' hk').1
  · have o6 := out5.keep (w' := w6) fun g' c _ hc => ks g' c hc
    have e := o6.snoc x (by rw [hx]; exact hxb) g hg (by rw [ks g _ hrow]; exact hrow)
    rw [hx] at e
    exact e

def StW (w : World) (b : Nat) (s : Sp) (ib : Value) (l : List UInt8) (ls : List (List UInt8)) (v o : Value) (wr : World) : Prop :=
  ∃ (i : Nat) (xs : List Value), v = .int .i64 (i : Int) ∧ i ≤ ls.length ∧ Shk wr b (s.absorb (ls.take i).flatten) ib ∧ IbIs wr w.heap.size ib l ∧ Below w.heap.size w wr ∧
    wr.ownsRow w.heap.size 22 1 o i xs ∧ Outs w.heap.size wr xs (wsts l (ls.take i) s)
def StR (w : World) (b : Nat) (s : Sp) (ib : Value) (l : List UInt8) (p : Nat) (pre : List (List UInt8)) (zs : List Int) (v o : Value) (wr : World) : Prop :=
  ∃ (i : Nat) (xs : List Value), v = .int .i64 (i : Int) ∧ i ≤ zs.length ∧ Shk wr b (after (zs.take i) s) ib ∧ IbIs wr w.heap.size ib l ∧ Below w.heap.size w wr ∧
    wr.ownsRow w.heap.size 22 1 o (p + i) xs ∧ Outs w.heap.size wr xs (pre ++ rsts l (zs.take i) s)

theorem start_ds (kind : Int) (N S : List UInt8) : (start kind N S).ds = 31 ∨ (start kind N S).ds = 4 := by
  unfold start cst bytepad
  split
  · exact .inl rfl
  split
  · exact .inl rfl
  split
  · split
    · exact .inl rfl
    · exact .inr (by rw [(Sp.absorb_same _ _).2.1]; rfl)
  split
  · split
    · exact .inl rfl
    · exact .inr (by rw [(Sp.absorb_same _ _).2.1]; rfl)
  · exact .inl rfl

theorem startIB_le (kind : Int) (N S : List UInt8) (hN : N.length ≤ 140737488355328) (hS : S.length ≤ 140737488355328) : (startIB kind N S).length ≤ 18 + N.length + S.length := by
  unfold startIB cib
  split
  · split
    · simp
    · exact initB_le N S hN hS
  · simp

set_option maxRecDepth 100000 in
set_option maxHeartbeats 2000000 in
theorem states_any (w : World) (kind : Int) (aN aS aW aR : Option Addr) (cN cS cW cR n m p r : Nat) (N S : List UInt8) (ls : List (List UInt8)) (zs : List Int)
    (hn : N.length = n) (hm : S.length = m) (hp : ls.length = p) (hr : zs.length = r) (hN : Bs w.heap.size w aN cN N) (hS : Bs w.heap.size w aS cS S) (hW : Rows2 w.heap.size w aW cW ls) (hR : Ints w.heap.size w aR cR zs)
    (hnb : n ≤ 140737488355328) (hmb : m ≤ 140737488355328) (hsum : 225 + n + m ≤ 281474976710656) (hrb : (p + r) * 24 ≤ 140737488355328) :
    Calls Try.prog 29 #[.int .i64 kind, .slice aN n cN, .slice aS m cS, .slice aW p cW, .slice aR r cR] w fun e w' =>
      ∃ a cap, e = .returned (.slice a (p + r) cap) ∧ Rows2 w'.heap.size w' a cap (wsts (startIB kind N S) ls (start kind N S) ++ rsts (startIB kind N S) zs ((start kind N S).absorb ls.flatten)) ∧ Below w.heap.size w w' := by
  have hc := open_any w kind aN aS cN cS n m N S hn hm hN hS hnb hmb (by omega)
  obtain ⟨ok0, sq0, ol0⟩ := start_ok kind N S
  have ds0 := start_ds kind N S
  have lib := startIB_le kind N S (by omega) (by omega)
  obtain ⟨s, hs⟩ : ∃ s, s = start kind N S := ⟨_, rfl⟩
  obtain ⟨l, hl⟩ : ∃ l, l = startIB kind N S := ⟨_, rfl⟩
  rw [← hs] at hc ok0 sq0 ol0 ds0
  rw [← hl] at hc lib
  rw [← hs, ← hl]
  obtain ⟨q, hq⟩ : ∃ q, l.length = q := ⟨_, rfl⟩
  have hqb : 207 + q ≤ 281474976710656 := by omega
  have HC := Lib.hid hc
  have HSQ := Lib.hid sq0
  have HQ := Lib.hid hq
  have hpb : p ≤ 9223372036854775807 := by omega
  have hrb2 : r ≤ 9223372036854775807 := by omega
  have HP := Lib.hid hp
  have HR' := Lib.hid hr
  have hml : ∀ t : Sp, t.Ok → (marsh t ++ l).length = 207 + q := fun t ht => by rw [List.length_append, marsh_len _ ht.len, hq]
  have HML := Lib.hid hml
  obtain ⟨i22, hi0, hz0, hz1, hz2⟩ := info_parts info22
  have HI0 := Lib.hid hi0
  have HZ0 := Lib.hid hz0
  have HZ1 := Lib.hid hz1
  have HZ2 := Lib.hid hz2
  clear hi0 hz0 hz1 hz2 hml lib
  clear hc hs hl sq0 hN hS hp hr hn hm hq
  go_enter Try.func29, Try.ntmps29
  go_wp2_with fail
  refine HC.out.mono ?_
  rintro e w1 ⟨b, ib, rfl, hb, h1, hib1, _, bl1⟩
  go_wp2_with fail
  have hb1 := h1.size
  have st : StW w b s ib l ls (.int .i64 ((0 : Nat) : Int)) (.slice (some ⟨w1.heap.size, 0, none⟩) 0 0) (w1.alloc (.cells #[] 22)) :=
    ⟨0, [], rfl, Nat.zero_le _, by simpa [Sp.absorb] using h1.keep (w' := w1.alloc (.cells #[] 22)) (Below.heap_alloc _ _ _ hb1), hib1.keep fun g _ hg => Below.heap_alloc _ _ _ hg, bl1.alloc bl1.size _, own_empty w1 22 w.heap.size bl1.size, Outs.nil _ _⟩
  clear h1 bl1 hb1 HC hib1
  generalize w1.alloc (.cells #[] 22) = w2 at *
  generalize Value.slice (some ⟨w1.heap.size, 0, none⟩) 0 0 = o2 at *
  go_loopw [24, 12] (fun v o wr => StW w b s ib l ls v o wr) (fun v _ _ => p - (intOf v).toNat)
  case atStart => exact st
  case round =>
    obtain ⟨i, xs, rfl, hi, h2, hib2, bl2, own2, out2⟩ := hrel
    by_cases hlt : i < p
    · obtain ⟨d, hd⟩ : ∃ d, ls[i]? = some d := ⟨ls[i]'(by rw [HP.out]; exact hlt), by simp [HP.out, hlt]⟩
      obtain ⟨pb, po, va, vc, e1, e2, c1, bs⟩ := (hW.keep bl2).at hd
      subst e1
      have ok2 := ok0.absorb HSQ.out (ls.take i).flatten
      have hcw := swrite_any wr b (s.absorb (ls.take i).flatten) ib h2 ok2.1 ok2.2 va vc d.length d rfl (bs.arg hb)
      obtain ⟨t, ht⟩ : ∃ t, t = s.absorb (ls.take (i + 1)).flatten := ⟨_, rfl⟩
      have et : (s.absorb (ls.take i).flatten).absorb d = t := by rw [ht, take_flatten_succ ls i d hd, Sp.absorb_append]
      rw [et] at hcw
      have okt : t.Ok := by rw [ht]; exact (ok0.absorb HSQ.out _).1
      have olt : 0 < t.ol := by rw [ht, (Sp.absorb_same _ _).2.2.1]; exact ol0
      have dst : t.ds = 31 ∨ t.ds = 4 := by rw [ht, (Sp.absorb_same _ _).2.1]; exact ds0
      have i1 : (i : Int) < (p : Int) := by omega
      have HCW := Lib.hid hcw
      have HD := Lib.hid hd
      have HT := Lib.hid ht
      clear hcw hd ht et dst
      have DST : Hid (t.ds = 31 ∨ t.ds = 4) := by have := HT.out; exact Lib.hid (by rw [this, (Sp.absorb_same _ _).2.1]; exact ds0)
      go_wp2_with fail
      refine HCW.out.mono ?_
      rintro e w3 ⟨rfl, h3, m3⟩
      have sh3 : Shk w3 b t ib := Shk.of h3 olt
      have ib3 := hib2.mod h2 m3
      have H4 := Lib.hid (state_any w3 b q w.heap.size t ib l sh3 okt DST.out HQ.out ib3 hqb)
      clear HCW
      go_wp2_with fail
      refine H4.out.mono ?_
      rintro e w5 ⟨g, rfl, hg, h5, hg5, m5⟩
      have m35 := m3.trans m5
      have own5 := ownsRow_mod own2 m35 (h2.type (by decide))
      have out5 := out2.keep (w' := w5) fun g' c _ hc => m35.block g' (Array.getElem?_eq_some_iff.1 hc).1 (fun e => h2.type (t := 5) (by decide) c (by rw [← e]; exact hc))
      have ib5 := ib3.mod sh3 m5
      have bel5 : Below w.heap.size w w5 := bl2.trans (m35.below hb bl2.size)
      have sh5 : Shk w5 b t ib := Shk.of h5 olt
      have hs3 := m3.size
      have hs2 := bl2.size
      have hs5 := bel5.size
      have HG5 := Lib.hid hg5
      clear H4 hg5
      go_wp2_with (refine wpList_append_own _ rfl _ _ 23 rfl w.heap.size 22 i22 (.slice none 0 0) 1 24 Try.underlying23 HI0.out HZ0.out HZ1.out HZ2.out rfl (by decide) _ _ _ rfl (own5.alloc _) ⟨w5.heap.size, 0, none⟩ 1 1 [.slice (some ⟨g, 0, none⟩) (207 + q) (207 + q)] rfl rfl (cell_one_new _ _ _) (by simp [Value.oneCell']) (by unfold maxLen; omega) (by omega) (by simp; omega) ?_; intro v' w6 own6 grow6 _)
      obtain ⟨f1, f2, f3, f4⟩ := step_app own5 out5 sh5 ib5 bel5 (HML.out t okt) (by omega) (by omega) HG5.out grow6
      refine ⟨⟨i + 1, _, by go_num, by rw [HP.out]; omega, by rw [← HT.out]; exact f1, f2, f3, own6, ?_⟩, ?_⟩
      · rw [wsts_snoc l ls i d s HD.out, ← HT.out]; exact f4
      · simp [intOf]; omega
    · have hip : i = p := by rw [HP.out] at hi; omega
      have htk : ls.take i = ls := List.take_of_length_le (by rw [HP.out]; omega)
      rw [htk] at h2 out2
      obtain ⟨s1, hs1⟩ : ∃ s1, s1 = s.absorb ls.flatten := ⟨_, rfl⟩
      obtain ⟨pre, hpre⟩ : ∃ pre, pre = wsts l ls s := ⟨_, rfl⟩
      have ok1 : s1.Ok := by rw [hs1]; exact (ok0.absorb HSQ.out _).1
      have ol1 : 0 < s1.ol := by rw [hs1, (Sp.absorb_same _ _).2.2.1]; exact ol0
      have ds1 : s1.ds = 31 ∨ s1.ds = 4 := by rw [hs1, (Sp.absorb_same _ _).2.1]; exact ds0
      have hpl : pre.length = p := by rw [hpre, wsts_len, HP.out]
      rw [← hs1] at h2
      rw [← hpre] at out2
      have HS1 := Lib.hid hs1
      have HPRE := Lib.hid hpre
      subst hip
      have HPL := Lib.hid hpl
      have st2 : StR w b s1 ib l i pre zs (.int .i64 ((0 : Nat) : Int)) u12 wr := ⟨0, xs, rfl, Nat.zero_le _, by simpa [after] using h2, hib2, bl2, own2, by simpa [rsts] using out2⟩
      have DS1 := Lib.hid ds1
      clear hs1 htk h2 bl2 st hpre ds1 own2 out2 hib2 hpl
      go_wp2_with fail
      obtain ⟨w3, rfl⟩ : ∃ w3 : World, w3 = wr := ⟨_, rfl⟩
      go_loopw [39, 12] (fun v o wr => StR w b s1 ib l i pre zs v o wr) (fun v _ _ => r - (intOf v).toNat)
      case atStart => exact st2
      case round =>
        obtain ⟨j, xs, rfl, hj, h4, hib4, bl4, own4, out4⟩ := hrel
        by_cases hlt2 : j < r
        · obtain ⟨z, hz⟩ : ∃ z, zs[j]? = some z := ⟨zs[j]'(by rw [HR'.out]; exact hlt2), by simp [HR'.out, hlt2]⟩
          obtain ⟨pb, po, e1, e2, c1⟩ := (hR.keep bl4).at hz
          subst e1
          obtain ⟨sj, hsj⟩ : ∃ sj, sj = after (zs.take j) s1 := ⟨_, rfl⟩
          rw [← hsj] at h4
          have okj : sj.Ok := by rw [hsj]; exact after_ok _ ok1
          have olj : 0 < sj.ol := by rw [hsj, (after_same _ _).2.2]; exact ol1
          obtain ⟨k, hk⟩ : ∃ k, k = rdLen z := ⟨_, rfl⟩
          obtain ⟨t, ht⟩ : ∃ t, t = after (zs.take (j + 1)) s1 := ⟨_, rfl⟩
          have et : sj.read k = t := by rw [ht, after_snoc zs j z s1 hz, hsj, hk]
          have okt : t.Ok := by rw [ht]; exact after_ok _ ok1
          have olt : 0 < t.ol := by rw [ht, (after_same _ _).2.2]; exact ol1
          have hcr := rd_any wr b sj ib h4 okj z k hk
          rw [et] at hcr
          have DST : Hid (t.ds = 31 ∨ t.ds = 4) := Lib.hid (by rw [ht, (after_same _ _).2.1]; exact DS1.out)
          have i1 : (j : Int) < (r : Int) := by omega
          have HCR := Lib.hid hcr
          have HZ := Lib.hid hz
          have HT := Lib.hid ht
          clear hcr hz hsj hk ht et
          go_wp2_with fail
          refine HCR.out.mono ?_
          rintro e w4 ⟨rfl, h3, _, m3⟩
          have sh3 : Shk w4 b t ib := Shk.of h3 olt
          have ib3 := hib4.mod h4 m3
          have H4 := Lib.hid (state_any w4 b q w.heap.size t ib l sh3 okt DST.out HQ.out ib3 hqb)
          clear HCR
          go_wp2_with fail
          refine H4.out.mono ?_
          rintro e w5 ⟨g, rfl, hg, h5, hg5, m5⟩
          have m35 := m3.trans m5
          have own5 := ownsRow_mod own4 m35 (h4.type (by decide))
          have out5 := out4.keep (w' := w5) fun g' c _ hc => m35.block g' (Array.getElem?_eq_some_iff.1 hc).1 (fun e => h4.type (t := 5) (by decide) c (by rw [← e]; exact hc))
          have ib5 := ib3.mod sh3 m5
          have bel5 : Below w.heap.size w w5 := bl4.trans (m35.below hb bl4.size)
          have sh5 : Shk w5 b t ib := Shk.of h5 olt
          have hs3 := m3.size
          have hs2 := bl4.size
          have hs5 := bel5.size
          have HG5 := Lib.hid hg5
          clear H4 hg5
          go_wp2_with (refine wpList_append_own _ rfl _ _ 23 rfl w.heap.size 22 i22 (.slice none 0 0) 1 24 Try.underlying23 HI0.out HZ0.out HZ1.out HZ2.out rfl (by decide) _ _ _ rfl (own5.alloc _) ⟨w5.heap.size, 0, none⟩ 1 1 [.slice (some ⟨g, 0, none⟩) (207 + q) (207 + q)] rfl rfl (cell_one_new _ _ _) (by simp [Value.oneCell']) (by unfold maxLen; omega) (by omega) (by simp; omega) ?_; intro v' w6 own6 grow6 _)
          obtain ⟨f1, f2, f3, f4⟩ := step_app own5 out5 sh5 ib5 bel5 (HML.out t okt) (by omega) (by omega) HG5.out grow6
          refine ⟨⟨j + 1, _, by go_num, by rw [HR'.out]; omega, by rw [← HT.out]; exact f1, f2, f3, own6, ?_⟩, ?_⟩
          · rw [rsts_snoc l zs j z s1 HZ.out, ← HT.out, ← List.append_assoc]; exact f4
          · simp [intOf]; omega
        · have hjr : j = r := by rw [HR'.out] at hj; omega
          have htk : zs.take j = zs := List.take_of_length_le (by rw [HR'.out]; omega)
          rw [htk] at out4
          obtain ⟨ra, rcap, e1, e2⟩ := out4.rows2 own4
          have hlen : (pre ++ rsts l zs s1).length = i + r := by rw [List.length_append, HPL.out, rsts_len, HR'.out]
          rw [hlen] at e1
          subst e1
          have HF := Lib.hid e2
          clear hjr htk e2 out4 own4 h4 hlen
          go_wp2_with fail
          go_ret
          exact ⟨ra, rcap, rfl, by rw [← HPRE.out, ← HS1.out]; exact HF.out, bl4⟩
end Go.Proofs.Ythemhpefcfdcaaa
