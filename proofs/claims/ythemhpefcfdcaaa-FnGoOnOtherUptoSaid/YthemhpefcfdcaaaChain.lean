/- impl.Chain. -/
import Derived.Test.YthemhpefcfdcaaaCut
namespace Go.Proofs.Ythemhpefcfdcaaa
open Go.RowKit
set_option linter.unusedVariables false

/-- a chain: each step reads k bytes behind what was given before, and the part -/
def chain (s : Sp) (k : Nat) : List UInt8 → List (List UInt8) → List (List UInt8)
  | _, [] => []
  | last, p :: ps => ((s.absorb last).absorb p).out k :: chain s k (((s.absorb last).absorb p).out k) ps
theorem chain_len (s : Sp) (k : Nat) : ∀ (ps : List (List UInt8)) (last : List UInt8), (chain s k last ps).length = ps.length
  | [], _ => rfl
  | p :: ps, last => by simp [chain, chain_len s k ps]
theorem chain_append (s : Sp) (k : Nat) : ∀ (a b : List (List UInt8)) (last : List UInt8), chain s k last (a ++ b) = chain s k last a ++ chain s k ((chain s k last a).getLastD last) b
  | [], b, last => rfl
  | p :: a, b, last => by
    simp only [List.cons_append, chain, chain_append s k a b, List.getLastD_cons]

theorem own_exact {w : World} {B g k : Nat} {l : List UInt8} (hB : B ≤ g) (hl : l.length = k) (hk : k ≤ 9223372036854775807) (h : w.heap[g]? = some (.cells (l.map BV).toArray 5 (0, 0))) : w.ownsRow B 5 1 (.slice (some ⟨g, 0, none⟩) k k) k (l.map BV) :=
  ⟨by simp [hl], .inr ⟨g, k, (l.map BV).toArray, rfl, hB, h, Nat.le_refl _, by unfold maxLen; omega, by simp [hl], by rw [← hl]; simp [List.take_of_length_le]⟩⟩

/-- where the chain stands -/
def ChO (w : World) (s : Sp) (k : Nat) (st : List UInt8) (ps : List (List UInt8)) (v la o : Value) (wr : World) : Prop :=
  ∃ (i : Nat) (L : List UInt8) (xs : List Value) (os : List (List UInt8)), v = .int .i64 (i : Int) ∧ i ≤ ps.length ∧ Below w.heap.size w wr ∧ wr.ownsRow w.heap.size 5 1 la L.length (L.map BV) ∧
    wr.ownsRow w.heap.size 22 1 o i xs ∧ Parts w.heap.size wr xs os ∧ os ++ chain s k L (ps.drop i) = chain s k st ps

set_option maxRecDepth 100000 in
set_option maxHeartbeats 2000000 in
theorem chain_any (w : World) (kind z : Int) (aN aS aT aP : Option Addr) (cN cS cT cP n m t p k : Nat) (N S st : List UInt8) (ps : List (List UInt8))
    (hn : N.length = n) (hm : S.length = m) (ht : st.length = t) (hp : ps.length = p) (hk : k = rdLen z) (hN : Bs w.heap.size w aN cN N) (hS : Bs w.heap.size w aS cS S) (hT : Bs w.heap.size w aT cT st) (hP : Rows2 w.heap.size w aP cP ps)
    (hnb : n ≤ 140737488355328) (hmb : m ≤ 140737488355328) (hsum : 18 + n + m ≤ 281474976710656) (htb : t ≤ 140737488355328) (hpb : p * 24 ≤ 140737488355328) :
    Calls Try.prog 25 #[.int .i64 kind, .slice aN n cN, .slice aS m cS, .slice aT t cT, .slice aP p cP, .int .i64 z] w fun e w' =>
      ∃ a cap xs, e = .returned (.slice a p cap) ∧ w'.ownsRow w.heap.size 22 1 (.slice a p cap) p xs ∧ Parts w.heap.size w' xs (chain (start kind N S) k st ps) ∧ Below w.heap.size w w' := by
  obtain ⟨ok0, sq0, ol0⟩ := start_ok kind N S
  obtain ⟨s, hs⟩ : ∃ s, s = start kind N S := ⟨_, rfl⟩
  have ho := fun (w' : World) (b : Below w.heap.size w w') => open_any w' kind aN aS cN cS n m N S hn hm ((hN.keep b).mono b.size) ((hS.keep b).mono b.size) hnb hmb hsum
  rw [← hs] at ok0 sq0 ol0 ho ⊢
  have HO := Lib.hid ho
  have HS := Lib.hid hs
  have HSQ := Lib.hid sq0
  have HP := Lib.hid hp
  have HK := Lib.hid hk
  have hk4 := rdLen_le z
  rw [← hk] at hk4
  have p1 : p ≤ 9223372036854775807 := by omega
  -- last
  have bl1 : Below w.heap.size w (w.alloc (.cells #[] 5)) := (Below.refl _ _).alloc (Nat.le_refl _) _
  have own1 := own_empty w 5 w.heap.size (Nat.le_refl _)
  obtain ⟨a2, c2, w2, hap2, own2, gr2⟩ := app_own (w.alloc (.cells #[] 5)) w.heap.size 22 5 (.int .u8 0) 1 Try.underlying22 info5 rfl _ 0 0 [] own1 (by simp) aT t cT (st.map BV) (by simpa using ht) (hT.keep bl1).src (by intro u hu; obtain ⟨y, _, rfl⟩ := List.mem_map.1 hu; rfl) (by omega) (by omega) 22
  have bl2 : Below w.heap.size w w2 := bl1.grown gr2 bl1.size fun k hk => (own1.lt k hk).1
  rw [Nat.zero_add] at hap2 own2
  have bl3 : Below w.heap.size w (w2.alloc (.cells #[] 22)) := bl2.alloc bl2.size _
  have sta : ChO w s k st ps (.int .i64 ((0 : Nat) : Int)) (.slice a2 t c2) (.slice (some ⟨w2.heap.size, 0, none⟩) 0 0) (w2.alloc (.cells #[] 22)) :=
    ⟨0, st, [], [], rfl, Nat.zero_le _, bl3, by rw [ht]; simpa using own2.alloc (Obj.cells #[] 22), own_empty w2 22 w.heap.size bl2.size, Parts.nil _ _, by simp⟩
  have HAP2 := Lib.hid hap2
  obtain ⟨i22, hi0, hz0, hz1, hz2⟩ := info_parts info22
  have HI22 := Lib.hid hi0
  have HZ220 := Lib.hid hz0
  have HZ221 := Lib.hid hz1
  have HZ222 := Lib.hid hz2
  clear hi0 hz0 hz1 hz2 hap2 own1 own2 gr2 bl1 bl2 bl3 hn hm hp ht hk hs sq0 ho hN hS hT
  go_enter Try.func25, Try.ntmps25
  go_wp2_with (refine wpList_appendR rfl _ _ _ rfl _ _ rfl rfl _ _ HAP2.out ?_; clear HAP2)
  generalize w2.alloc (.cells #[] 22) = w3 at *
  generalize Value.slice (some ⟨w2.heap.size, 0, none⟩) 0 0 = o3 at *
  generalize Value.slice a2 t c2 = la3 at *
  go_loopw [24, 13, 14] (fun v la o wr => ChO w s k st ps v la o wr) (fun v _ _ _ => p - (intOf v).toNat)
  case atStart => exact sta
  case round =>
    obtain ⟨i, L, xs, os, rfl, hi, bl4, owL, owO, hPa, hcat⟩ := hrel
    have s4 := bl4.size
    by_cases hlt : i < p
    · obtain ⟨l, hl⟩ : ∃ l, ps[i]? = some l := ⟨ps[i]'(by rw [HP.out]; exact hlt), by simp [HP.out, hlt]⟩
      obtain ⟨pb, po, va, vc, e1, e2, c1, bs⟩ := (hP.keep bl4).at hl
      subst e1
      obtain ⟨la, lc, rfl⟩ := own_slice owL
      have hLB := (Bs.of_own owL).2
      have hdr : ps.drop i = l :: ps.drop (i + 1) := by
        obtain ⟨h1, h2⟩ := List.getElem?_eq_some_iff.1 hl
        rw [← h2]; exact List.drop_eq_getElem_cons h1
      obtain ⟨o, ho⟩ : ∃ o, o = ((s.absorb L).absorb l).out k := ⟨_, rfl⟩
      have hcat' : (os ++ [o]) ++ chain s k o (ps.drop (i + 1)) = chain s k st ps := by
        rw [← hcat, hdr, chain, ← ho]; simp
      have HCAT := Lib.hid hcat'
      have i1 : (i : Int) < (p : Int) := by omega
      have HOO := Lib.hid ho
      have hol : o.length = k := by rw [ho]; exact Sp.out_length _ _
      clear hl hdr hcat hcat' ho
      go_wp2_with fail
      refine (HO.out wr bl4).mono ?_
      rintro e w5 ⟨b, ib, rfl, hb, h5, _, _, bl5⟩
      have ok1 := ok0.absorb HSQ.out L
      have H6 := Lib.hid (swrite_any w5 b s ib h5 ok0 HSQ.out la lc L.length L rfl ((hLB.keep bl5).arg hb))
      go_wp2_with fail
      refine H6.out.mono ?_
      rintro e w6 ⟨rfl, h6, m6⟩
      have bl6 : Below wr.heap.size wr w6 := bl5.trans (m6.below hb bl5.size)
      have bs6 := (((bs.mono s4).keep bl6).arg hb)
      have sh6 : Shk w6 b (s.absorb L) ib := Shk.of h6 (by rw [(Sp.absorb_same _ _).2.2.1]; exact ol0)
      have H7 := Lib.hid (swrite_any w6 b (s.absorb L) ib sh6 ok1.1 ok1.2 va vc l.length l rfl bs6)
      have ok2 := ok1.1.absorb ok1.2 l
      clear H6
      go_wp2_with fail
      refine H7.out.mono ?_
      rintro e w7 ⟨rfl, h7, m7⟩
      have bl7 : Below wr.heap.size wr w7 := bl6.trans (m7.below hb bl6.size)
      have sh7 : Shk w7 b ((s.absorb L).absorb l) ib := Shk.of h7 (by rw [(Sp.absorb_same _ _).2.2.1, (Sp.absorb_same _ _).2.2.1]; exact ol0)
      have H8 := Lib.hid (rd_any w7 b _ ib sh7 ok2.1 z k HK.out)
      clear H7
      go_wp2_with fail
      refine H8.out.mono ?_
      rintro e w8 ⟨rfl, h8, hg8, m8⟩
      rw [← HOO.out] at hg8
      have bl8 : Below wr.heap.size wr w8 := bl7.trans (m8.below hb bl7.size)
      have s8 := bl8.size
      have s7 := bl7.size
      have own8 : w8.ownsRow w.heap.size 5 1 (.slice (some ⟨w7.heap.size, 0, none⟩) k k) k (o.map BV) := own_exact (by omega) hol (by omega) hg8
      have hB8 := (Bs.of_own own8).2
      have bl9 : Below w8.heap.size w8 (w8.alloc (.cells #[] 5)) := (Below.refl _ _).alloc (Nat.le_refl _) _
      have own9 := own_empty w8 5 w8.heap.size (Nat.le_refl _)
      obtain ⟨a10, c10, w10, hap10, own10, gr10⟩ := app_own (w8.alloc (.cells #[] 5)) w8.heap.size 22 5 (.int .u8 0) 1 Try.underlying22 info5 rfl _ 0 0 [] own9 (by simp) (some ⟨w7.heap.size, 0, none⟩) k k (o.map BV) (by simpa using hol) (hB8.keep bl9).src (by intro u hu; obtain ⟨y, _, rfl⟩ := List.mem_map.1 hu; rfl) (by omega) (by omega) 22
      have bl10 : Below w8.heap.size w8 w10 := bl9.grown gr10 bl9.size fun k hk => (own9.lt k hk).1
      rw [Nat.zero_add] at hap10 own10
      rw [List.nil_append] at own10
      have bb10 : Below wr.heap.size wr w10 := bl8.trans (bl10.mono s8)
      have owO10 := own_below owO bb10
      have P10 := hPa.keep (w' := w10) fun _ _ _ h => own_below h bb10
      have owL10 := own_below own8 bl10
      have own10' := own_base own10 (show w.heap.size ≤ w8.heap.size by omega)
      have bw10 : Below w.heap.size w w10 := bl4.trans (bb10.mono s4)
      have s10 := bw10.size
      have HAP10 := Lib.hid hap10
      have P11 := Lib.hid ((P10.keep (w' := w10.alloc (Obj.cells #[.slice a10 k c10] 22)) fun _ _ _ h => h.alloc _).snoc o a10 c10 (by rw [hol]; exact own10'.alloc _))
      clear H8 hap10 own8 own9 own10 gr10 hB8 bl9 hg8 owO hPa owL hLB sta
      go_wp2_with (first | (refine wpList_appendR rfl _ _ _ rfl _ _ rfl rfl _ _ HAP10.out ?_; clear HAP10) | (refine wpList_append_own _ rfl _ _ 23 rfl w.heap.size 22 i22 (.slice none 0 0) 1 24 Try.underlying23 HI22.out HZ220.out HZ221.out HZ222.out rfl (by decide) _ _ _ rfl (owO10.alloc _) ⟨w10.heap.size, 0, none⟩ 1 1 [.slice a10 k c10] rfl rfl (cell_one_new _ _ _) (by simp [Value.oneCell']) (by unfold maxLen; omega) (by omega) (by simp; omega) ?_; intro v' w12 own12 grow12 _))
      have owA := owO10.alloc (Obj.cells #[.slice a10 k c10] 22)
      have P12 := P11.out.keep (w' := w12) fun _ _ _ h => own_grown h owA (by decide) grow12
      rw [hol] at P12
      refine ⟨⟨i + 1, o, xs ++ [.slice a10 k c10], os ++ [o], by go_num, by rw [HP.out]; omega, ?_, ?_, own12, P12, HCAT.out⟩, ?_⟩
      · exact (bw10.alloc bw10.size _).grown grow12 (by simp; omega) fun k' hk' => (owO10.lt k' hk').1
      · rw [hol]; exact own_grown (owL10.alloc _) owA (by decide) grow12
      · simp [intOf]; omega
    · have hir : i = p := by rw [HP.out] at hi; omega
      have hdr : ps.drop i = [] := List.drop_eq_nil_of_le (by rw [HP.out]; omega)
      rw [hdr, chain, List.append_nil] at hcat
      subst hcat
      obtain ⟨a', c', rfl⟩ := own_slice owO
      have HPA := Lib.hid hPa
      have HOW := Lib.hid owO
      subst hir
      clear hdr hPa owO owL sta
      go_wp2_with fail
      go_ret
      exact ⟨a', c', xs, rfl, HOW.out, HPA.out, bl4⟩
end Go.Proofs.Ythemhpefcfdcaaa
