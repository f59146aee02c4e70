/- writeGeneric: bytes are absorbed one by one, in whatever cuts. -/
import Derived.Test.YthemhpefcfdcaaaDigest
namespace Go.Proofs.Ythemhpefcfdcaaa
open Go.RowKit

def lenOfV : Value → Nat | .slice _ n _ => n | _ => 0

/-- what a write's argument is: a slice of the bytes l, apart from block b -/
def Arg (w : World) (b : Nat) (a : Option Addr) (cap : Nat) (l : List UInt8) : Prop :=
  l.length ≤ cap ∧ cap ≤ 9223372036854775807 ∧ (l = [] ∨ ∃ pb po, a = some ⟨pb, po, none⟩ ∧ pb ≠ b ∧ Lies w ⟨pb, po, none⟩ l)

/-- where the loop of a write stands -/
def WRel (w : World) (b : Nat) (s : Sp) (ib : Value) (a : Option Addr) (cap : Nat) (l : List UInt8) (v : Value) (wr : World) : Prop :=
  ∃ i A, i ≤ l.length ∧ v = .slice A (l.length - i) (cap - i) ∧ (∀ pb po, l ≠ [] → a = some ⟨pb, po, none⟩ → i < l.length → A = some ⟨pb, po + i, none⟩) ∧ Eqv (w.setRow b ((s.absorb (l.take i)).cells ib)) wr

theorem sliceFrom (pb po n c k : Nat) (hk : k ≤ n) (hc : n ≤ c) :
    ∃ A' : Option Addr, (∀ W, (Instr.sliceAt 22 (.slice (some ⟨pb, po, none⟩) n c) (some (.int .i64 (k : Int))) none none).run Try.prog W = .ok (.slice A' (n - k) (c - k)) W) ∧ (k < n → A' = some ⟨pb, po + k, none⟩) := by
  refine ⟨if c = k then some ⟨pb, po, none⟩ else some ((⟨pb, po, none⟩ : Addr).add (k * 1)), fun W => ?_, fun hlt => ?_⟩
  · have hu : (underlying 22).run Try.prog W = .ok (.slice 5) W := by kernel_rfl
    have h1 : (Instr.sliceBound (.int .i64 (k : Int)) n .sliceB).run Try.prog W = .ok k W := by
      have e : (0 : Int) ≤ (k : Int) ∧ (k : Int) ≤ (n : Int) := by omega
      simp [Instr.sliceBound, asIntOf, hk]
    simp [Instr.sliceAt, hu, Instr.slice, Instr.sliceBounds, h1]
  · rw [if_neg (by omega), add_row, Nat.mul_one]

theorem cells_n2 (s : Sp) (ib : Value) (hl : s.a.length = 200) (j k : Nat) : (s.cells ib).setIfInBounds 200 (.int .i64 ((j : Int) + (k : Int))) = { s with n := j + k }.cells ib := by
  rw [← cells_n s ib hl (j + k)]
  simp

set_option maxRecDepth 100000 in
set_option maxHeartbeats 1000000 in
theorem write_any (w : World) (b : Nat) (t : TypeId) (s : Sp) (ib : Value) (h : Has w b t s ib) (hs : s.Ok) (hq : s.sq = false)
    (a : Option Addr) (cap n : Nat) (l : List UInt8) (hn : l.length = n) (ha : Arg w b a cap l) :
    Calls Try.prog 67 #[.pointer (some ⟨b, 0, none⟩), .slice a n cap] w
      fun e w' => e = .returned (.tuple #[.int .i64 (n : Int), .nilIface]) ∧ Eqv (w.setRow b ((s.absorb l).cells ib)) w' := by
  obtain ⟨c0, c1, c2, c3, c4, c5⟩ := h.fields hs.len
  rw [hq] at c4
  have c4' : w.cell? ⟨b, 204, none⟩ = some (.int .i64 0) := c4
  have hcap := ha.1
  have hcapm := ha.2.1
  have hcap2 := hcap
  rw [hn] at hcap2
  have HA := Lib.hid ha
  have HN := Lib.hid hn
  have HQ := Lib.hid hq
  have st : WRel w b s ib a cap l (.slice a n cap) w := ⟨0, a, Nat.zero_le _, by rw [hn]; rfl, fun pb po _ e _ => e, by
    rw [List.take_zero, Sp.absorb_nil, setRow_self w b _ t (0, 0) h]; exact Eqv.refl _⟩
  clear c0 c1 c2 c3 c4 c5 ha hn hq
  go_enter Try.func67, Try.ntmps67
  go_wp2_with fail
  go_loopw [1] (fun v wr => WRel w b s ib a cap l v wr) (fun v _ => lenOfV v)
  case atStart => exact st
  case round =>
    obtain ⟨i, A, hi, rfl, hA, hw⟩ := hrel
    by_cases hlt : i < l.length
    · obtain ⟨si, hsi⟩ : ∃ si, si = s.absorb (l.take i) := ⟨_, rfl⟩
      obtain ⟨hok, hsq⟩ := hs.absorb HQ.out (l.take i)
      rw [← hsi] at hw hok hsq
      have HI : Has wr b t si ib := hw.has (h.setRow _ _)
      obtain ⟨pb, po, hae, hpb, hlie⟩ := HA.out.2.2.resolve_left (by intro h0; rw [h0] at hlt; simp at hlt)
      have hA' := hA pb po (by intro h0; rw [h0] at hlt; simp at hlt) hae hlt
      subst hA'
      have hn2 := hok.n2 hsq
      have hr2 := hok.rate2
      have hr1 := hok.rate1
      obtain ⟨k, hk⟩ : ∃ k, k = min (si.rate - si.n) (l.length - i) := ⟨_, rfl⟩
      have hk0 : 0 < k := by omega
      have hlie' : Lies wr ⟨pb, po + i, none⟩ (l.drop i) := by
        intro j x hj
        rw [add_row, Nat.add_assoc, ← add_row, hw.cell, cell_setRow_other _ _ _ _ (by rw [add_row]; exact hpb)]
        exact hlie (i + j) x (by rw [← List.getElem?_drop]; exact hj)
      have cx := xor_any (w := wr.drew) (g := b) (t := t) (s := si) (ib := ib) HI hok.len ⟨pb, po + i, none⟩ (l.length - i) (cap - i) (si.rate - si.n) (200 - si.n) k (l.drop i) (by simp) hk hk0 (by omega) (by omega) (by omega) hlie' hpb
      obtain ⟨d0, d1, d2, d3, d4, d5⟩ := HI.fields hok.len
      have i1 : (0 : Int) < ((l.length - i : Nat) : Int) := by omega
      have i2 : 0 < l.length - i := by omega
      have i3 : si.n ≤ si.rate := by omega
      have i4 : si.rate ≤ 200 := by omega
      have i5 : (si.n : Int) ≤ (si.rate : Int) := by omega
      have i6 : (si.rate : Int) ≤ 200 := by omega
      have i7 : ¬ 200 = si.n := by omega
      have HAE := Lib.hid hae
      have HCX := Lib.hid cx
      have HK := Lib.hid hk
      have HSI := Lib.hid hsi
      have HW := Lib.hid hw
      clear cx hk hsi hw d2 d3 d4 d5 hA hae
      go_wp2_with fail
      go_still_tail 25, (by kernel_rfl)
      change wpList _ _ _ _ _ wr.drew
      go_wp2_with fail
      refine HCX.out.mono ?_
      rintro e w1 ⟨rfl, hq1⟩
      obtain ⟨s1, hs1⟩ : ∃ s1 : Sp, s1 = { si with a := Sp.xorAt si.a si.n ((l.drop i).take k) } := ⟨_, rfl⟩
      rw [← hs1] at hq1
      have H1 : Has w1 b t s1 ib := hq1.has (HI.setRow _ _)
      have hl1 : s1.a.length = 200 := by
        rw [hs1]
        show (Sp.xorAt si.a si.n ((l.drop i).take k)).length = 200
        rw [Sp.xorAt_length _ _ _ (by have := hok.len; have := HK.out; simp; omega)]
        exact hok.len
      have hn1 : s1.n = si.n := by rw [hs1]
      have hr1' : s1.rate = si.rate := by rw [hs1]
      have hkk := HK.out
      obtain ⟨f0, f1, _⟩ := H1.fields hl1
      rw [hn1] at f0
      rw [hr1'] at f1
      have fz := H1.frozen 200
      have k1 : k ≤ l.length - i := by omega
      have k2 : si.n + k ≤ si.rate := by omega
      have k3 : (k : Int) ≤ ((l.length - i : Nat) : Int) := by omega
      obtain ⟨A', hA1, hA2⟩ : ∃ A' : Option Addr, (∀ W, (Instr.sliceAt 22 (.slice (some ⟨pb, po + i, none⟩) (l.length - i) (cap - i)) (some (.int .i64 (k : Int))) none none).run Try.prog W = .ok (.slice A' (l.length - i - k) (cap - i - k)) W) ∧ (k < l.length - i → A' = some ⟨pb, po + (i + k), none⟩) := by
        obtain ⟨A', g1, g2⟩ := sliceFrom pb (po + i) (l.length - i) (cap - i) k k1 (by omega)
        exact ⟨A', g1, fun hlt => by rw [g2 hlt, Nat.add_assoc]⟩
      have e3 : w1.setCell ⟨b, 200, none⟩ (.int .i64 ((si.n : Int) + (k : Int))) = w1.setRow b ({ s1 with n := si.n + k }.cells ib) := by
        rw [H1.setCell, cells_n2 _ _ hl1]
      have HE3 := Lib.hid e3
      have HN1 := Lib.hid hn1
      have HR1 := Lib.hid hr1'
      have HS1 := Lib.hid hs1
      clear e3 hn1 hr1' hs1 hkk d0 d1 i1 i2
      go_wp2_with fail
      rw [HE3.out]
      obtain ⟨s2, hs2⟩ : ∃ s2 : Sp, s2 = { s1 with n := si.n + k } := ⟨_, rfl⟩
      rw [← hs2]
      have H2 : Has (w1.setRow b (s2.cells ib)) b t s2 ib := H1.setRow _ _
      have q2 : Eqv (w.setRow b (s2.cells ib)) (w1.setRow b (s2.cells ib)) := by
        have a1 := HW.out.setRow b (s2.cells ib)
        have a2 := (Eqv.drew wr).setRow b (s2.cells ib)
        have a3 := hq1.setRow b (s2.cells ib)
        rw [setRow_setRow] at a1 a3
        exact (a1.trans a2).trans a3
      have hl2 : s2.a.length = 200 := by rw [hs2]; exact hl1
      have hab : s.absorb (l.take (i + k)) = s2.full := by
        have hne : (l.drop i).take k ≠ [] := by
          intro h0
          have := congrArg List.length h0
          simp at this
          omega
        have hlen : ((l.drop i).take k).length = k := by simp; omega
        rw [List.take_add, Sp.absorb_append, ← HSI.out, Sp.absorb_chunk _ si hok.len (by omega) hne (by rw [hlen]; exact k2), hlen, hs2, HS1.out]
      have hn2' : s2.n = si.n + k := by rw [hs2]
      have hr2' : s2.rate = si.rate := by rw [hs2, HR1.out]
      obtain ⟨f0, f1, _⟩ := H2.fields hl2
      rw [hn2'] at f0
      rw [hr2'] at f1
      generalize w1.setRow b (s2.cells ib) = w2 at *
      have HAB := Lib.hid hab
      have HS2 := Lib.hid hs2
      clear hab hs2 fz hA1
      by_cases hf : si.n + k = si.rate
      · rw [hf] at f0
        have hfull : s2.full = s2.perm := by unfold Sp.full; rw [if_pos (by omega)]
        have HF := Lib.hid hfull
        have cp := fun m => permute_any (w2.drewN m) b t s2 ib H2 hl2
        have HCP := Lib.hid cp
        have HFF := Lib.hid hf
        have HQ2 := Lib.hid q2
        clear hfull cp hn2' hr2' hf q2 hl2 hlt
        go_quiet (fail)
        go_wp2_with fail
        refine (HCP.out _).mono ?_
        rintro e w3 ⟨rfl, h3⟩
        have h3' := Lib.hid h3
        clear h3
        go_wp2_with fail
        refine ⟨⟨i + k, A', by omega, by rw [Nat.sub_sub, Nat.sub_sub], fun pb' po' h1 h2 h3 => ?_, ?_⟩, ?_⟩
        · have e2 := HAE.out
          rw [e2] at h2
          simp only [Option.some.injEq, Addr.mk.injEq, and_true] at h2
          rw [hA2 (by omega), h2.1, h2.2]
        · rw [HAB.out, HF.out, h3'.out]
          have a1 := (HQ2.out.trans (Eqv.drewN _ nq)).setRow b (s2.perm.cells ib)
          rw [setRow_setRow] at a1
          exact a1
        · simp [lenOfV]; omega
      · have hb : ((si.n : Int) + (k : Int) == (si.rate : Int)) = false := by simp; omega
        have hfull : s2.full = s2 := by unfold Sp.full; rw [if_neg (by omega)]
        have HF := Lib.hid hfull
        have HQ2 := Lib.hid q2
        clear hfull hn2' hr2' hf q2 hl2 hlt
        go_quiet (fail)
        go_wp2_with fail
        refine ⟨⟨i + k, A', by omega, by rw [Nat.sub_sub, Nat.sub_sub], fun pb' po' h1 h2 h3 => ?_, ?_⟩, ?_⟩
        · have e2 := HAE.out
          rw [e2] at h2
          simp only [Option.some.injEq, Addr.mk.injEq, and_true] at h2
          rw [hA2 (by omega), h2.1, h2.2]
        · rw [HAB.out, HF.out]
          exact HQ2.out.trans (Eqv.drewN _ _)
        · simp [lenOfV]; omega
    · have hi' : l.length - i = 0 := by omega
      have hw' : Eqv (w.setRow b ((s.absorb l).cells ib)) wr := by
        rw [List.take_of_length_le (by omega)] at hw
        exact hw
      have HW := Lib.hid hw'
      rw [hi']
      clear hi' hw hw' hA
      go_wp2_with fail
      go_ret2
      exact ⟨rfl, HW.out⟩
end Go.Proofs.Ythemhpefcfdcaaa
