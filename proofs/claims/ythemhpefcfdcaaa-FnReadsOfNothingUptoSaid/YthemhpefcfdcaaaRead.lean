/- readGeneric: bytes are squeezed one by one, in whatever cuts. -/
import Derived.Test.YthemhpefcfdcaaaWrite
namespace Go.Proofs.Ythemhpefcfdcaaa
open Go.RowKit
set_option linter.unusedVariables false

/-- where the loop of a read stands -/
def RRel (w : World) (b g : Nat) (s : Sp) (ib : Value) (n : Nat) (l0 : List UInt8) (v : Value) (wr : World) : Prop :=
  ∃ i A, i ≤ n ∧ v = .slice A (n - i) (n - i) ∧ (i < n → A = some ⟨g, i, none⟩) ∧
    Eqv ((w.setRow b ((s.sqN i).cells ib)).setRow g ((s.outN i ++ l0.drop i).map BV).toArray) wr

theorem run_copy_bytes (w : World) (b g : Nat) (t tO : TypeId) (s : Sp) (ib : Value) (h : Has w b t s ib) (cur : List UInt8) (i m k : Nat)
    (hg : w.heap[g]? = some (.cells (cur.map BV).toArray tO (0, 0))) (hl : s.a.length = 200) (hr : s.rate ≤ 200) (hn : s.n < s.rate) (hk : k = min (s.rate - s.n) m) (hm : i + m = cur.length) :
    (Builtin.copy_ #[22, 22] 3 #[.slice (some ⟨g, i, none⟩) m m, .slice (some ⟨b, s.n, none⟩) (s.rate - s.n) (200 - s.n)]).run Try.prog w =
      .ok (.int .i64 (k : Int)) (w.setRow g ((cur.take i ++ (s.a.drop s.n).take k ++ cur.drop (i + k)).map BV).toArray) := by
  have hlen : (((s.a.drop s.n).take k).map BV).length = k := by
    simp
    omega
  have e := run_copy_row Try.prog w 22 22 3 5 g i m m ⟨b, s.n, none⟩ (s.rate - s.n) (200 - s.n) (cur.map BV).toArray tO (((s.a.drop s.n).take k).map BV)
    Try.underlying22 (by kernel_rfl) hg (by rw [hlen, hk]) (fun j v hj => by
      rw [add_row, h.cell]
      have hj' : j < k := by have := (List.getElem?_eq_some_iff.1 hj).1; omega
      rw [List.getElem?_map, List.getElem?_take, if_pos hj', List.getElem?_drop] at hj
      simp only [Sp.cells, List.getElem?_toArray]
      rw [List.getElem?_append_left (by simp; omega), List.getElem?_map]
      exact hj) (by rw [hlen]; simp; omega) (map_BV_one _)
  rw [e, hlen]
  congr 3
  simp


theorem setRow_comm (w : World) (g b : Nat) (c d : Array Value) (hne : g ≠ b) : (w.setRow g c).setRow b d = (w.setRow b d).setRow g c := by
  unfold World.setRow
  congr 1
  apply Array.ext
  · simp
  · intro k h1 h2
    simp only [Array.getElem_modify]
    by_cases e1 : g = k
    · subst e1
      simp [Ne.symm hne]
    · by_cases e2 : b = k
      · subst e2
        simp [e1]
      · simp [e1, e2]

theorem splice_read (A X L : List UInt8) (i k : Nat) (hA : A.length = i) : (A ++ L.drop i).take i ++ X ++ (A ++ L.drop i).drop (i + k) = A ++ X ++ L.drop (i + k) := by
  subst hA
  rw [List.take_left, List.drop_append, List.drop_of_length_le (Nat.le_add_right _ _), Nat.add_sub_cancel_left, List.drop_drop]
  simp

/-- two rows of the heap, written one after the other -/
theorem Eqv.setRow2 {w w' : World} {b g : Nat} {c d : Array Value} (h : Eqv ((w.setRow b c).setRow g d) w') (hne : g ≠ b) (c' : Array Value) :
    Eqv ((w.setRow b c').setRow g d) (w'.setRow b c') := by
  have a := h.setRow b c'
  have e : (((w.setRow b c).setRow g d).setRow b c') = ((w.setRow b c').setRow g d) := by
    rw [setRow_comm (w.setRow b c) g b d c' hne, setRow_setRow]
  rw [e] at a
  exact a

set_option maxRecDepth 100000 in
set_option maxHeartbeats 2000000 in
theorem read_any (w : World) (b g : Nat) (t tO : TypeId) (s : Sp) (ib : Value) (h : Has w b t s ib) (hs : s.Ok)
    (n : Nat) (l0 : List UInt8) (hn : l0.length = n) (hmax : n ≤ 9223372036854775807) (hg : w.heap[g]? = some (.cells (l0.map BV).toArray tO (0, 0))) (hgb : g ≠ b) :
    Calls Try.prog 70 #[.pointer (some ⟨b, 0, none⟩), .slice (some ⟨g, 0, none⟩) n n] w
      fun e w' => e = .returned (.tuple #[.int .i64 (n : Int), .nilIface]) ∧ Eqv ((w.setRow b ((s.read n).cells ib)).setRow g ((s.out n).map BV).toArray) w' := by
  have c4 := (h.fields hs.len).2.2.2.2.1
  have HN := Lib.hid hn
  have HG := Lib.hid hg
  have HSP : Hid (s.pad.Ok ∧ s.pad.sq = true) := ⟨hs.pad, Sp.pad_sq s⟩
  obtain ⟨sp, hsp⟩ : ∃ sp, sp = s.pad := ⟨_, rfl⟩
  rw [← hsp] at HSP
  have HSD := Lib.hid hsp
  clear hn hg hsp
  by_cases hq : s.sq = true
  case' neg =>
    have hq' : s.sq = false := by simpa using hq
    rw [hq'] at c4
    have c4' : w.cell? ⟨b, 204, none⟩ = some (.int .i64 0) := c4
    have cp := pad_any w b t s ib h hs hq'
    have hpp : sp = s.padded := by rw [HSD.out]; unfold Sp.pad; rw [if_neg hq]
    have HPP := Lib.hid hpp
    have HCP := Lib.hid cp
    clear hq hq' c4 hpp cp
    go_enter Try.func70, Try.ntmps70
    go_wp2_with fail
    refine HCP.out.mono ?_
    rintro e w0 ⟨rfl, Q0'⟩
    have Q0 : Eqv (w.setRow b (sp.cells ib)) w0 := by rw [HPP.out]; exact Q0'
    have H0 : Has w0 b t sp ib := Q0.has (h.setRow _ _)
    have HG0 : Hid (w0.heap[g]? = some (.cells (l0.map BV).toArray tO (0, 0))) := by
      unfold Hid
      rw [Q0.heap, setRow_other _ _ _ _ hgb]; exact HG.out
    have HQ0 := Lib.hid Q0
    clear Q0' Q0 h HG hs c4'
    go_wp2_with fail
  case' pos =>
    obtain ⟨w0, hw0⟩ : ∃ w0, w0 = w := ⟨_, rfl⟩
    have H0 : Has w0 b t sp ib := by rw [hw0, HSD.out, Sp.pad_of_sq hq]; exact h
    have G0 : w0.heap[g]? = some (.cells (l0.map BV).toArray tO (0, 0)) := by rw [hw0]; exact HG.out
    have Q0 : Eqv (w.setRow b (sp.cells ib)) w0 := by
      have e : w.setRow b (sp.cells ib) = w := setRow_self w b _ t (0, 0) (by rw [HSD.out, Sp.pad_of_sq hq]; exact h)
      rw [e, hw0]; exact Eqv.refl _
    rw [hq, ← hw0] at c4
    have c4' : w0.cell? ⟨b, 204, none⟩ = some (.int .i64 1) := c4
    have HQ0 := Lib.hid Q0
    have HG0 := Lib.hid G0
    rw [show Calls Try.prog 70 #[.pointer (some ⟨b, 0, none⟩), .slice (some ⟨g, 0, none⟩) n n] w = Calls Try.prog 70 #[.pointer (some ⟨b, 0, none⟩), .slice (some ⟨g, 0, none⟩) n n] w0 by rw [hw0]]
    clear hw0 c4 Q0 G0 hq h HG hs
    go_enter Try.func70, Try.ntmps70
    go_wp2_with fail
  all_goals
    have st : RRel w0 b g sp ib n l0 (.slice (some ⟨g, 0, none⟩) n n) w0 := ⟨0, _, Nat.zero_le _, rfl, fun _ => rfl, by
      have e1 : w0.setRow b ((sp.sqN 0).cells ib) = w0 := setRow_self w0 b _ t (0, 0) H0
      rw [e1]
      have e2 : w0.setRow g ((sp.outN 0 ++ l0.drop 0).map BV).toArray = w0 := setRow_self w0 g _ tO (0, 0) HG0.out
      rw [e2]
      exact Eqv.refl _⟩
    go_loopw [1] (fun v wr => RRel w0 b g sp ib n l0 v wr) (fun v _ => lenOfV v)
    case atStart => exact st
    case round =>
      obtain ⟨i, A, hi, rfl, hA, hw⟩ := hrel
      by_cases hlt : i < n
      · have hA' := hA hlt
        subst hA'
        obtain ⟨si, hsi⟩ : ∃ si, si = sp.sqN i := ⟨_, rfl⟩
        have hok : si.Ok := by rw [hsi]; exact Sp.Ok.sqN i HSP.out.1 HSP.out.2
        rw [← hsi] at hw
        have HI : Has wr b t si ib := hw.has (by unfold Has; rw [setRow_other _ _ _ _ (Ne.symm hgb)]; exact H0.setRow _ _)
        have hgr : wr.heap[g]? = some (.cells ((sp.outN i ++ l0.drop i).map BV).toArray tO (0, 0)) := by
          rw [hw.heap]
          exact setRow_heap _ g _ _ tO _ (by rw [setRow_other _ _ _ _ hgb]; exact HG0.out)
        obtain ⟨d0, d1, d2, d3, d4, d5⟩ := HI.fields hok.len
        have hr2 := hok.rate2
        have hr1 := hok.rate1
        have hn1 := hok.n1
        have i1 : (0 : Int) < ((n - i : Nat) : Int) := by omega
        have i2 : 0 < n - i := by omega
        have HSI := Lib.hid hsi
        have HW := Lib.hid hw
        have HGR := Lib.hid hgr
        obtain ⟨sf, hsf⟩ : ∃ sf, sf = si.full := ⟨_, rfl⟩
        have hfok := hok.full
        rw [← hsf] at hfok
        have HSF := Lib.hid hsf
        have hfr : sf.rate = si.rate := by rw [hsf]; exact Sp.full_rate si
        clear d2 d3 d4 d5 hsi hw hgr hA hsf
        by_cases hf : si.n = si.rate
        case' pos =>
          rw [hf] at d0
          have hfull : sf = si.perm := by rw [HSF.out]; unfold Sp.full; rw [if_pos hf]
          have cp := fun m => permute_any (wr.drewN m) b t si ib HI hok.len
          have HCP' := Lib.hid cp
          have HFF := Lib.hid hf
          have HFU := Lib.hid hfull
          have HFR := Lib.hid hfr
          clear cp hf hfull hfr
          go_wp2_with fail
          go_quiet (fail)
          go_wp2_with fail
          refine (HCP'.out _).mono ?_
          rintro e wf ⟨rfl, h3⟩
          have Hf : Has wf b t sf ib := by rw [h3, HFU.out]; exact Has.setRow (w := wr.drewN nq) HI _ _
          have Gf : Hid (wf.heap[g]? = some (.cells ((sp.outN i ++ l0.drop i).map BV).toArray tO (0, 0))) := by
            unfold Hid
            rw [h3, setRow_other _ _ _ _ hgb]
            exact HGR.out
          have Qf : Hid (Eqv ((w0.setRow b (sf.cells ib)).setRow g ((sp.outN i ++ l0.drop i).map BV).toArray) wf) := by
            unfold Hid
            rw [h3, HFU.out]
            exact (HW.out.trans (Eqv.drewN _ nq)).setRow2 hgb _
          clear h3 d0 d1
          go_wp2_with fail
        case' neg =>
          have hb : ((si.n : Int) == (si.rate : Int)) = false := by simp; omega
          have hfull : sf = si := by rw [HSF.out]; unfold Sp.full; rw [if_neg hf]
          have HFU := Lib.hid hfull
          have HFR := Lib.hid hfr
          clear hf hfull hfr
          go_wp2_with fail
          go_quiet (fail)
          go_wp2_with fail
          have Hf : Has (wr.drewN nq) b t sf ib := by rw [HFU.out]; exact HI
          have Gf : Hid ((wr.drewN nq).heap[g]? = some (.cells ((sp.outN i ++ l0.drop i).map BV).toArray tO (0, 0))) := HGR.out
          have Qf : Hid (Eqv ((w0.setRow b (sf.cells ib)).setRow g ((sp.outN i ++ l0.drop i).map BV).toArray) (wr.drewN nq)) := by
            unfold Hid
            rw [HFU.out]
            exact HW.out.trans (Eqv.drewN _ nq)
          generalize wr.drewN nq = wf at *
          clear hb d0 d1
        all_goals
          obtain ⟨hfo, hfn⟩ := hfok
          have hfl := hfo.len
          have hfr2 := hfo.rate2
          obtain ⟨k, hk⟩ : ∃ k, k = min (sf.rate - sf.n) (n - i) := ⟨_, rfl⟩
          have hk0 : 0 < k := by omega
          have k1 : k ≤ n - i := by omega
          have k2 : sf.n + k ≤ sf.rate := by omega
          have k3 : (k : Int) ≤ ((n - i : Nat) : Int) := by omega
          have hcl : (sp.outN i ++ l0.drop i).length = n := by rw [List.length_append, Sp.outN_length, List.length_drop, HN.out]; omega
          have hcopy := run_copy_bytes wf.drew b g t tO sf ib Hf (sp.outN i ++ l0.drop i) i (n - i) k Gf.out hfl (by omega) hfn hk (by rw [hcl]; omega)
          have hnew : (sp.outN i ++ l0.drop i).take i ++ (sf.a.drop sf.n).take k ++ (sp.outN i ++ l0.drop i).drop (i + k) = sp.outN (i + k) ++ l0.drop (i + k) := by
            rw [Sp.outN_add, ← HSI.out, ← Sp.outN_full k si hok hk0, ← HSF.out, Sp.outN_chunk k sf hfn k2 (by omega)]
            exact splice_read _ _ _ i k (Sp.outN_length _ _)
          rw [hnew] at hcopy
          obtain ⟨A', hA1, hA2⟩ := sliceFrom g i (n - i) (n - i) k k1 (Nat.le_refl _)
          have hst : sp.sqN (i + k) = { sf with n := sf.n + k } := by
            rw [Sp.sqN_add, ← HSI.out, ← Sp.sqN_full k si hok hk0, ← HSF.out, Sp.sqN_chunk k sf hfn k2]
          obtain ⟨d0, d1, d2, d3, d4, d5⟩ := Hf.fields hfl
          have hc1 : Has (wf.drew.setRow g ((sp.outN (i + k) ++ l0.drop (i + k)).map BV).toArray) b t sf ib := by
            unfold Has; rw [setRow_other _ _ _ _ (Ne.symm hgb)]; exact Hf
          have hq1 : Eqv ((w0.setRow b (sf.cells ib)).setRow g ((sp.outN (i + k) ++ l0.drop (i + k)).map BV).toArray) (wf.drew.setRow g ((sp.outN (i + k) ++ l0.drop (i + k)).map BV).toArray) := by
            have a1 := (Qf.out.trans (Eqv.drew _)).setRow g ((sp.outN (i + k) ++ l0.drop (i + k)).map BV).toArray
            rw [setRow_setRow] at a1
            exact a1
          generalize wf.drew.setRow g ((sp.outN (i + k) ++ l0.drop (i + k)).map BV).toArray = w1 at *
          obtain ⟨f0, f1, _⟩ := hc1.fields hfl
          have fz := hc1.frozen 200
          have e3 : w1.setCell ⟨b, 200, none⟩ (.int .i64 ((sf.n : Int) + (k : Int))) = w1.setRow b ({ sf with n := sf.n + k }.cells ib) := by
            rw [hc1.setCell, cells_n2 _ _ hfl]
          have i3 : sf.n ≤ sf.rate := by omega
          have i4 : sf.rate ≤ 200 := by omega
          have i5 : (sf.n : Int) ≤ (sf.rate : Int) := by omega
          have i6 : (sf.rate : Int) ≤ 200 := by omega
          have i7 : ¬ 200 = sf.n := by omega
          have HE3 := Lib.hid e3
          have HST := Lib.hid hst
          have HQ1 := Lib.hid hq1
          clear hk hcl hnew hst d2 d3 d4 d5 e3 hq1 hfl hlt
          go_still_tail 13, (by kernel_rfl)
          change wpList _ _ _ _ _ wf.drew
          go_wp2_with fail
          refine ⟨⟨i + k, A', by omega, by rw [Nat.sub_sub], fun h3 => hA2 (by omega), ?_⟩, ?_⟩
          · rw [HE3.out, HST.out]
            exact HQ1.out.setRow2 hgb _
          · simp [lenOfV]; omega
      · have hi' : n - i = 0 := by omega
        have hw' : Eqv ((w.setRow b ((s.read n).cells ib)).setRow g ((s.out n).map BV).toArray) wr := by
          have e : i = n := by omega
          rw [e, List.drop_of_length_le (by rw [HN.out]; exact Nat.le_refl _), List.append_nil] at hw
          have a1 := (HQ0.out.setRow b ((sp.sqN n).cells ib)).setRow g ((sp.outN n).map BV).toArray
          rw [setRow_setRow] at a1
          unfold Sp.read Sp.out
          rw [← HSD.out]
          exact a1.trans hw
        have HW := Lib.hid hw'
        rw [hi']
        clear hi' hw hw' hA
        go_wp2_with fail
        go_ret2
        exact ⟨rfl, HW.out⟩
end Go.Proofs.Ythemhpefcfdcaaa
