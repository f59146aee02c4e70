/- For every input of bulk at most 1048576: each step of a chain is what is read behind what was given before, and the part, in any cuts (FnChainStep returns true); no other condition. -/
import Derived.Test.YthemhpefcfdcaaaVals
import Derived.Test.YthemhpefcfdcaaaArgs
import Derived.Test.YthemhpefcfdcaaaFacts
namespace Go.Proofs.Ythemhpefcfdcaaa
open Go.RowKit Go.Deep
open Go.ChangeShapes Go.WideShapes Go.ChangeAt
set_option linter.unusedVariables false

theorem rows2_two {w : World} {a1 a2 : Option Addr} {c1 c2 n1 n2 : Nat} {l1 l2 : List UInt8} (h1 : l1.length = n1) (h2 : l2.length = n2) (b1 : Bs w.heap.size w a1 c1 l1) (b2 : Bs w.heap.size w a2 c2 l2) :
    Rows2 (w.alloc (.cells #[.slice a1 n1 c1, .slice a2 n2 c2] 22)).heap.size (w.alloc (.cells #[.slice a1 n1 c1, .slice a2 n2 c2] 22)) (some ⟨w.heap.size, 0, none⟩) 2 [l1, l2] := by
  have bl : Below w.heap.size w (w.alloc (.cells #[.slice a1 n1 c1, .slice a2 n2 c2] 22)) := (Below.refl _ _).alloc (Nat.le_refl _) _
  have hh : (w.alloc (.cells #[.slice a1 n1 c1, .slice a2 n2 c2] 22)).heap[w.heap.size]? = some (.cells #[.slice a1 n1 c1, .slice a2 n2 c2] 22 (0, 0)) := heap_alloc_new _ _
  refine ⟨Nat.le_refl _, by omega, .inr ⟨w.heap.size, 0, rfl, by simp, fun i x hi => ?_⟩⟩
  match i, hi with
  | 0, hi =>
    simp only [List.getElem?_cons_zero, Option.some.injEq] at hi
    subst hi
    exact ⟨a1, c1, by rw [h1]; simp only [World.cell?, hh]; rfl, (b1.keep bl).mono bl.size⟩
  | 1, hi =>
    simp only [List.getElem?_cons_succ, List.getElem?_cons_zero, Option.some.injEq] at hi
    subst hi
    exact ⟨a2, c2, by rw [h2]; simp only [World.cell?, hh]; rfl, (b2.keep bl).mono bl.size⟩

theorem chain_drop (s : Sp) (k : Nat) (L l : List UInt8) (rest D : List (List UInt8)) (i : Nat) (o : List UInt8) (ho : o = ((s.absorb L).absorb l).out k) (h : chain s k L (l :: rest) = D.drop i) : D[i]? = some o ∧ chain s k o rest = D.drop (i + 1) := by
  rw [chain, ← ho] at h
  have h1 : D[i]? = some o := by
    have := congrArg (fun l => l[0]?) h
    simpa using this.symm
  refine ⟨h1, ?_⟩
  have := congrArg List.tail h
  simpa [List.tail_drop] using this

/-- where the comparing stands -/
def ChS (w2 : World) (s : Sp) (k : Nat) (st : List UInt8) (ps : List (List UInt8)) (v la : Value) (wr : World) : Prop :=
  ∃ (i : Nat) (L : List UInt8) (a : Option Addr) (c : Nat), v = .int .i64 (i : Int) ∧ la = .slice a L.length c ∧ i ≤ ps.length ∧ Below w2.heap.size w2 wr ∧ Bs w2.heap.size w2 a c L ∧ L.length ≤ 1048576 ∧ chain s k L (ps.drop i) = (chain s k st ps).drop i

set_option maxRecDepth 100000 in
set_option maxHeartbeats 2000000 in
theorem fnChainStep_walk (w : World) (kind z : Int) (aN aS aT aP aC : Option Addr) (cN cS cT cP cC n m t p r : Nat) (N S st : List UInt8) (ps : List (List UInt8)) (zs : List Int)
    (hn : N.length = n) (hm : S.length = m) (ht : st.length = t) (hp : ps.length = p) (hr : zs.length = r) (hN : Bs w.heap.size w aN cN N) (hS : Bs w.heap.size w aS cS S) (hT : Bs w.heap.size w aT cT st) (hP : Rows2 w.heap.size w aP cP ps) (hC : Ints w.heap.size w aC cC zs)
    (hnb : n ≤ 1048576) (hmb : m ≤ 1048576) (htb : t ≤ 1048576) (hpb : p ≤ 1048576) (hrb : r ≤ 1048576) (hpe : ∀ l ∈ ps, l.length ≤ 1048576) :
    Calls Try.prog 11 #[.int .i64 kind, .slice aN n cN, .slice aS m cS, .slice aT t cT, .slice aP p cP, .int .i64 z, .slice aC r cC] w fun e w' => e = .returned (.bool true) ∧ Below w.heap.size w w' := by
  obtain ⟨k, hk⟩ : ∃ k, k = rdLen z := ⟨_, rfl⟩
  have hk4 := rdLen_le z
  rw [← hk] at hk4
  have HK := Lib.hid hk
  have HC := Lib.hid (chain_any w kind z aN aS aT aP cN cS cT cP n m t p k N S st ps hn hm ht hp hk hN hS hT hP (by omega) (by omega) (by omega) (by omega) (by omega))
  have HP := Lib.hid hp
  have HPE := Lib.hid hpe
  have b1 : ((p : Int) != (p : Int)) = false := by simp
  obtain ⟨s, hs⟩ : ∃ s, s = start kind N S := ⟨_, rfl⟩
  have HS := Lib.hid hs
  rw [← hs] at HC
  clear hk hp hs hpe
  go_enter Try.func11, Try.ntmps11
  go_wp2_with fail
  refine HC.out.mono ?_
  rintro e w2 ⟨f2, fc2, xs2, rfl, own2, P2, bl2⟩
  have s2 := bl2.size
  obtain ⟨f2', fc2', e2, hf2⟩ := P2.rows2 own2
  have hcl : (chain s k st ps).length = p := by rw [chain_len, HP.out]
  rw [hcl] at e2
  simp only [Value.slice.injEq] at e2
  obtain ⟨rfl, _, rfl⟩ := e2
  have st0 : ChS w2 s k st ps (.int .i64 ((0 : Nat) : Int)) (.slice aT t cT) w2 :=
    ⟨0, st, aT, cT, rfl, by rw [ht], Nat.zero_le _, Below.refl _ _, (hT.keep bl2).mono s2, by omega, by simp⟩
  have HCL := Lib.hid hcl
  have HT := Lib.hid ht
  clear own2 P2 HC hcl ht
  go_wp2_with fail
  generalize hla : Value.slice aT t cT = la3 at st0 ⊢
  go_loopw [35, 16] (fun v la wr => ChS w2 s k st ps v la wr) (fun v _ _ => p - (intOf v).toNat)
  case atStart => exact st0
  case round =>
    clear hla
    obtain ⟨i, L, la, lc, rfl, rfl, hi, bl3, hL, hLb, hch⟩ := hrel
    have s3 := bl3.size
    by_cases hlt : i < p
    · obtain ⟨l, hl⟩ : ∃ l, ps[i]? = some l := ⟨ps[i]'(by rw [HP.out]; exact hlt), by simp [HP.out, hlt]⟩
      have bl3' : Below w.heap.size w wr := bl2.trans (bl3.mono s2)
      have s3' := bl3'.size
      obtain ⟨pb, po, va, vc, e1, e2, c1, bs⟩ := (hP.keep bl3').at hl
      subst e1
      have hlb : l.length ≤ 1048576 := HPE.out l (List.mem_of_getElem? hl)
      have hdr : ps.drop i = l :: ps.drop (i + 1) := by
        obtain ⟨h1, h2⟩ := List.getElem?_eq_some_iff.1 hl
        rw [← h2]; exact List.drop_eq_getElem_cons h1
      obtain ⟨o, ho⟩ : ∃ o, o = ((s.absorb L).absorb l).out k := ⟨_, rfl⟩
      rw [hdr] at hch
      obtain ⟨hco, hch'⟩ := chain_drop s k L l _ _ i o ho hch
      have hol : o.length = k := by rw [ho]; exact Sp.out_length _ _
      obtain ⟨qb, qo, ua, uc, e3, e4, c2, bs2⟩ := hf2.at hco
      subst e3
      have c2' : wr.cell? ⟨qb, qo + i, none⟩ = some (.slice ua o.length uc) := by rw [bl3.cell (p := ⟨qb, qo + i, none⟩) e4]; exact c2
      have i1 : (i : Int) < (p : Int) := by omega
      -- the worlds
      obtain ⟨w4, hw4⟩ : ∃ w4, w4 = wr.alloc (.cells #[.slice la L.length lc, .slice va l.length vc] 22) := ⟨_, rfl⟩
      have hR4 : Rows2 w4.heap.size w4 (some ⟨wr.heap.size, 0, none⟩) 2 [L, l] := by rw [hw4]; exact rows2_two rfl rfl ((hL.keep bl3).mono s3) (bs.mono s3')
      have bl4 : Below wr.heap.size wr w4 := by rw [hw4]; exact (Below.refl _ _).alloc (Nat.le_refl _) _
      have s4 := bl4.size
      have HJ := Lib.hid (joined_any w4 (some ⟨wr.heap.size, 0, none⟩) 2 2 (L.length + l.length) [L, l] rfl (by simp) hR4 (by omega))
      have e5 : [L, l].flatten = L ++ l := by simp
      rw [e5] at HJ
      have HW4 := Lib.hid hw4
      have HCH := Lib.hid hch'
      have HCO := Lib.hid hco
      have HOL := Lib.hid hol
      have HOO := Lib.hid ho
      clear hw4 hR4 e5 hch' hco hol hl hdr hch ho c2
      go_wp2_with fail
      rw [← HW4.out]
      refine HJ.out.mono ?_
      rintro e w5 ⟨f5, fc5, rfl, hf5, bl5⟩
      have bl5' : Below wr.heap.size wr w5 := bl4.trans (bl5.mono s4)
      have b5 : Below w.heap.size w w5 := bl3'.trans (bl5'.mono s3')
      have s5 := b5.size
      have HCU := Lib.hid (cut_any w5 (L.length + l.length) r fc5 cC f5 aC (L ++ l) zs (by simp) hr hf5 ((hC.keep b5).mono s5) (by omega) (by omega))
      clear HJ
      go_wp2_with fail
      refine HCU.out.mono ?_
      rintro e w6 ⟨f6, fc6, rfl, hf6, bl6⟩
      have bl6' : Below wr.heap.size wr w6 := bl5'.trans (bl6.mono bl5'.size)
      obtain ⟨w7, hw7⟩ : ∃ w7, w7 = w6.alloc (.cells #[.int .i64 z] 3) := ⟨_, rfl⟩
      have hI7 : Ints w7.heap.size w7 (some ⟨w6.heap.size, 0, none⟩) 1 [z] := by rw [hw7]; exact ints_one' _ _
      have bl7 : Below w6.heap.size w6 w7 := by rw [hw7]; exact (Below.refl _ _).alloc (Nat.le_refl _) _
      have bl7' : Below wr.heap.size wr w7 := bl6'.trans (bl7.mono bl6'.size)
      have b7 : Below w.heap.size w w7 := bl3'.trans (bl7'.mono s3')
      have s7 := b7.size
      have HQ := Lib.hid (squeeze_any w7 kind aN aS f6 (some ⟨w6.heap.size, 0, none⟩) cN cS fc6 1 n m (r + 1) 1 N S (cut (L ++ l) zs) [z] hn hm (by rw [cut_len, hr]) rfl ((hN.keep b7).mono s7) ((hS.keep b7).mono s7) ((hf6.keep bl7).mono bl7.size) hI7 (by omega) (by omega) (by omega) (by omega))
      have e8 : outs [z] ((start kind N S).absorb (cut (L ++ l) zs).flatten) = [o] := by
        rw [cut_flat, ← HS.out, Sp.absorb_append]
        simp only [outs]
        rw [← HK.out, ← HOO.out]
      rw [e8] at HQ
      have HW7 := Lib.hid hw7
      clear hw7 hI7 e8 HCU
      go_wp2_with fail
      rw [← HW7.out]
      refine HQ.out.mono ?_
      rintro e w8 ⟨f8, fc8, rfl, hf8, bl8⟩
      have bl8' : Below wr.heap.size wr w8 := bl7'.trans (bl8.mono bl7'.size)
      have bl8s : Below w2.heap.size w2 w8 := bl3.trans (bl8'.mono s3)
      have s8 := bl8s.size
      obtain ⟨qb8, qo8, ua8, uc8, e8, e9, c8, bs8⟩ := hf8.at (i := 0) (l := o) rfl
      subst e8
      have HSA := Lib.hid (fun j => same_any (w8.drewN j) w8.heap.size ua ua8 uc uc8 o.length o.length o rfl rfl ((bs2.keep bl8s).mono s8) bs8)
      have c3 : w8.cell? ⟨qb, qo + i, none⟩ = some (.slice ua o.length uc) := by rw [bl8'.cell (p := ⟨qb, qo + i, none⟩) (by show qb < wr.heap.size; omega)]; exact c2'
      rw [Nat.add_zero] at c8
      have n1 : ((1 : Int) != (1 : Int)) = false := by simp
      clear HQ c1 c2'
      go_wp2_with fail
      go_quiet ((with_reducible refine Calls.quiet_of (HSA.out _)))
      go_wp2_with fail
      go_roundw
      case rel => exact ⟨i + 1, o, ua, uc, by go_num, rfl, by rw [HP.out]; omega, Below.eqvN' bl8s _, bs2, by rw [HOL.out]; omega, HCH.out⟩
      case measure => simp [intOf]; omega
    · have hir : i = p := by rw [HP.out] at hi; omega
      have i1 : ¬ (i : Int) < (p : Int) := by omega
      go_wp2_with fail
      go_ret
      exact ⟨rfl, bl2.trans (bl3.mono s2)⟩


theorem fnChainStep_contract (H : Type) (enc : TypeId × Value → H) (W : World) (base : Nat) (args : Array Value) (ds gs : List (DataW H)) (before : List MemPlace)
    (hval : ∀ (j : Nat) t v, Try.f11.params[j]? = some t → args[j]? = some v → Value.okWide Try.prog W .any base t v)
    (hW : DataW.Whole enc Try.prog Try.f11.params.toList Rows.fnChainStepSpec.vars false W args.toList ds gs before)
    (hk : Rows.uptoSmall H (ds ++ gs) = true) :
    Calls Try.prog 11 args W fun e W' => ∃ v, e = .returned v ∧ Rows.fnChainStepSpec.post enc Try.prog Try.f11 false true false false W args v W' := by
  have hW' := hW
  obtain ⟨p, q, hA0, hV, rfl, hfz, hnd⟩ := hW
  have hA : DataW.TrodAll enc Try.prog W 0 (fun _ => true) true Try.f11.params.toList args.toList ds p := hA0
  rw [Try.params11] at hA hval
  obtain ⟨v0, vs0, d0, ds0, p0, q0, hargs, rfl, rfl, h0, r0⟩ := trodAll_cons hA
  obtain ⟨v1, vs1, d1, ds1, p1, q1, rfl, rfl, rfl, h1, r1⟩ := trodAll_cons r0
  obtain ⟨v2, vs2, d2, ds2, p2, q2, rfl, rfl, rfl, h2, r2⟩ := trodAll_cons r1
  obtain ⟨v3, vs3, d3, ds3, p3, q3, rfl, rfl, rfl, h3, r3⟩ := trodAll_cons r2
  obtain ⟨v4, vs4, d4, ds4, p4, q4, rfl, rfl, rfl, h4, r4⟩ := trodAll_cons r3
  obtain ⟨v5, vs5, d5, ds5, p5, q5, rfl, rfl, rfl, h5, r5⟩ := trodAll_cons r4
  obtain ⟨v6, vs6, d6, ds6, p6, q6, rfl, rfl, rfl, h6, r6⟩ := trodAll_cons r5
  obtain ⟨rfl, rfl, rfl⟩ := trodAll_nil r6
  obtain rfl : args = #[v0, v1, v2, v3, v4, v5, v6] := by cases args; simp_all
  obtain ⟨rfl, rfl⟩ := trodVars_none hV
  obtain ⟨x0, rfl, rfl, rfl, wx0⟩ := open_int Try.underlying3 (hval 0 3 v0 rfl rfl) h0
  obtain ⟨a1, len1, cap1, rfl⟩ := okWide_slice Try.underlying22 (hval 1 22 v1 rfl rfl)
  have k1 := h1
  have lt1 : ∀ x ∈ p1, x.block < W.heap.size := by obtain ⟨m, hm⟩ := k1; exact DataW.trod_lt m _ _ _ hm
  obtain ⟨fu1, hf1⟩ := h1
  obtain ⟨l1, el1, b1, u1⟩ := openBs (by simpa [Value.cells] using hf1)
  obtain ⟨a2, len2, cap2, rfl⟩ := okWide_slice Try.underlying22 (hval 2 22 v2 rfl rfl)
  have k2 := h2
  have lt2 : ∀ x ∈ p2, x.block < W.heap.size := by obtain ⟨m, hm⟩ := k2; exact DataW.trod_lt m _ _ _ hm
  obtain ⟨fu2, hf2⟩ := h2
  obtain ⟨l2, el2, b2, u2⟩ := openBs (by simpa [Value.cells] using hf2)
  obtain ⟨a3, len3, cap3, rfl⟩ := okWide_slice Try.underlying22 (hval 3 22 v3 rfl rfl)
  have k3 := h3
  have lt3 : ∀ x ∈ p3, x.block < W.heap.size := by obtain ⟨m, hm⟩ := k3; exact DataW.trod_lt m _ _ _ hm
  obtain ⟨fu3, hf3⟩ := h3
  obtain ⟨l3, el3, b3, u3⟩ := openBs (by simpa [Value.cells] using hf3)
  obtain ⟨a4, len4, cap4, rfl⟩ := okWide_slice Try.underlying23 (hval 4 23 v4 rfl rfl)
  have k4 := h4
  have lt4 : ∀ x ∈ p4, x.block < W.heap.size := by obtain ⟨m, hm⟩ := k4; exact DataW.trod_lt m _ _ _ hm
  obtain ⟨fu4, hf4⟩ := h4
  obtain ⟨l4, el4, b4, u4, uu4⟩ := openRows (by simpa [Value.cells] using hf4)
  obtain ⟨x5, rfl, rfl, rfl, wx5⟩ := open_int Try.underlying3 (hval 5 3 v5 rfl rfl) h5
  obtain ⟨a6, len6, cap6, rfl⟩ := okWide_slice Try.underlying24 (hval 6 24 v6 rfl rfl)
  have k6 := h6
  have lt6 : ∀ x ∈ p6, x.block < W.heap.size := by obtain ⟨m, hm⟩ := k6; exact DataW.trod_lt m _ _ _ hm
  obtain ⟨fu6, hf6⟩ := h6
  obtain ⟨l6, el6, b6, u6, uu6⟩ := openInts (by simpa [Value.cells] using hf6)
  have hb := bulk_bound hk
  simp only [List.append_nil, Rows.uptoBulkAll] at hb
  clear hA0
  refine (fnChainStep_walk W x0 x5 a1 a2 a3 a4 a6 cap1 cap2 cap3 cap4 cap6 len1 len2 len3 len4 len6 l1 l2 l3 l4 l6 el1 el2 el3 el4 el6 b1 b2 b3 b4 b6 (by omega) (by omega) (by omega) (by omega) (by omega) (fun l hl => by have := uu4 l hl; omega)).mono fun e W' ⟨he, bel⟩ => ?_
  subst he
  exact ⟨_, rfl, _, _, _, [], _, [], hW', trodAll_mk1 (shut_bool Try.underlying4 _), (trodAll_cons_mk (shut_int Try.underlying3 wx0) (trodAll_cons_mk (Below.trod laidOut (by kernel_rfl) (of_decide_eq_true (by kernel_rfl)) k1 bel lt1) (trodAll_cons_mk (Below.trod laidOut (by kernel_rfl) (of_decide_eq_true (by kernel_rfl)) k2 bel lt2) (trodAll_cons_mk (Below.trod laidOut (by kernel_rfl) (of_decide_eq_true (by kernel_rfl)) k3 bel lt3) (trodAll_cons_mk (Below.trod laidOut (by kernel_rfl) (of_decide_eq_true (by kernel_rfl)) k4 bel lt4) (trodAll_cons_mk (shut_int Try.underlying3 wx5) (trodAll_cons_mk (Below.trod laidOut (by kernel_rfl) (of_decide_eq_true (by kernel_rfl)) k6 bel lt6) trodAll_mk0))))))), rfl, bel.frame _, fun h => by cases h⟩

theorem fnChainStep_fact0 : (fun (P : Program) (f : FuncId) (fn : Func) (s : ChangeSpec) (c : OpenClaim) => (c.wf (OpenSpec.ofChange s) : Bool)) Try.prog 11 Try.f11 Rows.fnChainStepSpec Rows.fnChainStepUptoRow = true := by kernel_rfl
theorem fnChainStep_fact1 : (fun (P : Program) (f : FuncId) (fn : Func) (s : ChangeSpec) (c : OpenClaim) => (laidOutB P : Bool)) Try.prog 11 Try.f11 Rows.fnChainStepSpec Rows.fnChainStepUptoRow = true := prog_laid
theorem fnChainStep_fact2 : (fun (P : Program) (f : FuncId) (fn : Func) (s : ChangeSpec) (c : OpenClaim) => (mapsRowed P : Bool)) Try.prog 11 Try.f11 Rows.fnChainStepSpec Rows.fnChainStepUptoRow = true := prog_maps
theorem fnChainStep_fact3 : (fun (P : Program) (f : FuncId) (fn : Func) (s : ChangeSpec) (c : OpenClaim) => (fn.params.all (P.readableRec ·) : Bool)) Try.prog 11 Try.f11 Rows.fnChainStepSpec Rows.fnChainStepUptoRow = true := by kernel_rfl
theorem fnChainStep_fact4 : (fun (P : Program) (f : FuncId) (fn : Func) (s : ChangeSpec) (c : OpenClaim) => (namedTie P c.named s.vars : Bool)) Try.prog 11 Try.f11 Rows.fnChainStepSpec Rows.fnChainStepUptoRow = true := by kernel_rfl
theorem fnChainStep_fact5 : (fun (P : Program) (f : FuncId) (fn : Func) (s : ChangeSpec) (c : OpenClaim) => ((c.stops == []) : Bool)) Try.prog 11 Try.f11 Rows.fnChainStepSpec Rows.fnChainStepUptoRow = true := by kernel_rfl
theorem fnChainStep_fact6 : (fun (P : Program) (f : FuncId) (fn : Func) (s : ChangeSpec) (c : OpenClaim) => ((P.stops == []) : Bool)) Try.prog 11 Try.f11 Rows.fnChainStepSpec Rows.fnChainStepUptoRow = true := prog_stops
theorem fnChainStep_fact7 : (fun (P : Program) (f : FuncId) (fn : Func) (s : ChangeSpec) (c : OpenClaim) => ((c.knobs == []) : Bool)) Try.prog 11 Try.f11 Rows.fnChainStepSpec Rows.fnChainStepUptoRow = true := by kernel_rfl
theorem fnChainStep_fact8 : (fun (P : Program) (f : FuncId) (fn : Func) (s : ChangeSpec) (c : OpenClaim) => ((P.stopKnobs == []) : Bool)) Try.prog 11 Try.f11 Rows.fnChainStepSpec Rows.fnChainStepUptoRow = true := prog_knobs
theorem fnChainStep_fact9 : (fun (P : Program) (f : FuncId) (fn : Func) (s : ChangeSpec) (c : OpenClaim) => ((c.inPlace == P.inPlace f) : Bool)) Try.prog 11 Try.f11 Rows.fnChainStepSpec Rows.fnChainStepUptoRow = true := by kernel_rfl
theorem fnChainStep_fact10 : (fun (P : Program) (f : FuncId) (fn : Func) (s : ChangeSpec) (c : OpenClaim) => ((c.unfollowed == P.unfollowed f) : Bool)) Try.prog 11 Try.f11 Rows.fnChainStepSpec Rows.fnChainStepUptoRow = true := by kernel_rfl
theorem fnChainStep_fact11 : (fun (P : Program) (f : FuncId) (fn : Func) (s : ChangeSpec) (c : OpenClaim) => ((c.recurses == P.recurses f) : Bool)) Try.prog 11 Try.f11 Rows.fnChainStepSpec Rows.fnChainStepUptoRow = true := by kernel_rfl
theorem fnChainStep_fact12 : (fun (P : Program) (f : FuncId) (fn : Func) (s : ChangeSpec) (c : OpenClaim) => ((c.named == P.varsNamed f) : Bool)) Try.prog 11 Try.f11 Rows.fnChainStepSpec Rows.fnChainStepUptoRow = true := by kernel_rfl
theorem fnChainStep_fact13 : (fun (P : Program) (f : FuncId) (fn : Func) (s : ChangeSpec) (c : OpenClaim) => ((c.maps == (fn.params.toList ++ s.plain.varTypes P).any (P.mapsRec ·)) : Bool)) Try.prog 11 Try.f11 Rows.fnChainStepSpec Rows.fnChainStepUptoRow = true := by kernel_rfl
theorem fnChainStep_fact14 : (fun (P : Program) (f : FuncId) (fn : Func) (s : ChangeSpec) (c : OpenClaim) => ((c.ifaces == (fn.params.toList ++ s.plain.varTypes P).any (P.ifacesRec ·)) : Bool)) Try.prog 11 Try.f11 Rows.fnChainStepSpec Rows.fnChainStepUptoRow = true := by kernel_rfl
theorem fnChainStep_fact15 : (fun (P : Program) (f : FuncId) (fn : Func) (s : ChangeSpec) (c : OpenClaim) => ((c.mapsOut == P.mapsAmong fn.resultTypes.toList) : Bool)) Try.prog 11 Try.f11 Rows.fnChainStepSpec Rows.fnChainStepUptoRow = true := by kernel_rfl
theorem fnChainStep_fact16 : (fun (P : Program) (f : FuncId) (fn : Func) (s : ChangeSpec) (c : OpenClaim) => ((c.loops == (fn.params.toList ++ s.plain.varTypes P).any (P.loopsFrom ·)) : Bool)) Try.prog 11 Try.f11 Rows.fnChainStepSpec Rows.fnChainStepUptoRow = true := by kernel_rfl
theorem fnChainStep_fact17 : (fun (P : Program) (f : FuncId) (fn : Func) (s : ChangeSpec) (c : OpenClaim) => ((c.wideKeys == (fn.params.toList ++ s.plain.varTypes P ++ fn.resultTypes.toList).any (P.wideKeysFrom ·)) : Bool)) Try.prog 11 Try.f11 Rows.fnChainStepSpec Rows.fnChainStepUptoRow = true := by kernel_rfl
theorem fnChainStep_fact18 : (fun (P : Program) (f : FuncId) (fn : Func) (s : ChangeSpec) (c : OpenClaim) => (s.vars.all (P.varReadable ·) : Bool)) Try.prog 11 Try.f11 Rows.fnChainStepSpec Rows.fnChainStepUptoRow = true := by kernel_rfl
theorem fnChainStep_fact19 : (fun (P : Program) (f : FuncId) (fn : Func) (s : ChangeSpec) (c : OpenClaim) => (fn.resultTypes.all (fun t => P.readableRec t && decide (t < P.types.size)) : Bool)) Try.prog 11 Try.f11 Rows.fnChainStepSpec Rows.fnChainStepUptoRow = true := by kernel_rfl
theorem fnChainStep_fact20 : (fun (P : Program) (f : FuncId) (fn : Func) (s : ChangeSpec) (c : OpenClaim) => ((c.ifacesOut == fn.resultTypes.toList.any (P.ifacesRec ·)) : Bool)) Try.prog 11 Try.f11 Rows.fnChainStepSpec Rows.fnChainStepUptoRow = true := by kernel_rfl
theorem fnChainStep_fact21 : (fun (P : Program) (f : FuncId) (fn : Func) (s : ChangeSpec) (c : OpenClaim) => ((c.loopsOut == fn.resultTypes.toList.any (P.loopsFrom ·)) : Bool)) Try.prog 11 Try.f11 Rows.fnChainStepSpec Rows.fnChainStepUptoRow = true := by kernel_rfl
theorem fnChainStep_fact22 : (fun (P : Program) (f : FuncId) (fn : Func) (s : ChangeSpec) (c : OpenClaim) => ((c.plainKeys == P.plainKeys) : Bool)) Try.prog 11 Try.f11 Rows.fnChainStepSpec Rows.fnChainStepUptoRow = true := prog_keys
theorem fnChainStep_fact23 : (fun (P : Program) (f : FuncId) (fn : Func) (s : ChangeSpec) (c : OpenClaim) => (c.shortTexts.isNone : Bool)) Try.prog 11 Try.f11 Rows.fnChainStepSpec Rows.fnChainStepUptoRow = true := by kernel_rfl
theorem fnChainStep_fact24 : (fun (P : Program) (f : FuncId) (fn : Func) (s : ChangeSpec) (c : OpenClaim) => (P.stopsHeard : Bool)) Try.prog 11 Try.f11 Rows.fnChainStepSpec Rows.fnChainStepUptoRow = true := prog_heard
theorem fnChainStep_fact25 : (fun (P : Program) (f : FuncId) (fn : Func) (s : ChangeSpec) (c : OpenClaim) => (P.mayEnter : Bool)) Try.prog 11 Try.f11 Rows.fnChainStepSpec Rows.fnChainStepUptoRow = true := prog_enter
theorem fnChainStep_fact26 : (fun (P : Program) (f : FuncId) (fn : Func) (s : ChangeSpec) (c : OpenClaim) => ((c.lifted == P.liftsFinal) : Bool)) Try.prog 11 Try.f11 Rows.fnChainStepSpec Rows.fnChainStepUptoRow = true := prog_lifts
theorem fnChainStep_fact27 : (fun (P : Program) (f : FuncId) (fn : Func) (s : ChangeSpec) (c : OpenClaim) => ((P.make == some c.make) : Bool)) Try.prog 11 Try.f11 Rows.fnChainStepSpec Rows.fnChainStepUptoRow = true := prog_make
theorem fnChainStep_fact28 : (fun (P : Program) (f : FuncId) (fn : Func) (s : ChangeSpec) (c : OpenClaim) => ((c.kinds == (if c.domain.isEmpty then [] else fn.params.toList.map fun t => match P.underlying t with | some (.int k) => some k | _ => none)) : Bool)) Try.prog 11 Try.f11 Rows.fnChainStepSpec Rows.fnChainStepUptoRow = true := by kernel_rfl
theorem fnChainStep_fact29 : (fun (P : Program) (f : FuncId) (fn : Func) (s : ChangeSpec) (c : OpenClaim) => ((c.pinned == c.pinnedBy) : Bool)) Try.prog 11 Try.f11 Rows.fnChainStepSpec Rows.fnChainStepUptoRow = true := by kernel_rfl
theorem fnChainStep_fact30 : (fun (P : Program) (f : FuncId) (fn : Func) (s : ChangeSpec) (c : OpenClaim) => ((c.veiled == (fn.params.toList ++ s.plain.varTypes P ++ fn.resultTypes.toList).any (P.veiledRec ·)) : Bool)) Try.prog 11 Try.f11 Rows.fnChainStepSpec Rows.fnChainStepUptoRow = true := by kernel_rfl
theorem fnChainStep_fact31 : (fun (P : Program) (f : FuncId) (fn : Func) (s : ChangeSpec) (c : OpenClaim) => (c.veiledFits P fn.params.toList (fn.params.toList ++ s.plain.varTypes P ++ fn.resultTypes.toList) : Bool)) Try.prog 11 Try.f11 Rows.fnChainStepSpec Rows.fnChainStepUptoRow = true := by kernel_rfl
set_option maxRecDepth 100000 in
theorem fnChainStep_facts : joinedFacts Try.prog 11 Try.f11 Rows.fnChainStepSpec Rows.fnChainStepUptoRow = true := and_mk (and_mk (and_mk (and_mk (and_mk (and_mk (and_mk (and_mk (and_mk (and_mk (and_mk (and_mk (and_mk (and_mk (and_mk (and_mk (and_mk (and_mk (and_mk (and_mk (and_mk (and_mk (and_mk (and_mk (and_mk (and_mk (and_mk (and_mk (and_mk (and_mk (and_mk (fnChainStep_fact0) fnChainStep_fact1) fnChainStep_fact2) fnChainStep_fact3) fnChainStep_fact4) fnChainStep_fact5) fnChainStep_fact6) fnChainStep_fact7) fnChainStep_fact8) fnChainStep_fact9) fnChainStep_fact10) fnChainStep_fact11) fnChainStep_fact12) fnChainStep_fact13) fnChainStep_fact14) fnChainStep_fact15) fnChainStep_fact16) fnChainStep_fact17) fnChainStep_fact18) fnChainStep_fact19) fnChainStep_fact20) fnChainStep_fact21) fnChainStep_fact22) fnChainStep_fact23) fnChainStep_fact24) fnChainStep_fact25) fnChainStep_fact26) fnChainStep_fact27) fnChainStep_fact28) fnChainStep_fact29) fnChainStep_fact30) fnChainStep_fact31

set_option maxRecDepth 100000 in
theorem fnChainStep_lifted (os : Os) (started : os.Started) (H : Type) (enc : TypeId × Value → H) (F : Stop.Interp) :
    ReturnsInHanded {} Try.checked os 11 .any ((Rows.OpenSpec.upto Rows.fnChainStepSpec).pre6 enc Try.prog Try.f11 Rows.fnChainStepUptoRow.domain false) (((Rows.OpenSpec.upto Rows.fnChainStepSpec).at F).post enc Try.prog Try.f11 false true false false) := by
  refine returnsInHanded_of_cond (C := Try.checked) (s := Rows.OpenSpec.upto Rows.fnChainStepSpec) (k := Rows.uptoSmall) rfl ownK started (by kernel_rfl) Try.func11
    (OpenSpec.witness (enc := enc) (C := Try.checked) (s := Rows.OpenSpec.upto Rows.fnChainStepSpec) (k := Rows.uptoSmall) rfl false ⟨#[], #[.int .i64 0, .slice none 0 0, .slice none 0 0, .slice none 0 0, .slice none 0 0, .int .i64 0, .slice none 0 0], []⟩ 8 (by kernel_rfl) (by kernel_rfl) (by kernel_rfl)
      (x := ([.lit (.int .i64 0), .nil, .nil, .nil, .nil, .lit (.int .i64 0), .nil], [], [])) (by kernel_rfl) rfl (by kernel_rfl)) ?_
  intro W base args ds gs before hval hW _ hk _
  exact fnChainStep_contract H enc W base args ds gs before hval hW hk

set_option maxRecDepth 100000 in
theorem fnChainStep_proved : Rows.FnChainStepUptoSaid :=
  OpenClaim.holds_of_cond 11 Try.f11 rfl rfl rfl rfl rfl rfl rfl ⟨rfl, rfl, rfl, rfl, rfl⟩ rfl rfl rfl rfl rfl (by kernel_rfl) Try.func11 fnChainStep_facts
    (of_decide_eq_true (by kernel_rfl)) (by unfold Func.isWrapper; first | (rw [if_pos (by decide +kernel)]; kernel_rfl) | (rw [if_neg (by decide +kernel)]; exact ⟨rfl, rfl⟩))
    (fun os started H enc _ F => fnChainStep_lifted os started H enc F)

end Go.Proofs.Ythemhpefcfdcaaa
