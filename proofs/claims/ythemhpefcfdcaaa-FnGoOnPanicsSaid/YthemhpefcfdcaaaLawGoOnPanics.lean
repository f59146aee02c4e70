/- For every input: of the kinds 0 to 3, bytes that are written from a state behind a read of bytes make a panic, as without the state (FnGoOnPanics returns true); no condition. -/
import Derived.Test.YthemhpefcfdcaaaKinds
import Derived.Test.YthemhpefcfdcaaaOne
import Derived.Test.YthemhpefcfdcaaaReach
import Derived.Test.YthemhpefcfdcaaaFacts
namespace Go.Proofs.Ythemhpefcfdcaaa
open Go.RowKit Go.Deep
open Go.ChangeShapes Go.WideShapes Go.ChangeAt
set_option linter.unusedVariables false

set_option maxRecDepth 100000 in
set_option maxHeartbeats 2000000 in
theorem fnGoOnPanics_walk (w : World) (kind x : Int) (aN aS aD aP : Option Addr) (cN cS cD cP n m d p : Nat) (N S data part : List UInt8)
    (hn : N.length = n) (hm : S.length = m) (hd : data.length = d) (hp : part.length = p) (hN : Bs w.heap.size w aN cN N) (hS : Bs w.heap.size w aS cS S) (hD : Bs w.heap.size w aD cD data) (hP : Bs w.heap.size w aP cP part)
    (hnb : n ≤ 140737488351232) (hmb : m ≤ 140737488351232) :
    Calls Try.prog 15 #[.int .i64 kind, .slice aN n cN, .slice aS m cS, .slice aD d cD, .int .i64 x, .slice aP p cP] w fun e w' => e = .returned (.bool true) ∧ Below w.heap.size w w' := by
  by_cases h1 : x < 1
  · clear hn hm hd hp hN hS hD hP
    go_enter Try.func15, Try.ntmps15
    go_wp2_with fail
    go_ret
    exact ⟨rfl, Below.refl _ _⟩
  by_cases h2 : p = 0
  · have b0 : ((p : Int) == 0) = true := by simp; omega
    clear hn hm hd hp hN hS hD hP
    go_enter Try.func15, Try.ntmps15
    go_wp2_with fail
    go_ret
    exact ⟨rfl, Below.refl _ _⟩
  have b0 : ((p : Int) == 0) = false := by simp; omega
  by_cases h3 : 0 ≤ kind ∧ kind ≤ 3
  case neg =>
    have HO := Lib.hid (opened_no w kind h3)
    clear hn hm hd hp hN hS hD hP h2 h3
    go_enter Try.func15, Try.ntmps15
    go_wp2_with fail
    refine HO.out.mono ?_
    rintro e w' ⟨rfl, rfl⟩
    go_wp2_with fail
    go_ret
    exact ⟨rfl, Below.refl _ _⟩
  obtain ⟨k1, k2⟩ := h3
  have HO := Lib.hid (opened_yes w kind k1 k2)
  obtain ⟨ok0, sq0, ol0⟩ := start_ok kind N S
  have lib := startIB_le kind N S (by omega) (by omega)
  obtain ⟨s, hs⟩ : ∃ s, s = start kind N S := ⟨_, rfl⟩
  obtain ⟨l, hl⟩ : ∃ l, l = startIB kind N S := ⟨_, rfl⟩
  rw [← hs] at ok0 sq0
  rw [← hl] at lib
  obtain ⟨q, hq⟩ : ∃ q, l.length = q := ⟨_, rfl⟩
  have hqb : q ≤ 281474976710656 := by omega
  obtain ⟨T, hT⟩ : ∃ T, T = rdLen x := ⟨_, rfl⟩
  obtain ⟨s1, hs1⟩ : ∃ s1, s1 = s.absorb data := ⟨_, rfl⟩
  obtain ⟨s2, hs2⟩ : ∃ s2, s2 = s1.read T := ⟨_, rfl⟩
  have ok1 : s1.Ok ∧ s1.sq = false := by rw [hs1]; exact ok0.absorb sq0 _
  have ok2 : s2.Ok ∧ s2.sq = true := by rw [hs2]; exact ⟨ok1.1.read _, Sp.read_sq _ _⟩
  have e1 : (start kind N S).rate = s1.rate ∧ (start kind N S).ds = s1.ds ∧ (start kind N S).ol = s1.ol := by
    rw [← hs, hs1]
    obtain ⟨g1, g2, g3, _⟩ := Sp.absorb_same s data
    exact ⟨g1.symm, g2.symm, g3.symm⟩
  have e2 : (start kind N S).rate = s2.rate ∧ (start kind N S).ds = s2.ds ∧ (start kind N S).ol = s2.ol := by
    obtain ⟨g1, g2, g3⟩ := Sp.read_same T s1
    rw [hs2, g1, g2, g3]; exact e1
  have lA : (marsh s1 ++ l).length = 207 + q := by rw [List.length_append, marsh_len _ ok1.1.len, hq]
  have lZ : (marsh s2 ++ l).length = 207 + q := by rw [List.length_append, marsh_len _ ok2.1.len, hq]
  -- the states
  obtain ⟨w1, hw1⟩ : ∃ w1, w1 = w.alloc (.cells #[.slice aD d cD] 22) := ⟨_, rfl⟩
  obtain ⟨w2, hw2⟩ : ∃ w2, w2 = w1.alloc (.cells #[.int .i64 x] 3) := ⟨_, rfl⟩
  have bl1 : Below w.heap.size w w1 := by rw [hw1]; exact (Below.refl _ _).alloc (Nat.le_refl _) _
  have bb2 : Below w1.heap.size w1 w2 := by rw [hw2]; exact (Below.refl _ _).alloc (Nat.le_refl _) _
  have hR2 : Rows2 w1.heap.size w1 (some ⟨w.heap.size, 0, none⟩) 1 [data] := by rw [hw1]; exact rows2_one hd hD
  have hI2 : Ints w2.heap.size w2 (some ⟨w1.heap.size, 0, none⟩) 1 [x] := by rw [hw2]; exact ints_one' _ _
  have bl2 : Below w.heap.size w w2 := bl1.trans (bb2.mono bl1.size)
  have z2 := bl2.size
  have hz1 : w1.heap.size = w.heap.size + 1 := by rw [hw1]; simp
  have HST := Lib.hid (states_any w2 kind aN aS (some ⟨w.heap.size, 0, none⟩) (some ⟨w1.heap.size, 0, none⟩) cN cS 1 1 n m 1 1 N S [data] [x] hn hm rfl rfl ((hN.keep bl2).mono z2) ((hS.keep bl2).mono z2) ((hR2.keep bb2).mono bb2.size) hI2 (by omega) (by omega) (by omega) (by omega))
  have eD : wsts (startIB kind N S) [data] (start kind N S) ++ rsts (startIB kind N S) [x] ((start kind N S).absorb [data].flatten) = [marsh s1 ++ l, marsh s2 ++ l] := by
    rw [← hs, ← hl]
    simp [wsts, rsts, ← hT, ← hs1, ← hs2]
  rw [eD] at HST
  have HW1 := Lib.hid hw1
  have HW2 := Lib.hid hw2
  have HLA := Lib.hid lA
  have HLZ := Lib.hid lZ
  have HE1 := Lib.hid e1
  have HE2 := Lib.hid e2
  have HSQ := Lib.hid ok2.2
  have HQ := Lib.hid hq
  have ok1' := ok1.1
  have ok2' := ok2.1
  have hsq1 := Lib.hid ok1.2
  clear hw1 hw2 hR2 hI2 eD lA lZ e1 e2 ok2 ok1 hs hl hT hs1 hs2 lib hq sq0 ok0 ol0
  go_enter Try.func15, Try.ntmps15
  go_wp2_with fail
  refine HO.out.mono ?_
  rintro e w' ⟨rfl, rfl⟩
  go_wp2_with fail
  rw [← HW1.out, ← HW2.out, ← hz1]
  refine HST.out.mono ?_
  rintro e w3 ⟨f3, fc3, rfl, hf3, bl3⟩
  have bl3' : Below w.heap.size w w3 := bl2.trans (bl3.mono z2)
  have z3 := bl3'.size
  obtain ⟨pb, po, va, vc, g1, g2, g3, g4⟩ := hf3.at (i := 0) (l := marsh s1 ++ l) rfl
  obtain ⟨pb', po', ua, uc, g5, g6, g7, g8⟩ := hf3.at (i := 1) (l := marsh s2 ++ l) rfl
  rw [g1] at g5
  simp only [Option.some.injEq, Addr.mk.injEq, and_true] at g5
  obtain ⟨rfl, rfl⟩ := g5
  subst g1
  rw [HLA.out] at g3
  rw [HLZ.out] at g7
  rw [Nat.add_zero] at g3
  -- behind the read
  obtain ⟨w4, hw4⟩ : ∃ w4, w4 = w3.alloc (.cells #[.slice aP p cP] 22) := ⟨_, rfl⟩
  have bb4 : Below w3.heap.size w3 w4 := by rw [hw4]; exact (Below.refl _ _).alloc (Nat.le_refl _) _
  have hR4 : Rows2 w4.heap.size w4 (some ⟨w3.heap.size, 0, none⟩) 1 [part] := by rw [hw4]; exact rows2_one hp ((hP.keep bl3').mono z3)
  have bl4 : Below w.heap.size w w4 := bl3'.trans (bb4.mono z3)
  have z4 := bl4.size
  have HG := Lib.hid (goon_late w4 kind aN aS ua (some ⟨w3.heap.size, 0, none⟩) none cN cS uc 1 0 n m q 0 N S l part s2 hn hm HQ.out ((hN.keep bl4).mono z4) ((hS.keep bl4).mono z4) ((g8.keep bb4).mono bb4.size) hR4 ok2' HE2.out.1 HE2.out.2.1 HE2.out.2.2 HSQ.out (by omega) (by omega) (by omega) hqb)
  have HW4 := Lib.hid hw4
  clear HST HO hw4 hR4 hz1
  go_wp2_with fail
  rw [← HW4.out]
  refine HG.out.mono ?_
  rintro e w5 ⟨rfl, bl5⟩
  have bl5' : Below w.heap.size w w5 := bl4.trans (bl5.mono z4)
  have z5 := bl5'.size
  have bb35 : Below w3.heap.size w3 w5 := bb4.trans (bl5.mono bb4.size)
  -- ahead of the read
  obtain ⟨w6, hw6⟩ : ∃ w6, w6 = w5.alloc (.cells #[.slice aP p cP] 22) := ⟨_, rfl⟩
  have bb6 : Below w5.heap.size w5 w6 := by rw [hw6]; exact (Below.refl _ _).alloc (Nat.le_refl _) _
  have hR6 : Rows2 w6.heap.size w6 (some ⟨w5.heap.size, 0, none⟩) 1 [part] := by rw [hw6]; exact rows2_one hp ((hP.keep bl5').mono z5)
  have bl6 : Below w.heap.size w w6 := bl5'.trans (bb6.mono z5)
  have bb36 : Below w3.heap.size w3 w6 := bb35.trans (bb6.mono bb35.size)
  have z6 := bl6.size
  have HG2 := Lib.hid (goon_any w6 kind aN aS va (some ⟨w5.heap.size, 0, none⟩) none cN cS vc 1 0 n m q 1 0 N S l s1 [part] [] hn hm HQ.out rfl rfl ((hN.keep bl6).mono z6) ((hS.keep bl6).mono z6) ((g4.keep bb36).mono bb36.size) hR6 ⟨Nat.le_refl _, by omega, .inl rfl⟩ ok1' HE1.out.1 HE1.out.2.1 HE1.out.2.2 (.inr hsq1.out) (by omega) (by omega) (by omega) hqb (by omega))
  have HW6 := Lib.hid hw6
  have g3' : w5.cell? ⟨pb, po, none⟩ = some (.slice va (207 + q) vc) := by rw [bb35.cell (p := ⟨pb, po, none⟩) g2]; exact g3
  clear HG hw6 hR6 g3
  go_wp2_with fail
  rw [← HW6.out]
  refine HG2.out.mono ?_
  rintro e w7 ⟨f7, fc7, rfl, _, bl7⟩
  clear HG2
  go_wp2_with fail
  go_ret
  exact ⟨rfl, bl6.trans (bl7.mono z6)⟩

theorem fnGoOnPanics_contract (H : Type) (enc : TypeId × Value → H) (W : World) (base : Nat) (args : Array Value) (ds gs : List (DataW H)) (before : List MemPlace)
    (hval : ∀ (j : Nat) t v, Try.f15.params[j]? = some t → args[j]? = some v → Value.okWide Try.prog W .any base t v)
    (hW : DataW.Whole enc Try.prog Try.f15.params.toList Rows.fnGoOnPanicsSpec.vars false W args.toList ds gs before)
    (hsz : (DataW.weightsEach Try.prog (Try.f15.params.toList ++ Rows.fnGoOnPanicsSpec.plain.varTypes Try.prog) (ds ++ gs)).all (· ≤ reachBytes) = true) :
    Calls Try.prog 15 args W fun e W' => ∃ v, e = .returned v ∧ Rows.fnGoOnPanicsSpec.post enc Try.prog Try.f15 false true false false W args v W' := by
  have hW' := hW
  obtain ⟨p, q, hA0, hV, rfl, hfz, hnd⟩ := hW
  have hA : DataW.TrodAll enc Try.prog W 0 (fun _ => true) true Try.f15.params.toList args.toList ds p := hA0
  have hsz' : (DataW.weightsEach Try.prog (Try.f15.params.toList ++ []) (ds ++ gs)).all (· ≤ reachBytes) = true := hsz
  clear hsz
  rw [Try.params15] at hA hval hsz'
  obtain ⟨v0, vs0, d0, ds0, p0, q0, hargs, rfl, rfl, h0, r0⟩ := trodAll_cons hA
  obtain ⟨v1, vs1, d1, ds1, p1, q1, rfl, rfl, rfl, h1, r1⟩ := trodAll_cons r0
  obtain ⟨v2, vs2, d2, ds2, p2, q2, rfl, rfl, rfl, h2, r2⟩ := trodAll_cons r1
  obtain ⟨v3, vs3, d3, ds3, p3, q3, rfl, rfl, rfl, h3, r3⟩ := trodAll_cons r2
  obtain ⟨v4, vs4, d4, ds4, p4, q4, rfl, rfl, rfl, h4, r4⟩ := trodAll_cons r3
  obtain ⟨v5, vs5, d5, ds5, p5, q5, rfl, rfl, rfl, h5, r5⟩ := trodAll_cons r4
  obtain ⟨rfl, rfl, rfl⟩ := trodAll_nil r5
  obtain rfl : args = #[v0, v1, v2, v3, v4, v5] := by cases args; simp_all
  obtain ⟨rfl, rfl⟩ := trodVars_none hV
  obtain ⟨x0, rfl, rfl, rfl, wx0⟩ := open_int Try.underlying3 (hval 0 3 v0 rfl rfl) h0
  obtain ⟨a1, len1, cap1, rfl⟩ := okWide_slice Try.underlying22 (hval 1 22 v1 rfl rfl)
  have k1 := h1
  have lt1 : ∀ x ∈ p1, x.block < W.heap.size := by obtain ⟨m, hm⟩ := k1; exact DataW.trod_lt m _ _ _ hm
  obtain ⟨fu1, hf1⟩ := h1
  obtain ⟨l1, el1, b1, u1⟩ := openBs (by simpa [Value.cells] using hf1)
  obtain ⟨a2, len2, cap2, rfl⟩ := okWide_slice Try.underlying22 (hval 2 22 v2 rfl rfl)
  have k2 := h2
  have lt2 : ∀ x ∈ p2, x.block < W.heap.size := by obtain ⟨m, hm⟩ := k2; exact DataW.trod_lt m _ _ _ hm
  obtain ⟨fu2, hf2⟩ := h2
  obtain ⟨l2, el2, b2, u2⟩ := openBs (by simpa [Value.cells] using hf2)
  obtain ⟨a3, len3, cap3, rfl⟩ := okWide_slice Try.underlying22 (hval 3 22 v3 rfl rfl)
  have k3 := h3
  have lt3 : ∀ x ∈ p3, x.block < W.heap.size := by obtain ⟨m, hm⟩ := k3; exact DataW.trod_lt m _ _ _ hm
  obtain ⟨fu3, hf3⟩ := h3
  obtain ⟨l3, el3, b3, u3⟩ := openBs (by simpa [Value.cells] using hf3)
  obtain ⟨x4, rfl, rfl, rfl, wx4⟩ := open_int Try.underlying3 (hval 4 3 v4 rfl rfl) h4
  obtain ⟨a5, len5, cap5, rfl⟩ := okWide_slice Try.underlying22 (hval 5 22 v5 rfl rfl)
  have k5 := h5
  have lt5 : ∀ x ∈ p5, x.block < W.heap.size := by obtain ⟨m, hm⟩ := k5; exact DataW.trod_lt m _ _ _ hm
  obtain ⟨fu5, hf5⟩ := h5
  obtain ⟨l5, el5, b5, u5⟩ := openBs (by simpa [Value.cells] using hf5)
  have z1 := reachBs (by simpa [Value.cells] using hf1) hsz' 1 rfl rfl
  have y1 := b1.1
  have z2 := reachBs (by simpa [Value.cells] using hf2) hsz' 2 rfl rfl
  have y2 := b2.1
  have z3 := reachBs (by simpa [Value.cells] using hf3) hsz' 3 rfl rfl
  have y3 := b3.1
  have z5 := reachBs (by simpa [Value.cells] using hf5) hsz' 5 rfl rfl
  have y5 := b5.1
  clear hA0
  refine (fnGoOnPanics_walk W x0 x4 a1 a2 a3 a5 cap1 cap2 cap3 cap5 len1 len2 len3 len5 l1 l2 l3 l5 el1 el2 el3 el5 b1 b2 b3 b5 (by omega) (by omega)).mono fun e W' ⟨he, bel⟩ => ?_
  subst he
  exact ⟨_, rfl, _, _, _, [], _, [], hW', trodAll_mk1 (shut_bool Try.underlying4 _), (trodAll_cons_mk (shut_int Try.underlying3 wx0) (trodAll_cons_mk (Below.trod laidOut (by kernel_rfl) (of_decide_eq_true (by kernel_rfl)) k1 bel lt1) (trodAll_cons_mk (Below.trod laidOut (by kernel_rfl) (of_decide_eq_true (by kernel_rfl)) k2 bel lt2) (trodAll_cons_mk (Below.trod laidOut (by kernel_rfl) (of_decide_eq_true (by kernel_rfl)) k3 bel lt3) (trodAll_cons_mk (shut_int Try.underlying3 wx4) (trodAll_cons_mk (Below.trod laidOut (by kernel_rfl) (of_decide_eq_true (by kernel_rfl)) k5 bel lt5) trodAll_mk0)))))), rfl, bel.frame _, fun h => by cases h⟩

theorem fnGoOnPanics_fact0 : (fun (P : Program) (f : FuncId) (fn : Func) (s : ChangeSpec) (c : OpenClaim) => (c.wf (OpenSpec.ofChange s) : Bool)) Try.prog 15 Try.f15 Rows.fnGoOnPanicsSpec Rows.fnGoOnPanicsRow = true := by kernel_rfl
theorem fnGoOnPanics_fact1 : (fun (P : Program) (f : FuncId) (fn : Func) (s : ChangeSpec) (c : OpenClaim) => (laidOutB P : Bool)) Try.prog 15 Try.f15 Rows.fnGoOnPanicsSpec Rows.fnGoOnPanicsRow = true := prog_laid
theorem fnGoOnPanics_fact2 : (fun (P : Program) (f : FuncId) (fn : Func) (s : ChangeSpec) (c : OpenClaim) => (mapsRowed P : Bool)) Try.prog 15 Try.f15 Rows.fnGoOnPanicsSpec Rows.fnGoOnPanicsRow = true := prog_maps
theorem fnGoOnPanics_fact3 : (fun (P : Program) (f : FuncId) (fn : Func) (s : ChangeSpec) (c : OpenClaim) => (fn.params.all (P.readableRec ·) : Bool)) Try.prog 15 Try.f15 Rows.fnGoOnPanicsSpec Rows.fnGoOnPanicsRow = true := by kernel_rfl
theorem fnGoOnPanics_fact4 : (fun (P : Program) (f : FuncId) (fn : Func) (s : ChangeSpec) (c : OpenClaim) => (namedTie P c.named s.vars : Bool)) Try.prog 15 Try.f15 Rows.fnGoOnPanicsSpec Rows.fnGoOnPanicsRow = true := by kernel_rfl
theorem fnGoOnPanics_fact5 : (fun (P : Program) (f : FuncId) (fn : Func) (s : ChangeSpec) (c : OpenClaim) => ((c.stops == []) : Bool)) Try.prog 15 Try.f15 Rows.fnGoOnPanicsSpec Rows.fnGoOnPanicsRow = true := by kernel_rfl
theorem fnGoOnPanics_fact6 : (fun (P : Program) (f : FuncId) (fn : Func) (s : ChangeSpec) (c : OpenClaim) => ((P.stops == []) : Bool)) Try.prog 15 Try.f15 Rows.fnGoOnPanicsSpec Rows.fnGoOnPanicsRow = true := prog_stops
theorem fnGoOnPanics_fact7 : (fun (P : Program) (f : FuncId) (fn : Func) (s : ChangeSpec) (c : OpenClaim) => ((c.knobs == []) : Bool)) Try.prog 15 Try.f15 Rows.fnGoOnPanicsSpec Rows.fnGoOnPanicsRow = true := by kernel_rfl
theorem fnGoOnPanics_fact8 : (fun (P : Program) (f : FuncId) (fn : Func) (s : ChangeSpec) (c : OpenClaim) => ((P.stopKnobs == []) : Bool)) Try.prog 15 Try.f15 Rows.fnGoOnPanicsSpec Rows.fnGoOnPanicsRow = true := prog_knobs
theorem fnGoOnPanics_fact9 : (fun (P : Program) (f : FuncId) (fn : Func) (s : ChangeSpec) (c : OpenClaim) => ((c.inPlace == P.inPlace f) : Bool)) Try.prog 15 Try.f15 Rows.fnGoOnPanicsSpec Rows.fnGoOnPanicsRow = true := by kernel_rfl
theorem fnGoOnPanics_fact10 : (fun (P : Program) (f : FuncId) (fn : Func) (s : ChangeSpec) (c : OpenClaim) => ((c.unfollowed == P.unfollowed f) : Bool)) Try.prog 15 Try.f15 Rows.fnGoOnPanicsSpec Rows.fnGoOnPanicsRow = true := by kernel_rfl
theorem fnGoOnPanics_fact11 : (fun (P : Program) (f : FuncId) (fn : Func) (s : ChangeSpec) (c : OpenClaim) => ((c.recurses == P.recurses f) : Bool)) Try.prog 15 Try.f15 Rows.fnGoOnPanicsSpec Rows.fnGoOnPanicsRow = true := by kernel_rfl
theorem fnGoOnPanics_fact12 : (fun (P : Program) (f : FuncId) (fn : Func) (s : ChangeSpec) (c : OpenClaim) => ((c.named == P.varsNamed f) : Bool)) Try.prog 15 Try.f15 Rows.fnGoOnPanicsSpec Rows.fnGoOnPanicsRow = true := by kernel_rfl
theorem fnGoOnPanics_fact13 : (fun (P : Program) (f : FuncId) (fn : Func) (s : ChangeSpec) (c : OpenClaim) => ((c.maps == (fn.params.toList ++ s.plain.varTypes P).any (P.mapsRec ·)) : Bool)) Try.prog 15 Try.f15 Rows.fnGoOnPanicsSpec Rows.fnGoOnPanicsRow = true := by kernel_rfl
theorem fnGoOnPanics_fact14 : (fun (P : Program) (f : FuncId) (fn : Func) (s : ChangeSpec) (c : OpenClaim) => ((c.ifaces == (fn.params.toList ++ s.plain.varTypes P).any (P.ifacesRec ·)) : Bool)) Try.prog 15 Try.f15 Rows.fnGoOnPanicsSpec Rows.fnGoOnPanicsRow = true := by kernel_rfl
theorem fnGoOnPanics_fact15 : (fun (P : Program) (f : FuncId) (fn : Func) (s : ChangeSpec) (c : OpenClaim) => ((c.mapsOut == P.mapsAmong fn.resultTypes.toList) : Bool)) Try.prog 15 Try.f15 Rows.fnGoOnPanicsSpec Rows.fnGoOnPanicsRow = true := by kernel_rfl
theorem fnGoOnPanics_fact16 : (fun (P : Program) (f : FuncId) (fn : Func) (s : ChangeSpec) (c : OpenClaim) => ((c.loops == (fn.params.toList ++ s.plain.varTypes P).any (P.loopsFrom ·)) : Bool)) Try.prog 15 Try.f15 Rows.fnGoOnPanicsSpec Rows.fnGoOnPanicsRow = true := by kernel_rfl
theorem fnGoOnPanics_fact17 : (fun (P : Program) (f : FuncId) (fn : Func) (s : ChangeSpec) (c : OpenClaim) => ((c.wideKeys == (fn.params.toList ++ s.plain.varTypes P ++ fn.resultTypes.toList).any (P.wideKeysFrom ·)) : Bool)) Try.prog 15 Try.f15 Rows.fnGoOnPanicsSpec Rows.fnGoOnPanicsRow = true := by kernel_rfl
theorem fnGoOnPanics_fact18 : (fun (P : Program) (f : FuncId) (fn : Func) (s : ChangeSpec) (c : OpenClaim) => (s.vars.all (P.varReadable ·) : Bool)) Try.prog 15 Try.f15 Rows.fnGoOnPanicsSpec Rows.fnGoOnPanicsRow = true := by kernel_rfl
theorem fnGoOnPanics_fact19 : (fun (P : Program) (f : FuncId) (fn : Func) (s : ChangeSpec) (c : OpenClaim) => (fn.resultTypes.all (fun t => P.readableRec t && decide (t < P.types.size)) : Bool)) Try.prog 15 Try.f15 Rows.fnGoOnPanicsSpec Rows.fnGoOnPanicsRow = true := by kernel_rfl
theorem fnGoOnPanics_fact20 : (fun (P : Program) (f : FuncId) (fn : Func) (s : ChangeSpec) (c : OpenClaim) => ((c.ifacesOut == fn.resultTypes.toList.any (P.ifacesRec ·)) : Bool)) Try.prog 15 Try.f15 Rows.fnGoOnPanicsSpec Rows.fnGoOnPanicsRow = true := by kernel_rfl
theorem fnGoOnPanics_fact21 : (fun (P : Program) (f : FuncId) (fn : Func) (s : ChangeSpec) (c : OpenClaim) => ((c.loopsOut == fn.resultTypes.toList.any (P.loopsFrom ·)) : Bool)) Try.prog 15 Try.f15 Rows.fnGoOnPanicsSpec Rows.fnGoOnPanicsRow = true := by kernel_rfl
theorem fnGoOnPanics_fact22 : (fun (P : Program) (f : FuncId) (fn : Func) (s : ChangeSpec) (c : OpenClaim) => ((c.plainKeys == P.plainKeys) : Bool)) Try.prog 15 Try.f15 Rows.fnGoOnPanicsSpec Rows.fnGoOnPanicsRow = true := prog_keys
theorem fnGoOnPanics_fact23 : (fun (P : Program) (f : FuncId) (fn : Func) (s : ChangeSpec) (c : OpenClaim) => (c.shortTexts.isNone : Bool)) Try.prog 15 Try.f15 Rows.fnGoOnPanicsSpec Rows.fnGoOnPanicsRow = true := by kernel_rfl
theorem fnGoOnPanics_fact24 : (fun (P : Program) (f : FuncId) (fn : Func) (s : ChangeSpec) (c : OpenClaim) => (P.stopsHeard : Bool)) Try.prog 15 Try.f15 Rows.fnGoOnPanicsSpec Rows.fnGoOnPanicsRow = true := prog_heard
theorem fnGoOnPanics_fact25 : (fun (P : Program) (f : FuncId) (fn : Func) (s : ChangeSpec) (c : OpenClaim) => (P.mayEnter : Bool)) Try.prog 15 Try.f15 Rows.fnGoOnPanicsSpec Rows.fnGoOnPanicsRow = true := prog_enter
theorem fnGoOnPanics_fact26 : (fun (P : Program) (f : FuncId) (fn : Func) (s : ChangeSpec) (c : OpenClaim) => ((c.lifted == P.liftsFinal) : Bool)) Try.prog 15 Try.f15 Rows.fnGoOnPanicsSpec Rows.fnGoOnPanicsRow = true := prog_lifts
theorem fnGoOnPanics_fact27 : (fun (P : Program) (f : FuncId) (fn : Func) (s : ChangeSpec) (c : OpenClaim) => ((P.make == some c.make) : Bool)) Try.prog 15 Try.f15 Rows.fnGoOnPanicsSpec Rows.fnGoOnPanicsRow = true := prog_make
theorem fnGoOnPanics_fact28 : (fun (P : Program) (f : FuncId) (fn : Func) (s : ChangeSpec) (c : OpenClaim) => ((c.kinds == (if c.domain.isEmpty then [] else fn.params.toList.map fun t => match P.underlying t with | some (.int k) => some k | _ => none)) : Bool)) Try.prog 15 Try.f15 Rows.fnGoOnPanicsSpec Rows.fnGoOnPanicsRow = true := by kernel_rfl
theorem fnGoOnPanics_fact29 : (fun (P : Program) (f : FuncId) (fn : Func) (s : ChangeSpec) (c : OpenClaim) => ((c.pinned == c.pinnedBy) : Bool)) Try.prog 15 Try.f15 Rows.fnGoOnPanicsSpec Rows.fnGoOnPanicsRow = true := by kernel_rfl
theorem fnGoOnPanics_fact30 : (fun (P : Program) (f : FuncId) (fn : Func) (s : ChangeSpec) (c : OpenClaim) => ((c.veiled == (fn.params.toList ++ s.plain.varTypes P ++ fn.resultTypes.toList).any (P.veiledRec ·)) : Bool)) Try.prog 15 Try.f15 Rows.fnGoOnPanicsSpec Rows.fnGoOnPanicsRow = true := by kernel_rfl
theorem fnGoOnPanics_fact31 : (fun (P : Program) (f : FuncId) (fn : Func) (s : ChangeSpec) (c : OpenClaim) => (c.veiledFits P fn.params.toList (fn.params.toList ++ s.plain.varTypes P ++ fn.resultTypes.toList) : Bool)) Try.prog 15 Try.f15 Rows.fnGoOnPanicsSpec Rows.fnGoOnPanicsRow = true := by kernel_rfl
set_option maxRecDepth 100000 in
theorem fnGoOnPanics_facts : joinedFacts Try.prog 15 Try.f15 Rows.fnGoOnPanicsSpec Rows.fnGoOnPanicsRow = true := and_mk (and_mk (and_mk (and_mk (and_mk (and_mk (and_mk (and_mk (and_mk (and_mk (and_mk (and_mk (and_mk (and_mk (and_mk (and_mk (and_mk (and_mk (and_mk (and_mk (and_mk (and_mk (and_mk (and_mk (and_mk (and_mk (and_mk (and_mk (and_mk (and_mk (and_mk (fnGoOnPanics_fact0) fnGoOnPanics_fact1) fnGoOnPanics_fact2) fnGoOnPanics_fact3) fnGoOnPanics_fact4) fnGoOnPanics_fact5) fnGoOnPanics_fact6) fnGoOnPanics_fact7) fnGoOnPanics_fact8) fnGoOnPanics_fact9) fnGoOnPanics_fact10) fnGoOnPanics_fact11) fnGoOnPanics_fact12) fnGoOnPanics_fact13) fnGoOnPanics_fact14) fnGoOnPanics_fact15) fnGoOnPanics_fact16) fnGoOnPanics_fact17) fnGoOnPanics_fact18) fnGoOnPanics_fact19) fnGoOnPanics_fact20) fnGoOnPanics_fact21) fnGoOnPanics_fact22) fnGoOnPanics_fact23) fnGoOnPanics_fact24) fnGoOnPanics_fact25) fnGoOnPanics_fact26) fnGoOnPanics_fact27) fnGoOnPanics_fact28) fnGoOnPanics_fact29) fnGoOnPanics_fact30) fnGoOnPanics_fact31

set_option maxRecDepth 100000 in
theorem fnGoOnPanics_lifted (os : Os) (started : os.Started) (H : Type) (enc : TypeId × Value → H) :
    ReturnsInHanded {} Try.checked os 15 .any (Rows.fnGoOnPanicsSpec.pre6 enc Try.prog Try.f15 Rows.fnGoOnPanicsRow.domain false) (Rows.fnGoOnPanicsSpec.post enc Try.prog Try.f15 false true false false) := by
  refine returnsInHanded_of_change_sized (C := Try.checked) ownK started (by kernel_rfl) Try.func15
    (ChangeSpec.witness6 (enc := enc) (C := Try.checked) false ⟨#[], #[.int .i64 0, .slice none 0 0, .slice none 0 0, .slice none 0 0, .int .i64 0, .slice none 0 0], []⟩ 8 (by kernel_rfl) (by kernel_rfl) (by kernel_rfl) (by kernel_rfl)) ?_
  intro W base args ds gs before hval hW _ hsz _
  exact fnGoOnPanics_contract H enc W base args ds gs before hval hW hsz

set_option maxRecDepth 100000 in
theorem fnGoOnPanics_proved : Rows.FnGoOnPanicsSaid :=
  OpenClaim.holds_of_wide 15 Try.f15 rfl rfl rfl rfl rfl rfl rfl ⟨rfl, rfl, rfl, rfl, rfl⟩ rfl rfl rfl rfl rfl (by kernel_rfl) Try.func15 fnGoOnPanics_facts
    (of_decide_eq_true (by kernel_rfl)) (by unfold Func.isWrapper; first | (rw [if_pos (by decide +kernel)]; kernel_rfl) | (rw [if_neg (by decide +kernel)]; exact ⟨rfl, rfl⟩))
    (fun os started H enc _ => fnGoOnPanics_lifted os started H enc)

end Go.Proofs.Ythemhpefcfdcaaa
