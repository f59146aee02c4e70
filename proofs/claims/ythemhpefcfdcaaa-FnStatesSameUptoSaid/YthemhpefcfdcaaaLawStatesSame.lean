/- For every input of bulk at most 1048576: the states behind the same bytes are the same list of bytes, in whatever cuts these were written, and as many then read (FnStatesSame returns true); no other condition. -/
import Derived.Test.YthemhpefcfdcaaaSts
import Derived.Test.YthemhpefcfdcaaaCut
import Derived.Test.YthemhpefcfdcaaaArgs
import Derived.Test.YthemhpefcfdcaaaFacts
namespace Go.Proofs.Ythemhpefcfdcaaa
open Go.RowKit Go.Deep
open Go.ChangeShapes Go.WideShapes Go.ChangeAt
set_option linter.unusedVariables false

theorem wsts_get (l : List UInt8) : ∀ (ls : List (List UInt8)) (s : Sp) (i : Nat), i < ls.length → (wsts l ls s)[i]? = some (marsh (s.absorb (ls.take (i + 1)).flatten) ++ l)
  | [], _, _, h => by simp at h
  | d :: ds, s, 0, _ => by simp [wsts]
  | d :: ds, s, i + 1, h => by
    have := wsts_get l ds (s.absorb d) i (by simpa using h)
    simp only [wsts, List.getElem?_cons_succ, this, List.take_succ_cons, List.flatten_cons, Sp.absorb_append]
theorem rsts_get (l : List UInt8) : ∀ (zs : List Int) (s : Sp) (i : Nat), i < zs.length → (rsts l zs s)[i]? = some (marsh (after (zs.take (i + 1)) s) ++ l)
  | [], _, _, h => by simp at h
  | n :: ns, s, 0, _ => by simp [rsts, after]
  | n :: ns, s, i + 1, h => by
    have := rsts_get l ns (s.read (rdLen n)) i (by simpa using h)
    simp only [rsts, List.getElem?_cons_succ, this, List.take_succ_cons, after]
theorem after_sum : ∀ (ks : List Nat) (s : Sp), ks ≠ [] → (∀ k ∈ ks, k ≤ 4096) → after (ks.map Int.ofNat) s = s.read ks.sum
  | [], s, h, _ => absurd rfl h
  | [k], s, _, h => by
    have e : rdLen (Int.ofNat k) = k := rdLen_nat k (h k (by simp))
    simp only [List.map_cons, List.map_nil, after, e, List.sum_cons, List.sum_nil, Nat.add_zero]
  | k :: j :: ks, s, _, h => by
    have e : rdLen (Int.ofNat k) = k := rdLen_nat k (h k (by simp))
    have ih := after_sum (j :: ks) (s.read k) (by simp) (fun x hx => h x (by simp [hx]))
    rw [List.map_cons, after, e, ih]
    show _ = Sp.read (k + (j :: ks).sum) s
    rw [Sp.read_add]
theorem after_sizes (T : Nat) (hT : T ≤ 4096) (zs : List Int) (s : Sp) : after ((sizes T zs).map Int.ofNat) s = s.read T := by
  rw [after_sum _ _ (fun h => by have := sizes_len zs T; rw [h] at this; simp at this) (fun k hk => by have := sizes_le zs T k hk; omega), sizes_sum]

set_option maxRecDepth 100000 in
set_option maxHeartbeats 2000000 in
theorem fnStatesSame_walk (w : World) (kind x : Int) (aN aS aD aC aR : Option Addr) (cN cS cD cC cR n m d r q : Nat) (N S data : List UInt8) (zs ms : List Int)
    (hn : N.length = n) (hm : S.length = m) (hd : data.length = d) (hr : zs.length = r) (hq : ms.length = q) (hN : Bs w.heap.size w aN cN N) (hS : Bs w.heap.size w aS cS S) (hD : Bs w.heap.size w aD cD data) (hC : Ints w.heap.size w aC cC zs) (hR : Ints w.heap.size w aR cR ms)
    (hnb : n ≤ 1048576) (hmb : m ≤ 1048576) (hdb : d ≤ 1048576) (hrb : r ≤ 1048576) (hqb : q ≤ 1048576) :
    Calls Try.prog 13 #[.int .i64 kind, .slice aN n cN, .slice aS m cS, .slice aD d cD, .slice aC r cC, .int .i64 x, .slice aR q cR] w fun e w' => e = .returned (.bool true) ∧ Below w.heap.size w w' := by
  go_enter Try.func13, Try.ntmps13
  by_cases h0 : x < 0
  · go_wp2_with fail
    go_ret
    exact ⟨rfl, Below.refl _ _⟩
  by_cases h1 : (4096 : Int) < x
  · go_wp2_with fail
    go_ret
    exact ⟨rfl, Below.refl _ _⟩
  obtain ⟨T, rfl⟩ : ∃ T : Nat, x = (T : Int) := ⟨x.toNat, by omega⟩
  have hT : T ≤ 4096 := by omega
  obtain ⟨ok0, sq0, _⟩ := start_ok kind N S
  obtain ⟨s, hs⟩ : ∃ s, s = start kind N S := ⟨_, rfl⟩
  obtain ⟨l, hl⟩ : ∃ l, l = startIB kind N S := ⟨_, rfl⟩
  rw [← hs] at ok0 sq0
  obtain ⟨A, hA⟩ : ∃ A, A = marsh (s.absorb data) ++ l := ⟨_, rfl⟩
  obtain ⟨Z, hZ⟩ : ∃ Z, Z = marsh ((s.absorb data).read T) ++ l := ⟨_, rfl⟩
  obtain ⟨L, hL⟩ : ∃ L, L = 207 + l.length := ⟨_, rfl⟩
  have hAl : A.length = L := by rw [hA, hL, List.length_append, marsh_len _ (ok0.absorb sq0 _).1.len]
  have hZl : Z.length = L := by rw [hZ, hL, List.length_append, marsh_len _ ((ok0.absorb sq0 _).1.read _).len]
  have L0 : 0 < L := by omega
  have b1 : ((L : Int) == 0) = false := by simp; omega
  have HC := Lib.hid (cut_any w d r cD cC aD aC data zs hd hr hD hC (by omega) (by omega))
  have HS := Lib.hid hs
  have HL := Lib.hid hl
  have HA := Lib.hid hA
  have HZ := Lib.hid hZ
  have HAL := Lib.hid hAl
  have HZL := Lib.hid hZl
  clear hs hl hA hZ hL hAl hZl sq0
  go_wp2_with fail
  refine HC.out.mono ?_
  rintro e w1 ⟨f1, fc1, rfl, hf1, bl1⟩
  have s1 := bl1.size
  have HZZ := Lib.hid (sizes_any w1 T q cR aR ms hq ((hR.keep bl1).mono s1) (by omega) (by omega))
  clear HC
  go_wp2_with fail
  refine HZZ.out.mono ?_
  rintro e w2 ⟨f2, fc2, rfl, ow2, bl2⟩
  have bl2' : Below w.heap.size w w2 := bl1.trans (bl2.mono s1)
  have s2 := bl2'.size
  obtain ⟨hl2, hI2⟩ := Ints.of_own ow2
  -- the whole
  obtain ⟨w3, hw3⟩ : ∃ w3, w3 = w2.alloc (.cells #[.slice aD d cD] 22) := ⟨_, rfl⟩
  obtain ⟨w4, hw4⟩ : ∃ w4, w4 = w3.alloc (.cells #[.int .i64 (T : Int)] 3) := ⟨_, rfl⟩
  have bb3 : Below w2.heap.size w2 w3 := by rw [hw3]; exact (Below.refl _ _).alloc (Nat.le_refl _) _
  have bb4 : Below w3.heap.size w3 w4 := by rw [hw4]; exact (Below.refl _ _).alloc (Nat.le_refl _) _
  have hR3 : Rows2 w3.heap.size w3 (some ⟨w2.heap.size, 0, none⟩) 1 [data] := by rw [hw3]; exact rows2_one hd ((hD.keep bl2').mono s2)
  have hI4 : Ints w4.heap.size w4 (some ⟨w3.heap.size, 0, none⟩) 1 [(T : Int)] := by rw [hw4]; exact ints_one' _ _
  have bb24 : Below w2.heap.size w2 w4 := bb3.trans (bb4.mono bb3.size)
  have bl4 : Below w.heap.size w w4 := bl2'.trans (bb24.mono s2)
  have s4 := bl4.size
  have hs3 : w3.heap.size = w2.heap.size + 1 := by rw [hw3]; simp
  have HST := Lib.hid (states_any w4 kind aN aS (some ⟨w2.heap.size, 0, none⟩) (some ⟨w3.heap.size, 0, none⟩) cN cS 1 1 n m 1 1 N S [data] [(T : Int)] hn hm rfl rfl ((hN.keep bl4).mono s4) ((hS.keep bl4).mono s4) ((hR3.keep bb4).mono bb4.size) hI4 (by omega) (by omega) (by omega) (by omega))
  have e1 : wsts (startIB kind N S) [data] (start kind N S) ++ rsts (startIB kind N S) [(T : Int)] ((start kind N S).absorb [data].flatten) = [A, Z] := by
    simp [wsts, rsts, rdLen_nat T hT, HA.out, HZ.out, HS.out, HL.out]
  rw [e1] at HST
  have HW3 := Lib.hid hw3
  have HW4 := Lib.hid hw4
  clear hw3 hw4 hR3 hI4 e1 HZZ ow2
  go_wp2_with fail
  rw [← HW3.out, ← HW4.out, ← hs3]
  refine HST.out.mono ?_
  rintro e w5 ⟨f5, fc5, rfl, hf5, bl5⟩
  have bl5' : Below w.heap.size w w5 := bl4.trans (bl5.mono s4)
  have s5 := bl5'.size
  have bb25 : Below w2.heap.size w2 w5 := bb24.trans (bl5.mono bb24.size)
  have bb15 : Below w1.heap.size w1 w5 := bl2.trans (bb25.mono bl2.size)
  obtain ⟨M, hM⟩ : ∃ M, (r + 1) + (q + 1) = M + 1 := ⟨r + 1 + q, by omega⟩
  have HST2 := Lib.hid (states_any w5 kind aN aS f1 f2 cN cS fc1 fc2 n m (r + 1) (q + 1) N S (cut data zs) _ hn hm (by rw [cut_len, hr]) hl2 ((hN.keep bl5').mono s5) ((hS.keep bl5').mono s5) ((hf1.keep bb15).mono bb15.size) ((hI2.keep bb25).mono bb25.size) (by omega) (by omega) (by omega) (by omega))
  rw [hM, cut_flat, ← HS.out, ← HL.out] at HST2
  obtain ⟨D, hD'⟩ : ∃ D, D = wsts l (cut data zs) s ++ rsts l ((sizes T ms).map Int.ofNat) (s.absorb data) := ⟨_, rfl⟩
  have hDA : D[r]? = some A := by
    rw [hD', List.getElem?_append_left (by rw [wsts_len, cut_len]; omega), wsts_get l _ _ _ (by rw [cut_len]; omega), List.take_of_length_le (by rw [cut_len]; omega), cut_flat, HA.out]
  have hDZ : D[M]? = some Z := by
    rw [hD', List.getElem?_append_right (by rw [wsts_len, cut_len]; omega), wsts_len, cut_len, rsts_get l _ _ _ (by rw [List.length_map, sizes_len]; omega), List.take_of_length_le (by rw [List.length_map, sizes_len]; omega), after_sizes T hT, HZ.out]
  rw [← hD'] at HST2
  have HDA := Lib.hid hDA
  have HDZ := Lib.hid hDZ
  have HM := Lib.hid hM
  clear HST hD' hDA hDZ hM hl2 hI2 ok0
  go_wp2_with fail
  refine HST2.out.mono ?_
  rintro e w6 ⟨f6, fc6, rfl, hf6, bl6⟩
  have bl6' : Below w.heap.size w w6 := bl5'.trans (bl6.mono s5)
  have hf5' := (hf5.keep bl6).mono bl6.size
  obtain ⟨pb, po, va, vc, g1, g2, g3, g4⟩ := hf5'.at (i := 0) (l := A) rfl
  obtain ⟨pb', po', ua, uc, g5, g6, g7, g8⟩ := hf5'.at (i := 1) (l := Z) rfl
  rw [g1] at g5
  simp only [Option.some.injEq, Addr.mk.injEq, and_true] at g5
  obtain ⟨rfl, rfl⟩ := g5
  obtain ⟨qb, qo, va2, vc2, k1, k2, k3, k4⟩ := hf6.at HDA.out
  obtain ⟨qb', qo', ua2, uc2, k5, k6, k7, k8⟩ := hf6.at HDZ.out
  rw [k1] at k5
  simp only [Option.some.injEq, Addr.mk.injEq, and_true] at k5
  obtain ⟨rfl, rfl⟩ := k5
  subst g1 k1
  rw [HAL.out] at g3 k3
  rw [HZL.out] at g7 k7
  rw [Nat.add_zero] at g3
  have SA := Lib.hid (fun j => same_any (w6.drewN j) w6.heap.size va va2 vc vc2 L L A HAL.out HAL.out g4 k4)
  have SZ := Lib.hid (fun j => same_any (w6.drewN j) w6.heap.size ua ua2 uc uc2 L L Z HZL.out HZL.out g8 k8)
  have i1 : (r : Int) < (M : Int) + 1 := by have := HM.out; omega
  have i2 : r < M + 1 := by have := HM.out; omega
  have j1 : IntKind.i64.wrap (r : Int) = (r : Int) := IntWalk.i64_in _ (by omega)
  have j2 : IntKind.i64.wrap (M : Int) = (M : Int) := IntWalk.i64_in _ (by have := HM.out; omega)
  have j3 : ((M : Int) + 1 != (r : Int) + 1 + ((q : Int) + 1)) = false := by have := HM.out; simp; omega
  have j4 : IntKind.i64.wrap ((r : Int) + 1 + ((q : Int) + 1)) = (r : Int) + 1 + ((q : Int) + 1) := IntWalk.i64_in _ (by omega)
  clear HST2 hn hm hd hr hq hN hS hD hC hR hf5 hf5' hf6 hf1 g4 g8 k4 k8
  go_wp2_with fail
  go_quiet ((first | (with_reducible refine Calls.quiet_of (SA.out _)) | (with_reducible refine Calls.quiet_of (SZ.out _))))
  go_wp2_with fail
  go_ret
  exact ⟨rfl, Below.eqvN' bl6' _⟩

theorem fnStatesSame_contract (H : Type) (enc : TypeId × Value → H) (W : World) (base : Nat) (args : Array Value) (ds gs : List (DataW H)) (before : List MemPlace)
    (hval : ∀ (j : Nat) t v, Try.f13.params[j]? = some t → args[j]? = some v → Value.okWide Try.prog W .any base t v)
    (hW : DataW.Whole enc Try.prog Try.f13.params.toList Rows.fnStatesSameSpec.vars false W args.toList ds gs before)
    (hk : Rows.uptoSmall H (ds ++ gs) = true) :
    Calls Try.prog 13 args W fun e W' => ∃ v, e = .returned v ∧ Rows.fnStatesSameSpec.post enc Try.prog Try.f13 false true false false W args v W' := by
  have hW' := hW
  obtain ⟨p, q, hA0, hV, rfl, hfz, hnd⟩ := hW
  have hA : DataW.TrodAll enc Try.prog W 0 (fun _ => true) true Try.f13.params.toList args.toList ds p := hA0
  rw [Try.params13] at hA hval
  obtain ⟨v0, vs0, d0, ds0, p0, q0, hargs, rfl, rfl, h0, r0⟩ := trodAll_cons hA
  obtain ⟨v1, vs1, d1, ds1, p1, q1, rfl, rfl, rfl, h1, r1⟩ := trodAll_cons r0
  obtain ⟨v2, vs2, d2, ds2, p2, q2, rfl, rfl, rfl, h2, r2⟩ := trodAll_cons r1
  obtain ⟨v3, vs3, d3, ds3, p3, q3, rfl, rfl, rfl, h3, r3⟩ := trodAll_cons r2
  obtain ⟨v4, vs4, d4, ds4, p4, q4, rfl, rfl, rfl, h4, r4⟩ := trodAll_cons r3
  obtain ⟨v5, vs5, d5, ds5, p5, q5, rfl, rfl, rfl, h5, r5⟩ := trodAll_cons r4
  obtain ⟨v6, vs6, d6, ds6, p6, q6, rfl, rfl, rfl, h6, r6⟩ := trodAll_cons r5
  obtain ⟨rfl, rfl, rfl⟩ := trodAll_nil r6
  obtain rfl : args = #[v0, v1, v2, v3, v4, v5, v6] := by cases args; simp_all
  obtain ⟨rfl, rfl⟩ := trodVars_none hV
  obtain ⟨x0, rfl, rfl, rfl, wx0⟩ := open_int Try.underlying3 (hval 0 3 v0 rfl rfl) h0
  obtain ⟨a1, len1, cap1, rfl⟩ := okWide_slice Try.underlying22 (hval 1 22 v1 rfl rfl)
  have k1 := h1
  have lt1 : ∀ x ∈ p1, x.block < W.heap.size := by obtain ⟨m, hm⟩ := k1; exact DataW.trod_lt m _ _ _ hm
  obtain ⟨fu1, hf1⟩ := h1
  obtain ⟨l1, el1, b1, u1⟩ := openBs (by simpa [Value.cells] using hf1)
  obtain ⟨a2, len2, cap2, rfl⟩ := okWide_slice Try.underlying22 (hval 2 22 v2 rfl rfl)
  have k2 := h2
  have lt2 : ∀ x ∈ p2, x.block < W.heap.size := by obtain ⟨m, hm⟩ := k2; exact DataW.trod_lt m _ _ _ hm
  obtain ⟨fu2, hf2⟩ := h2
  obtain ⟨l2, el2, b2, u2⟩ := openBs (by simpa [Value.cells] using hf2)
  obtain ⟨a3, len3, cap3, rfl⟩ := okWide_slice Try.underlying22 (hval 3 22 v3 rfl rfl)
  have k3 := h3
  have lt3 : ∀ x ∈ p3, x.block < W.heap.size := by obtain ⟨m, hm⟩ := k3; exact DataW.trod_lt m _ _ _ hm
  obtain ⟨fu3, hf3⟩ := h3
  obtain ⟨l3, el3, b3, u3⟩ := openBs (by simpa [Value.cells] using hf3)
  obtain ⟨a4, len4, cap4, rfl⟩ := okWide_slice Try.underlying24 (hval 4 24 v4 rfl rfl)
  have k4 := h4
  have lt4 : ∀ x ∈ p4, x.block < W.heap.size := by obtain ⟨m, hm⟩ := k4; exact DataW.trod_lt m _ _ _ hm
  obtain ⟨fu4, hf4⟩ := h4
  obtain ⟨l4, el4, b4, u4, uu4⟩ := openInts (by simpa [Value.cells] using hf4)
  obtain ⟨x5, rfl, rfl, rfl, wx5⟩ := open_int Try.underlying3 (hval 5 3 v5 rfl rfl) h5
  obtain ⟨a6, len6, cap6, rfl⟩ := okWide_slice Try.underlying24 (hval 6 24 v6 rfl rfl)
  have k6 := h6
  have lt6 : ∀ x ∈ p6, x.block < W.heap.size := by obtain ⟨m, hm⟩ := k6; exact DataW.trod_lt m _ _ _ hm
  obtain ⟨fu6, hf6⟩ := h6
  obtain ⟨l6, el6, b6, u6, uu6⟩ := openInts (by simpa [Value.cells] using hf6)
  have hb := bulk_bound hk
  simp only [List.append_nil, Rows.uptoBulkAll] at hb
  clear hA0
  refine (fnStatesSame_walk W x0 x5 a1 a2 a3 a4 a6 cap1 cap2 cap3 cap4 cap6 len1 len2 len3 len4 len6 l1 l2 l3 l4 l6 el1 el2 el3 el4 el6 b1 b2 b3 b4 b6 (by omega) (by omega) (by omega) (by omega) (by omega)).mono fun e W' ⟨he, bel⟩ => ?_
  subst he
  exact ⟨_, rfl, _, _, _, [], _, [], hW', trodAll_mk1 (shut_bool Try.underlying4 _), (trodAll_cons_mk (shut_int Try.underlying3 wx0) (trodAll_cons_mk (Below.trod laidOut (by kernel_rfl) (of_decide_eq_true (by kernel_rfl)) k1 bel lt1) (trodAll_cons_mk (Below.trod laidOut (by kernel_rfl) (of_decide_eq_true (by kernel_rfl)) k2 bel lt2) (trodAll_cons_mk (Below.trod laidOut (by kernel_rfl) (of_decide_eq_true (by kernel_rfl)) k3 bel lt3) (trodAll_cons_mk (Below.trod laidOut (by kernel_rfl) (of_decide_eq_true (by kernel_rfl)) k4 bel lt4) (trodAll_cons_mk (shut_int Try.underlying3 wx5) (trodAll_cons_mk (Below.trod laidOut (by kernel_rfl) (of_decide_eq_true (by kernel_rfl)) k6 bel lt6) trodAll_mk0))))))), rfl, bel.frame _, fun h => by cases h⟩

theorem fnStatesSame_fact0 : (fun (P : Program) (f : FuncId) (fn : Func) (s : ChangeSpec) (c : OpenClaim) => (c.wf (OpenSpec.ofChange s) : Bool)) Try.prog 13 Try.f13 Rows.fnStatesSameSpec Rows.fnStatesSameUptoRow = true := by kernel_rfl
theorem fnStatesSame_fact1 : (fun (P : Program) (f : FuncId) (fn : Func) (s : ChangeSpec) (c : OpenClaim) => (laidOutB P : Bool)) Try.prog 13 Try.f13 Rows.fnStatesSameSpec Rows.fnStatesSameUptoRow = true := prog_laid
theorem fnStatesSame_fact2 : (fun (P : Program) (f : FuncId) (fn : Func) (s : ChangeSpec) (c : OpenClaim) => (mapsRowed P : Bool)) Try.prog 13 Try.f13 Rows.fnStatesSameSpec Rows.fnStatesSameUptoRow = true := prog_maps
theorem fnStatesSame_fact3 : (fun (P : Program) (f : FuncId) (fn : Func) (s : ChangeSpec) (c : OpenClaim) => (fn.params.all (P.readableRec ·) : Bool)) Try.prog 13 Try.f13 Rows.fnStatesSameSpec Rows.fnStatesSameUptoRow = true := by kernel_rfl
theorem fnStatesSame_fact4 : (fun (P : Program) (f : FuncId) (fn : Func) (s : ChangeSpec) (c : OpenClaim) => (namedTie P c.named s.vars : Bool)) Try.prog 13 Try.f13 Rows.fnStatesSameSpec Rows.fnStatesSameUptoRow = true := by kernel_rfl
theorem fnStatesSame_fact5 : (fun (P : Program) (f : FuncId) (fn : Func) (s : ChangeSpec) (c : OpenClaim) => ((c.stops == []) : Bool)) Try.prog 13 Try.f13 Rows.fnStatesSameSpec Rows.fnStatesSameUptoRow = true := by kernel_rfl
theorem fnStatesSame_fact6 : (fun (P : Program) (f : FuncId) (fn : Func) (s : ChangeSpec) (c : OpenClaim) => ((P.stops == []) : Bool)) Try.prog 13 Try.f13 Rows.fnStatesSameSpec Rows.fnStatesSameUptoRow = true := prog_stops
theorem fnStatesSame_fact7 : (fun (P : Program) (f : FuncId) (fn : Func) (s : ChangeSpec) (c : OpenClaim) => ((c.knobs == []) : Bool)) Try.prog 13 Try.f13 Rows.fnStatesSameSpec Rows.fnStatesSameUptoRow = true := by kernel_rfl
theorem fnStatesSame_fact8 : (fun (P : Program) (f : FuncId) (fn : Func) (s : ChangeSpec) (c : OpenClaim) => ((P.stopKnobs == []) : Bool)) Try.prog 13 Try.f13 Rows.fnStatesSameSpec Rows.fnStatesSameUptoRow = true := prog_knobs
theorem fnStatesSame_fact9 : (fun (P : Program) (f : FuncId) (fn : Func) (s : ChangeSpec) (c : OpenClaim) => ((c.inPlace == P.inPlace f) : Bool)) Try.prog 13 Try.f13 Rows.fnStatesSameSpec Rows.fnStatesSameUptoRow = true := by kernel_rfl
theorem fnStatesSame_fact10 : (fun (P : Program) (f : FuncId) (fn : Func) (s : ChangeSpec) (c : OpenClaim) => ((c.unfollowed == P.unfollowed f) : Bool)) Try.prog 13 Try.f13 Rows.fnStatesSameSpec Rows.fnStatesSameUptoRow = true := by kernel_rfl
theorem fnStatesSame_fact11 : (fun (P : Program) (f : FuncId) (fn : Func) (s : ChangeSpec) (c : OpenClaim) => ((c.recurses == P.recurses f) : Bool)) Try.prog 13 Try.f13 Rows.fnStatesSameSpec Rows.fnStatesSameUptoRow = true := by kernel_rfl
theorem fnStatesSame_fact12 : (fun (P : Program) (f : FuncId) (fn : Func) (s : ChangeSpec) (c : OpenClaim) => ((c.named == P.varsNamed f) : Bool)) Try.prog 13 Try.f13 Rows.fnStatesSameSpec Rows.fnStatesSameUptoRow = true := by kernel_rfl
theorem fnStatesSame_fact13 : (fun (P : Program) (f : FuncId) (fn : Func) (s : ChangeSpec) (c : OpenClaim) => ((c.maps == (fn.params.toList ++ s.plain.varTypes P).any (P.mapsRec ·)) : Bool)) Try.prog 13 Try.f13 Rows.fnStatesSameSpec Rows.fnStatesSameUptoRow = true := by kernel_rfl
theorem fnStatesSame_fact14 : (fun (P : Program) (f : FuncId) (fn : Func) (s : ChangeSpec) (c : OpenClaim) => ((c.ifaces == (fn.params.toList ++ s.plain.varTypes P).any (P.ifacesRec ·)) : Bool)) Try.prog 13 Try.f13 Rows.fnStatesSameSpec Rows.fnStatesSameUptoRow = true := by kernel_rfl
theorem fnStatesSame_fact15 : (fun (P : Program) (f : FuncId) (fn : Func) (s : ChangeSpec) (c : OpenClaim) => ((c.mapsOut == P.mapsAmong fn.resultTypes.toList) : Bool)) Try.prog 13 Try.f13 Rows.fnStatesSameSpec Rows.fnStatesSameUptoRow = true := by kernel_rfl
theorem fnStatesSame_fact16 : (fun (P : Program) (f : FuncId) (fn : Func) (s : ChangeSpec) (c : OpenClaim) => ((c.loops == (fn.params.toList ++ s.plain.varTypes P).any (P.loopsFrom ·)) : Bool)) Try.prog 13 Try.f13 Rows.fnStatesSameSpec Rows.fnStatesSameUptoRow = true := by kernel_rfl
theorem fnStatesSame_fact17 : (fun (P : Program) (f : FuncId) (fn : Func) (s : ChangeSpec) (c : OpenClaim) => ((c.wideKeys == (fn.params.toList ++ s.plain.varTypes P ++ fn.resultTypes.toList).any (P.wideKeysFrom ·)) : Bool)) Try.prog 13 Try.f13 Rows.fnStatesSameSpec Rows.fnStatesSameUptoRow = true := by kernel_rfl
theorem fnStatesSame_fact18 : (fun (P : Program) (f : FuncId) (fn : Func) (s : ChangeSpec) (c : OpenClaim) => (s.vars.all (P.varReadable ·) : Bool)) Try.prog 13 Try.f13 Rows.fnStatesSameSpec Rows.fnStatesSameUptoRow = true := by kernel_rfl
theorem fnStatesSame_fact19 : (fun (P : Program) (f : FuncId) (fn : Func) (s : ChangeSpec) (c : OpenClaim) => (fn.resultTypes.all (fun t => P.readableRec t && decide (t < P.types.size)) : Bool)) Try.prog 13 Try.f13 Rows.fnStatesSameSpec Rows.fnStatesSameUptoRow = true := by kernel_rfl
theorem fnStatesSame_fact20 : (fun (P : Program) (f : FuncId) (fn : Func) (s : ChangeSpec) (c : OpenClaim) => ((c.ifacesOut == fn.resultTypes.toList.any (P.ifacesRec ·)) : Bool)) Try.prog 13 Try.f13 Rows.fnStatesSameSpec Rows.fnStatesSameUptoRow = true := by kernel_rfl
theorem fnStatesSame_fact21 : (fun (P : Program) (f : FuncId) (fn : Func) (s : ChangeSpec) (c : OpenClaim) => ((c.loopsOut == fn.resultTypes.toList.any (P.loopsFrom ·)) : Bool)) Try.prog 13 Try.f13 Rows.fnStatesSameSpec Rows.fnStatesSameUptoRow = true := by kernel_rfl
theorem fnStatesSame_fact22 : (fun (P : Program) (f : FuncId) (fn : Func) (s : ChangeSpec) (c : OpenClaim) => ((c.plainKeys == P.plainKeys) : Bool)) Try.prog 13 Try.f13 Rows.fnStatesSameSpec Rows.fnStatesSameUptoRow = true := prog_keys
theorem fnStatesSame_fact23 : (fun (P : Program) (f : FuncId) (fn : Func) (s : ChangeSpec) (c : OpenClaim) => (c.shortTexts.isNone : Bool)) Try.prog 13 Try.f13 Rows.fnStatesSameSpec Rows.fnStatesSameUptoRow = true := by kernel_rfl
theorem fnStatesSame_fact24 : (fun (P : Program) (f : FuncId) (fn : Func) (s : ChangeSpec) (c : OpenClaim) => (P.stopsHeard : Bool)) Try.prog 13 Try.f13 Rows.fnStatesSameSpec Rows.fnStatesSameUptoRow = true := prog_heard
theorem fnStatesSame_fact25 : (fun (P : Program) (f : FuncId) (fn : Func) (s : ChangeSpec) (c : OpenClaim) => (P.mayEnter : Bool)) Try.prog 13 Try.f13 Rows.fnStatesSameSpec Rows.fnStatesSameUptoRow = true := prog_enter
theorem fnStatesSame_fact26 : (fun (P : Program) (f : FuncId) (fn : Func) (s : ChangeSpec) (c : OpenClaim) => ((c.lifted == P.liftsFinal) : Bool)) Try.prog 13 Try.f13 Rows.fnStatesSameSpec Rows.fnStatesSameUptoRow = true := prog_lifts
theorem fnStatesSame_fact27 : (fun (P : Program) (f : FuncId) (fn : Func) (s : ChangeSpec) (c : OpenClaim) => ((P.make == some c.make) : Bool)) Try.prog 13 Try.f13 Rows.fnStatesSameSpec Rows.fnStatesSameUptoRow = true := prog_make
theorem fnStatesSame_fact28 : (fun (P : Program) (f : FuncId) (fn : Func) (s : ChangeSpec) (c : OpenClaim) => ((c.kinds == (if c.domain.isEmpty then [] else fn.params.toList.map fun t => match P.underlying t with | some (.int k) => some k | _ => none)) : Bool)) Try.prog 13 Try.f13 Rows.fnStatesSameSpec Rows.fnStatesSameUptoRow = true := by kernel_rfl
theorem fnStatesSame_fact29 : (fun (P : Program) (f : FuncId) (fn : Func) (s : ChangeSpec) (c : OpenClaim) => ((c.pinned == c.pinnedBy) : Bool)) Try.prog 13 Try.f13 Rows.fnStatesSameSpec Rows.fnStatesSameUptoRow = true := by kernel_rfl
theorem fnStatesSame_fact30 : (fun (P : Program) (f : FuncId) (fn : Func) (s : ChangeSpec) (c : OpenClaim) => ((c.veiled == (fn.params.toList ++ s.plain.varTypes P ++ fn.resultTypes.toList).any (P.veiledRec ·)) : Bool)) Try.prog 13 Try.f13 Rows.fnStatesSameSpec Rows.fnStatesSameUptoRow = true := by kernel_rfl
theorem fnStatesSame_fact31 : (fun (P : Program) (f : FuncId) (fn : Func) (s : ChangeSpec) (c : OpenClaim) => (c.veiledFits P fn.params.toList (fn.params.toList ++ s.plain.varTypes P ++ fn.resultTypes.toList) : Bool)) Try.prog 13 Try.f13 Rows.fnStatesSameSpec Rows.fnStatesSameUptoRow = true := by kernel_rfl
set_option maxRecDepth 100000 in
theorem fnStatesSame_facts : joinedFacts Try.prog 13 Try.f13 Rows.fnStatesSameSpec Rows.fnStatesSameUptoRow = true := and_mk (and_mk (and_mk (and_mk (and_mk (and_mk (and_mk (and_mk (and_mk (and_mk (and_mk (and_mk (and_mk (and_mk (and_mk (and_mk (and_mk (and_mk (and_mk (and_mk (and_mk (and_mk (and_mk (and_mk (and_mk (and_mk (and_mk (and_mk (and_mk (and_mk (and_mk (fnStatesSame_fact0) fnStatesSame_fact1) fnStatesSame_fact2) fnStatesSame_fact3) fnStatesSame_fact4) fnStatesSame_fact5) fnStatesSame_fact6) fnStatesSame_fact7) fnStatesSame_fact8) fnStatesSame_fact9) fnStatesSame_fact10) fnStatesSame_fact11) fnStatesSame_fact12) fnStatesSame_fact13) fnStatesSame_fact14) fnStatesSame_fact15) fnStatesSame_fact16) fnStatesSame_fact17) fnStatesSame_fact18) fnStatesSame_fact19) fnStatesSame_fact20) fnStatesSame_fact21) fnStatesSame_fact22) fnStatesSame_fact23) fnStatesSame_fact24) fnStatesSame_fact25) fnStatesSame_fact26) fnStatesSame_fact27) fnStatesSame_fact28) fnStatesSame_fact29) fnStatesSame_fact30) fnStatesSame_fact31

set_option maxRecDepth 100000 in
theorem fnStatesSame_lifted (os : Os) (started : os.Started) (H : Type) (enc : TypeId × Value → H) (F : Stop.Interp) :
    ReturnsInHanded {} Try.checked os 13 .any ((Rows.OpenSpec.upto Rows.fnStatesSameSpec).pre6 enc Try.prog Try.f13 Rows.fnStatesSameUptoRow.domain false) (((Rows.OpenSpec.upto Rows.fnStatesSameSpec).at F).post enc Try.prog Try.f13 false true false false) := by
  refine returnsInHanded_of_cond (C := Try.checked) (s := Rows.OpenSpec.upto Rows.fnStatesSameSpec) (k := Rows.uptoSmall) rfl ownK started (by kernel_rfl) Try.func13
    (OpenSpec.witness (enc := enc) (C := Try.checked) (s := Rows.OpenSpec.upto Rows.fnStatesSameSpec) (k := Rows.uptoSmall) rfl false ⟨#[], #[.int .i64 0, .slice none 0 0, .slice none 0 0, .slice none 0 0, .slice none 0 0, .int .i64 0, .slice none 0 0], []⟩ 8 (by kernel_rfl) (by kernel_rfl) (by kernel_rfl)
      (x := ([.lit (.int .i64 0), .nil, .nil, .nil, .nil, .lit (.int .i64 0), .nil], [], [])) (by kernel_rfl) rfl (by kernel_rfl)) ?_
  intro W base args ds gs before hval hW _ hk _
  exact fnStatesSame_contract H enc W base args ds gs before hval hW hk

set_option maxRecDepth 100000 in
theorem fnStatesSame_proved : Rows.FnStatesSameUptoSaid :=
  OpenClaim.holds_of_cond 13 Try.f13 rfl rfl rfl rfl rfl rfl rfl ⟨rfl, rfl, rfl, rfl, rfl⟩ rfl rfl rfl rfl rfl (by kernel_rfl) Try.func13 fnStatesSame_facts
    (of_decide_eq_true (by kernel_rfl)) (by unfold Func.isWrapper; first | (rw [if_pos (by decide +kernel)]; kernel_rfl) | (rw [if_neg (by decide +kernel)]; exact ⟨rfl, rfl⟩))
    (fun os started H enc _ F => fnStatesSame_lifted os started H enc F)

end Go.Proofs.Ythemhpefcfdcaaa
