/- For every input of bulk at most 1048576: in whatever cuts bytes are written, and in whatever cuts as many are read, what is read is the same (FnSqueezeCuts returns true); no other condition. -/
import Derived.Test.YthemhpefcfdcaaaCut
import Derived.Test.YthemhpefcfdcaaaArgs
import Derived.Test.YthemhpefcfdcaaaFacts
namespace Go.Proofs.Ythemhpefcfdcaaa
open Go.RowKit Go.Deep
open Go.ChangeShapes Go.WideShapes Go.ChangeAt
set_option linter.unusedVariables false

theorem outs_sum : ∀ (ks : List Nat) (s : Sp), (∀ k ∈ ks, k ≤ 4096) → (outs (ks.map Int.ofNat) s).flatten = s.out ks.sum
  | [], s, _ => rfl
  | k :: ks, s, h => by
    have e : rdLen (Int.ofNat k) = k := rdLen_nat k (h k (by simp))
    simp only [List.map_cons, outs, e, List.flatten_cons, outs_sum ks _ (fun x hx => h x (by simp [hx])), List.sum_cons, Sp.out_add]
theorem outs_sizes (T : Nat) (hT : T ≤ 4096) (zs : List Int) (s : Sp) : (outs ((sizes T zs).map Int.ofNat) s).flatten = s.out T := by
  rw [outs_sum _ _ (fun k hk => by have := sizes_le zs T k hk; omega), sizes_sum]

set_option maxRecDepth 100000 in
set_option maxHeartbeats 2000000 in
theorem fnSqueezeCuts_walk (w : World) (kind x : Int) (aN aS aD aC aR : Option Addr) (cN cS cD cC cR n m d r q : Nat) (N S data : List UInt8) (zs ms : List Int)
    (hn : N.length = n) (hm : S.length = m) (hd : data.length = d) (hr : zs.length = r) (hq : ms.length = q) (hN : Bs w.heap.size w aN cN N) (hS : Bs w.heap.size w aS cS S) (hD : Bs w.heap.size w aD cD data) (hC : Ints w.heap.size w aC cC zs) (hR : Ints w.heap.size w aR cR ms)
    (hnb : n ≤ 1048576) (hmb : m ≤ 1048576) (hdb : d ≤ 1048576) (hrb : r ≤ 1048576) (hqb : q ≤ 1048576) :
    Calls Try.prog 4 #[.int .i64 kind, .slice aN n cN, .slice aS m cS, .slice aD d cD, .slice aC r cC, .int .i64 x, .slice aR q cR] w fun e w' => e = .returned (.bool true) ∧ Below w.heap.size w w' := by
  go_enter Try.func4, Try.ntmps4
  by_cases h0 : x < 0
  · go_wp2_with fail
    go_ret
    exact ⟨rfl, Below.refl _ _⟩
  by_cases h1 : (4096 : Int) < x
  · go_wp2_with fail
    go_ret
    exact ⟨rfl, Below.refl _ _⟩
  obtain ⟨T, rfl⟩ : ∃ T : Nat, x = (T : Int) := ⟨x.toNat, by omega⟩
  have hT : T ≤ 4096 := by omega
  obtain ⟨w1, hw1⟩ : ∃ w1, w1 = w.alloc (.cells #[.slice aD d cD] 22) := ⟨_, rfl⟩
  obtain ⟨w2, hw2⟩ : ∃ w2, w2 = w1.alloc (.cells #[.int .i64 (T : Int)] 3) := ⟨_, rfl⟩
  have bl1 : Below w.heap.size w w1 := by rw [hw1]; exact (Below.refl _ _).alloc (Nat.le_refl _) _
  have bb2 : Below w1.heap.size w1 w2 := by rw [hw2]; exact (Below.refl _ _).alloc (Nat.le_refl _) _
  have hR2 : Rows2 w1.heap.size w1 (some ⟨w.heap.size, 0, none⟩) 1 [data] := by rw [hw1]; exact rows2_one hd hD
  have hI2 : Ints w2.heap.size w2 (some ⟨w1.heap.size, 0, none⟩) 1 [(T : Int)] := by rw [hw2]; exact ints_one' _ _
  have bl2 : Below w.heap.size w w2 := bl1.trans (bb2.mono bl1.size)
  have s2 := bl2.size
  have HQ := Lib.hid (squeezed_any w2 kind aN aS (some ⟨w.heap.size, 0, none⟩) (some ⟨w1.heap.size, 0, none⟩) cN cS 1 1 n m 1 1 T N S [data] [(T : Int)] hn hm rfl rfl (by rw [outs_one T hT, Sp.out_length]) ((hN.keep bl2).mono s2) ((hS.keep bl2).mono s2) ((hR2.keep bb2).mono bb2.size) hI2 (by omega) (by omega) (by omega) (by omega))
  rw [outs_one T hT] at HQ
  have hs1 : w1.heap.size = w.heap.size + 1 := by rw [hw1]; simp
  have HW1 := Lib.hid hw1
  have HW2 := Lib.hid hw2
  have e1 : [data].flatten = data := by simp
  rw [e1] at HQ
  clear hw1 hw2 hR2 hI2 e1
  go_wp2_with fail
  rw [← HW1.out, ← HW2.out, ← hs1]
  refine HQ.out.mono ?_
  rintro e w3 ⟨f3, fc3, rfl, hf3, bl3⟩
  have bl3' : Below w.heap.size w w3 := bl2.trans (bl3.mono s2)
  have s3 := bl3'.size
  have HC := Lib.hid (cut_any w3 d r cD cC aD aC data zs hd hr ((hD.keep bl3').mono s3) ((hC.keep bl3').mono s3) (by omega) (by omega))
  clear HQ
  go_wp2_with fail
  refine HC.out.mono ?_
  rintro e w4 ⟨f4, fc4, rfl, hf4, bl4⟩
  have bl4' : Below w.heap.size w w4 := bl3'.trans (bl4.mono s3)
  have s4 := bl4'.size
  have HZ := Lib.hid (sizes_any w4 T q cR aR ms hq ((hR.keep bl4').mono s4) (by omega) (by omega))
  clear HC
  go_wp2_with fail
  refine HZ.out.mono ?_
  rintro e w5 ⟨f5, fc5, rfl, ow5, bl5⟩
  have bl5' : Below w.heap.size w w5 := bl4'.trans (bl5.mono s4)
  have s5 := bl5'.size
  obtain ⟨hl5, hI5⟩ := Ints.of_own ow5
  have e6 := outs_sizes T hT ms ((start kind N S).absorb (cut data zs).flatten)
  rw [cut_flat] at e6
  have HQ2 := Lib.hid (squeezed_any w5 kind aN aS f4 f5 cN cS fc4 fc5 n m (r + 1) (q + 1) T N S (cut data zs) _ hn hm (by rw [cut_len, hr]) hl5 (by rw [cut_flat, e6, Sp.out_length]) ((hN.keep bl5').mono s5) ((hS.keep bl5').mono s5) ((hf4.keep bl5).mono bl5.size) hI5 (by omega) (by omega) (by omega) (by omega))
  rw [cut_flat, e6] at HQ2
  clear HZ ow5 hI5 hl5 e6
  go_wp2_with fail
  refine HQ2.out.mono ?_
  rintro e w6 ⟨f6, fc6, rfl, hf6, bl6⟩
  have bl6' : Below w.heap.size w w6 := bl5'.trans (bl6.mono s5)
  have bb6 : Below w3.heap.size w3 w6 := bl4.trans ((bl5.trans (bl6.mono bl5.size)).mono bl4.size)
  have k1 : ((T : Int) == (T : Int)) = true := by simp
  have HSA := Lib.hid (same_any w6 w6.heap.size f3 f6 fc3 fc6 T T _ (Sp.out_length _ _) (Sp.out_length _ _) ((hf3.keep bb6).mono bb6.size) hf6)
  clear HQ2 hn hm hd hr hq hN hS hD hC hR hf3 hf4 hf6
  go_wp2_with fail
  refine HSA.out.mono ?_
  rintro e w7 ⟨rfl, k, rfl⟩
  go_wp2_with fail
  go_ret
  exact ⟨rfl, Below.eqvN' bl6' k⟩

theorem fnSqueezeCuts_contract (H : Type) (enc : TypeId × Value → H) (W : World) (base : Nat) (args : Array Value) (ds gs : List (DataW H)) (before : List MemPlace)
    (hval : ∀ (j : Nat) t v, Try.f4.params[j]? = some t → args[j]? = some v → Value.okWide Try.prog W .any base t v)
    (hW : DataW.Whole enc Try.prog Try.f4.params.toList Rows.fnSqueezeCutsSpec.vars false W args.toList ds gs before)
    (hk : Rows.uptoSmall H (ds ++ gs) = true) :
    Calls Try.prog 4 args W fun e W' => ∃ v, e = .returned v ∧ Rows.fnSqueezeCutsSpec.post enc Try.prog Try.f4 false true false false W args v W' := by
  have hW' := hW
  obtain ⟨p, q, hA0, hV, rfl, hfz, hnd⟩ := hW
  have hA : DataW.TrodAll enc Try.prog W 0 (fun _ => true) true Try.f4.params.toList args.toList ds p := hA0
  rw [Try.params4] at hA hval
  obtain ⟨v0, vs0, d0, ds0, p0, q0, hargs, rfl, rfl, h0, r0⟩ := trodAll_cons hA
  obtain ⟨v1, vs1, d1, ds1, p1, q1, rfl, rfl, rfl, h1, r1⟩ := trodAll_cons r0
  obtain ⟨v2, vs2, d2, ds2, p2, q2, rfl, rfl, rfl, h2, r2⟩ := trodAll_cons r1
  obtain ⟨v3, vs3, d3, ds3, p3, q3, rfl, rfl, rfl, h3, r3⟩ := trodAll_cons r2
  obtain ⟨v4, vs4, d4, ds4, p4, q4, rfl, rfl, rfl, h4, r4⟩ := trodAll_cons r3
  obtain ⟨v5, vs5, d5, ds5, p5, q5, rfl, rfl, rfl, h5, r5⟩ := trodAll_cons r4
  obtain ⟨v6, vs6, d6, ds6, p6, q6, rfl, rfl, rfl, h6, r6⟩ := trodAll_cons r5
  obtain ⟨rfl, rfl, rfl⟩ := trodAll_nil r6
  obtain rfl : args = #[v0, v1, v2, v3, v4, v5, v6] := by cases args; simp_all
  obtain ⟨rfl, rfl⟩ := trodVars_none hV
  obtain ⟨x0, rfl, rfl, rfl, wx0⟩ := open_int Try.underlying3 (hval 0 3 v0 rfl rfl) h0
  obtain ⟨a1, len1, cap1, rfl⟩ := okWide_slice Try.underlying22 (hval 1 22 v1 rfl rfl)
  have k1 := h1
  have lt1 : ∀ x ∈ p1, x.block < W.heap.size := by obtain ⟨m, hm⟩ := k1; exact DataW.trod_lt m _ _ _ hm
  obtain ⟨fu1, hf1⟩ := h1
  obtain ⟨l1, el1, b1, u1⟩ := openBs (by simpa [Value.cells] using hf1)
  obtain ⟨a2, len2, cap2, rfl⟩ := okWide_slice Try.underlying22 (hval 2 22 v2 rfl rfl)
  have k2 := h2
  have lt2 : ∀ x ∈ p2, x.block < W.heap.size := by obtain ⟨m, hm⟩ := k2; exact DataW.trod_lt m _ _ _ hm
  obtain ⟨fu2, hf2⟩ := h2
  obtain ⟨l2, el2, b2, u2⟩ := openBs (by simpa [Value.cells] using hf2)
  obtain ⟨a3, len3, cap3, rfl⟩ := okWide_slice Try.underlying22 (hval 3 22 v3 rfl rfl)
  have k3 := h3
  have lt3 : ∀ x ∈ p3, x.block < W.heap.size := by obtain ⟨m, hm⟩ := k3; exact DataW.trod_lt m _ _ _ hm
  obtain ⟨fu3, hf3⟩ := h3
  obtain ⟨l3, el3, b3, u3⟩ := openBs (by simpa [Value.cells] using hf3)
  obtain ⟨a4, len4, cap4, rfl⟩ := okWide_slice Try.underlying24 (hval 4 24 v4 rfl rfl)
  have k4 := h4
  have lt4 : ∀ x ∈ p4, x.block < W.heap.size := by obtain ⟨m, hm⟩ := k4; exact DataW.trod_lt m _ _ _ hm
  obtain ⟨fu4, hf4⟩ := h4
  obtain ⟨l4, el4, b4, u4, uu4⟩ := openInts (by simpa [Value.cells] using hf4)
  obtain ⟨x5, rfl, rfl, rfl, wx5⟩ := open_int Try.underlying3 (hval 5 3 v5 rfl rfl) h5
  obtain ⟨a6, len6, cap6, rfl⟩ := okWide_slice Try.underlying24 (hval 6 24 v6 rfl rfl)
  have k6 := h6
  have lt6 : ∀ x ∈ p6, x.block < W.heap.size := by obtain ⟨m, hm⟩ := k6; exact DataW.trod_lt m _ _ _ hm
  obtain ⟨fu6, hf6⟩ := h6
  obtain ⟨l6, el6, b6, u6, uu6⟩ := openInts (by simpa [Value.cells] using hf6)
  have hb := bulk_bound hk
  simp only [List.append_nil, Rows.uptoBulkAll] at hb
  clear hA0
  refine (fnSqueezeCuts_walk W x0 x5 a1 a2 a3 a4 a6 cap1 cap2 cap3 cap4 cap6 len1 len2 len3 len4 len6 l1 l2 l3 l4 l6 el1 el2 el3 el4 el6 b1 b2 b3 b4 b6 (by omega) (by omega) (by omega) (by omega) (by omega)).mono fun e W' ⟨he, bel⟩ => ?_
  subst he
  exact ⟨_, rfl, _, _, _, [], _, [], hW', trodAll_mk1 (shut_bool Try.underlying4 _), (trodAll_cons_mk (shut_int Try.underlying3 wx0) (trodAll_cons_mk (Below.trod laidOut (by kernel_rfl) (of_decide_eq_true (by kernel_rfl)) k1 bel lt1) (trodAll_cons_mk (Below.trod laidOut (by kernel_rfl) (of_decide_eq_true (by kernel_rfl)) k2 bel lt2) (trodAll_cons_mk (Below.trod laidOut (by kernel_rfl) (of_decide_eq_true (by kernel_rfl)) k3 bel lt3) (trodAll_cons_mk (Below.trod laidOut (by kernel_rfl) (of_decide_eq_true (by kernel_rfl)) k4 bel lt4) (trodAll_cons_mk (shut_int Try.underlying3 wx5) (trodAll_cons_mk (Below.trod laidOut (by kernel_rfl) (of_decide_eq_true (by kernel_rfl)) k6 bel lt6) trodAll_mk0))))))), rfl, bel.frame _, fun h => by cases h⟩

theorem fnSqueezeCuts_fact0 : (fun (P : Program) (f : FuncId) (fn : Func) (s : ChangeSpec) (c : OpenClaim) => (c.wf (OpenSpec.ofChange s) : Bool)) Try.prog 4 Try.f4 Rows.fnSqueezeCutsSpec Rows.fnSqueezeCutsUptoRow = true := by kernel_rfl
theorem fnSqueezeCuts_fact1 : (fun (P : Program) (f : FuncId) (fn : Func) (s : ChangeSpec) (c : OpenClaim) => (laidOutB P : Bool)) Try.prog 4 Try.f4 Rows.fnSqueezeCutsSpec Rows.fnSqueezeCutsUptoRow = true := prog_laid
theorem fnSqueezeCuts_fact2 : (fun (P : Program) (f : FuncId) (fn : Func) (s : ChangeSpec) (c : OpenClaim) => (mapsRowed P : Bool)) Try.prog 4 Try.f4 Rows.fnSqueezeCutsSpec Rows.fnSqueezeCutsUptoRow = true := prog_maps
theorem fnSqueezeCuts_fact3 : (fun (P : Program) (f : FuncId) (fn : Func) (s : ChangeSpec) (c : OpenClaim) => (fn.params.all (P.readableRec ·) : Bool)) Try.prog 4 Try.f4 Rows.fnSqueezeCutsSpec Rows.fnSqueezeCutsUptoRow = true := by kernel_rfl
theorem fnSqueezeCuts_fact4 : (fun (P : Program) (f : FuncId) (fn : Func) (s : ChangeSpec) (c : OpenClaim) => (namedTie P c.named s.vars : Bool)) Try.prog 4 Try.f4 Rows.fnSqueezeCutsSpec Rows.fnSqueezeCutsUptoRow = true := by kernel_rfl
theorem fnSqueezeCuts_fact5 : (fun (P : Program) (f : FuncId) (fn : Func) (s : ChangeSpec) (c : OpenClaim) => ((c.stops == []) : Bool)) Try.prog 4 Try.f4 Rows.fnSqueezeCutsSpec Rows.fnSqueezeCutsUptoRow = true := by kernel_rfl
theorem fnSqueezeCuts_fact6 : (fun (P : Program) (f : FuncId) (fn : Func) (s : ChangeSpec) (c : OpenClaim) => ((P.stops == []) : Bool)) Try.prog 4 Try.f4 Rows.fnSqueezeCutsSpec Rows.fnSqueezeCutsUptoRow = true := prog_stops
theorem fnSqueezeCuts_fact7 : (fun (P : Program) (f : FuncId) (fn : Func) (s : ChangeSpec) (c : OpenClaim) => ((c.knobs == []) : Bool)) Try.prog 4 Try.f4 Rows.fnSqueezeCutsSpec Rows.fnSqueezeCutsUptoRow = true := by kernel_rfl
theorem fnSqueezeCuts_fact8 : (fun (P : Program) (f : FuncId) (fn : Func) (s : ChangeSpec) (c : OpenClaim) => ((P.stopKnobs == []) : Bool)) Try.prog 4 Try.f4 Rows.fnSqueezeCutsSpec Rows.fnSqueezeCutsUptoRow = true := prog_knobs
theorem fnSqueezeCuts_fact9 : (fun (P : Program) (f : FuncId) (fn : Func) (s : ChangeSpec) (c : OpenClaim) => ((c.inPlace == P.inPlace f) : Bool)) Try.prog 4 Try.f4 Rows.fnSqueezeCutsSpec Rows.fnSqueezeCutsUptoRow = true := by kernel_rfl
theorem fnSqueezeCuts_fact10 : (fun (P : Program) (f : FuncId) (fn : Func) (s : ChangeSpec) (c : OpenClaim) => ((c.unfollowed == P.unfollowed f) : Bool)) Try.prog 4 Try.f4 Rows.fnSqueezeCutsSpec Rows.fnSqueezeCutsUptoRow = true := by kernel_rfl
theorem fnSqueezeCuts_fact11 : (fun (P : Program) (f : FuncId) (fn : Func) (s : ChangeSpec) (c : OpenClaim) => ((c.recurses == P.recurses f) : Bool)) Try.prog 4 Try.f4 Rows.fnSqueezeCutsSpec Rows.fnSqueezeCutsUptoRow = true := by kernel_rfl
theorem fnSqueezeCuts_fact12 : (fun (P : Program) (f : FuncId) (fn : Func) (s : ChangeSpec) (c : OpenClaim) => ((c.named == P.varsNamed f) : Bool)) Try.prog 4 Try.f4 Rows.fnSqueezeCutsSpec Rows.fnSqueezeCutsUptoRow = true := by kernel_rfl
theorem fnSqueezeCuts_fact13 : (fun (P : Program) (f : FuncId) (fn : Func) (s : ChangeSpec) (c : OpenClaim) => ((c.maps == (fn.params.toList ++ s.plain.varTypes P).any (P.mapsRec ·)) : Bool)) Try.prog 4 Try.f4 Rows.fnSqueezeCutsSpec Rows.fnSqueezeCutsUptoRow = true := by kernel_rfl
theorem fnSqueezeCuts_fact14 : (fun (P : Program) (f : FuncId) (fn : Func) (s : ChangeSpec) (c : OpenClaim) => ((c.ifaces == (fn.params.toList ++ s.plain.varTypes P).any (P.ifacesRec ·)) : Bool)) Try.prog 4 Try.f4 Rows.fnSqueezeCutsSpec Rows.fnSqueezeCutsUptoRow = true := by kernel_rfl
theorem fnSqueezeCuts_fact15 : (fun (P : Program) (f : FuncId) (fn : Func) (s : ChangeSpec) (c : OpenClaim) => ((c.mapsOut == P.mapsAmong fn.resultTypes.toList) : Bool)) Try.prog 4 Try.f4 Rows.fnSqueezeCutsSpec Rows.fnSqueezeCutsUptoRow = true := by kernel_rfl
theorem fnSqueezeCuts_fact16 : (fun (P : Program) (f : FuncId) (fn : Func) (s : ChangeSpec) (c : OpenClaim) => ((c.loops == (fn.params.toList ++ s.plain.varTypes P).any (P.loopsFrom ·)) : Bool)) Try.prog 4 Try.f4 Rows.fnSqueezeCutsSpec Rows.fnSqueezeCutsUptoRow = true := by kernel_rfl
theorem fnSqueezeCuts_fact17 : (fun (P : Program) (f : FuncId) (fn : Func) (s : ChangeSpec) (c : OpenClaim) => ((c.wideKeys == (fn.params.toList ++ s.plain.varTypes P ++ fn.resultTypes.toList).any (P.wideKeysFrom ·)) : Bool)) Try.prog 4 Try.f4 Rows.fnSqueezeCutsSpec Rows.fnSqueezeCutsUptoRow = true := by kernel_rfl
theorem fnSqueezeCuts_fact18 : (fun (P : Program) (f : FuncId) (fn : Func) (s : ChangeSpec) (c : OpenClaim) => (s.vars.all (P.varReadable ·) : Bool)) Try.prog 4 Try.f4 Rows.fnSqueezeCutsSpec Rows.fnSqueezeCutsUptoRow = true := by kernel_rfl
theorem fnSqueezeCuts_fact19 : (fun (P : Program) (f : FuncId) (fn : Func) (s : ChangeSpec) (c : OpenClaim) => (fn.resultTypes.all (fun t => P.readableRec t && decide (t < P.types.size)) : Bool)) Try.prog 4 Try.f4 Rows.fnSqueezeCutsSpec Rows.fnSqueezeCutsUptoRow = true := by kernel_rfl
theorem fnSqueezeCuts_fact20 : (fun (P : Program) (f : FuncId) (fn : Func) (s : ChangeSpec) (c : OpenClaim) => ((c.ifacesOut == fn.resultTypes.toList.any (P.ifacesRec ·)) : Bool)) Try.prog 4 Try.f4 Rows.fnSqueezeCutsSpec Rows.fnSqueezeCutsUptoRow = true := by kernel_rfl
theorem fnSqueezeCuts_fact21 : (fun (P : Program) (f : FuncId) (fn : Func) (s : ChangeSpec) (c : OpenClaim) => ((c.loopsOut == fn.resultTypes.toList.any (P.loopsFrom ·)) : Bool)) Try.prog 4 Try.f4 Rows.fnSqueezeCutsSpec Rows.fnSqueezeCutsUptoRow = true := by kernel_rfl
theorem fnSqueezeCuts_fact22 : (fun (P : Program) (f : FuncId) (fn : Func) (s : ChangeSpec) (c : OpenClaim) => ((c.plainKeys == P.plainKeys) : Bool)) Try.prog 4 Try.f4 Rows.fnSqueezeCutsSpec Rows.fnSqueezeCutsUptoRow = true := prog_keys
theorem fnSqueezeCuts_fact23 : (fun (P : Program) (f : FuncId) (fn : Func) (s : ChangeSpec) (c : OpenClaim) => (c.shortTexts.isNone : Bool)) Try.prog 4 Try.f4 Rows.fnSqueezeCutsSpec Rows.fnSqueezeCutsUptoRow = true := by kernel_rfl
theorem fnSqueezeCuts_fact24 : (fun (P : Program) (f : FuncId) (fn : Func) (s : ChangeSpec) (c : OpenClaim) => (P.stopsHeard : Bool)) Try.prog 4 Try.f4 Rows.fnSqueezeCutsSpec Rows.fnSqueezeCutsUptoRow = true := prog_heard
theorem fnSqueezeCuts_fact25 : (fun (P : Program) (f : FuncId) (fn : Func) (s : ChangeSpec) (c : OpenClaim) => (P.mayEnter : Bool)) Try.prog 4 Try.f4 Rows.fnSqueezeCutsSpec Rows.fnSqueezeCutsUptoRow = true := prog_enter
theorem fnSqueezeCuts_fact26 : (fun (P : Program) (f : FuncId) (fn : Func) (s : ChangeSpec) (c : OpenClaim) => ((c.lifted == P.liftsFinal) : Bool)) Try.prog 4 Try.f4 Rows.fnSqueezeCutsSpec Rows.fnSqueezeCutsUptoRow = true := prog_lifts
theorem fnSqueezeCuts_fact27 : (fun (P : Program) (f : FuncId) (fn : Func) (s : ChangeSpec) (c : OpenClaim) => ((P.make == some c.make) : Bool)) Try.prog 4 Try.f4 Rows.fnSqueezeCutsSpec Rows.fnSqueezeCutsUptoRow = true := prog_make
theorem fnSqueezeCuts_fact28 : (fun (P : Program) (f : FuncId) (fn : Func) (s : ChangeSpec) (c : OpenClaim) => ((c.kinds == (if c.domain.isEmpty then [] else fn.params.toList.map fun t => match P.underlying t with | some (.int k) => some k | _ => none)) : Bool)) Try.prog 4 Try.f4 Rows.fnSqueezeCutsSpec Rows.fnSqueezeCutsUptoRow = true := by kernel_rfl
theorem fnSqueezeCuts_fact29 : (fun (P : Program) (f : FuncId) (fn : Func) (s : ChangeSpec) (c : OpenClaim) => ((c.pinned == c.pinnedBy) : Bool)) Try.prog 4 Try.f4 Rows.fnSqueezeCutsSpec Rows.fnSqueezeCutsUptoRow = true := by kernel_rfl
theorem fnSqueezeCuts_fact30 : (fun (P : Program) (f : FuncId) (fn : Func) (s : ChangeSpec) (c : OpenClaim) => ((c.veiled == (fn.params.toList ++ s.plain.varTypes P ++ fn.resultTypes.toList).any (P.veiledRec ·)) : Bool)) Try.prog 4 Try.f4 Rows.fnSqueezeCutsSpec Rows.fnSqueezeCutsUptoRow = true := by kernel_rfl
theorem fnSqueezeCuts_fact31 : (fun (P : Program) (f : FuncId) (fn : Func) (s : ChangeSpec) (c : OpenClaim) => (c.veiledFits P fn.params.toList (fn.params.toList ++ s.plain.varTypes P ++ fn.resultTypes.toList) : Bool)) Try.prog 4 Try.f4 Rows.fnSqueezeCutsSpec Rows.fnSqueezeCutsUptoRow = true := by kernel_rfl
set_option maxRecDepth 100000 in
theorem fnSqueezeCuts_facts : joinedFacts Try.prog 4 Try.f4 Rows.fnSqueezeCutsSpec Rows.fnSqueezeCutsUptoRow = true := and_mk (and_mk (and_mk (and_mk (and_mk (and_mk (and_mk (and_mk (and_mk (and_mk (and_mk (and_mk (and_mk (and_mk (and_mk (and_mk (and_mk (and_mk (and_mk (and_mk (and_mk (and_mk (and_mk (and_mk (and_mk (and_mk (and_mk (and_mk (and_mk (and_mk (and_mk (fnSqueezeCuts_fact0) fnSqueezeCuts_fact1) fnSqueezeCuts_fact2) fnSqueezeCuts_fact3) fnSqueezeCuts_fact4) fnSqueezeCuts_fact5) fnSqueezeCuts_fact6) fnSqueezeCuts_fact7) fnSqueezeCuts_fact8) fnSqueezeCuts_fact9) fnSqueezeCuts_fact10) fnSqueezeCuts_fact11) fnSqueezeCuts_fact12) fnSqueezeCuts_fact13) fnSqueezeCuts_fact14) fnSqueezeCuts_fact15) fnSqueezeCuts_fact16) fnSqueezeCuts_fact17) fnSqueezeCuts_fact18) fnSqueezeCuts_fact19) fnSqueezeCuts_fact20) fnSqueezeCuts_fact21) fnSqueezeCuts_fact22) fnSqueezeCuts_fact23) fnSqueezeCuts_fact24) fnSqueezeCuts_fact25) fnSqueezeCuts_fact26) fnSqueezeCuts_fact27) fnSqueezeCuts_fact28) fnSqueezeCuts_fact29) fnSqueezeCuts_fact30) fnSqueezeCuts_fact31

set_option maxRecDepth 100000 in
theorem fnSqueezeCuts_lifted (os : Os) (started : os.Started) (H : Type) (enc : TypeId × Value → H) (F : Stop.Interp) :
    ReturnsInHanded {} Try.checked os 4 .any ((Rows.OpenSpec.upto Rows.fnSqueezeCutsSpec).pre6 enc Try.prog Try.f4 Rows.fnSqueezeCutsUptoRow.domain false) (((Rows.OpenSpec.upto Rows.fnSqueezeCutsSpec).at F).post enc Try.prog Try.f4 false true false false) := by
  refine returnsInHanded_of_cond (C := Try.checked) (s := Rows.OpenSpec.upto Rows.fnSqueezeCutsSpec) (k := Rows.uptoSmall) rfl ownK started (by kernel_rfl) Try.func4
    (OpenSpec.witness (enc := enc) (C := Try.checked) (s := Rows.OpenSpec.upto Rows.fnSqueezeCutsSpec) (k := Rows.uptoSmall) rfl false ⟨#[], #[.int .i64 0, .slice none 0 0, .slice none 0 0, .slice none 0 0, .slice none 0 0, .int .i64 0, .slice none 0 0], []⟩ 8 (by kernel_rfl) (by kernel_rfl) (by kernel_rfl)
      (x := ([.lit (.int .i64 0), .nil, .nil, .nil, .nil, .lit (.int .i64 0), .nil], [], [])) (by kernel_rfl) rfl (by kernel_rfl)) ?_
  intro W base args ds gs before hval hW _ hk _
  exact fnSqueezeCuts_contract H enc W base args ds gs before hval hW hk

set_option maxRecDepth 100000 in
theorem fnSqueezeCuts_proved : Rows.FnSqueezeCutsUptoSaid :=
  OpenClaim.holds_of_cond 4 Try.f4 rfl rfl rfl rfl rfl rfl rfl ⟨rfl, rfl, rfl, rfl, rfl⟩ rfl rfl rfl rfl rfl (by kernel_rfl) Try.func4 fnSqueezeCuts_facts
    (of_decide_eq_true (by kernel_rfl)) (by unfold Func.isWrapper; first | (rw [if_pos (by decide +kernel)]; kernel_rfl) | (rw [if_neg (by decide +kernel)]; exact ⟨rfl, rfl⟩))
    (fun os started H enc _ F => fnSqueezeCuts_lifted os started H enc F)

end Go.Proofs.Ythemhpefcfdcaaa
