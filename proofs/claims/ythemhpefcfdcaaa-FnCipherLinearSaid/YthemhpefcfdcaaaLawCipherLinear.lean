/- For every input: two lists of bytes that are ciphered with one key differ by what they differed by (FnCipherLinear returns true); no condition. -/
import Derived.Test.YthemhpefcfdcaaaMix
import Derived.Test.YthemhpefcfdcaaaFacts
namespace Go.Proofs.Ythemhpefcfdcaaa
open Go.RowKit Go.Deep
open Go.ChangeShapes Go.WideShapes Go.ChangeAt
set_option linter.unusedVariables false

theorem zip_linear : ∀ (D C K : List UInt8), D.length = C.length → D.length ≤ K.length → List.zipWith (· ^^^ ·) (List.zipWith (· ^^^ ·) D K) (List.zipWith (· ^^^ ·) (List.zipWith (· ^^^ ·) D C) K) = C
  | [], [], _, _, _ => rfl
  | [], _ :: _, _, h, _ => by simp at h
  | _ :: _, [], _, h, _ => by simp at h
  | _ :: _, _ :: _, [], _, h => by simp at h
  | d :: D, c :: C, k :: K, h1, h2 => by
    simp only [List.zipWith_cons_cons]
    rw [zip_linear D C K (by simpa using h1) (by simpa using h2)]
    congr 1
    have e : d ^^^ k ^^^ (d ^^^ c ^^^ k) = (d ^^^ d) ^^^ (k ^^^ k) ^^^ c := by ac_rfl
    rw [e, UInt8.xor_self, UInt8.xor_self]
    simp
theorem ciph_linear (s : Sp) (data change : List UInt8) (n : Nat) (hn : min data.length change.length = n) :
    List.zipWith (· ^^^ ·) (ciph s (data.take n)) (ciph s (List.zipWith (· ^^^ ·) data change)) = change.take n := by
  have l1 : (data.take n).length = n := by simp; omega
  have l2 : (List.zipWith (· ^^^ ·) data change).length = n := by simp; omega
  have e : List.zipWith (· ^^^ ·) data change = List.zipWith (· ^^^ ·) (data.take n) (change.take n) := by
    rw [← List.take_zipWith]
    exact (List.take_of_length_le (by omega)).symm
  rw [ciph, ciph, l1, l2, e]
  exact zip_linear _ _ _ (by simp; omega) (by rw [Sp.out_length]; omega)

set_option maxRecDepth 100000 in
set_option maxHeartbeats 2000000 in
theorem fnCipherLinear_walk (w : World) (kind : Int) (aN aS aK aD aX aC : Option Addr) (cN cS cK cD cX cC n m kk d x r : Nat) (N S key data change : List UInt8) (zs : List Int)
    (hn : N.length = n) (hm : S.length = m) (hkk : key.length = kk) (hd : data.length = d) (hx : change.length = x) (hr : zs.length = r) (hN : Bs w.heap.size w aN cN N) (hS : Bs w.heap.size w aS cS S) (hK : Bs w.heap.size w aK cK key) (hD : Bs w.heap.size w aD cD data) (hX : Bs w.heap.size w aX cX change) (hC : Ints w.heap.size w aC cC zs)
    (hnb : n ≤ 140737488351232) (hmb : m ≤ 140737488351232) (hdb : d ≤ 140737488351232) (hxb : x ≤ 140737488351232) :
    Calls Try.prog 8 #[.int .i64 kind, .slice aN n cN, .slice aS m cS, .slice aK kk cK, .slice aD d cD, .slice aX x cX, .slice aC r cC] w fun e w' => e = .returned (.bool true) ∧ Below w.heap.size w w' := by
  obtain ⟨k, hk⟩ : ∃ k, k = min d x := ⟨_, rfl⟩
  have hkd : k ≤ d := by omega
  have hkx : k ≤ x := by omega
  have hmin : (if x < d then (x : Int) else (d : Int)) = (k : Int) := by split <;> omega
  have HK := Lib.hid hk
  have c1 : k ≤ cD := by have := hD.1; omega
  have c2 : k ≤ cX := by have := hX.1; omega
  have c3 : (k : Int) ≤ (cD : Int) := by omega
  have c4 : (k : Int) ≤ (cX : Int) := by omega
  have k1 : ((k : Int) == (k : Int)) = true := by simp
  have HC := Lib.hid (cipher_any w kind aN aS aK aD aC cN cS cK cD cC n m kk k r N S key (data.take k) zs hn hm hkk (by simp; omega) hr hN hS hK (hD.take k) hC (by omega) (by omega) (by omega) (by omega))
  go_enter Try.func8, Try.ntmps8
  clear hk
  go_wp2_with fail
  refine HC.out.mono ?_
  rintro e w1 ⟨f1, fc1, rfl, hf1, bl1⟩
  have s1 := bl1.size
  have HM := Lib.hid (mixed_any w1 aD aX cD cX d x k data change hd hx HK.out.symm ((hD.keep bl1).mono s1) ((hX.keep bl1).mono s1) (by omega))
  go_wp2_with fail
  refine HM.out.mono ?_
  rintro e w2 ⟨f2, fc2, rfl, hf2, bl2⟩
  have bl2' : Below w.heap.size w w2 := bl1.trans (bl2.mono s1)
  have s2 := bl2'.size
  have hl2 : (List.zipWith (· ^^^ ·) data change).length = k := by rw [List.length_zipWith, hd, hx, HK.out]
  have HC2 := Lib.hid (cipher_any w2 kind aN aS aK f2 none cN cS cK fc2 0 n m kk k 0 N S key _ [] hn hm hkk hl2 rfl ((hN.keep bl2').mono s2) ((hS.keep bl2').mono s2) ((hK.keep bl2').mono s2) hf2 (ints_nil w2) (by omega) (by omega) (by omega) (by omega))
  go_wp2_with fail
  refine HC2.out.mono ?_
  rintro e w3 ⟨f3, fc3, rfl, hf3, bl3⟩
  have bl3' : Below w.heap.size w w3 := bl2'.trans (bl3.mono s2)
  have bb3 : Below w1.heap.size w1 w3 := bl2.trans (bl3.mono bl2.size)
  have bd : Below w3.heap.size w3 w3.drew := ⟨rfl, rfl, rfl, Nat.le_refl _, fun _ _ => rfl⟩
  have hl1 : (ciph ((start kind N S).absorb key) (data.take k)).length = k := by rw [ciph_len]; simp; omega
  have hl3 : (ciph ((start kind N S).absorb key) (List.zipWith (· ^^^ ·) data change)).length = k := by rw [ciph_len, hl2]
  have HM2 := Lib.hid (mixed_any w3.drew f1 f3 fc1 fc3 k k k _ _ hl1 hl3 (by omega) ((((hf1.keep bb3).mono bb3.size).keep bd).mono bd.size) ((hf3.keep bd).mono bd.size) (by omega))
  rw [ciph_linear _ _ _ k (by rw [hd, hx, HK.out])] at HM2
  have SA := Lib.hid (fun (w4 : World) (f4 : Option Addr) (fc4 : Nat) (h : Bs w4.heap.size w4 f4 fc4 (change.take k)) (b : Below w3.drew.heap.size w3.drew w4) =>
    have bx : Below w.heap.size w w4 := (bl3'.trans (bd.mono bl3'.size)).trans (b.mono bl3'.size)
    same_any w4 w4.heap.size f4 aX fc4 cX k k _ (by simp; omega) (by simp; omega) h (((hX.take k).keep bx).mono bx.size))
  have BX := Lib.hid (fun (w4 : World) (b : Below w3.drew.heap.size w3.drew w4) => (bl3'.trans (bd.mono bl3'.size)).trans (b.mono bl3'.size))
  clear hn hm hkk hd hx hr hN hS hK hD hX hC hf1 hf2 hf3 HC HC2 HM hl1 hl2 hl3
  go_wp2_with fail
  go_region_held3 (fun _ => True) (trivial) (first | (go_at_call 27; refine HM2.out.mono ?_; rintro e w4 ⟨f4, fc4, rfl, hf4, bl4⟩) | (go_at_call 20; refine (SA.out _ _ _ (by assumption) (by assumption)).mono ?_; rintro e w5 ⟨rfl, k5, rfl⟩))
  go_wp2_with fail
  go_ret
  exact ⟨rfl, Below.eqvN' (BX.out _ bl4) k5⟩

theorem fnCipherLinear_contract (H : Type) (enc : TypeId × Value → H) (W : World) (base : Nat) (args : Array Value) (ds gs : List (DataW H)) (before : List MemPlace)
    (hval : ∀ (j : Nat) t v, Try.f8.params[j]? = some t → args[j]? = some v → Value.okWide Try.prog W .any base t v)
    (hW : DataW.Whole enc Try.prog Try.f8.params.toList Rows.fnCipherLinearSpec.vars false W args.toList ds gs before)
    (hsz : (DataW.weightsEach Try.prog (Try.f8.params.toList ++ Rows.fnCipherLinearSpec.plain.varTypes Try.prog) (ds ++ gs)).all (· ≤ reachBytes) = true) :
    Calls Try.prog 8 args W fun e W' => ∃ v, e = .returned v ∧ Rows.fnCipherLinearSpec.post enc Try.prog Try.f8 false true false false W args v W' := by
  have hW' := hW
  obtain ⟨p, q, hA0, hV, rfl, hfz, hnd⟩ := hW
  have hA : DataW.TrodAll enc Try.prog W 0 (fun _ => true) true Try.f8.params.toList args.toList ds p := hA0
  have hsz' : (DataW.weightsEach Try.prog (Try.f8.params.toList ++ []) (ds ++ gs)).all (· ≤ reachBytes) = true := hsz
  clear hsz
  rw [Try.params8] at hA hval hsz'
  obtain ⟨v0, vs0, d0, ds0, p0, q0, hargs, rfl, rfl, h0, r0⟩ := trodAll_cons hA
  obtain ⟨v1, vs1, d1, ds1, p1, q1, rfl, rfl, rfl, h1, r1⟩ := trodAll_cons r0
  obtain ⟨v2, vs2, d2, ds2, p2, q2, rfl, rfl, rfl, h2, r2⟩ := trodAll_cons r1
  obtain ⟨v3, vs3, d3, ds3, p3, q3, rfl, rfl, rfl, h3, r3⟩ := trodAll_cons r2
  obtain ⟨v4, vs4, d4, ds4, p4, q4, rfl, rfl, rfl, h4, r4⟩ := trodAll_cons r3
  obtain ⟨v5, vs5, d5, ds5, p5, q5, rfl, rfl, rfl, h5, r5⟩ := trodAll_cons r4
  obtain ⟨v6, vs6, d6, ds6, p6, q6, rfl, rfl, rfl, h6, r6⟩ := trodAll_cons r5
  obtain ⟨rfl, rfl, rfl⟩ := trodAll_nil r6
  obtain rfl : args = #[v0, v1, v2, v3, v4, v5, v6] := by cases args; simp_all
  obtain ⟨rfl, rfl⟩ := trodVars_none hV
  obtain ⟨x0, rfl, rfl, rfl, wx0⟩ := open_int Try.underlying3 (hval 0 3 v0 rfl rfl) h0
  obtain ⟨a1, len1, cap1, rfl⟩ := okWide_slice Try.underlying22 (hval 1 22 v1 rfl rfl)
  have k1 := h1
  have lt1 : ∀ x ∈ p1, x.block < W.heap.size := by obtain ⟨m, hm⟩ := k1; exact DataW.trod_lt m _ _ _ hm
  obtain ⟨fu1, hf1⟩ := h1
  obtain ⟨l1, el1, b1, u1⟩ := openBs (by simpa [Value.cells] using hf1)
  obtain ⟨a2, len2, cap2, rfl⟩ := okWide_slice Try.underlying22 (hval 2 22 v2 rfl rfl)
  have k2 := h2
  have lt2 : ∀ x ∈ p2, x.block < W.heap.size := by obtain ⟨m, hm⟩ := k2; exact DataW.trod_lt m _ _ _ hm
  obtain ⟨fu2, hf2⟩ := h2
  obtain ⟨l2, el2, b2, u2⟩ := openBs (by simpa [Value.cells] using hf2)
  obtain ⟨a3, len3, cap3, rfl⟩ := okWide_slice Try.underlying22 (hval 3 22 v3 rfl rfl)
  have k3 := h3
  have lt3 : ∀ x ∈ p3, x.block < W.heap.size := by obtain ⟨m, hm⟩ := k3; exact DataW.trod_lt m _ _ _ hm
  obtain ⟨fu3, hf3⟩ := h3
  obtain ⟨l3, el3, b3, u3⟩ := openBs (by simpa [Value.cells] using hf3)
  obtain ⟨a4, len4, cap4, rfl⟩ := okWide_slice Try.underlying22 (hval 4 22 v4 rfl rfl)
  have k4 := h4
  have lt4 : ∀ x ∈ p4, x.block < W.heap.size := by obtain ⟨m, hm⟩ := k4; exact DataW.trod_lt m _ _ _ hm
  obtain ⟨fu4, hf4⟩ := h4
  obtain ⟨l4, el4, b4, u4⟩ := openBs (by simpa [Value.cells] using hf4)
  obtain ⟨a5, len5, cap5, rfl⟩ := okWide_slice Try.underlying22 (hval 5 22 v5 rfl rfl)
  have k5 := h5
  have lt5 : ∀ x ∈ p5, x.block < W.heap.size := by obtain ⟨m, hm⟩ := k5; exact DataW.trod_lt m _ _ _ hm
  obtain ⟨fu5, hf5⟩ := h5
  obtain ⟨l5, el5, b5, u5⟩ := openBs (by simpa [Value.cells] using hf5)
  obtain ⟨a6, len6, cap6, rfl⟩ := okWide_slice Try.underlying24 (hval 6 24 v6 rfl rfl)
  have k6 := h6
  have lt6 : ∀ x ∈ p6, x.block < W.heap.size := by obtain ⟨m, hm⟩ := k6; exact DataW.trod_lt m _ _ _ hm
  obtain ⟨fu6, hf6⟩ := h6
  obtain ⟨l6, el6, b6, u6, uu6⟩ := openInts (by simpa [Value.cells] using hf6)
  have z1 := reachBs (by simpa [Value.cells] using hf1) hsz' 1 rfl rfl
  have y1 := b1.1
  have z2 := reachBs (by simpa [Value.cells] using hf2) hsz' 2 rfl rfl
  have y2 := b2.1
  have z3 := reachBs (by simpa [Value.cells] using hf3) hsz' 3 rfl rfl
  have y3 := b3.1
  have z4 := reachBs (by simpa [Value.cells] using hf4) hsz' 4 rfl rfl
  have y4 := b4.1
  have z5 := reachBs (by simpa [Value.cells] using hf5) hsz' 5 rfl rfl
  have y5 := b5.1
  clear hA0
  refine (fnCipherLinear_walk W x0 a1 a2 a3 a4 a5 a6 cap1 cap2 cap3 cap4 cap5 cap6 len1 len2 len3 len4 len5 len6 l1 l2 l3 l4 l5 l6 el1 el2 el3 el4 el5 el6 b1 b2 b3 b4 b5 b6 (by omega) (by omega) (by omega) (by omega)).mono fun e W' ⟨he, bel⟩ => ?_
  subst he
  exact ⟨_, rfl, _, _, _, [], _, [], hW', trodAll_mk1 (shut_bool Try.underlying4 _), (trodAll_cons_mk (shut_int Try.underlying3 wx0) (trodAll_cons_mk (Below.trod laidOut (by kernel_rfl) (of_decide_eq_true (by kernel_rfl)) k1 bel lt1) (trodAll_cons_mk (Below.trod laidOut (by kernel_rfl) (of_decide_eq_true (by kernel_rfl)) k2 bel lt2) (trodAll_cons_mk (Below.trod laidOut (by kernel_rfl) (of_decide_eq_true (by kernel_rfl)) k3 bel lt3) (trodAll_cons_mk (Below.trod laidOut (by kernel_rfl) (of_decide_eq_true (by kernel_rfl)) k4 bel lt4) (trodAll_cons_mk (Below.trod laidOut (by kernel_rfl) (of_decide_eq_true (by kernel_rfl)) k5 bel lt5) (trodAll_cons_mk (Below.trod laidOut (by kernel_rfl) (of_decide_eq_true (by kernel_rfl)) k6 bel lt6) trodAll_mk0))))))), rfl, bel.frame _, fun h => by cases h⟩

theorem fnCipherLinear_fact0 : (fun (P : Program) (f : FuncId) (fn : Func) (s : ChangeSpec) (c : OpenClaim) => (c.wf (OpenSpec.ofChange s) : Bool)) Try.prog 8 Try.f8 Rows.fnCipherLinearSpec Rows.fnCipherLinearRow = true := by kernel_rfl
theorem fnCipherLinear_fact1 : (fun (P : Program) (f : FuncId) (fn : Func) (s : ChangeSpec) (c : OpenClaim) => (laidOutB P : Bool)) Try.prog 8 Try.f8 Rows.fnCipherLinearSpec Rows.fnCipherLinearRow = true := prog_laid
theorem fnCipherLinear_fact2 : (fun (P : Program) (f : FuncId) (fn : Func) (s : ChangeSpec) (c : OpenClaim) => (mapsRowed P : Bool)) Try.prog 8 Try.f8 Rows.fnCipherLinearSpec Rows.fnCipherLinearRow = true := prog_maps
theorem fnCipherLinear_fact3 : (fun (P : Program) (f : FuncId) (fn : Func) (s : ChangeSpec) (c : OpenClaim) => (fn.params.all (P.readableRec ·) : Bool)) Try.prog 8 Try.f8 Rows.fnCipherLinearSpec Rows.fnCipherLinearRow = true := by kernel_rfl
theorem fnCipherLinear_fact4 : (fun (P : Program) (f : FuncId) (fn : Func) (s : ChangeSpec) (c : OpenClaim) => (namedTie P c.named s.vars : Bool)) Try.prog 8 Try.f8 Rows.fnCipherLinearSpec Rows.fnCipherLinearRow = true := by kernel_rfl
theorem fnCipherLinear_fact5 : (fun (P : Program) (f : FuncId) (fn : Func) (s : ChangeSpec) (c : OpenClaim) => ((c.stops == []) : Bool)) Try.prog 8 Try.f8 Rows.fnCipherLinearSpec Rows.fnCipherLinearRow = true := by kernel_rfl
theorem fnCipherLinear_fact6 : (fun (P : Program) (f : FuncId) (fn : Func) (s : ChangeSpec) (c : OpenClaim) => ((P.stops == []) : Bool)) Try.prog 8 Try.f8 Rows.fnCipherLinearSpec Rows.fnCipherLinearRow = true := prog_stops
theorem fnCipherLinear_fact7 : (fun (P : Program) (f : FuncId) (fn : Func) (s : ChangeSpec) (c : OpenClaim) => ((c.knobs == []) : Bool)) Try.prog 8 Try.f8 Rows.fnCipherLinearSpec Rows.fnCipherLinearRow = true := by kernel_rfl
theorem fnCipherLinear_fact8 : (fun (P : Program) (f : FuncId) (fn : Func) (s : ChangeSpec) (c : OpenClaim) => ((P.stopKnobs == []) : Bool)) Try.prog 8 Try.f8 Rows.fnCipherLinearSpec Rows.fnCipherLinearRow = true := prog_knobs
theorem fnCipherLinear_fact9 : (fun (P : Program) (f : FuncId) (fn : Func) (s : ChangeSpec) (c : OpenClaim) => ((c.inPlace == P.inPlace f) : Bool)) Try.prog 8 Try.f8 Rows.fnCipherLinearSpec Rows.fnCipherLinearRow = true := by kernel_rfl
theorem fnCipherLinear_fact10 : (fun (P : Program) (f : FuncId) (fn : Func) (s : ChangeSpec) (c : OpenClaim) => ((c.unfollowed == P.unfollowed f) : Bool)) Try.prog 8 Try.f8 Rows.fnCipherLinearSpec Rows.fnCipherLinearRow = true := by kernel_rfl
theorem fnCipherLinear_fact11 : (fun (P : Program) (f : FuncId) (fn : Func) (s : ChangeSpec) (c : OpenClaim) => ((c.recurses == P.recurses f) : Bool)) Try.prog 8 Try.f8 Rows.fnCipherLinearSpec Rows.fnCipherLinearRow = true := by kernel_rfl
theorem fnCipherLinear_fact12 : (fun (P : Program) (f : FuncId) (fn : Func) (s : ChangeSpec) (c : OpenClaim) => ((c.named == P.varsNamed f) : Bool)) Try.prog 8 Try.f8 Rows.fnCipherLinearSpec Rows.fnCipherLinearRow = true := by kernel_rfl
theorem fnCipherLinear_fact13 : (fun (P : Program) (f : FuncId) (fn : Func) (s : ChangeSpec) (c : OpenClaim) => ((c.maps == (fn.params.toList ++ s.plain.varTypes P).any (P.mapsRec ·)) : Bool)) Try.prog 8 Try.f8 Rows.fnCipherLinearSpec Rows.fnCipherLinearRow = true := by kernel_rfl
theorem fnCipherLinear_fact14 : (fun (P : Program) (f : FuncId) (fn : Func) (s : ChangeSpec) (c : OpenClaim) => ((c.ifaces == (fn.params.toList ++ s.plain.varTypes P).any (P.ifacesRec ·)) : Bool)) Try.prog 8 Try.f8 Rows.fnCipherLinearSpec Rows.fnCipherLinearRow = true := by kernel_rfl
theorem fnCipherLinear_fact15 : (fun (P : Program) (f : FuncId) (fn : Func) (s : ChangeSpec) (c : OpenClaim) => ((c.mapsOut == P.mapsAmong fn.resultTypes.toList) : Bool)) Try.prog 8 Try.f8 Rows.fnCipherLinearSpec Rows.fnCipherLinearRow = true := by kernel_rfl
theorem fnCipherLinear_fact16 : (fun (P : Program) (f : FuncId) (fn : Func) (s : ChangeSpec) (c : OpenClaim) => ((c.loops == (fn.params.toList ++ s.plain.varTypes P).any (P.loopsFrom ·)) : Bool)) Try.prog 8 Try.f8 Rows.fnCipherLinearSpec Rows.fnCipherLinearRow = true := by kernel_rfl
theorem fnCipherLinear_fact17 : (fun (P : Program) (f : FuncId) (fn : Func) (s : ChangeSpec) (c : OpenClaim) => ((c.wideKeys == (fn.params.toList ++ s.plain.varTypes P ++ fn.resultTypes.toList).any (P.wideKeysFrom ·)) : Bool)) Try.prog 8 Try.f8 Rows.fnCipherLinearSpec Rows.fnCipherLinearRow = true := by kernel_rfl
theorem fnCipherLinear_fact18 : (fun (P : Program) (f : FuncId) (fn : Func) (s : ChangeSpec) (c : OpenClaim) => (s.vars.all (P.varReadable ·) : Bool)) Try.prog 8 Try.f8 Rows.fnCipherLinearSpec Rows.fnCipherLinearRow = true := by kernel_rfl
theorem fnCipherLinear_fact19 : (fun (P : Program) (f : FuncId) (fn : Func) (s : ChangeSpec) (c : OpenClaim) => (fn.resultTypes.all (fun t => P.readableRec t && decide (t < P.types.size)) : Bool)) Try.prog 8 Try.f8 Rows.fnCipherLinearSpec Rows.fnCipherLinearRow = true := by kernel_rfl
theorem fnCipherLinear_fact20 : (fun (P : Program) (f : FuncId) (fn : Func) (s : ChangeSpec) (c : OpenClaim) => ((c.ifacesOut == fn.resultTypes.toList.any (P.ifacesRec ·)) : Bool)) Try.prog 8 Try.f8 Rows.fnCipherLinearSpec Rows.fnCipherLinearRow = true := by kernel_rfl
theorem fnCipherLinear_fact21 : (fun (P : Program) (f : FuncId) (fn : Func) (s : ChangeSpec) (c : OpenClaim) => ((c.loopsOut == fn.resultTypes.toList.any (P.loopsFrom ·)) : Bool)) Try.prog 8 Try.f8 Rows.fnCipherLinearSpec Rows.fnCipherLinearRow = true := by kernel_rfl
theorem fnCipherLinear_fact22 : (fun (P : Program) (f : FuncId) (fn : Func) (s : ChangeSpec) (c : OpenClaim) => ((c.plainKeys == P.plainKeys) : Bool)) Try.prog 8 Try.f8 Rows.fnCipherLinearSpec Rows.fnCipherLinearRow = true := prog_keys
theorem fnCipherLinear_fact23 : (fun (P : Program) (f : FuncId) (fn : Func) (s : ChangeSpec) (c : OpenClaim) => (c.shortTexts.isNone : Bool)) Try.prog 8 Try.f8 Rows.fnCipherLinearSpec Rows.fnCipherLinearRow = true := by kernel_rfl
theorem fnCipherLinear_fact24 : (fun (P : Program) (f : FuncId) (fn : Func) (s : ChangeSpec) (c : OpenClaim) => (P.stopsHeard : Bool)) Try.prog 8 Try.f8 Rows.fnCipherLinearSpec Rows.fnCipherLinearRow = true := prog_heard
theorem fnCipherLinear_fact25 : (fun (P : Program) (f : FuncId) (fn : Func) (s : ChangeSpec) (c : OpenClaim) => (P.mayEnter : Bool)) Try.prog 8 Try.f8 Rows.fnCipherLinearSpec Rows.fnCipherLinearRow = true := prog_enter
theorem fnCipherLinear_fact26 : (fun (P : Program) (f : FuncId) (fn : Func) (s : ChangeSpec) (c : OpenClaim) => ((c.lifted == P.liftsFinal) : Bool)) Try.prog 8 Try.f8 Rows.fnCipherLinearSpec Rows.fnCipherLinearRow = true := prog_lifts
theorem fnCipherLinear_fact27 : (fun (P : Program) (f : FuncId) (fn : Func) (s : ChangeSpec) (c : OpenClaim) => ((P.make == some c.make) : Bool)) Try.prog 8 Try.f8 Rows.fnCipherLinearSpec Rows.fnCipherLinearRow = true := prog_make
theorem fnCipherLinear_fact28 : (fun (P : Program) (f : FuncId) (fn : Func) (s : ChangeSpec) (c : OpenClaim) => ((c.kinds == (if c.domain.isEmpty then [] else fn.params.toList.map fun t => match P.underlying t with | some (.int k) => some k | _ => none)) : Bool)) Try.prog 8 Try.f8 Rows.fnCipherLinearSpec Rows.fnCipherLinearRow = true := by kernel_rfl
theorem fnCipherLinear_fact29 : (fun (P : Program) (f : FuncId) (fn : Func) (s : ChangeSpec) (c : OpenClaim) => ((c.pinned == c.pinnedBy) : Bool)) Try.prog 8 Try.f8 Rows.fnCipherLinearSpec Rows.fnCipherLinearRow = true := by kernel_rfl
theorem fnCipherLinear_fact30 : (fun (P : Program) (f : FuncId) (fn : Func) (s : ChangeSpec) (c : OpenClaim) => ((c.veiled == (fn.params.toList ++ s.plain.varTypes P ++ fn.resultTypes.toList).any (P.veiledRec ·)) : Bool)) Try.prog 8 Try.f8 Rows.fnCipherLinearSpec Rows.fnCipherLinearRow = true := by kernel_rfl
theorem fnCipherLinear_fact31 : (fun (P : Program) (f : FuncId) (fn : Func) (s : ChangeSpec) (c : OpenClaim) => (c.veiledFits P fn.params.toList (fn.params.toList ++ s.plain.varTypes P ++ fn.resultTypes.toList) : Bool)) Try.prog 8 Try.f8 Rows.fnCipherLinearSpec Rows.fnCipherLinearRow = true := by kernel_rfl
set_option maxRecDepth 100000 in
theorem fnCipherLinear_facts : joinedFacts Try.prog 8 Try.f8 Rows.fnCipherLinearSpec Rows.fnCipherLinearRow = true := and_mk (and_mk (and_mk (and_mk (and_mk (and_mk (and_mk (and_mk (and_mk (and_mk (and_mk (and_mk (and_mk (and_mk (and_mk (and_mk (and_mk (and_mk (and_mk (and_mk (and_mk (and_mk (and_mk (and_mk (and_mk (and_mk (and_mk (and_mk (and_mk (and_mk (and_mk (fnCipherLinear_fact0) fnCipherLinear_fact1) fnCipherLinear_fact2) fnCipherLinear_fact3) fnCipherLinear_fact4) fnCipherLinear_fact5) fnCipherLinear_fact6) fnCipherLinear_fact7) fnCipherLinear_fact8) fnCipherLinear_fact9) fnCipherLinear_fact10) fnCipherLinear_fact11) fnCipherLinear_fact12) fnCipherLinear_fact13) fnCipherLinear_fact14) fnCipherLinear_fact15) fnCipherLinear_fact16) fnCipherLinear_fact17) fnCipherLinear_fact18) fnCipherLinear_fact19) fnCipherLinear_fact20) fnCipherLinear_fact21) fnCipherLinear_fact22) fnCipherLinear_fact23) fnCipherLinear_fact24) fnCipherLinear_fact25) fnCipherLinear_fact26) fnCipherLinear_fact27) fnCipherLinear_fact28) fnCipherLinear_fact29) fnCipherLinear_fact30) fnCipherLinear_fact31

set_option maxRecDepth 100000 in
theorem fnCipherLinear_lifted (os : Os) (started : os.Started) (H : Type) (enc : TypeId × Value → H) :
    ReturnsInHanded {} Try.checked os 8 .any (Rows.fnCipherLinearSpec.pre6 enc Try.prog Try.f8 Rows.fnCipherLinearRow.domain false) (Rows.fnCipherLinearSpec.post enc Try.prog Try.f8 false true false false) := by
  refine returnsInHanded_of_change_sized (C := Try.checked) ownK started (by kernel_rfl) Try.func8
    (ChangeSpec.witness6 (enc := enc) (C := Try.checked) false ⟨#[], #[.int .i64 0, .slice none 0 0, .slice none 0 0, .slice none 0 0, .slice none 0 0, .slice none 0 0, .slice none 0 0], []⟩ 8 (by kernel_rfl) (by kernel_rfl) (by kernel_rfl) (by kernel_rfl)) ?_
  intro W base args ds gs before hval hW _ hsz _
  exact fnCipherLinear_contract H enc W base args ds gs before hval hW hsz

set_option maxRecDepth 100000 in
theorem fnCipherLinear_proved : Rows.FnCipherLinearSaid :=
  OpenClaim.holds_of_wide 8 Try.f8 rfl rfl rfl rfl rfl rfl rfl ⟨rfl, rfl, rfl, rfl, rfl⟩ rfl rfl rfl rfl rfl (by kernel_rfl) Try.func8 fnCipherLinear_facts
    (of_decide_eq_true (by kernel_rfl)) (by unfold Func.isWrapper; first | (rw [if_pos (by decide +kernel)]; kernel_rfl) | (rw [if_neg (by decide +kernel)]; exact ⟨rfl, rfl⟩))
    (fun os started H enc _ => fnCipherLinear_lifted os started H enc)

end Go.Proofs.Ythemhpefcfdcaaa
