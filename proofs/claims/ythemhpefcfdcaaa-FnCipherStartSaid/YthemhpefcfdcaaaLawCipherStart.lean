/- For every input: the beginning of bytes is ciphered to the beginning of what they are ciphered to (FnCipherStart returns true); no condition. -/
import Derived.Test.YthemhpefcfdcaaaTake
import Derived.Test.YthemhpefcfdcaaaFacts
namespace Go.Proofs.Ythemhpefcfdcaaa
open Go.RowKit Go.Deep
open Go.ChangeShapes Go.WideShapes Go.ChangeAt
set_option linter.unusedVariables false

set_option maxRecDepth 100000 in
set_option maxHeartbeats 2000000 in
theorem fnCipherStart_walk (w : World) (kind x : Int) (aN aS aK aD aC : Option Addr) (cN cS cK cD cC n m kk d r : Nat) (N S key data : List UInt8) (zs : List Int)
    (hn : N.length = n) (hm : S.length = m) (hkk : key.length = kk) (hd : data.length = d) (hr : zs.length = r) (hN : Bs w.heap.size w aN cN N) (hS : Bs w.heap.size w aS cS S) (hK : Bs w.heap.size w aK cK key) (hD : Bs w.heap.size w aD cD data) (hC : Ints w.heap.size w aC cC zs)
    (hnb : n ≤ 140737488351232) (hmb : m ≤ 140737488351232) (hdb : d ≤ 140737488351232) :
    Calls Try.prog 9 #[.int .i64 kind, .slice aN n cN, .slice aS m cS, .slice aK kk cK, .slice aD d cD, .int .i64 x, .slice aC r cC] w fun e w' => e = .returned (.bool true) ∧ Below w.heap.size w w' := by
  have HC := Lib.hid (cipher_any w kind aN aS aK aD none cN cS cK cD 0 n m kk d 0 N S key data [] hn hm hkk hd rfl hN hS hK hD (ints_nil w) (by omega) (by omega) (by omega) (by omega))
  have k1 : ((d : Int) == (d : Int)) = true := by simp
  go_enter Try.func9, Try.ntmps9
  by_cases h0 : x < 0
  · go_wp2_with fail
    go_ret
    exact ⟨rfl, Below.refl _ _⟩
  by_cases h1 : (d : Int) < x
  · go_wp2_with fail
    go_ret
    exact ⟨rfl, Below.refl _ _⟩
  obtain ⟨k, rfl⟩ : ∃ k : Nat, x = (k : Int) := ⟨x.toNat, by omega⟩
  have hkd : k ≤ d := by omega
  go_wp2_with fail
  refine HC.out.mono ?_
  rintro e w0 ⟨f1, fc1, rfl, hf1, bl0⟩
  obtain ⟨w1, hw1⟩ : ∃ w1, w1 = w0.drew := ⟨_, rfl⟩
  have bl01 : Below w0.heap.size w0 w1 := by rw [hw1]; exact ⟨rfl, rfl, rfl, Nat.le_refl _, fun _ _ => rfl⟩
  have bl1 : Below w.heap.size w w1 := bl0.trans (bl01.mono bl0.size)
  have hf1 := (hf1.keep bl01).mono bl01.size
  have s1 := bl1.size
  have hcd : k ≤ cD := by have := hD.1; omega
  have hfc : d ≤ fc1 := by have := hf1.1; rw [ciph_len, hd] at this; exact this
  have hkf : k ≤ fc1 := by omega
  have HC2 := Lib.hid (cipher_any w1 kind aN aS aK aD aC cN cS cK cD cC n m kk k r N S key (data.take k) zs hn hm hkk (by simp; omega) hr ((hN.keep bl1).mono s1) ((hS.keep bl1).mono s1) ((hK.keep bl1).mono s1) (((hD.keep bl1).mono s1).take k) ((hC.keep bl1).mono s1) (by omega) (by omega) (by omega) (by omega))
  rw [ciph_take _ _ _ (by omega)] at HC2
  have HF := Lib.hid hf1
  have HL : ((ciph ((start kind N S).absorb key) data).take k).length = k := by simp [ciph_len]; omega
  clear hn hm hkk hd hr hN hS hK hD hC hf1 HC
  have c1 : (k : Int) ≤ (cD : Int) := by omega
  have c2 : (k : Int) ≤ (fc1 : Int) := by omega
  go_wp2_with fail
  subst hw1
  have SA := Lib.hid (fun (w2 : World) (f2 : Option Addr) (fc2 : Nat) (h : Bs w2.heap.size w2 f2 fc2 ((ciph ((start kind N S).absorb key) data).take k)) (b : Below w0.drew.heap.size w0.drew w2) => same_any w2 w2.heap.size f2 f1 fc2 fc1 k k _ HL HL h (((HF.out.take k).keep b).mono b.size))
  go_region_held3 (fun _ => True) (trivial) (first | (go_at_call 26; refine HC2.out.mono ?_; rintro e w2 ⟨f2, fc2, rfl, hf2, bl2⟩) | (go_at_call 20; refine (SA.out _ _ _ (by assumption) (by assumption)).mono ?_; rintro e w3 ⟨rfl, k3, rfl⟩))
  go_wp2_with fail
  go_ret
  exact ⟨rfl, Below.eqvN' (bl1.trans (bl2.mono s1)) k3⟩

theorem fnCipherStart_contract (H : Type) (enc : TypeId × Value → H) (W : World) (base : Nat) (args : Array Value) (ds gs : List (DataW H)) (before : List MemPlace)
    (hval : ∀ (j : Nat) t v, Try.f9.params[j]? = some t → args[j]? = some v → Value.okWide Try.prog W .any base t v)
    (hW : DataW.Whole enc Try.prog Try.f9.params.toList Rows.fnCipherStartSpec.vars false W args.toList ds gs before)
    (hsz : (DataW.weightsEach Try.prog (Try.f9.params.toList ++ Rows.fnCipherStartSpec.plain.varTypes Try.prog) (ds ++ gs)).all (· ≤ reachBytes) = true) :
    Calls Try.prog 9 args W fun e W' => ∃ v, e = .returned v ∧ Rows.fnCipherStartSpec.post enc Try.prog Try.f9 false true false false W args v W' := by
  have hW' := hW
  obtain ⟨p, q, hA0, hV, rfl, hfz, hnd⟩ := hW
  have hA : DataW.TrodAll enc Try.prog W 0 (fun _ => true) true Try.f9.params.toList args.toList ds p := hA0
  have hsz' : (DataW.weightsEach Try.prog (Try.f9.params.toList ++ []) (ds ++ gs)).all (· ≤ reachBytes) = true := hsz
  clear hsz
  rw [Try.params9] at hA hval hsz'
  obtain ⟨v0, vs0, d0, ds0, p0, q0, hargs, rfl, rfl, h0, r0⟩ := trodAll_cons hA
  obtain ⟨v1, vs1, d1, ds1, p1, q1, rfl, rfl, rfl, h1, r1⟩ := trodAll_cons r0
  obtain ⟨v2, vs2, d2, ds2, p2, q2, rfl, rfl, rfl, h2, r2⟩ := trodAll_cons r1
  obtain ⟨v3, vs3, d3, ds3, p3, q3, rfl, rfl, rfl, h3, r3⟩ := trodAll_cons r2
  obtain ⟨v4, vs4, d4, ds4, p4, q4, rfl, rfl, rfl, h4, r4⟩ := trodAll_cons r3
  obtain ⟨v5, vs5, d5, ds5, p5, q5, rfl, rfl, rfl, h5, r5⟩ := trodAll_cons r4
  obtain ⟨v6, vs6, d6, ds6, p6, q6, rfl, rfl, rfl, h6, r6⟩ := trodAll_cons r5
  obtain ⟨rfl, rfl, rfl⟩ := trodAll_nil r6
  obtain rfl : args = #[v0, v1, v2, v3, v4, v5, v6] := by cases args; simp_all
  obtain ⟨rfl, rfl⟩ := trodVars_none hV
  obtain ⟨x0, rfl, rfl, rfl, wx0⟩ := open_int Try.underlying3 (hval 0 3 v0 rfl rfl) h0
  obtain ⟨a1, len1, cap1, rfl⟩ := okWide_slice Try.underlying22 (hval 1 22 v1 rfl rfl)
  have k1 := h1
  have lt1 : ∀ x ∈ p1, x.block < W.heap.size := by obtain ⟨m, hm⟩ := k1; exact DataW.trod_lt m _ _ _ hm
  obtain ⟨fu1, hf1⟩ := h1
  obtain ⟨l1, el1, b1, u1⟩ := openBs (by simpa [Value.cells] using hf1)
  obtain ⟨a2, len2, cap2, rfl⟩ := okWide_slice Try.underlying22 (hval 2 22 v2 rfl rfl)
  have k2 := h2
  have lt2 : ∀ x ∈ p2, x.block < W.heap.size := by obtain ⟨m, hm⟩ := k2; exact DataW.trod_lt m _ _ _ hm
  obtain ⟨fu2, hf2⟩ := h2
  obtain ⟨l2, el2, b2, u2⟩ := openBs (by simpa [Value.cells] using hf2)
  obtain ⟨a3, len3, cap3, rfl⟩ := okWide_slice Try.underlying22 (hval 3 22 v3 rfl rfl)
  have k3 := h3
  have lt3 : ∀ x ∈ p3, x.block < W.heap.size := by obtain ⟨m, hm⟩ := k3; exact DataW.trod_lt m _ _ _ hm
  obtain ⟨fu3, hf3⟩ := h3
  obtain ⟨l3, el3, b3, u3⟩ := openBs (by simpa [Value.cells] using hf3)
  obtain ⟨a4, len4, cap4, rfl⟩ := okWide_slice Try.underlying22 (hval 4 22 v4 rfl rfl)
  have k4 := h4
  have lt4 : ∀ x ∈ p4, x.block < W.heap.size := by obtain ⟨m, hm⟩ := k4; exact DataW.trod_lt m _ _ _ hm
  obtain ⟨fu4, hf4⟩ := h4
  obtain ⟨l4, el4, b4, u4⟩ := openBs (by simpa [Value.cells] using hf4)
  obtain ⟨x5, rfl, rfl, rfl, wx5⟩ := open_int Try.underlying3 (hval 5 3 v5 rfl rfl) h5
  obtain ⟨a6, len6, cap6, rfl⟩ := okWide_slice Try.underlying24 (hval 6 24 v6 rfl rfl)
  have k6 := h6
  have lt6 : ∀ x ∈ p6, x.block < W.heap.size := by obtain ⟨m, hm⟩ := k6; exact DataW.trod_lt m _ _ _ hm
  obtain ⟨fu6, hf6⟩ := h6
  obtain ⟨l6, el6, b6, u6, uu6⟩ := openInts (by simpa [Value.cells] using hf6)
  have z1 := reachBs (by simpa [Value.cells] using hf1) hsz' 1 rfl rfl
  have y1 := b1.1
  have z2 := reachBs (by simpa [Value.cells] using hf2) hsz' 2 rfl rfl
  have y2 := b2.1
  have z3 := reachBs (by simpa [Value.cells] using hf3) hsz' 3 rfl rfl
  have y3 := b3.1
  have z4 := reachBs (by simpa [Value.cells] using hf4) hsz' 4 rfl rfl
  have y4 := b4.1
  clear hA0
  refine (fnCipherStart_walk W x0 x5 a1 a2 a3 a4 a6 cap1 cap2 cap3 cap4 cap6 len1 len2 len3 len4 len6 l1 l2 l3 l4 l6 el1 el2 el3 el4 el6 b1 b2 b3 b4 b6 (by omega) (by omega) (by omega)).mono fun e W' ⟨he, bel⟩ => ?_
  subst he
  exact ⟨_, rfl, _, _, _, [], _, [], hW', trodAll_mk1 (shut_bool Try.underlying4 _), (trodAll_cons_mk (shut_int Try.underlying3 wx0) (trodAll_cons_mk (Below.trod laidOut (by kernel_rfl) (of_decide_eq_true (by kernel_rfl)) k1 bel lt1) (trodAll_cons_mk (Below.trod laidOut (by kernel_rfl) (of_decide_eq_true (by kernel_rfl)) k2 bel lt2) (trodAll_cons_mk (Below.trod laidOut (by kernel_rfl) (of_decide_eq_true (by kernel_rfl)) k3 bel lt3) (trodAll_cons_mk (Below.trod laidOut (by kernel_rfl) (of_decide_eq_true (by kernel_rfl)) k4 bel lt4) (trodAll_cons_mk (shut_int Try.underlying3 wx5) (trodAll_cons_mk (Below.trod laidOut (by kernel_rfl) (of_decide_eq_true (by kernel_rfl)) k6 bel lt6) trodAll_mk0))))))), rfl, bel.frame _, fun h => by cases h⟩

theorem fnCipherStart_fact0 : (fun (P : Program) (f : FuncId) (fn : Func) (s : ChangeSpec) (c : OpenClaim) => (c.wf (OpenSpec.ofChange s) : Bool)) Try.prog 9 Try.f9 Rows.fnCipherStartSpec Rows.fnCipherStartRow = true := by kernel_rfl
theorem fnCipherStart_fact1 : (fun (P : Program) (f : FuncId) (fn : Func) (s : ChangeSpec) (c : OpenClaim) => (laidOutB P : Bool)) Try.prog 9 Try.f9 Rows.fnCipherStartSpec Rows.fnCipherStartRow = true := prog_laid
theorem fnCipherStart_fact2 : (fun (P : Program) (f : FuncId) (fn : Func) (s : ChangeSpec) (c : OpenClaim) => (mapsRowed P : Bool)) Try.prog 9 Try.f9 Rows.fnCipherStartSpec Rows.fnCipherStartRow = true := prog_maps
theorem fnCipherStart_fact3 : (fun (P : Program) (f : FuncId) (fn : Func) (s : ChangeSpec) (c : OpenClaim) => (fn.params.all (P.readableRec ·) : Bool)) Try.prog 9 Try.f9 Rows.fnCipherStartSpec Rows.fnCipherStartRow = true := by kernel_rfl
theorem fnCipherStart_fact4 : (fun (P : Program) (f : FuncId) (fn : Func) (s : ChangeSpec) (c : OpenClaim) => (namedTie P c.named s.vars : Bool)) Try.prog 9 Try.f9 Rows.fnCipherStartSpec Rows.fnCipherStartRow = true := by kernel_rfl
theorem fnCipherStart_fact5 : (fun (P : Program) (f : FuncId) (fn : Func) (s : ChangeSpec) (c : OpenClaim) => ((c.stops == []) : Bool)) Try.prog 9 Try.f9 Rows.fnCipherStartSpec Rows.fnCipherStartRow = true := by kernel_rfl
theorem fnCipherStart_fact6 : (fun (P : Program) (f : FuncId) (fn : Func) (s : ChangeSpec) (c : OpenClaim) => ((P.stops == []) : Bool)) Try.prog 9 Try.f9 Rows.fnCipherStartSpec Rows.fnCipherStartRow = true := prog_stops
theorem fnCipherStart_fact7 : (fun (P : Program) (f : FuncId) (fn : Func) (s : ChangeSpec) (c : OpenClaim) => ((c.knobs == []) : Bool)) Try.prog 9 Try.f9 Rows.fnCipherStartSpec Rows.fnCipherStartRow = true := by kernel_rfl
theorem fnCipherStart_fact8 : (fun (P : Program) (f : FuncId) (fn : Func) (s : ChangeSpec) (c : OpenClaim) => ((P.stopKnobs == []) : Bool)) Try.prog 9 Try.f9 Rows.fnCipherStartSpec Rows.fnCipherStartRow = true := prog_knobs
theorem fnCipherStart_fact9 : (fun (P : Program) (f : FuncId) (fn : Func) (s : ChangeSpec) (c : OpenClaim) => ((c.inPlace == P.inPlace f) : Bool)) Try.prog 9 Try.f9 Rows.fnCipherStartSpec Rows.fnCipherStartRow = true := by kernel_rfl
theorem fnCipherStart_fact10 : (fun (P : Program) (f : FuncId) (fn : Func) (s : ChangeSpec) (c : OpenClaim) => ((c.unfollowed == P.unfollowed f) : Bool)) Try.prog 9 Try.f9 Rows.fnCipherStartSpec Rows.fnCipherStartRow = true := by kernel_rfl
theorem fnCipherStart_fact11 : (fun (P : Program) (f : FuncId) (fn : Func) (s : ChangeSpec) (c : OpenClaim) => ((c.recurses == P.recurses f) : Bool)) Try.prog 9 Try.f9 Rows.fnCipherStartSpec Rows.fnCipherStartRow = true := by kernel_rfl
theorem fnCipherStart_fact12 : (fun (P : Program) (f : FuncId) (fn : Func) (s : ChangeSpec) (c : OpenClaim) => ((c.named == P.varsNamed f) : Bool)) Try.prog 9 Try.f9 Rows.fnCipherStartSpec Rows.fnCipherStartRow = true := by kernel_rfl
theorem fnCipherStart_fact13 : (fun (P : Program) (f : FuncId) (fn : Func) (s : ChangeSpec) (c : OpenClaim) => ((c.maps == (fn.params.toList ++ s.plain.varTypes P).any (P.mapsRec ·)) : Bool)) Try.prog 9 Try.f9 Rows.fnCipherStartSpec Rows.fnCipherStartRow = true := by kernel_rfl
theorem fnCipherStart_fact14 : (fun (P : Program) (f : FuncId) (fn : Func) (s : ChangeSpec) (c : OpenClaim) => ((c.ifaces == (fn.params.toList ++ s.plain.varTypes P).any (P.ifacesRec ·)) : Bool)) Try.prog 9 Try.f9 Rows.fnCipherStartSpec Rows.fnCipherStartRow = true := by kernel_rfl
theorem fnCipherStart_fact15 : (fun (P : Program) (f : FuncId) (fn : Func) (s : ChangeSpec) (c : OpenClaim) => ((c.mapsOut == P.mapsAmong fn.resultTypes.toList) : Bool)) Try.prog 9 Try.f9 Rows.fnCipherStartSpec Rows.fnCipherStartRow = true := by kernel_rfl
theorem fnCipherStart_fact16 : (fun (P : Program) (f : FuncId) (fn : Func) (s : ChangeSpec) (c : OpenClaim) => ((c.loops == (fn.params.toList ++ s.plain.varTypes P).any (P.loopsFrom ·)) : Bool)) Try.prog 9 Try.f9 Rows.fnCipherStartSpec Rows.fnCipherStartRow = true := by kernel_rfl
theorem fnCipherStart_fact17 : (fun (P : Program) (f : FuncId) (fn : Func) (s : ChangeSpec) (c : OpenClaim) => ((c.wideKeys == (fn.params.toList ++ s.plain.varTypes P ++ fn.resultTypes.toList).any (P.wideKeysFrom ·)) : Bool)) Try.prog 9 Try.f9 Rows.fnCipherStartSpec Rows.fnCipherStartRow = true := by kernel_rfl
theorem fnCipherStart_fact18 : (fun (P : Program) (f : FuncId) (fn : Func) (s : ChangeSpec) (c : OpenClaim) => (s.vars.all (P.varReadable ·) : Bool)) Try.prog 9 Try.f9 Rows.fnCipherStartSpec Rows.fnCipherStartRow = true := by kernel_rfl
theorem fnCipherStart_fact19 : (fun (P : Program) (f : FuncId) (fn : Func) (s : ChangeSpec) (c : OpenClaim) => (fn.resultTypes.all (fun t => P.readableRec t && decide (t < P.types.size)) : Bool)) Try.prog 9 Try.f9 Rows.fnCipherStartSpec Rows.fnCipherStartRow = true := by kernel_rfl
theorem fnCipherStart_fact20 : (fun (P : Program) (f : FuncId) (fn : Func) (s : ChangeSpec) (c : OpenClaim) => ((c.ifacesOut == fn.resultTypes.toList.any (P.ifacesRec ·)) : Bool)) Try.prog 9 Try.f9 Rows.fnCipherStartSpec Rows.fnCipherStartRow = true := by kernel_rfl
theorem fnCipherStart_fact21 : (fun (P : Program) (f : FuncId) (fn : Func) (s : ChangeSpec) (c : OpenClaim) => ((c.loopsOut == fn.resultTypes.toList.any (P.loopsFrom ·)) : Bool)) Try.prog 9 Try.f9 Rows.fnCipherStartSpec Rows.fnCipherStartRow = true := by kernel_rfl
theorem fnCipherStart_fact22 : (fun (P : Program) (f : FuncId) (fn : Func) (s : ChangeSpec) (c : OpenClaim) => ((c.plainKeys == P.plainKeys) : Bool)) Try.prog 9 Try.f9 Rows.fnCipherStartSpec Rows.fnCipherStartRow = true := prog_keys
theorem fnCipherStart_fact23 : (fun (P : Program) (f : FuncId) (fn : Func) (s : ChangeSpec) (c : OpenClaim) => (c.shortTexts.isNone : Bool)) Try.prog 9 Try.f9 Rows.fnCipherStartSpec Rows.fnCipherStartRow = true := by kernel_rfl
theorem fnCipherStart_fact24 : (fun (P : Program) (f : FuncId) (fn : Func) (s : ChangeSpec) (c : OpenClaim) => (P.stopsHeard : Bool)) Try.prog 9 Try.f9 Rows.fnCipherStartSpec Rows.fnCipherStartRow = true := prog_heard
theorem fnCipherStart_fact25 : (fun (P : Program) (f : FuncId) (fn : Func) (s : ChangeSpec) (c : OpenClaim) => (P.mayEnter : Bool)) Try.prog 9 Try.f9 Rows.fnCipherStartSpec Rows.fnCipherStartRow = true := prog_enter
theorem fnCipherStart_fact26 : (fun (P : Program) (f : FuncId) (fn : Func) (s : ChangeSpec) (c : OpenClaim) => ((c.lifted == P.liftsFinal) : Bool)) Try.prog 9 Try.f9 Rows.fnCipherStartSpec Rows.fnCipherStartRow = true := prog_lifts
theorem fnCipherStart_fact27 : (fun (P : Program) (f : FuncId) (fn : Func) (s : ChangeSpec) (c : OpenClaim) => ((P.make == some c.make) : Bool)) Try.prog 9 Try.f9 Rows.fnCipherStartSpec Rows.fnCipherStartRow = true := prog_make
theorem fnCipherStart_fact28 : (fun (P : Program) (f : FuncId) (fn : Func) (s : ChangeSpec) (c : OpenClaim) => ((c.kinds == (if c.domain.isEmpty then [] else fn.params.toList.map fun t => match P.underlying t with | some (.int k) => some k | _ => none)) : Bool)) Try.prog 9 Try.f9 Rows.fnCipherStartSpec Rows.fnCipherStartRow = true := by kernel_rfl
theorem fnCipherStart_fact29 : (fun (P : Program) (f : FuncId) (fn : Func) (s : ChangeSpec) (c : OpenClaim) => ((c.pinned == c.pinnedBy) : Bool)) Try.prog 9 Try.f9 Rows.fnCipherStartSpec Rows.fnCipherStartRow = true := by kernel_rfl
theorem fnCipherStart_fact30 : (fun (P : Program) (f : FuncId) (fn : Func) (s : ChangeSpec) (c : OpenClaim) => ((c.veiled == (fn.params.toList ++ s.plain.varTypes P ++ fn.resultTypes.toList).any (P.veiledRec ·)) : Bool)) Try.prog 9 Try.f9 Rows.fnCipherStartSpec Rows.fnCipherStartRow = true := by kernel_rfl
theorem fnCipherStart_fact31 : (fun (P : Program) (f : FuncId) (fn : Func) (s : ChangeSpec) (c : OpenClaim) => (c.veiledFits P fn.params.toList (fn.params.toList ++ s.plain.varTypes P ++ fn.resultTypes.toList) : Bool)) Try.prog 9 Try.f9 Rows.fnCipherStartSpec Rows.fnCipherStartRow = true := by kernel_rfl
set_option maxRecDepth 100000 in
theorem fnCipherStart_facts : joinedFacts Try.prog 9 Try.f9 Rows.fnCipherStartSpec Rows.fnCipherStartRow = true := and_mk (and_mk (and_mk (and_mk (and_mk (and_mk (and_mk (and_mk (and_mk (and_mk (and_mk (and_mk (and_mk (and_mk (and_mk (and_mk (and_mk (and_mk (and_mk (and_mk (and_mk (and_mk (and_mk (and_mk (and_mk (and_mk (and_mk (and_mk (and_mk (and_mk (and_mk (fnCipherStart_fact0) fnCipherStart_fact1) fnCipherStart_fact2) fnCipherStart_fact3) fnCipherStart_fact4) fnCipherStart_fact5) fnCipherStart_fact6) fnCipherStart_fact7) fnCipherStart_fact8) fnCipherStart_fact9) fnCipherStart_fact10) fnCipherStart_fact11) fnCipherStart_fact12) fnCipherStart_fact13) fnCipherStart_fact14) fnCipherStart_fact15) fnCipherStart_fact16) fnCipherStart_fact17) fnCipherStart_fact18) fnCipherStart_fact19) fnCipherStart_fact20) fnCipherStart_fact21) fnCipherStart_fact22) fnCipherStart_fact23) fnCipherStart_fact24) fnCipherStart_fact25) fnCipherStart_fact26) fnCipherStart_fact27) fnCipherStart_fact28) fnCipherStart_fact29) fnCipherStart_fact30) fnCipherStart_fact31

set_option maxRecDepth 100000 in
theorem fnCipherStart_lifted (os : Os) (started : os.Started) (H : Type) (enc : TypeId × Value → H) :
    ReturnsInHanded {} Try.checked os 9 .any (Rows.fnCipherStartSpec.pre6 enc Try.prog Try.f9 Rows.fnCipherStartRow.domain false) (Rows.fnCipherStartSpec.post enc Try.prog Try.f9 false true false false) := by
  refine returnsInHanded_of_change_sized (C := Try.checked) ownK started (by kernel_rfl) Try.func9
    (ChangeSpec.witness6 (enc := enc) (C := Try.checked) false ⟨#[], #[.int .i64 0, .slice none 0 0, .slice none 0 0, .slice none 0 0, .slice none 0 0, .int .i64 0, .slice none 0 0], []⟩ 8 (by kernel_rfl) (by kernel_rfl) (by kernel_rfl) (by kernel_rfl)) ?_
  intro W base args ds gs before hval hW _ hsz _
  exact fnCipherStart_contract H enc W base args ds gs before hval hW hsz

set_option maxRecDepth 100000 in
theorem fnCipherStart_proved : Rows.FnCipherStartSaid :=
  OpenClaim.holds_of_wide 9 Try.f9 rfl rfl rfl rfl rfl rfl rfl ⟨rfl, rfl, rfl, rfl, rfl⟩ rfl rfl rfl rfl rfl (by kernel_rfl) Try.func9 fnCipherStart_facts
    (of_decide_eq_true (by kernel_rfl)) (by unfold Func.isWrapper; first | (rw [if_pos (by decide +kernel)]; kernel_rfl) | (rw [if_neg (by decide +kernel)]; exact ⟨rfl, rfl⟩))
    (fun os started H enc _ => fnCipherStart_lifted os started H enc)

end Go.Proofs.Ythemhpefcfdcaaa
