/- For every input: bytes are ciphered by the output that is read behind the key (FnCipherOutput returns true); no condition. -/
import Derived.Test.YthemhpefcfdcaaaOne
import Derived.Test.YthemhpefcfdcaaaFacts
namespace Go.Proofs.Ythemhpefcfdcaaa
open Go.RowKit Go.Deep
open Go.ChangeShapes Go.WideShapes Go.ChangeAt
set_option linter.unusedVariables false

set_option maxRecDepth 100000 in
set_option maxHeartbeats 2000000 in
theorem fnCipherOutput_walk (w : World) (kind : Int) (aN aS aK aD aC : Option Addr) (cN cS cK cD cC n m kk d r : Nat) (N S key data : List UInt8) (zs : List Int)
    (hn : N.length = n) (hm : S.length = m) (hkk : key.length = kk) (hd : data.length = d) (hr : zs.length = r) (hN : Bs w.heap.size w aN cN N) (hS : Bs w.heap.size w aS cS S) (hK : Bs w.heap.size w aK cK key) (hD : Bs w.heap.size w aD cD data) (hC : Ints w.heap.size w aC cC zs)
    (hnb : n ≤ 140737488351232) (hmb : m ≤ 140737488351232) (hdb : d ≤ 140737488351232) :
    Calls Try.prog 12 #[.int .i64 kind, .slice aN n cN, .slice aS m cS, .slice aK kk cK, .slice aD d cD, .slice aC r cC] w fun e w' => e = .returned (.bool true) ∧ Below w.heap.size w w' := by
  go_enter Try.func12, Try.ntmps12
  by_cases h0 : (4096 : Int) < (d : Int)
  · go_wp2_with fail
    go_ret
    exact ⟨rfl, Below.refl _ _⟩
  have hd4 : d ≤ 4096 := by omega
  obtain ⟨w1, hw1⟩ : ∃ w1, w1 = w.alloc (.cells #[.slice aK kk cK] 22) := ⟨_, rfl⟩
  obtain ⟨w2, hw2⟩ : ∃ w2, w2 = w1.alloc (.cells #[.int .i64 (d : Int)] 3) := ⟨_, rfl⟩
  have bl1 : Below w.heap.size w w1 := by rw [hw1]; exact (Below.refl _ _).alloc (Nat.le_refl _) _
  have bb2 : Below w1.heap.size w1 w2 := by rw [hw2]; exact (Below.refl _ _).alloc (Nat.le_refl _) _
  have hR2 : Rows2 w1.heap.size w1 (some ⟨w.heap.size, 0, none⟩) 1 [key] := by rw [hw1]; exact rows2_one hkk hK
  have hI2 : Ints w2.heap.size w2 (some ⟨w1.heap.size, 0, none⟩) 1 [(d : Int)] := by rw [hw2]; exact ints_one' _ _
  have bl2 : Below w.heap.size w w2 := bl1.trans (bb2.mono bl1.size)
  have s2 := bl2.size
  have HQ := Lib.hid (squeezed_any w2 kind aN aS (some ⟨w.heap.size, 0, none⟩) (some ⟨w1.heap.size, 0, none⟩) cN cS 1 1 n m 1 1 d N S [key] [(d : Int)] hn hm rfl rfl (by rw [outs_one d hd4, Sp.out_length]) ((hN.keep bl2).mono s2) ((hS.keep bl2).mono s2) ((hR2.keep bb2).mono bb2.size) hI2 (by omega) (by omega) (by omega) (by omega))
  rw [outs_one d hd4] at HQ
  have hs1 : w1.heap.size = w.heap.size + 1 := by rw [hw1]; simp
  have HW1 := Lib.hid hw1
  have HW2 := Lib.hid hw2
  clear hw1 hw2 hR2 hI2
  go_wp2_with fail
  rw [← HW1.out, ← HW2.out, ← hs1]
  refine HQ.out.mono ?_
  rintro e w3 ⟨f3, fc3, rfl, hf3, bl3⟩
  have bl3' : Below w.heap.size w w3 := bl2.trans (bl3.mono s2)
  have s3 := bl3'.size
  have HC := Lib.hid (cipher_any w3 kind aN aS aK aD aC cN cS cK cD cC n m kk d r N S key data zs hn hm hkk hd hr ((hN.keep bl3').mono s3) ((hS.keep bl3').mono s3) ((hK.keep bl3').mono s3) ((hD.keep bl3').mono s3) ((hC.keep bl3').mono s3) (by omega) (by omega) (by omega) (by omega))
  go_wp2_with fail
  refine HC.out.mono ?_
  rintro e w4 ⟨f4, fc4, rfl, hf4, bl4⟩
  have bl4' : Below w.heap.size w w4 := bl3'.trans (bl4.mono s3)
  have s4 := bl4'.size
  have hlo : (((start kind N S).absorb [key].flatten).out d).length = d := Sp.out_length _ _
  have HM := Lib.hid (mixed_any w4 aD f3 cD fc3 d d d data _ hd hlo (by omega) ((hD.keep bl4').mono s4) ((hf3.keep bl4).mono bl4.size) (by omega))
  go_wp2_with fail
  refine HM.out.mono ?_
  rintro e w5 ⟨f5, fc5, rfl, hf5, bl5⟩
  have bl5' : Below w.heap.size w w5 := bl4'.trans (bl5.mono s4)
  have e5 : List.zipWith (· ^^^ ·) data (((start kind N S).absorb [key].flatten).out d) = ciph ((start kind N S).absorb key) data := by
    rw [ciph, hd]; simp
  rw [e5] at hf5
  have HC5 := Lib.hid (same_any w5 w5.heap.size f4 f5 fc4 fc5 d d _ (by rw [ciph_len, hd]) (by rw [ciph_len, hd]) ((hf4.keep bl5).mono bl5.size) hf5)
  clear hn hm hkk hd hr hN hS hK hD hC hf3 hf4 hf5 hlo e5
  go_wp2_with fail
  refine HC5.out.mono ?_
  rintro e w6 ⟨rfl, k, rfl⟩
  go_wp2_with fail
  go_ret
  exact ⟨rfl, Below.eqvN' bl5' k⟩

theorem fnCipherOutput_contract (H : Type) (enc : TypeId × Value → H) (W : World) (base : Nat) (args : Array Value) (ds gs : List (DataW H)) (before : List MemPlace)
    (hval : ∀ (j : Nat) t v, Try.f12.params[j]? = some t → args[j]? = some v → Value.okWide Try.prog W .any base t v)
    (hW : DataW.Whole enc Try.prog Try.f12.params.toList Rows.fnCipherOutputSpec.vars false W args.toList ds gs before)
    (hsz : (DataW.weightsEach Try.prog (Try.f12.params.toList ++ Rows.fnCipherOutputSpec.plain.varTypes Try.prog) (ds ++ gs)).all (· ≤ reachBytes) = true) :
    Calls Try.prog 12 args W fun e W' => ∃ v, e = .returned v ∧ Rows.fnCipherOutputSpec.post enc Try.prog Try.f12 false true false false W args v W' := by
  have hW' := hW
  obtain ⟨p, q, hA0, hV, rfl, hfz, hnd⟩ := hW
  have hA : DataW.TrodAll enc Try.prog W 0 (fun _ => true) true Try.f12.params.toList args.toList ds p := hA0
  have hsz' : (DataW.weightsEach Try.prog (Try.f12.params.toList ++ []) (ds ++ gs)).all (· ≤ reachBytes) = true := hsz
  clear hsz
  rw [Try.params12] at hA hval hsz'
  obtain ⟨v0, vs0, d0, ds0, p0, q0, hargs, rfl, rfl, h0, r0⟩ := trodAll_cons hA
  obtain ⟨v1, vs1, d1, ds1, p1, q1, rfl, rfl, rfl, h1, r1⟩ := trodAll_cons r0
  obtain ⟨v2, vs2, d2, ds2, p2, q2, rfl, rfl, rfl, h2, r2⟩ := trodAll_cons r1
  obtain ⟨v3, vs3, d3, ds3, p3, q3, rfl, rfl, rfl, h3, r3⟩ := trodAll_cons r2
  obtain ⟨v4, vs4, d4, ds4, p4, q4, rfl, rfl, rfl, h4, r4⟩ := trodAll_cons r3
  obtain ⟨v5, vs5, d5, ds5, p5, q5, rfl, rfl, rfl, h5, r5⟩ := trodAll_cons r4
  obtain ⟨rfl, rfl, rfl⟩ := trodAll_nil r5
  obtain rfl : args = #[v0, v1, v2, v3, v4, v5] := by cases args; simp_all
  obtain ⟨rfl, rfl⟩ := trodVars_none hV
  obtain ⟨x0, rfl, rfl, rfl, wx0⟩ := open_int Try.underlying3 (hval 0 3 v0 rfl rfl) h0
  obtain ⟨a1, len1, cap1, rfl⟩ := okWide_slice Try.underlying22 (hval 1 22 v1 rfl rfl)
  have k1 := h1
  have lt1 : ∀ x ∈ p1, x.block < W.heap.size := by obtain ⟨m, hm⟩ := k1; exact DataW.trod_lt m _ _ _ hm
  obtain ⟨fu1, hf1⟩ := h1
  obtain ⟨l1, el1, b1, u1⟩ := openBs (by simpa [Value.cells] using hf1)
  obtain ⟨a2, len2, cap2, rfl⟩ := okWide_slice Try.underlying22 (hval 2 22 v2 rfl rfl)
  have k2 := h2
  have lt2 : ∀ x ∈ p2, x.block < W.heap.size := by obtain ⟨m, hm⟩ := k2; exact DataW.trod_lt m _ _ _ hm
  obtain ⟨fu2, hf2⟩ := h2
  obtain ⟨l2, el2, b2, u2⟩ := openBs (by simpa [Value.cells] using hf2)
  obtain ⟨a3, len3, cap3, rfl⟩ := okWide_slice Try.underlying22 (hval 3 22 v3 rfl rfl)
  have k3 := h3
  have lt3 : ∀ x ∈ p3, x.block < W.heap.size := by obtain ⟨m, hm⟩ := k3; exact DataW.trod_lt m _ _ _ hm
  obtain ⟨fu3, hf3⟩ := h3
  obtain ⟨l3, el3, b3, u3⟩ := openBs (by simpa [Value.cells] using hf3)
  obtain ⟨a4, len4, cap4, rfl⟩ := okWide_slice Try.underlying22 (hval 4 22 v4 rfl rfl)
  have k4 := h4
  have lt4 : ∀ x ∈ p4, x.block < W.heap.size := by obtain ⟨m, hm⟩ := k4; exact DataW.trod_lt m _ _ _ hm
  obtain ⟨fu4, hf4⟩ := h4
  obtain ⟨l4, el4, b4, u4⟩ := openBs (by simpa [Value.cells] using hf4)
  obtain ⟨a5, len5, cap5, rfl⟩ := okWide_slice Try.underlying24 (hval 5 24 v5 rfl rfl)
  have k5 := h5
  have lt5 : ∀ x ∈ p5, x.block < W.heap.size := by obtain ⟨m, hm⟩ := k5; exact DataW.trod_lt m _ _ _ hm
  obtain ⟨fu5, hf5⟩ := h5
  obtain ⟨l5, el5, b5, u5, uu5⟩ := openInts (by simpa [Value.cells] using hf5)
  have z1 := reachBs (by simpa [Value.cells] using hf1) hsz' 1 rfl rfl
  have y1 := b1.1
  have z2 := reachBs (by simpa [Value.cells] using hf2) hsz' 2 rfl rfl
  have y2 := b2.1
  have z3 := reachBs (by simpa [Value.cells] using hf3) hsz' 3 rfl rfl
  have y3 := b3.1
  have z4 := reachBs (by simpa [Value.cells] using hf4) hsz' 4 rfl rfl
  have y4 := b4.1
  clear hA0
  refine (fnCipherOutput_walk W x0 a1 a2 a3 a4 a5 cap1 cap2 cap3 cap4 cap5 len1 len2 len3 len4 len5 l1 l2 l3 l4 l5 el1 el2 el3 el4 el5 b1 b2 b3 b4 b5 (by omega) (by omega) (by omega)).mono fun e W' ⟨he, bel⟩ => ?_
  subst he
  exact ⟨_, rfl, _, _, _, [], _, [], hW', trodAll_mk1 (shut_bool Try.underlying4 _), (trodAll_cons_mk (shut_int Try.underlying3 wx0) (trodAll_cons_mk (Below.trod laidOut (by kernel_rfl) (of_decide_eq_true (by kernel_rfl)) k1 bel lt1) (trodAll_cons_mk (Below.trod laidOut (by kernel_rfl) (of_decide_eq_true (by kernel_rfl)) k2 bel lt2) (trodAll_cons_mk (Below.trod laidOut (by kernel_rfl) (of_decide_eq_true (by kernel_rfl)) k3 bel lt3) (trodAll_cons_mk (Below.trod laidOut (by kernel_rfl) (of_decide_eq_true (by kernel_rfl)) k4 bel lt4) (trodAll_cons_mk (Below.trod laidOut (by kernel_rfl) (of_decide_eq_true (by kernel_rfl)) k5 bel lt5) trodAll_mk0)))))), rfl, bel.frame _, fun h => by cases h⟩

theorem fnCipherOutput_fact0 : (fun (P : Program) (f : FuncId) (fn : Func) (s : ChangeSpec) (c : OpenClaim) => (c.wf (OpenSpec.ofChange s) : Bool)) Try.prog 12 Try.f12 Rows.fnCipherOutputSpec Rows.fnCipherOutputRow = true := by kernel_rfl
theorem fnCipherOutput_fact1 : (fun (P : Program) (f : FuncId) (fn : Func) (s : ChangeSpec) (c : OpenClaim) => (laidOutB P : Bool)) Try.prog 12 Try.f12 Rows.fnCipherOutputSpec Rows.fnCipherOutputRow = true := prog_laid
theorem fnCipherOutput_fact2 : (fun (P : Program) (f : FuncId) (fn : Func) (s : ChangeSpec) (c : OpenClaim) => (mapsRowed P : Bool)) Try.prog 12 Try.f12 Rows.fnCipherOutputSpec Rows.fnCipherOutputRow = true := prog_maps
theorem fnCipherOutput_fact3 : (fun (P : Program) (f : FuncId) (fn : Func) (s : ChangeSpec) (c : OpenClaim) => (fn.params.all (P.readableRec ·) : Bool)) Try.prog 12 Try.f12 Rows.fnCipherOutputSpec Rows.fnCipherOutputRow = true := by kernel_rfl
theorem fnCipherOutput_fact4 : (fun (P : Program) (f : FuncId) (fn : Func) (s : ChangeSpec) (c : OpenClaim) => (namedTie P c.named s.vars : Bool)) Try.prog 12 Try.f12 Rows.fnCipherOutputSpec Rows.fnCipherOutputRow = true := by kernel_rfl
theorem fnCipherOutput_fact5 : (fun (P : Program) (f : FuncId) (fn : Func) (s : ChangeSpec) (c : OpenClaim) => ((c.stops == []) : Bool)) Try.prog 12 Try.f12 Rows.fnCipherOutputSpec Rows.fnCipherOutputRow = true := by kernel_rfl
theorem fnCipherOutput_fact6 : (fun (P : Program) (f : FuncId) (fn : Func) (s : ChangeSpec) (c : OpenClaim) => ((P.stops == []) : Bool)) Try.prog 12 Try.f12 Rows.fnCipherOutputSpec Rows.fnCipherOutputRow = true := prog_stops
theorem fnCipherOutput_fact7 : (fun (P : Program) (f : FuncId) (fn : Func) (s : ChangeSpec) (c : OpenClaim) => ((c.knobs == []) : Bool)) Try.prog 12 Try.f12 Rows.fnCipherOutputSpec Rows.fnCipherOutputRow = true := by kernel_rfl
theorem fnCipherOutput_fact8 : (fun (P : Program) (f : FuncId) (fn : Func) (s : ChangeSpec) (c : OpenClaim) => ((P.stopKnobs == []) : Bool)) Try.prog 12 Try.f12 Rows.fnCipherOutputSpec Rows.fnCipherOutputRow = true := prog_knobs
theorem fnCipherOutput_fact9 : (fun (P : Program) (f : FuncId) (fn : Func) (s : ChangeSpec) (c : OpenClaim) => ((c.inPlace == P.inPlace f) : Bool)) Try.prog 12 Try.f12 Rows.fnCipherOutputSpec Rows.fnCipherOutputRow = true := by kernel_rfl
theorem fnCipherOutput_fact10 : (fun (P : Program) (f : FuncId) (fn : Func) (s : ChangeSpec) (c : OpenClaim) => ((c.unfollowed == P.unfollowed f) : Bool)) Try.prog 12 Try.f12 Rows.fnCipherOutputSpec Rows.fnCipherOutputRow = true := by kernel_rfl
theorem fnCipherOutput_fact11 : (fun (P : Program) (f : FuncId) (fn : Func) (s : ChangeSpec) (c : OpenClaim) => ((c.recurses == P.recurses f) : Bool)) Try.prog 12 Try.f12 Rows.fnCipherOutputSpec Rows.fnCipherOutputRow = true := by kernel_rfl
theorem fnCipherOutput_fact12 : (fun (P : Program) (f : FuncId) (fn : Func) (s : ChangeSpec) (c : OpenClaim) => ((c.named == P.varsNamed f) : Bool)) Try.prog 12 Try.f12 Rows.fnCipherOutputSpec Rows.fnCipherOutputRow = true := by kernel_rfl
theorem fnCipherOutput_fact13 : (fun (P : Program) (f : FuncId) (fn : Func) (s : ChangeSpec) (c : OpenClaim) => ((c.maps == (fn.params.toList ++ s.plain.varTypes P).any (P.mapsRec ·)) : Bool)) Try.prog 12 Try.f12 Rows.fnCipherOutputSpec Rows.fnCipherOutputRow = true := by kernel_rfl
theorem fnCipherOutput_fact14 : (fun (P : Program) (f : FuncId) (fn : Func) (s : ChangeSpec) (c : OpenClaim) => ((c.ifaces == (fn.params.toList ++ s.plain.varTypes P).any (P.ifacesRec ·)) : Bool)) Try.prog 12 Try.f12 Rows.fnCipherOutputSpec Rows.fnCipherOutputRow = true := by kernel_rfl
theorem fnCipherOutput_fact15 : (fun (P : Program) (f : FuncId) (fn : Func) (s : ChangeSpec) (c : OpenClaim) => ((c.mapsOut == P.mapsAmong fn.resultTypes.toList) : Bool)) Try.prog 12 Try.f12 Rows.fnCipherOutputSpec Rows.fnCipherOutputRow = true := by kernel_rfl
theorem fnCipherOutput_fact16 : (fun (P : Program) (f : FuncId) (fn : Func) (s : ChangeSpec) (c : OpenClaim) => ((c.loops == (fn.params.toList ++ s.plain.varTypes P).any (P.loopsFrom ·)) : Bool)) Try.prog 12 Try.f12 Rows.fnCipherOutputSpec Rows.fnCipherOutputRow = true := by kernel_rfl
theorem fnCipherOutput_fact17 : (fun (P : Program) (f : FuncId) (fn : Func) (s : ChangeSpec) (c : OpenClaim) => ((c.wideKeys == (fn.params.toList ++ s.plain.varTypes P ++ fn.resultTypes.toList).any (P.wideKeysFrom ·)) : Bool)) Try.prog 12 Try.f12 Rows.fnCipherOutputSpec Rows.fnCipherOutputRow = true := by kernel_rfl
theorem fnCipherOutput_fact18 : (fun (P : Program) (f : FuncId) (fn : Func) (s : ChangeSpec) (c : OpenClaim) => (s.vars.all (P.varReadable ·) : Bool)) Try.prog 12 Try.f12 Rows.fnCipherOutputSpec Rows.fnCipherOutputRow = true := by kernel_rfl
theorem fnCipherOutput_fact19 : (fun (P : Program) (f : FuncId) (fn : Func) (s : ChangeSpec) (c : OpenClaim) => (fn.resultTypes.all (fun t => P.readableRec t && decide (t < P.types.size)) : Bool)) Try.prog 12 Try.f12 Rows.fnCipherOutputSpec Rows.fnCipherOutputRow = true := by kernel_rfl
theorem fnCipherOutput_fact20 : (fun (P : Program) (f : FuncId) (fn : Func) (s : ChangeSpec) (c : OpenClaim) => ((c.ifacesOut == fn.resultTypes.toList.any (P.ifacesRec ·)) : Bool)) Try.prog 12 Try.f12 Rows.fnCipherOutputSpec Rows.fnCipherOutputRow = true := by kernel_rfl
theorem fnCipherOutput_fact21 : (fun (P : Program) (f : FuncId) (fn : Func) (s : ChangeSpec) (c : OpenClaim) => ((c.loopsOut == fn.resultTypes.toList.any (P.loopsFrom ·)) : Bool)) Try.prog 12 Try.f12 Rows.fnCipherOutputSpec Rows.fnCipherOutputRow = true := by kernel_rfl
theorem fnCipherOutput_fact22 : (fun (P : Program) (f : FuncId) (fn : Func) (s : ChangeSpec) (c : OpenClaim) => ((c.plainKeys == P.plainKeys) : Bool)) Try.prog 12 Try.f12 Rows.fnCipherOutputSpec Rows.fnCipherOutputRow = true := prog_keys
theorem fnCipherOutput_fact23 : (fun (P : Program) (f : FuncId) (fn : Func) (s : ChangeSpec) (c : OpenClaim) => (c.shortTexts.isNone : Bool)) Try.prog 12 Try.f12 Rows.fnCipherOutputSpec Rows.fnCipherOutputRow = true := by kernel_rfl
theorem fnCipherOutput_fact24 : (fun (P : Program) (f : FuncId) (fn : Func) (s : ChangeSpec) (c : OpenClaim) => (P.stopsHeard : Bool)) Try.prog 12 Try.f12 Rows.fnCipherOutputSpec Rows.fnCipherOutputRow = true := prog_heard
theorem fnCipherOutput_fact25 : (fun (P : Program) (f : FuncId) (fn : Func) (s : ChangeSpec) (c : OpenClaim) => (P.mayEnter : Bool)) Try.prog 12 Try.f12 Rows.fnCipherOutputSpec Rows.fnCipherOutputRow = true := prog_enter
theorem fnCipherOutput_fact26 : (fun (P : Program) (f : FuncId) (fn : Func) (s : ChangeSpec) (c : OpenClaim) => ((c.lifted == P.liftsFinal) : Bool)) Try.prog 12 Try.f12 Rows.fnCipherOutputSpec Rows.fnCipherOutputRow = true := prog_lifts
theorem fnCipherOutput_fact27 : (fun (P : Program) (f : FuncId) (fn : Func) (s : ChangeSpec) (c : OpenClaim) => ((P.make == some c.make) : Bool)) Try.prog 12 Try.f12 Rows.fnCipherOutputSpec Rows.fnCipherOutputRow = true := prog_make
theorem fnCipherOutput_fact28 : (fun (P : Program) (f : FuncId) (fn : Func) (s : ChangeSpec) (c : OpenClaim) => ((c.kinds == (if c.domain.isEmpty then [] else fn.params.toList.map fun t => match P.underlying t with | some (.int k) => some k | _ => none)) : Bool)) Try.prog 12 Try.f12 Rows.fnCipherOutputSpec Rows.fnCipherOutputRow = true := by kernel_rfl
theorem fnCipherOutput_fact29 : (fun (P : Program) (f : FuncId) (fn : Func) (s : ChangeSpec) (c : OpenClaim) => ((c.pinned == c.pinnedBy) : Bool)) Try.prog 12 Try.f12 Rows.fnCipherOutputSpec Rows.fnCipherOutputRow = true := by kernel_rfl
theorem fnCipherOutput_fact30 : (fun (P : Program) (f : FuncId) (fn : Func) (s : ChangeSpec) (c : OpenClaim) => ((c.veiled == (fn.params.toList ++ s.plain.varTypes P ++ fn.resultTypes.toList).any (P.veiledRec ·)) : Bool)) Try.prog 12 Try.f12 Rows.fnCipherOutputSpec Rows.fnCipherOutputRow = true := by kernel_rfl
theorem fnCipherOutput_fact31 : (fun (P : Program) (f : FuncId) (fn : Func) (s : ChangeSpec) (c : OpenClaim) => (c.veiledFits P fn.params.toList (fn.params.toList ++ s.plain.varTypes P ++ fn.resultTypes.toList) : Bool)) Try.prog 12 Try.f12 Rows.fnCipherOutputSpec Rows.fnCipherOutputRow = true := by kernel_rfl
set_option maxRecDepth 100000 in
theorem fnCipherOutput_facts : joinedFacts Try.prog 12 Try.f12 Rows.fnCipherOutputSpec Rows.fnCipherOutputRow = true := and_mk (and_mk (and_mk (and_mk (and_mk (and_mk (and_mk (and_mk (and_mk (and_mk (and_mk (and_mk (and_mk (and_mk (and_mk (and_mk (and_mk (and_mk (and_mk (and_mk (and_mk (and_mk (and_mk (and_mk (and_mk (and_mk (and_mk (and_mk (and_mk (and_mk (and_mk (fnCipherOutput_fact0) fnCipherOutput_fact1) fnCipherOutput_fact2) fnCipherOutput_fact3) fnCipherOutput_fact4) fnCipherOutput_fact5) fnCipherOutput_fact6) fnCipherOutput_fact7) fnCipherOutput_fact8) fnCipherOutput_fact9) fnCipherOutput_fact10) fnCipherOutput_fact11) fnCipherOutput_fact12) fnCipherOutput_fact13) fnCipherOutput_fact14) fnCipherOutput_fact15) fnCipherOutput_fact16) fnCipherOutput_fact17) fnCipherOutput_fact18) fnCipherOutput_fact19) fnCipherOutput_fact20) fnCipherOutput_fact21) fnCipherOutput_fact22) fnCipherOutput_fact23) fnCipherOutput_fact24) fnCipherOutput_fact25) fnCipherOutput_fact26) fnCipherOutput_fact27) fnCipherOutput_fact28) fnCipherOutput_fact29) fnCipherOutput_fact30) fnCipherOutput_fact31

set_option maxRecDepth 100000 in
theorem fnCipherOutput_lifted (os : Os) (started : os.Started) (H : Type) (enc : TypeId × Value → H) :
    ReturnsInHanded {} Try.checked os 12 .any (Rows.fnCipherOutputSpec.pre6 enc Try.prog Try.f12 Rows.fnCipherOutputRow.domain false) (Rows.fnCipherOutputSpec.post enc Try.prog Try.f12 false true false false) := by
  refine returnsInHanded_of_change_sized (C := Try.checked) ownK started (by kernel_rfl) Try.func12
    (ChangeSpec.witness6 (enc := enc) (C := Try.checked) false ⟨#[], #[.int .i64 0, .slice none 0 0, .slice none 0 0, .slice none 0 0, .slice none 0 0, .slice none 0 0], []⟩ 8 (by kernel_rfl) (by kernel_rfl) (by kernel_rfl) (by kernel_rfl)) ?_
  intro W base args ds gs before hval hW _ hsz _
  exact fnCipherOutput_contract H enc W base args ds gs before hval hW hsz

set_option maxRecDepth 100000 in
theorem fnCipherOutput_proved : Rows.FnCipherOutputSaid :=
  OpenClaim.holds_of_wide 12 Try.f12 rfl rfl rfl rfl rfl rfl rfl ⟨rfl, rfl, rfl, rfl, rfl⟩ rfl rfl rfl rfl rfl (by kernel_rfl) Try.func12 fnCipherOutput_facts
    (of_decide_eq_true (by kernel_rfl)) (by unfold Func.isWrapper; first | (rw [if_pos (by decide +kernel)]; kernel_rfl) | (rw [if_neg (by decide +kernel)]; exact ⟨rfl, rfl⟩))
    (fun os started H enc _ => fnCipherOutput_lifted os started H enc)

end Go.Proofs.Ythemhpefcfdcaaa
