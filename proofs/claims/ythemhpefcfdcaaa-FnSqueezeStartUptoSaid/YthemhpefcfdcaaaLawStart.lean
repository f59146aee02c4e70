/- For every input of bulk at most 1048576: what fewer reads give is the beginning of what they and further ones give (FnSqueezeStart returns true); no other condition. -/
import Derived.Test.YthemhpefcfdcaaaArgs
import Derived.Test.YthemhpefcfdcaaaFacts
namespace Go.Proofs.Ythemhpefcfdcaaa
open Go.RowKit Go.Deep
open Go.ChangeShapes Go.WideShapes Go.ChangeAt
set_option linter.unusedVariables false

theorem Below.eqvN {B : Nat} {a w : World} (h : Below B a w) (k : Nat) : Below B a (w.drewN k) := h.trans ⟨rfl, rfl, rfl, Nat.le_refl _, fun _ _ => rfl⟩
theorem Rows2.take {B : Nat} {w : World} {a : Option Addr} {cap : Nat} {ls : List (List UInt8)} (ha : Rows2 B w a cap ls) (k : Nat) : Rows2 B w a cap (ls.take k) := by
  obtain ⟨h1, h2, h3⟩ := ha
  refine ⟨by simp; omega, h2, ?_⟩
  rcases h3 with h3 | ⟨pb, po, e, hb, hl⟩
  · exact .inl (by rw [h3]; simp)
  · refine .inr ⟨pb, po, e, hb, fun i l hi => hl i l ?_⟩
    rw [List.getElem?_take] at hi
    split at hi
    · exact hi
    · cases hi

set_option maxRecDepth 100000 in
set_option maxHeartbeats 2000000 in
theorem fnSqueezeStart_walk (w : World) (kind : Int) (aN aS aW aR aM : Option Addr) (cN cS cW cR cM n m p r q : Nat) (N S : List UInt8) (ls : List (List UInt8)) (zs ms : List Int)
    (hn : N.length = n) (hm : S.length = m) (hp : ls.length = p) (hr : zs.length = r) (hq : ms.length = q) (hN : Bs w.heap.size w aN cN N) (hS : Bs w.heap.size w aS cS S) (hW : Rows2 w.heap.size w aW cW ls) (hR : Ints w.heap.size w aR cR zs) (hM : Ints w.heap.size w aM cM ms)
    (hnb : n ≤ 140737488355328) (hmb : m ≤ 140737488355328) (hsum : 18 + n + m ≤ 281474976710656) (hrb : (r + q) * 24 ≤ 140737488355328) :
    Calls Try.prog 5 #[.int .i64 kind, .slice aN n cN, .slice aS m cS, .slice aW p cW, .slice aR r cR, .slice aM q cM] w fun e w' => e = .returned (.bool true) ∧ Below w.heap.size w w' := by
  have HC := Lib.hid (squeeze_any w kind aN aS aW aR cN cS cW cR n m p r N S ls zs hn hm hp hr hN hS hW hR hnb hmb hsum (by omega))
  have hrm : r + q ≤ 9223372036854775807 := by omega
  have HR' := Lib.hid hr
  have HQ' := Lib.hid hq
  go_enter Try.func5, Try.ntmps5
  go_wp2_with fail
  refine HC.out.mono ?_
  rintro e w1 ⟨f1, fc1, rfl, hf1, bl1⟩
  have s1 := bl1.size
  -- append(append([]int{}, reads...), more...)
  have bl2 : Below w.heap.size w (w1.alloc (.cells #[] 3)) := bl1.alloc s1 _
  have bb2 : Below w1.heap.size w1 (w1.alloc (.cells #[] 3)) := (Below.refl _ _).alloc (Nat.le_refl _) _
  have own2 := own_empty w1 3 w1.heap.size (Nat.le_refl _)
  obtain ⟨a3, c3, w3, hap3, own3, gr3⟩ := app_own (w1.alloc (.cells #[] 3)) w1.heap.size 24 3 (.int .i64 0) 8 Try.underlying24 info3 rfl _ 0 0 [] own2 (by simp) aR r cR (zs.map (Value.int .i64)) (by simpa using hr) (hR.keep bl2).src (ints_one _) (by omega) (by omega) 24
  have bb3 : Below w1.heap.size w1 w3 := bb2.grown gr3 (by simp) fun k hk => (own2.lt k hk).1
  have bl3 : Below w.heap.size w w3 := bl1.trans (bb3.mono s1)
  obtain ⟨a4, c4, w4, hap4, own4, gr4⟩ := app_own w3 w1.heap.size 24 3 (.int .i64 0) 8 Try.underlying24 info3 rfl a3 (0 + r) c3 _ own3 bb3.size aM q cM (ms.map (Value.int .i64)) (by simpa using hq) (hM.keep bl3).src (ints_one _) (by omega) (by omega) 24
  have bb4 : Below w1.heap.size w1 w4 := bb3.grown gr4 bb3.size fun k hk => (own3.lt k hk).1
  have bl4 : Below w.heap.size w w4 := bl1.trans (bb4.mono s1)
  rw [Nat.zero_add] at hap3 hap4 own4
  have own4' : w4.ownsRow w1.heap.size 3 1 (.slice a4 (r + q) c4) (r + q) ((zs ++ ms).map (Value.int .i64)) := by simpa using own4
  obtain ⟨hl4, hI4⟩ := Ints.of_own own4'
  have s4 := bl4.size
  have hz4 : w.heap.size ≤ w4.heap.size := s4
  have HC2 := Lib.hid (squeeze_any w4 kind aN aS aW a4 cN cS cW c4 n m p (r + q) N S ls (zs ++ ms) hn hm hp hl4 ((hN.keep bl4).mono s4) ((hS.keep bl4).mono s4) ((hW.keep bl4).mono s4) hI4 hnb hmb hsum (by omega))
  have HAP3 := Lib.hid hap3
  have HAP4 := Lib.hid hap4
  clear hap3 hap4 own2 own3 own4 own4' gr3 gr4 hI4 hl4 bl2 bb2 bb3 bl3 hn hm hp hr hq hN hS hW hR hM
  go_wp2_with (first | (refine wpList_appendR rfl _ _ _ rfl _ _ rfl rfl _ _ HAP3.out ?_; clear HAP3) | (refine wpList_appendR rfl _ _ _ rfl _ _ rfl rfl _ _ HAP4.out ?_; clear HAP4))
  refine HC2.out.mono ?_
  rintro e w5 ⟨f5, fc5, rfl, hf5, bl5⟩
  have bb5 : Below w1.heap.size w1 w5 := bb4.trans (bl5.mono bb4.size)
  have bl5' : Below w.heap.size w w5 := bl1.trans (bb5.mono s1)
  have e5 : (outs (zs ++ ms) ((start kind N S).absorb ls.flatten)).take r = outs zs ((start kind N S).absorb ls.flatten) := by
    rw [outs_append, List.take_append_of_le_length (by rw [outs_len, HR'.out]; exact Nat.le_refl _), List.take_of_length_le (by rw [outs_len, HR'.out]; exact Nat.le_refl _)]
  have hf5' := hf5.take r
  rw [e5] at hf5'
  have hfc : r + q ≤ fc5 := by
    have := hf5.1
    rw [outs_len, List.length_append, HR'.out, HQ'.out] at this
    exact this
  have HC5 := Lib.hid (sameParts_any w5 w5.heap.size f1 f5 fc1 fc5 r r _ (by rw [outs_len, HR'.out]) (by rw [outs_len, HR'.out]) ((hf1.keep bb5).mono bb5.size) hf5')
  have k1 : ((r : Int) + (q : Int) == (r : Int) + (q : Int)) = true := by simp
  have k2 : r ≤ fc5 := by omega
  have k3 : (r : Int) ≤ (fc5 : Int) := by omega
  clear e5 hf5 hf5' hf1
  go_wp2_with fail
  refine HC5.out.mono ?_
  rintro e w6 ⟨rfl, k, rfl⟩
  go_wp2_with fail
  go_ret
  exact ⟨rfl, Below.eqvN bl5' k⟩
theorem fnSqueezeStart_contract (H : Type) (enc : TypeId × Value → H) (W : World) (base : Nat) (args : Array Value) (ds gs : List (DataW H)) (before : List MemPlace)
    (hval : ∀ (j : Nat) t v, Try.f5.params[j]? = some t → args[j]? = some v → Value.okWide Try.prog W .any base t v)
    (hW : DataW.Whole enc Try.prog Try.f5.params.toList Rows.fnSqueezeStartSpec.vars false W args.toList ds gs before)
    (hk : Rows.uptoSmall H (ds ++ gs) = true) :
    Calls Try.prog 5 args W fun e W' => ∃ v, e = .returned v ∧ Rows.fnSqueezeStartSpec.post enc Try.prog Try.f5 false true false false W args v W' := by
  have hW' := hW
  obtain ⟨p, q, hA0, hV, rfl, hfz, hnd⟩ := hW
  have hA : DataW.TrodAll enc Try.prog W 0 (fun _ => true) true Try.f5.params.toList args.toList ds p := hA0
  rw [Try.params5] at hA hval
  obtain ⟨v0, vs0, d0, ds0, p0, q0, hargs, rfl, rfl, h0, r0⟩ := trodAll_cons hA
  obtain ⟨v1, vs1, d1, ds1, p1, q1, rfl, rfl, rfl, h1, r1⟩ := trodAll_cons r0
  obtain ⟨v2, vs2, d2, ds2, p2, q2, rfl, rfl, rfl, h2, r2⟩ := trodAll_cons r1
  obtain ⟨v3, vs3, d3, ds3, p3, q3, rfl, rfl, rfl, h3, r3⟩ := trodAll_cons r2
  obtain ⟨v4, vs4, d4, ds4, p4, q4, rfl, rfl, rfl, h4, r4⟩ := trodAll_cons r3
  obtain ⟨v5, vs5, d5, ds5, p5, q5, rfl, rfl, rfl, h5, r5⟩ := trodAll_cons r4
  obtain ⟨rfl, rfl, rfl⟩ := trodAll_nil r5
  obtain rfl : args = #[v0, v1, v2, v3, v4, v5] := by cases args; simp_all
  obtain ⟨rfl, rfl⟩ := trodVars_none hV
  obtain ⟨x0, rfl, rfl, rfl, wx0⟩ := open_int Try.underlying3 (hval 0 3 v0 rfl rfl) h0
  obtain ⟨a1, len1, cap1, rfl⟩ := okWide_slice Try.underlying22 (hval 1 22 v1 rfl rfl)
  have k1 := h1
  have lt1 : ∀ x ∈ p1, x.block < W.heap.size := by obtain ⟨m, hm⟩ := k1; exact DataW.trod_lt m _ _ _ hm
  obtain ⟨fu1, hf1⟩ := h1
  obtain ⟨l1, el1, b1, u1⟩ := openBs (by simpa [Value.cells] using hf1)
  obtain ⟨a2, len2, cap2, rfl⟩ := okWide_slice Try.underlying22 (hval 2 22 v2 rfl rfl)
  have k2 := h2
  have lt2 : ∀ x ∈ p2, x.block < W.heap.size := by obtain ⟨m, hm⟩ := k2; exact DataW.trod_lt m _ _ _ hm
  obtain ⟨fu2, hf2⟩ := h2
  obtain ⟨l2, el2, b2, u2⟩ := openBs (by simpa [Value.cells] using hf2)
  obtain ⟨a3, len3, cap3, rfl⟩ := okWide_slice Try.underlying23 (hval 3 23 v3 rfl rfl)
  have k3 := h3
  have lt3 : ∀ x ∈ p3, x.block < W.heap.size := by obtain ⟨m, hm⟩ := k3; exact DataW.trod_lt m _ _ _ hm
  obtain ⟨fu3, hf3⟩ := h3
  obtain ⟨l3, el3, b3, u3, uu3⟩ := openRows (by simpa [Value.cells] using hf3)
  obtain ⟨a4, len4, cap4, rfl⟩ := okWide_slice Try.underlying24 (hval 4 24 v4 rfl rfl)
  have k4 := h4
  have lt4 : ∀ x ∈ p4, x.block < W.heap.size := by obtain ⟨m, hm⟩ := k4; exact DataW.trod_lt m _ _ _ hm
  obtain ⟨fu4, hf4⟩ := h4
  obtain ⟨l4, el4, b4, u4, uu4⟩ := openInts (by simpa [Value.cells] using hf4)
  obtain ⟨a5, len5, cap5, rfl⟩ := okWide_slice Try.underlying24 (hval 5 24 v5 rfl rfl)
  have k5 := h5
  have lt5 : ∀ x ∈ p5, x.block < W.heap.size := by obtain ⟨m, hm⟩ := k5; exact DataW.trod_lt m _ _ _ hm
  obtain ⟨fu5, hf5⟩ := h5
  obtain ⟨l5, el5, b5, u5, uu5⟩ := openInts (by simpa [Value.cells] using hf5)
  have hb := bulk_bound hk
  simp only [List.append_nil, Rows.uptoBulkAll] at hb
  clear hA0
  refine (fnSqueezeStart_walk W x0 a1 a2 a3 a4 a5 cap1 cap2 cap3 cap4 cap5 len1 len2 len3 len4 len5 l1 l2 l3 l4 l5 el1 el2 el3 el4 el5 b1 b2 b3 b4 b5 (by omega) (by omega) (by omega) (by omega)).mono fun e W' ⟨he, bel⟩ => ?_
  subst he
  exact ⟨_, rfl, _, _, _, [], _, [], hW', trodAll_mk1 (shut_bool Try.underlying4 _), (trodAll_cons_mk (shut_int Try.underlying3 wx0) (trodAll_cons_mk (Below.trod laidOut (by kernel_rfl) (of_decide_eq_true (by kernel_rfl)) k1 bel lt1) (trodAll_cons_mk (Below.trod laidOut (by kernel_rfl) (of_decide_eq_true (by kernel_rfl)) k2 bel lt2) (trodAll_cons_mk (Below.trod laidOut (by kernel_rfl) (of_decide_eq_true (by kernel_rfl)) k3 bel lt3) (trodAll_cons_mk (Below.trod laidOut (by kernel_rfl) (of_decide_eq_true (by kernel_rfl)) k4 bel lt4) (trodAll_cons_mk (Below.trod laidOut (by kernel_rfl) (of_decide_eq_true (by kernel_rfl)) k5 bel lt5) trodAll_mk0)))))), rfl, bel.frame _, fun h => by cases h⟩

theorem fnSqueezeStart_fact0 : (fun (P : Program) (f : FuncId) (fn : Func) (s : ChangeSpec) (c : OpenClaim) => (c.wf (OpenSpec.ofChange s) : Bool)) Try.prog 5 Try.f5 Rows.fnSqueezeStartSpec Rows.fnSqueezeStartUptoRow = true := by kernel_rfl
theorem fnSqueezeStart_fact1 : (fun (P : Program) (f : FuncId) (fn : Func) (s : ChangeSpec) (c : OpenClaim) => (laidOutB P : Bool)) Try.prog 5 Try.f5 Rows.fnSqueezeStartSpec Rows.fnSqueezeStartUptoRow = true := prog_laid
theorem fnSqueezeStart_fact2 : (fun (P : Program) (f : FuncId) (fn : Func) (s : ChangeSpec) (c : OpenClaim) => (mapsRowed P : Bool)) Try.prog 5 Try.f5 Rows.fnSqueezeStartSpec Rows.fnSqueezeStartUptoRow = true := prog_maps
theorem fnSqueezeStart_fact3 : (fun (P : Program) (f : FuncId) (fn : Func) (s : ChangeSpec) (c : OpenClaim) => (fn.params.all (P.readableRec ·) : Bool)) Try.prog 5 Try.f5 Rows.fnSqueezeStartSpec Rows.fnSqueezeStartUptoRow = true := by kernel_rfl
theorem fnSqueezeStart_fact4 : (fun (P : Program) (f : FuncId) (fn : Func) (s : ChangeSpec) (c : OpenClaim) => (namedTie P c.named s.vars : Bool)) Try.prog 5 Try.f5 Rows.fnSqueezeStartSpec Rows.fnSqueezeStartUptoRow = true := by kernel_rfl
theorem fnSqueezeStart_fact5 : (fun (P : Program) (f : FuncId) (fn : Func) (s : ChangeSpec) (c : OpenClaim) => ((c.stops == []) : Bool)) Try.prog 5 Try.f5 Rows.fnSqueezeStartSpec Rows.fnSqueezeStartUptoRow = true := by kernel_rfl
theorem fnSqueezeStart_fact6 : (fun (P : Program) (f : FuncId) (fn : Func) (s : ChangeSpec) (c : OpenClaim) => ((P.stops == []) : Bool)) Try.prog 5 Try.f5 Rows.fnSqueezeStartSpec Rows.fnSqueezeStartUptoRow = true := prog_stops
theorem fnSqueezeStart_fact7 : (fun (P : Program) (f : FuncId) (fn : Func) (s : ChangeSpec) (c : OpenClaim) => ((c.knobs == []) : Bool)) Try.prog 5 Try.f5 Rows.fnSqueezeStartSpec Rows.fnSqueezeStartUptoRow = true := by kernel_rfl
theorem fnSqueezeStart_fact8 : (fun (P : Program) (f : FuncId) (fn : Func) (s : ChangeSpec) (c : OpenClaim) => ((P.stopKnobs == []) : Bool)) Try.prog 5 Try.f5 Rows.fnSqueezeStartSpec Rows.fnSqueezeStartUptoRow = true := prog_knobs
theorem fnSqueezeStart_fact9 : (fun (P : Program) (f : FuncId) (fn : Func) (s : ChangeSpec) (c : OpenClaim) => ((c.inPlace == P.inPlace f) : Bool)) Try.prog 5 Try.f5 Rows.fnSqueezeStartSpec Rows.fnSqueezeStartUptoRow = true := by kernel_rfl
theorem fnSqueezeStart_fact10 : (fun (P : Program) (f : FuncId) (fn : Func) (s : ChangeSpec) (c : OpenClaim) => ((c.unfollowed == P.unfollowed f) : Bool)) Try.prog 5 Try.f5 Rows.fnSqueezeStartSpec Rows.fnSqueezeStartUptoRow = true := by kernel_rfl
theorem fnSqueezeStart_fact11 : (fun (P : Program) (f : FuncId) (fn : Func) (s : ChangeSpec) (c : OpenClaim) => ((c.recurses == P.recurses f) : Bool)) Try.prog 5 Try.f5 Rows.fnSqueezeStartSpec Rows.fnSqueezeStartUptoRow = true := by kernel_rfl
theorem fnSqueezeStart_fact12 : (fun (P : Program) (f : FuncId) (fn : Func) (s : ChangeSpec) (c : OpenClaim) => ((c.named == P.varsNamed f) : Bool)) Try.prog 5 Try.f5 Rows.fnSqueezeStartSpec Rows.fnSqueezeStartUptoRow = true := by kernel_rfl
theorem fnSqueezeStart_fact13 : (fun (P : Program) (f : FuncId) (fn : Func) (s : ChangeSpec) (c : OpenClaim) => ((c.maps == (fn.params.toList ++ s.plain.varTypes P).any (P.mapsRec ·)) : Bool)) Try.prog 5 Try.f5 Rows.fnSqueezeStartSpec Rows.fnSqueezeStartUptoRow = true := by kernel_rfl
theorem fnSqueezeStart_fact14 : (fun (P : Program) (f : FuncId) (fn : Func) (s : ChangeSpec) (c : OpenClaim) => ((c.ifaces == (fn.params.toList ++ s.plain.varTypes P).any (P.ifacesRec ·)) : Bool)) Try.prog 5 Try.f5 Rows.fnSqueezeStartSpec Rows.fnSqueezeStartUptoRow = true := by kernel_rfl
theorem fnSqueezeStart_fact15 : (fun (P : Program) (f : FuncId) (fn : Func) (s : ChangeSpec) (c : OpenClaim) => ((c.mapsOut == P.mapsAmong fn.resultTypes.toList) : Bool)) Try.prog 5 Try.f5 Rows.fnSqueezeStartSpec Rows.fnSqueezeStartUptoRow = true := by kernel_rfl
theorem fnSqueezeStart_fact16 : (fun (P : Program) (f : FuncId) (fn : Func) (s : ChangeSpec) (c : OpenClaim) => ((c.loops == (fn.params.toList ++ s.plain.varTypes P).any (P.loopsFrom ·)) : Bool)) Try.prog 5 Try.f5 Rows.fnSqueezeStartSpec Rows.fnSqueezeStartUptoRow = true := by kernel_rfl
theorem fnSqueezeStart_fact17 : (fun (P : Program) (f : FuncId) (fn : Func) (s : ChangeSpec) (c : OpenClaim) => ((c.wideKeys == (fn.params.toList ++ s.plain.varTypes P ++ fn.resultTypes.toList).any (P.wideKeysFrom ·)) : Bool)) Try.prog 5 Try.f5 Rows.fnSqueezeStartSpec Rows.fnSqueezeStartUptoRow = true := by kernel_rfl
theorem fnSqueezeStart_fact18 : (fun (P : Program) (f : FuncId) (fn : Func) (s : ChangeSpec) (c : OpenClaim) => (s.vars.all (P.varReadable ·) : Bool)) Try.prog 5 Try.f5 Rows.fnSqueezeStartSpec Rows.fnSqueezeStartUptoRow = true := by kernel_rfl
theorem fnSqueezeStart_fact19 : (fun (P : Program) (f : FuncId) (fn : Func) (s : ChangeSpec) (c : OpenClaim) => (fn.resultTypes.all (fun t => P.readableRec t && decide (t < P.types.size)) : Bool)) Try.prog 5 Try.f5 Rows.fnSqueezeStartSpec Rows.fnSqueezeStartUptoRow = true := by kernel_rfl
theorem fnSqueezeStart_fact20 : (fun (P : Program) (f : FuncId) (fn : Func) (s : ChangeSpec) (c : OpenClaim) => ((c.ifacesOut == fn.resultTypes.toList.any (P.ifacesRec ·)) : Bool)) Try.prog 5 Try.f5 Rows.fnSqueezeStartSpec Rows.fnSqueezeStartUptoRow = true := by kernel_rfl
theorem fnSqueezeStart_fact21 : (fun (P : Program) (f : FuncId) (fn : Func) (s : ChangeSpec) (c : OpenClaim) => ((c.loopsOut == fn.resultTypes.toList.any (P.loopsFrom ·)) : Bool)) Try.prog 5 Try.f5 Rows.fnSqueezeStartSpec Rows.fnSqueezeStartUptoRow = true := by kernel_rfl
theorem fnSqueezeStart_fact22 : (fun (P : Program) (f : FuncId) (fn : Func) (s : ChangeSpec) (c : OpenClaim) => ((c.plainKeys == P.plainKeys) : Bool)) Try.prog 5 Try.f5 Rows.fnSqueezeStartSpec Rows.fnSqueezeStartUptoRow = true := prog_keys
theorem fnSqueezeStart_fact23 : (fun (P : Program) (f : FuncId) (fn : Func) (s : ChangeSpec) (c : OpenClaim) => (c.shortTexts.isNone : Bool)) Try.prog 5 Try.f5 Rows.fnSqueezeStartSpec Rows.fnSqueezeStartUptoRow = true := by kernel_rfl
theorem fnSqueezeStart_fact24 : (fun (P : Program) (f : FuncId) (fn : Func) (s : ChangeSpec) (c : OpenClaim) => (P.stopsHeard : Bool)) Try.prog 5 Try.f5 Rows.fnSqueezeStartSpec Rows.fnSqueezeStartUptoRow = true := prog_heard
theorem fnSqueezeStart_fact25 : (fun (P : Program) (f : FuncId) (fn : Func) (s : ChangeSpec) (c : OpenClaim) => (P.mayEnter : Bool)) Try.prog 5 Try.f5 Rows.fnSqueezeStartSpec Rows.fnSqueezeStartUptoRow = true := prog_enter
theorem fnSqueezeStart_fact26 : (fun (P : Program) (f : FuncId) (fn : Func) (s : ChangeSpec) (c : OpenClaim) => ((c.lifted == P.liftsFinal) : Bool)) Try.prog 5 Try.f5 Rows.fnSqueezeStartSpec Rows.fnSqueezeStartUptoRow = true := prog_lifts
theorem fnSqueezeStart_fact27 : (fun (P : Program) (f : FuncId) (fn : Func) (s : ChangeSpec) (c : OpenClaim) => ((P.make == some c.make) : Bool)) Try.prog 5 Try.f5 Rows.fnSqueezeStartSpec Rows.fnSqueezeStartUptoRow = true := prog_make
theorem fnSqueezeStart_fact28 : (fun (P : Program) (f : FuncId) (fn : Func) (s : ChangeSpec) (c : OpenClaim) => ((c.kinds == (if c.domain.isEmpty then [] else fn.params.toList.map fun t => match P.underlying t with | some (.int k) => some k | _ => none)) : Bool)) Try.prog 5 Try.f5 Rows.fnSqueezeStartSpec Rows.fnSqueezeStartUptoRow = true := by kernel_rfl
theorem fnSqueezeStart_fact29 : (fun (P : Program) (f : FuncId) (fn : Func) (s : ChangeSpec) (c : OpenClaim) => ((c.pinned == c.pinnedBy) : Bool)) Try.prog 5 Try.f5 Rows.fnSqueezeStartSpec Rows.fnSqueezeStartUptoRow = true := by kernel_rfl
theorem fnSqueezeStart_fact30 : (fun (P : Program) (f : FuncId) (fn : Func) (s : ChangeSpec) (c : OpenClaim) => ((c.veiled == (fn.params.toList ++ s.plain.varTypes P ++ fn.resultTypes.toList).any (P.veiledRec ·)) : Bool)) Try.prog 5 Try.f5 Rows.fnSqueezeStartSpec Rows.fnSqueezeStartUptoRow = true := by kernel_rfl
theorem fnSqueezeStart_fact31 : (fun (P : Program) (f : FuncId) (fn : Func) (s : ChangeSpec) (c : OpenClaim) => (c.veiledFits P fn.params.toList (fn.params.toList ++ s.plain.varTypes P ++ fn.resultTypes.toList) : Bool)) Try.prog 5 Try.f5 Rows.fnSqueezeStartSpec Rows.fnSqueezeStartUptoRow = true := by kernel_rfl
set_option maxRecDepth 100000 in
theorem fnSqueezeStart_facts : joinedFacts Try.prog 5 Try.f5 Rows.fnSqueezeStartSpec Rows.fnSqueezeStartUptoRow = true := and_mk (and_mk (and_mk (and_mk (and_mk (and_mk (and_mk (and_mk (and_mk (and_mk (and_mk (and_mk (and_mk (and_mk (and_mk (and_mk (and_mk (and_mk (and_mk (and_mk (and_mk (and_mk (and_mk (and_mk (and_mk (and_mk (and_mk (and_mk (and_mk (and_mk (and_mk (fnSqueezeStart_fact0) fnSqueezeStart_fact1) fnSqueezeStart_fact2) fnSqueezeStart_fact3) fnSqueezeStart_fact4) fnSqueezeStart_fact5) fnSqueezeStart_fact6) fnSqueezeStart_fact7) fnSqueezeStart_fact8) fnSqueezeStart_fact9) fnSqueezeStart_fact10) fnSqueezeStart_fact11) fnSqueezeStart_fact12) fnSqueezeStart_fact13) fnSqueezeStart_fact14) fnSqueezeStart_fact15) fnSqueezeStart_fact16) fnSqueezeStart_fact17) fnSqueezeStart_fact18) fnSqueezeStart_fact19) fnSqueezeStart_fact20) fnSqueezeStart_fact21) fnSqueezeStart_fact22) fnSqueezeStart_fact23) fnSqueezeStart_fact24) fnSqueezeStart_fact25) fnSqueezeStart_fact26) fnSqueezeStart_fact27) fnSqueezeStart_fact28) fnSqueezeStart_fact29) fnSqueezeStart_fact30) fnSqueezeStart_fact31

set_option maxRecDepth 100000 in
theorem fnSqueezeStart_lifted (os : Os) (started : os.Started) (H : Type) (enc : TypeId × Value → H) (F : Stop.Interp) :
    ReturnsInHanded {} Try.checked os 5 .any ((Rows.OpenSpec.upto Rows.fnSqueezeStartSpec).pre6 enc Try.prog Try.f5 Rows.fnSqueezeStartUptoRow.domain false) (((Rows.OpenSpec.upto Rows.fnSqueezeStartSpec).at F).post enc Try.prog Try.f5 false true false false) := by
  refine returnsInHanded_of_cond (C := Try.checked) (s := Rows.OpenSpec.upto Rows.fnSqueezeStartSpec) (k := Rows.uptoSmall) rfl ownK started (by kernel_rfl) Try.func5
    (OpenSpec.witness (enc := enc) (C := Try.checked) (s := Rows.OpenSpec.upto Rows.fnSqueezeStartSpec) (k := Rows.uptoSmall) rfl false ⟨#[], #[.int .i64 0, .slice none 0 0, .slice none 0 0, .slice none 0 0, .slice none 0 0, .slice none 0 0], []⟩ 8 (by kernel_rfl) (by kernel_rfl) (by kernel_rfl)
      (x := ([.lit (.int .i64 0), .nil, .nil, .nil, .nil, .nil], [], [])) (by kernel_rfl) rfl (by kernel_rfl)) ?_
  intro W base args ds gs before hval hW _ hk _
  exact fnSqueezeStart_contract H enc W base args ds gs before hval hW hk

set_option maxRecDepth 100000 in
theorem fnSqueezeStart_proved : Rows.FnSqueezeStartUptoSaid :=
  OpenClaim.holds_of_cond 5 Try.f5 rfl rfl rfl rfl rfl rfl rfl ⟨rfl, rfl, rfl, rfl, rfl⟩ rfl rfl rfl rfl rfl (by kernel_rfl) Try.func5 fnSqueezeStart_facts
    (of_decide_eq_true (by kernel_rfl)) (by unfold Func.isWrapper; first | (rw [if_pos (by decide +kernel)]; kernel_rfl) | (rw [if_neg (by decide +kernel)]; exact ⟨rfl, rfl⟩))
    (fun os started H enc _ F => fnSqueezeStart_lifted os started H enc F)

end Go.Proofs.Ythemhpefcfdcaaa
