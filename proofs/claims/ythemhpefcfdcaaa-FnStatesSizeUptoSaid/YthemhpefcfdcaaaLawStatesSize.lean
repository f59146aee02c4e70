/- For every input of bulk at most 1048576: all states of a script have one length (FnStatesSize returns true); no other condition. -/
import Derived.Test.YthemhpefcfdcaaaSts
import Derived.Test.YthemhpefcfdcaaaArgs
import Derived.Test.YthemhpefcfdcaaaFacts
namespace Go.Proofs.Ythemhpefcfdcaaa
open Go.RowKit Go.Deep
open Go.ChangeShapes Go.WideShapes Go.ChangeAt
set_option linter.unusedVariables false

theorem wsts_each (l : List UInt8) : ∀ (ds : List (List UInt8)) (s : Sp), s.Ok → s.sq = false → ∀ x ∈ wsts l ds s, x.length = 207 + l.length
  | [], _, _, _, x, h => by cases h
  | d :: ds, s, ok, sq, x, h => by
    have ok2 := ok.absorb sq d
    rcases List.mem_cons.1 h with rfl | h
    · rw [List.length_append, marsh_len _ ok2.1.len]
    · exact wsts_each l ds _ ok2.1 ok2.2 x h
theorem rsts_each (l : List UInt8) : ∀ (ns : List Int) (s : Sp), s.Ok → ∀ x ∈ rsts l ns s, x.length = 207 + l.length
  | [], _, _, x, h => by cases h
  | n :: ns, s, ok, x, h => by
    have ok2 := ok.read (rdLen n)
    rcases List.mem_cons.1 h with rfl | h
    · rw [List.length_append, marsh_len _ ok2.len]
    · exact rsts_each l ns _ ok2 x h

set_option maxRecDepth 100000 in
set_option maxHeartbeats 2000000 in
theorem fnStatesSize_walk (w : World) (kind : Int) (aN aS aW aR : Option Addr) (cN cS cW cR n m p r : Nat) (N S : List UInt8) (ls : List (List UInt8)) (zs : List Int)
    (hn : N.length = n) (hm : S.length = m) (hp : ls.length = p) (hr : zs.length = r) (hN : Bs w.heap.size w aN cN N) (hS : Bs w.heap.size w aS cS S) (hW : Rows2 w.heap.size w aW cW ls) (hR : Ints w.heap.size w aR cR zs)
    (hnb : n ≤ 1048576) (hmb : m ≤ 1048576) (hpb : p ≤ 1048576) (hrb : r ≤ 1048576) :
    Calls Try.prog 14 #[.int .i64 kind, .slice aN n cN, .slice aS m cS, .slice aW p cW, .slice aR r cR] w fun e w' => e = .returned (.bool true) ∧ Below w.heap.size w w' := by
  have HC := Lib.hid (states_any w kind aN aS aW aR cN cS cW cR n m p r N S ls zs hn hm hp hr hN hS hW hR (by omega) (by omega) (by omega) (by omega))
  obtain ⟨ok0, sq0, _⟩ := start_ok kind N S
  obtain ⟨D, hD⟩ : ∃ D, D = wsts (startIB kind N S) ls (start kind N S) ++ rsts (startIB kind N S) zs ((start kind N S).absorb ls.flatten) := ⟨_, rfl⟩
  obtain ⟨L, hL⟩ : ∃ L, L = 207 + (startIB kind N S).length := ⟨_, rfl⟩
  have hDl : D.length = p + r := by rw [hD, List.length_append, wsts_len, rsts_len, hp, hr]
  have hDe : ∀ x ∈ D, x.length = L := fun x hx => by
    rw [hD] at hx
    rw [hL]
    rcases List.mem_append.1 hx with h | h
    · exact wsts_each _ _ _ ok0 sq0 x h
    · exact rsts_each _ _ _ (ok0.absorb sq0 _).1 x h
  rw [← hD] at HC
  have HDL := Lib.hid hDl
  have HDE := Lib.hid hDe
  have L0 : 0 < L := by omega
  have b1 : ((L : Int) == 0) = false := by simp; omega
  have b2 : ((L : Int) != (L : Int)) = false := by simp
  have b3 : ((p : Int) + (r : Int) != (p : Int) + (r : Int)) = false := by simp
  clear hD hL hDl hDe hn hm hp hr hN hS hW hR
  go_enter Try.func14, Try.ntmps14
  go_wp2_with fail
  refine HC.out.mono ?_
  rintro e w1 ⟨f1, fc1, rfl, hf1, bl1⟩
  go_wp2_with fail
  go_loopw [30] (fun v wr => ∃ (i : Nat), v = .int .i64 (i : Int) ∧ i ≤ p + r ∧ wr = w1) (fun v _ => p + r - (intOf v).toNat)
  case atStart => exact ⟨0, rfl, Nat.zero_le _, rfl⟩
  case round =>
    obtain ⟨i, rfl, hi, rfl⟩ := hrel
    by_cases hlt : i < p + r
    · obtain ⟨x, hx⟩ : ∃ x, D[i]? = some x := ⟨D[i]'(by rw [HDL.out]; exact hlt), by simp⟩
      obtain ⟨y, hy⟩ : ∃ y, D[0]? = some y := ⟨D[0]'(by rw [HDL.out]; omega), by simp⟩
      obtain ⟨pb, po, va, vc, e1, _, c1, _⟩ := hf1.at hx
      obtain ⟨qb, qo, ua, uc, e2, _, c2, _⟩ := hf1.at hy
      rw [e1] at e2
      simp only [Option.some.injEq, Addr.mk.injEq, and_true] at e2
      obtain ⟨rfl, rfl⟩ := e2
      rw [HDE.out x (List.mem_of_getElem? hx)] at c1
      rw [HDE.out y (List.mem_of_getElem? hy), Nat.add_zero] at c2
      have i1 : (i : Int) < (p : Int) + (r : Int) := by omega
      have i2 : (0 : Int) < (p : Int) + (r : Int) := by omega
      have i3 : 0 < p + r := by omega
      clear hx hy
      subst e1
      go_wp2_with fail
      exact ⟨⟨i + 1, by go_num, hlt, trivial⟩, by simp [intOf]; omega⟩
    · have hir : i = p + r := by omega
      have i1 : ¬ (i : Int) < (p : Int) + (r : Int) := by omega
      go_wp2_with fail
      go_ret
      exact ⟨rfl, bl1⟩

theorem fnStatesSize_contract (H : Type) (enc : TypeId × Value → H) (W : World) (base : Nat) (args : Array Value) (ds gs : List (DataW H)) (before : List MemPlace)
    (hval : ∀ (j : Nat) t v, Try.f14.params[j]? = some t → args[j]? = some v → Value.okWide Try.prog W .any base t v)
    (hW : DataW.Whole enc Try.prog Try.f14.params.toList Rows.fnStatesSizeSpec.vars false W args.toList ds gs before)
    (hk : Rows.uptoSmall H (ds ++ gs) = true) :
    Calls Try.prog 14 args W fun e W' => ∃ v, e = .returned v ∧ Rows.fnStatesSizeSpec.post enc Try.prog Try.f14 false true false false W args v W' := by
  have hW' := hW
  obtain ⟨p, q, hA0, hV, rfl, hfz, hnd⟩ := hW
  have hA : DataW.TrodAll enc Try.prog W 0 (fun _ => true) true Try.f14.params.toList args.toList ds p := hA0
  rw [Try.params14] at hA hval
  obtain ⟨v0, vs0, d0, ds0, p0, q0, hargs, rfl, rfl, h0, r0⟩ := trodAll_cons hA
  obtain ⟨v1, vs1, d1, ds1, p1, q1, rfl, rfl, rfl, h1, r1⟩ := trodAll_cons r0
  obtain ⟨v2, vs2, d2, ds2, p2, q2, rfl, rfl, rfl, h2, r2⟩ := trodAll_cons r1
  obtain ⟨v3, vs3, d3, ds3, p3, q3, rfl, rfl, rfl, h3, r3⟩ := trodAll_cons r2
  obtain ⟨v4, vs4, d4, ds4, p4, q4, rfl, rfl, rfl, h4, r4⟩ := trodAll_cons r3
  obtain ⟨rfl, rfl, rfl⟩ := trodAll_nil r4
  obtain rfl : args = #[v0, v1, v2, v3, v4] := by cases args; simp_all
  obtain ⟨rfl, rfl⟩ := trodVars_none hV
  obtain ⟨x0, rfl, rfl, rfl, wx0⟩ := open_int Try.underlying3 (hval 0 3 v0 rfl rfl) h0
  obtain ⟨a1, len1, cap1, rfl⟩ := okWide_slice Try.underlying22 (hval 1 22 v1 rfl rfl)
  have k1 := h1
  have lt1 : ∀ x ∈ p1, x.block < W.heap.size := by obtain ⟨m, hm⟩ := k1; exact DataW.trod_lt m _ _ _ hm
  obtain ⟨fu1, hf1⟩ := h1
  obtain ⟨l1, el1, b1, u1⟩ := openBs (by simpa [Value.cells] using hf1)
  obtain ⟨a2, len2, cap2, rfl⟩ := okWide_slice Try.underlying22 (hval 2 22 v2 rfl rfl)
  have k2 := h2
  have lt2 : ∀ x ∈ p2, x.block < W.heap.size := by obtain ⟨m, hm⟩ := k2; exact DataW.trod_lt m _ _ _ hm
  obtain ⟨fu2, hf2⟩ := h2
  obtain ⟨l2, el2, b2, u2⟩ := openBs (by simpa [Value.cells] using hf2)
  obtain ⟨a3, len3, cap3, rfl⟩ := okWide_slice Try.underlying23 (hval 3 23 v3 rfl rfl)
  have k3 := h3
  have lt3 : ∀ x ∈ p3, x.block < W.heap.size := by obtain ⟨m, hm⟩ := k3; exact DataW.trod_lt m _ _ _ hm
  obtain ⟨fu3, hf3⟩ := h3
  obtain ⟨l3, el3, b3, u3, uu3⟩ := openRows (by simpa [Value.cells] using hf3)
  obtain ⟨a4, len4, cap4, rfl⟩ := okWide_slice Try.underlying24 (hval 4 24 v4 rfl rfl)
  have k4 := h4
  have lt4 : ∀ x ∈ p4, x.block < W.heap.size := by obtain ⟨m, hm⟩ := k4; exact DataW.trod_lt m _ _ _ hm
  obtain ⟨fu4, hf4⟩ := h4
  obtain ⟨l4, el4, b4, u4, uu4⟩ := openInts (by simpa [Value.cells] using hf4)
  have hb := bulk_bound hk
  simp only [List.append_nil, Rows.uptoBulkAll] at hb
  clear hA0
  refine (fnStatesSize_walk W x0 a1 a2 a3 a4 cap1 cap2 cap3 cap4 len1 len2 len3 len4 l1 l2 l3 l4 el1 el2 el3 el4 b1 b2 b3 b4 (by omega) (by omega) (by omega) (by omega)).mono fun e W' ⟨he, bel⟩ => ?_
  subst he
  exact ⟨_, rfl, _, _, _, [], _, [], hW', trodAll_mk1 (shut_bool Try.underlying4 _), (trodAll_cons_mk (shut_int Try.underlying3 wx0) (trodAll_cons_mk (Below.trod laidOut (by kernel_rfl) (of_decide_eq_true (by kernel_rfl)) k1 bel lt1) (trodAll_cons_mk (Below.trod laidOut (by kernel_rfl) (of_decide_eq_true (by kernel_rfl)) k2 bel lt2) (trodAll_cons_mk (Below.trod laidOut (by kernel_rfl) (of_decide_eq_true (by kernel_rfl)) k3 bel lt3) (trodAll_cons_mk (Below.trod laidOut (by kernel_rfl) (of_decide_eq_true (by kernel_rfl)) k4 bel lt4) trodAll_mk0))))), rfl, bel.frame _, fun h => by cases h⟩

theorem fnStatesSize_fact0 : (fun (P : Program) (f : FuncId) (fn : Func) (s : ChangeSpec) (c : OpenClaim) => (c.wf (OpenSpec.ofChange s) : Bool)) Try.prog 14 Try.f14 Rows.fnStatesSizeSpec Rows.fnStatesSizeUptoRow = true := by kernel_rfl
theorem fnStatesSize_fact1 : (fun (P : Program) (f : FuncId) (fn : Func) (s : ChangeSpec) (c : OpenClaim) => (laidOutB P : Bool)) Try.prog 14 Try.f14 Rows.fnStatesSizeSpec Rows.fnStatesSizeUptoRow = true := prog_laid
theorem fnStatesSize_fact2 : (fun (P : Program) (f : FuncId) (fn : Func) (s : ChangeSpec) (c : OpenClaim) => (mapsRowed P : Bool)) Try.prog 14 Try.f14 Rows.fnStatesSizeSpec Rows.fnStatesSizeUptoRow = true := prog_maps
theorem fnStatesSize_fact3 : (fun (P : Program) (f : FuncId) (fn : Func) (s : ChangeSpec) (c : OpenClaim) => (fn.params.all (P.readableRec ·) : Bool)) Try.prog 14 Try.f14 Rows.fnStatesSizeSpec Rows.fnStatesSizeUptoRow = true := by kernel_rfl
theorem fnStatesSize_fact4 : (fun (P : Program) (f : FuncId) (fn : Func) (s : ChangeSpec) (c : OpenClaim) => (namedTie P c.named s.vars : Bool)) Try.prog 14 Try.f14 Rows.fnStatesSizeSpec Rows.fnStatesSizeUptoRow = true := by kernel_rfl
theorem fnStatesSize_fact5 : (fun (P : Program) (f : FuncId) (fn : Func) (s : ChangeSpec) (c : OpenClaim) => ((c.stops == []) : Bool)) Try.prog 14 Try.f14 Rows.fnStatesSizeSpec Rows.fnStatesSizeUptoRow = true := by kernel_rfl
theorem fnStatesSize_fact6 : (fun (P : Program) (f : FuncId) (fn : Func) (s : ChangeSpec) (c : OpenClaim) => ((P.stops == []) : Bool)) Try.prog 14 Try.f14 Rows.fnStatesSizeSpec Rows.fnStatesSizeUptoRow = true := prog_stops
theorem fnStatesSize_fact7 : (fun (P : Program) (f : FuncId) (fn : Func) (s : ChangeSpec) (c : OpenClaim) => ((c.knobs == []) : Bool)) Try.prog 14 Try.f14 Rows.fnStatesSizeSpec Rows.fnStatesSizeUptoRow = true := by kernel_rfl
theorem fnStatesSize_fact8 : (fun (P : Program) (f : FuncId) (fn : Func) (s : ChangeSpec) (c : OpenClaim) => ((P.stopKnobs == []) : Bool)) Try.prog 14 Try.f14 Rows.fnStatesSizeSpec Rows.fnStatesSizeUptoRow = true := prog_knobs
theorem fnStatesSize_fact9 : (fun (P : Program) (f : FuncId) (fn : Func) (s : ChangeSpec) (c : OpenClaim) => ((c.inPlace == P.inPlace f) : Bool)) Try.prog 14 Try.f14 Rows.fnStatesSizeSpec Rows.fnStatesSizeUptoRow = true := by kernel_rfl
theorem fnStatesSize_fact10 : (fun (P : Program) (f : FuncId) (fn : Func) (s : ChangeSpec) (c : OpenClaim) => ((c.unfollowed == P.unfollowed f) : Bool)) Try.prog 14 Try.f14 Rows.fnStatesSizeSpec Rows.fnStatesSizeUptoRow = true := by kernel_rfl
theorem fnStatesSize_fact11 : (fun (P : Program) (f : FuncId) (fn : Func) (s : ChangeSpec) (c : OpenClaim) => ((c.recurses == P.recurses f) : Bool)) Try.prog 14 Try.f14 Rows.fnStatesSizeSpec Rows.fnStatesSizeUptoRow = true := by kernel_rfl
theorem fnStatesSize_fact12 : (fun (P : Program) (f : FuncId) (fn : Func) (s : ChangeSpec) (c : OpenClaim) => ((c.named == P.varsNamed f) : Bool)) Try.prog 14 Try.f14 Rows.fnStatesSizeSpec Rows.fnStatesSizeUptoRow = true := by kernel_rfl
theorem fnStatesSize_fact13 : (fun (P : Program) (f : FuncId) (fn : Func) (s : ChangeSpec) (c : OpenClaim) => ((c.maps == (fn.params.toList ++ s.plain.varTypes P).any (P.mapsRec ·)) : Bool)) Try.prog 14 Try.f14 Rows.fnStatesSizeSpec Rows.fnStatesSizeUptoRow = true := by kernel_rfl
theorem fnStatesSize_fact14 : (fun (P : Program) (f : FuncId) (fn : Func) (s : ChangeSpec) (c : OpenClaim) => ((c.ifaces == (fn.params.toList ++ s.plain.varTypes P).any (P.ifacesRec ·)) : Bool)) Try.prog 14 Try.f14 Rows.fnStatesSizeSpec Rows.fnStatesSizeUptoRow = true := by kernel_rfl
theorem fnStatesSize_fact15 : (fun (P : Program) (f : FuncId) (fn : Func) (s : ChangeSpec) (c : OpenClaim) => ((c.mapsOut == P.mapsAmong fn.resultTypes.toList) : Bool)) Try.prog 14 Try.f14 Rows.fnStatesSizeSpec Rows.fnStatesSizeUptoRow = true := by kernel_rfl
theorem fnStatesSize_fact16 : (fun (P : Program) (f : FuncId) (fn : Func) (s : ChangeSpec) (c : OpenClaim) => ((c.loops == (fn.params.toList ++ s.plain.varTypes P).any (P.loopsFrom ·)) : Bool)) Try.prog 14 Try.f14 Rows.fnStatesSizeSpec Rows.fnStatesSizeUptoRow = true := by kernel_rfl
theorem fnStatesSize_fact17 : (fun (P : Program) (f : FuncId) (fn : Func) (s : ChangeSpec) (c : OpenClaim) => ((c.wideKeys == (fn.params.toList ++ s.plain.varTypes P ++ fn.resultTypes.toList).any (P.wideKeysFrom ·)) : Bool)) Try.prog 14 Try.f14 Rows.fnStatesSizeSpec Rows.fnStatesSizeUptoRow = true := by kernel_rfl
theorem fnStatesSize_fact18 : (fun (P : Program) (f : FuncId) (fn : Func) (s : ChangeSpec) (c : OpenClaim) => (s.vars.all (P.varReadable ·) : Bool)) Try.prog 14 Try.f14 Rows.fnStatesSizeSpec Rows.fnStatesSizeUptoRow = true := by kernel_rfl
theorem fnStatesSize_fact19 : (fun (P : Program) (f : FuncId) (fn : Func) (s : ChangeSpec) (c : OpenClaim) => (fn.resultTypes.all (fun t => P.readableRec t && decide (t < P.types.size)) : Bool)) Try.prog 14 Try.f14 Rows.fnStatesSizeSpec Rows.fnStatesSizeUptoRow = true := by kernel_rfl
theorem fnStatesSize_fact20 : (fun (P : Program) (f : FuncId) (fn : Func) (s : ChangeSpec) (c : OpenClaim) => ((c.ifacesOut == fn.resultTypes.toList.any (P.ifacesRec ·)) : Bool)) Try.prog 14 Try.f14 Rows.fnStatesSizeSpec Rows.fnStatesSizeUptoRow = true := by kernel_rfl
theorem fnStatesSize_fact21 : (fun (P : Program) (f : FuncId) (fn : Func) (s : ChangeSpec) (c : OpenClaim) => ((c.loopsOut == fn.resultTypes.toList.any (P.loopsFrom ·)) : Bool)) Try.prog 14 Try.f14 Rows.fnStatesSizeSpec Rows.fnStatesSizeUptoRow = true := by kernel_rfl
theorem fnStatesSize_fact22 : (fun (P : Program) (f : FuncId) (fn : Func) (s : ChangeSpec) (c : OpenClaim) => ((c.plainKeys == P.plainKeys) : Bool)) Try.prog 14 Try.f14 Rows.fnStatesSizeSpec Rows.fnStatesSizeUptoRow = true := prog_keys
theorem fnStatesSize_fact23 : (fun (P : Program) (f : FuncId) (fn : Func) (s : ChangeSpec) (c : OpenClaim) => (c.shortTexts.isNone : Bool)) Try.prog 14 Try.f14 Rows.fnStatesSizeSpec Rows.fnStatesSizeUptoRow = true := by kernel_rfl
theorem fnStatesSize_fact24 : (fun (P : Program) (f : FuncId) (fn : Func) (s : ChangeSpec) (c : OpenClaim) => (P.stopsHeard : Bool)) Try.prog 14 Try.f14 Rows.fnStatesSizeSpec Rows.fnStatesSizeUptoRow = true := prog_heard
theorem fnStatesSize_fact25 : (fun (P : Program) (f : FuncId) (fn : Func) (s : ChangeSpec) (c : OpenClaim) => (P.mayEnter : Bool)) Try.prog 14 Try.f14 Rows.fnStatesSizeSpec Rows.fnStatesSizeUptoRow = true := prog_enter
theorem fnStatesSize_fact26 : (fun (P : Program) (f : FuncId) (fn : Func) (s : ChangeSpec) (c : OpenClaim) => ((c.lifted == P.liftsFinal) : Bool)) Try.prog 14 Try.f14 Rows.fnStatesSizeSpec Rows.fnStatesSizeUptoRow = true := prog_lifts
theorem fnStatesSize_fact27 : (fun (P : Program) (f : FuncId) (fn : Func) (s : ChangeSpec) (c : OpenClaim) => ((P.make == some c.make) : Bool)) Try.prog 14 Try.f14 Rows.fnStatesSizeSpec Rows.fnStatesSizeUptoRow = true := prog_make
theorem fnStatesSize_fact28 : (fun (P : Program) (f : FuncId) (fn : Func) (s : ChangeSpec) (c : OpenClaim) => ((c.kinds == (if c.domain.isEmpty then [] else fn.params.toList.map fun t => match P.underlying t with | some (.int k) => some k | _ => none)) : Bool)) Try.prog 14 Try.f14 Rows.fnStatesSizeSpec Rows.fnStatesSizeUptoRow = true := by kernel_rfl
theorem fnStatesSize_fact29 : (fun (P : Program) (f : FuncId) (fn : Func) (s : ChangeSpec) (c : OpenClaim) => ((c.pinned == c.pinnedBy) : Bool)) Try.prog 14 Try.f14 Rows.fnStatesSizeSpec Rows.fnStatesSizeUptoRow = true := by kernel_rfl
theorem fnStatesSize_fact30 : (fun (P : Program) (f : FuncId) (fn : Func) (s : ChangeSpec) (c : OpenClaim) => ((c.veiled == (fn.params.toList ++ s.plain.varTypes P ++ fn.resultTypes.toList).any (P.veiledRec ·)) : Bool)) Try.prog 14 Try.f14 Rows.fnStatesSizeSpec Rows.fnStatesSizeUptoRow = true := by kernel_rfl
theorem fnStatesSize_fact31 : (fun (P : Program) (f : FuncId) (fn : Func) (s : ChangeSpec) (c : OpenClaim) => (c.veiledFits P fn.params.toList (fn.params.toList ++ s.plain.varTypes P ++ fn.resultTypes.toList) : Bool)) Try.prog 14 Try.f14 Rows.fnStatesSizeSpec Rows.fnStatesSizeUptoRow = true := by kernel_rfl
set_option maxRecDepth 100000 in
theorem fnStatesSize_facts : joinedFacts Try.prog 14 Try.f14 Rows.fnStatesSizeSpec Rows.fnStatesSizeUptoRow = true := and_mk (and_mk (and_mk (and_mk (and_mk (and_mk (and_mk (and_mk (and_mk (and_mk (and_mk (and_mk (and_mk (and_mk (and_mk (and_mk (and_mk (and_mk (and_mk (and_mk (and_mk (and_mk (and_mk (and_mk (and_mk (and_mk (and_mk (and_mk (and_mk (and_mk (and_mk (fnStatesSize_fact0) fnStatesSize_fact1) fnStatesSize_fact2) fnStatesSize_fact3) fnStatesSize_fact4) fnStatesSize_fact5) fnStatesSize_fact6) fnStatesSize_fact7) fnStatesSize_fact8) fnStatesSize_fact9) fnStatesSize_fact10) fnStatesSize_fact11) fnStatesSize_fact12) fnStatesSize_fact13) fnStatesSize_fact14) fnStatesSize_fact15) fnStatesSize_fact16) fnStatesSize_fact17) fnStatesSize_fact18) fnStatesSize_fact19) fnStatesSize_fact20) fnStatesSize_fact21) fnStatesSize_fact22) fnStatesSize_fact23) fnStatesSize_fact24) fnStatesSize_fact25) fnStatesSize_fact26) fnStatesSize_fact27) fnStatesSize_fact28) fnStatesSize_fact29) fnStatesSize_fact30) fnStatesSize_fact31

set_option maxRecDepth 100000 in
theorem fnStatesSize_lifted (os : Os) (started : os.Started) (H : Type) (enc : TypeId × Value → H) (F : Stop.Interp) :
    ReturnsInHanded {} Try.checked os 14 .any ((Rows.OpenSpec.upto Rows.fnStatesSizeSpec).pre6 enc Try.prog Try.f14 Rows.fnStatesSizeUptoRow.domain false) (((Rows.OpenSpec.upto Rows.fnStatesSizeSpec).at F).post enc Try.prog Try.f14 false true false false) := by
  refine returnsInHanded_of_cond (C := Try.checked) (s := Rows.OpenSpec.upto Rows.fnStatesSizeSpec) (k := Rows.uptoSmall) rfl ownK started (by kernel_rfl) Try.func14
    (OpenSpec.witness (enc := enc) (C := Try.checked) (s := Rows.OpenSpec.upto Rows.fnStatesSizeSpec) (k := Rows.uptoSmall) rfl false ⟨#[], #[.int .i64 0, .slice none 0 0, .slice none 0 0, .slice none 0 0, .slice none 0 0], []⟩ 8 (by kernel_rfl) (by kernel_rfl) (by kernel_rfl)
      (x := ([.lit (.int .i64 0), .nil, .nil, .nil, .nil], [], [])) (by kernel_rfl) rfl (by kernel_rfl)) ?_
  intro W base args ds gs before hval hW _ hk _
  exact fnStatesSize_contract H enc W base args ds gs before hval hW hk

set_option maxRecDepth 100000 in
theorem fnStatesSize_proved : Rows.FnStatesSizeUptoSaid :=
  OpenClaim.holds_of_cond 14 Try.f14 rfl rfl rfl rfl rfl rfl rfl ⟨rfl, rfl, rfl, rfl, rfl⟩ rfl rfl rfl rfl rfl (by kernel_rfl) Try.func14 fnStatesSize_facts
    (of_decide_eq_true (by kernel_rfl)) (by unfold Func.isWrapper; first | (rw [if_pos (by decide +kernel)]; kernel_rfl) | (rw [if_neg (by decide +kernel)]; exact ⟨rfl, rfl⟩))
    (fun os started H enc _ F => fnStatesSize_lifted os started H enc F)

end Go.Proofs.Ythemhpefcfdcaaa
