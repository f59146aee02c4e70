/- For every input of bulk at most 1048576: of the kinds 0 to 3, a state is loaded as often as one likes, and each time other bytes are written behind it: what is read then is what is read behind all of them (FnGoOnOther returns true); no other condition. -/
import Derived.Test.YthemhpefcfdcaaaKinds
import Derived.Test.YthemhpefcfdcaaaVals
import Derived.Test.YthemhpefcfdcaaaArgs
import Derived.Test.YthemhpefcfdcaaaFacts
namespace Go.Proofs.Ythemhpefcfdcaaa
open Go.RowKit Go.Deep
open Go.ChangeShapes Go.WideShapes Go.ChangeAt
set_option linter.unusedVariables false

theorem wsts_last (l : List UInt8) : ∀ (ls : List (List UInt8)) (s : Sp) (p : Nat), ls.length = p + 1 → (wsts l ls s)[p]? = some (marsh (s.absorb ls.flatten) ++ l)
  | [], _, _, h => by simp at h
  | [d], s, 0, _ => by simp [wsts]
  | [d], s, p + 1, h => by simp at h
  | d :: e :: ds, s, 0, h => by simp at h
  | d :: e :: ds, s, p + 1, h => by
    have := wsts_last l (e :: ds) (s.absorb d) p (by simpa using h)
    rw [wsts, List.getElem?_cons_succ, this]
    simp [Sp.absorb_append]

set_option maxRecDepth 100000 in
set_option maxHeartbeats 2000000 in
theorem fnGoOnOther_walk (w : World) (kind : Int) (aN aS aW aM aO aR : Option Addr) (cN cS cW cM cO cR n m p qm qo r : Nat) (N S : List UInt8) (ls ms os : List (List UInt8)) (zs : List Int)
    (hn : N.length = n) (hm : S.length = m) (hp : ls.length = p) (hqm : ms.length = qm) (hqo : os.length = qo) (hr : zs.length = r) (hN : Bs w.heap.size w aN cN N) (hS : Bs w.heap.size w aS cS S) (hW : Rows2 w.heap.size w aW cW ls) (hM : Rows2 w.heap.size w aM cM ms) (hO : Rows2 w.heap.size w aO cO os) (hR : Ints w.heap.size w aR cR zs)
    (hnb : n ≤ 1048576) (hmb : m ≤ 1048576) (hpb : p ≤ 1048576) (hqmb : qm ≤ 1048576) (hqob : qo ≤ 1048576) (hrb : r ≤ 1048576) :
    Calls Try.prog 17 #[.int .i64 kind, .slice aN n cN, .slice aS m cS, .slice aW p cW, .slice aM qm cM, .slice aO qo cO, .slice aR r cR] w fun e w' => e = .returned (.bool true) ∧ Below w.heap.size w w' := by
  by_cases h1 : p = 0
  · have b0 : ((p : Int) == 0) = true := by simp; omega
    clear hn hm hp hqm hqo hr hN hS hW hM hO hR
    go_enter Try.func17, Try.ntmps17
    go_wp2_with fail
    go_ret
    exact ⟨rfl, Below.refl _ _⟩
  obtain ⟨P, rfl⟩ : ∃ P, p = P + 1 := ⟨p - 1, by omega⟩
  have b0 : (((P : Int) + 1) == 0) = false := by simp; omega
  by_cases h3 : 0 ≤ kind ∧ kind ≤ 3
  case neg =>
    have HO := Lib.hid (opened_no w kind h3)
    clear hn hm hp hqm hqo hr hN hS hW hM hO hR h3
    go_enter Try.func17, Try.ntmps17
    go_wp2_with fail
    refine HO.out.mono ?_
    rintro e w' ⟨rfl, rfl⟩
    go_wp2_with fail
    go_ret
    exact ⟨rfl, Below.refl _ _⟩
  obtain ⟨k1, k2⟩ := h3
  have HO := Lib.hid (opened_yes w kind k1 k2)
  obtain ⟨ok0, sq0, ol0⟩ := start_ok kind N S
  have lib := startIB_le kind N S (by omega) (by omega)
  obtain ⟨s, hs⟩ : ∃ s, s = start kind N S := ⟨_, rfl⟩
  obtain ⟨l, hl⟩ : ∃ l, l = startIB kind N S := ⟨_, rfl⟩
  rw [← hs] at ok0 sq0
  rw [← hl] at lib
  obtain ⟨q, hq⟩ : ∃ q, l.length = q := ⟨_, rfl⟩
  have hqb : q ≤ 281474976710656 := by omega
  obtain ⟨s1, hs1⟩ : ∃ s1, s1 = s.absorb ls.flatten := ⟨_, rfl⟩
  have ok1 : s1.Ok ∧ s1.sq = false := by rw [hs1]; exact ok0.absorb sq0 _
  have e1 : (start kind N S).rate = s1.rate ∧ (start kind N S).ds = s1.ds ∧ (start kind N S).ol = s1.ol := by
    rw [← hs, hs1]
    obtain ⟨g1, g2, g3, _⟩ := Sp.absorb_same s ls.flatten
    exact ⟨g1.symm, g2.symm, g3.symm⟩
  have lA : (marsh s1 ++ l).length = 207 + q := by rw [List.length_append, marsh_len _ ok1.1.len, hq]
  have HST := Lib.hid (states_any w kind aN aS aW none cN cS cW 0 n m (P + 1) 0 N S ls [] hn hm hp rfl hN hS hW ⟨Nat.le_refl _, by omega, .inl rfl⟩ (by omega) (by omega) (by omega) (by omega))
  obtain ⟨D, hD⟩ : ∃ D, D = wsts (startIB kind N S) ls (start kind N S) ++ rsts (startIB kind N S) [] ((start kind N S).absorb ls.flatten) := ⟨_, rfl⟩
  have hDA : D[P]? = some (marsh s1 ++ l) := by
    rw [hD, ← hs, ← hl, hs1, List.getElem?_append_left (by rw [wsts_len, hp]; omega)]
    exact wsts_last l ls s P hp
  rw [← hD, Nat.add_zero] at HST
  have HLA := Lib.hid lA
  have HE1 := Lib.hid e1
  have HSQ := Lib.hid ok1.2
  have ok1' := ok1.1
  have HQ := Lib.hid hq
  have HDA := Lib.hid hDA
  have HS := Lib.hid hs
  have HS1 := Lib.hid hs1
  have b1 : (((P : Int) + 1) != ((P : Int) + 1)) = false := by simp
  have j1 : IntKind.i64.wrap (P : Int) = (P : Int) := IntWalk.i64_in _ (by omega)
  clear hD hDA lA e1 ok1 hs hl hs1 lib hq sq0 ok0 ol0
  go_enter Try.func17, Try.ntmps17
  go_wp2_with fail
  refine HO.out.mono ?_
  rintro e w' ⟨rfl, rfl⟩
  go_wp2_with fail
  refine HST.out.mono ?_
  rintro e w3 ⟨f3, fc3, rfl, hf3, bl3⟩
  have z3 := bl3.size
  obtain ⟨pb, po, va, vc, g1, g2, g3, g4⟩ := hf3.at HDA.out
  subst g1
  rw [HLA.out] at g3
  -- the three lists
  obtain ⟨w4, hw4⟩ : ∃ w4, w4 = w3.alloc (.cells #[.slice aM qm cM, .slice aO qo cO, .slice aM qm cM] 23) := ⟨_, rfl⟩
  have bb4 : Below w3.heap.size w3 w4 := by rw [hw4]; exact (Below.refl _ _).alloc (Nat.le_refl _) _
  have bl4 : Below w.heap.size w w4 := bl3.trans (bb4.mono z3)
  have z4 := bl4.size
  have hz34 : w3.heap.size < w4.heap.size := by rw [hw4]; simp
  have hh : w4.heap[w3.heap.size]? = some (.cells #[.slice aM qm cM, .slice aO qo cO, .slice aM qm cM] 23 (0, 0)) := by rw [hw4]; exact heap_alloc_new _ _
  have three : ∀ i, i < 3 → ∃ aX cX qX X, w4.cell? ⟨w3.heap.size, i, none⟩ = some (.slice aX qX cX) ∧ X.length = qX ∧ Rows2 w.heap.size w aX cX X ∧ qX ≤ 1048576 := fun i hi => by
    match i, hi with
    | 0, _ => exact ⟨aM, cM, qm, ms, by simp only [World.cell?, hh]; rfl, hqm, hM, hqmb⟩
    | 1, _ => exact ⟨aO, cO, qo, os, by simp only [World.cell?, hh]; rfl, hqo, hO, hqob⟩
    | 2, _ => exact ⟨aM, cM, qm, ms, by simp only [World.cell?, hh]; rfl, hqm, hM, hqmb⟩
  have HW4 := Lib.hid hw4
  have H3 := Lib.hid three
  clear HST HO hw4 hh three hqm hqo
  go_wp2_with fail
  rw [← HW4.out]
  go_loopw [51] (fun v wr => ∃ i : Nat, v = .int .i64 (i : Int) ∧ i ≤ 3 ∧ Below w4.heap.size w4 wr) (fun v _ => 3 - (intOf v).toNat)
  case atStart => exact ⟨0, rfl, by omega, Below.refl _ _⟩
  case round =>
    obtain ⟨i, rfl, hi, bl5⟩ := hrel
    have bl5' : Below w.heap.size w wr := bl4.trans (bl5.mono z4)
    have z5 := bl5'.size
    have bb35 : Below w3.heap.size w3 wr := bb4.trans (bl5.mono bb4.size)
    by_cases hlt : i < 3
    · obtain ⟨aX, cX, qX, X, c1, hX, hRX, hXb⟩ := H3.out i hlt
      have c2 : wr.cell? ⟨w3.heap.size, i, none⟩ = some (.slice aX qX cX) := by rw [bl5.cell (p := ⟨w3.heap.size, i, none⟩) hz34]; exact c1
      have i1 : (i : Int) < 3 := by omega
      have HG := Lib.hid (goon_any wr kind aN aS va aX aR cN cS vc cX cR n m q qX r N S l s1 X zs hn hm HQ.out hX hr ((hN.keep bl5').mono z5) ((hS.keep bl5').mono z5) ((g4.keep bb35).mono bb35.size) ((hRX.keep bl5').mono z5) ((hR.keep bl5').mono z5) ok1' HE1.out.1 HE1.out.2.1 HE1.out.2.2 (.inr HSQ.out) (by omega) (by omega) (by omega) hqb (by omega))
      clear c1
      go_wp2_with fail
      refine HG.out.mono ?_
      rintro e w6 ⟨f6, fc6, rfl, hf6, bl6⟩
      have bl6' : Below w.heap.size w w6 := bl5'.trans (bl6.mono z5)
      have z6 := bl6'.size
      -- both lists of parts
      have ba7 : Below w6.heap.size w6 (w6.alloc (.cells #[] 22)) := (Below.refl _ _).alloc (Nat.le_refl _) _
      obtain ⟨a8, c8, w8, ys8, hap8, own8, hv8, bl8a⟩ := app_rows (w6.alloc (.cells #[] 22)) w6.heap.size _ 0 0 [] [] (own_empty w6 22 w6.heap.size (Nat.le_refl _)) (Vals.nil _ _) ba7.size aW (P + 1) cW ls hp (((hW.keep bl6').mono z6).keep ba7) (by omega)
      rw [Nat.zero_add] at hap8 own8
      rw [List.nil_append] at hv8
      have bl8 : Below w6.heap.size w6 w8 := ba7.trans bl8a
      obtain ⟨a9, c9, w9, ys9, hap9, own9, hv9, bl9a⟩ := app_rows w8 w6.heap.size a8 (P + 1) c8 ys8 ls own8 hv8 bl8.size aX qX cX X hX (((hRX.keep bl6').mono z6).keep bl8) (by omega)
      have bl9 : Below w6.heap.size w6 w9 := bl8.trans bl9a
      have bl9' : Below w.heap.size w w9 := bl6'.trans (bl9.mono z6)
      have z9 := bl9'.size
      obtain ⟨hl9, hR9⟩ := Rows2.of_own own9 (hv9.mono bl9.size)
      have HQ2 := Lib.hid (squeeze_any w9 kind aN aS a9 aR cN cS c9 cR n m (P + 1 + qX) r N S (ls ++ X) zs hn hm hl9 hr ((hN.keep bl9').mono z9) ((hS.keep bl9').mono z9) hR9 ((hR.keep bl9').mono z9) (by omega) (by omega) (by omega) (by omega))
      rw [List.flatten_append, Sp.absorb_append, ← HS.out, ← HS1.out] at HQ2
      have HAP8 := Lib.hid hap8
      have HAP9 := Lib.hid hap9
      clear hap8 hap9 own8 own9 hv8 hv9 hR9 hl9 HG
      go_wp2_with (first | (refine wpList_appendR rfl _ _ _ rfl _ _ rfl rfl _ _ HAP8.out ?_; clear HAP8) | (refine wpList_appendR rfl _ _ _ rfl _ _ rfl rfl _ _ HAP9.out ?_; clear HAP9))
      refine HQ2.out.mono ?_
      rintro e w10 ⟨f10, fc10, rfl, hf10, bl10⟩
      have bl10' : Below w6.heap.size w6 w10 := bl9.trans (bl10.mono bl9.size)
      have bl10w : Below wr.heap.size wr w10 := bl6.trans (bl10'.mono bl6.size)
      have blE : Below w4.heap.size w4 w10 := bl5.trans (bl10w.mono bl5.size)
      have hlen : (outs zs (s1.absorb X.flatten)).length = r := by rw [outs_len, hr]
      have HSP := Lib.hid (sameParts_any w10 w10.heap.size f6 f10 fc6 fc10 r r _ hlen hlen ((hf6.keep bl10').mono bl10'.size) hf10)
      have b2 : ((r : Int) != (r : Int)) = false := by simp
      have HBE := Lib.hid blE
      clear HQ2 hlen hf6 hf10
      go_wp2_with fail
      refine HSP.out.mono ?_
      rintro e w11 ⟨rfl, kk, rfl⟩
      go_wp2_with fail
      go_roundw
      case rel => exact ⟨i + 1, by go_num, by omega, Below.eqvN' HBE.out kk⟩
      case measure => simp [intOf]; omega
    · have hi3 : i = 3 := by omega
      subst hi3
      go_wp2_with fail
      go_ret
      exact ⟨rfl, bl5'⟩

theorem fnGoOnOther_contract (H : Type) (enc : TypeId × Value → H) (W : World) (base : Nat) (args : Array Value) (ds gs : List (DataW H)) (before : List MemPlace)
    (hval : ∀ (j : Nat) t v, Try.f17.params[j]? = some t → args[j]? = some v → Value.okWide Try.prog W .any base t v)
    (hW : DataW.Whole enc Try.prog Try.f17.params.toList Rows.fnGoOnOtherSpec.vars false W args.toList ds gs before)
    (hk : Rows.uptoSmall H (ds ++ gs) = true) :
    Calls Try.prog 17 args W fun e W' => ∃ v, e = .returned v ∧ Rows.fnGoOnOtherSpec.post enc Try.prog Try.f17 false true false false W args v W' := by
  have hW' := hW
  obtain ⟨p, q, hA0, hV, rfl, hfz, hnd⟩ := hW
  have hA : DataW.TrodAll enc Try.prog W 0 (fun _ => true) true Try.f17.params.toList args.toList ds p := hA0
  rw [Try.params17] at hA hval
  obtain ⟨v0, vs0, d0, ds0, p0, q0, hargs, rfl, rfl, h0, r0⟩ := trodAll_cons hA
  obtain ⟨v1, vs1, d1, ds1, p1, q1, rfl, rfl, rfl, h1, r1⟩ := trodAll_cons r0
  obtain ⟨v2, vs2, d2, ds2, p2, q2, rfl, rfl, rfl, h2, r2⟩ := trodAll_cons r1
  obtain ⟨v3, vs3, d3, ds3, p3, q3, rfl, rfl, rfl, h3, r3⟩ := trodAll_cons r2
  obtain ⟨v4, vs4, d4, ds4, p4, q4, rfl, rfl, rfl, h4, r4⟩ := trodAll_cons r3
  obtain ⟨v5, vs5, d5, ds5, p5, q5, rfl, rfl, rfl, h5, r5⟩ := trodAll_cons r4
  obtain ⟨v6, vs6, d6, ds6, p6, q6, rfl, rfl, rfl, h6, r6⟩ := trodAll_cons r5
  obtain ⟨rfl, rfl, rfl⟩ := trodAll_nil r6
  obtain rfl : args = #[v0, v1, v2, v3, v4, v5, v6] := by cases args; simp_all
  obtain ⟨rfl, rfl⟩ := trodVars_none hV
  obtain ⟨x0, rfl, rfl, rfl, wx0⟩ := open_int Try.underlying3 (hval 0 3 v0 rfl rfl) h0
  obtain ⟨a1, len1, cap1, rfl⟩ := okWide_slice Try.underlying22 (hval 1 22 v1 rfl rfl)
  have k1 := h1
  have lt1 : ∀ x ∈ p1, x.block < W.heap.size := by obtain ⟨m, hm⟩ := k1; exact DataW.trod_lt m _ _ _ hm
  obtain ⟨fu1, hf1⟩ := h1
  obtain ⟨l1, el1, b1, u1⟩ := openBs (by simpa [Value.cells] using hf1)
  obtain ⟨a2, len2, cap2, rfl⟩ := okWide_slice Try.underlying22 (hval 2 22 v2 rfl rfl)
  have k2 := h2
  have lt2 : ∀ x ∈ p2, x.block < W.heap.size := by obtain ⟨m, hm⟩ := k2; exact DataW.trod_lt m _ _ _ hm
  obtain ⟨fu2, hf2⟩ := h2
  obtain ⟨l2, el2, b2, u2⟩ := openBs (by simpa [Value.cells] using hf2)
  obtain ⟨a3, len3, cap3, rfl⟩ := okWide_slice Try.underlying23 (hval 3 23 v3 rfl rfl)
  have k3 := h3
  have lt3 : ∀ x ∈ p3, x.block < W.heap.size := by obtain ⟨m, hm⟩ := k3; exact DataW.trod_lt m _ _ _ hm
  obtain ⟨fu3, hf3⟩ := h3
  obtain ⟨l3, el3, b3, u3, uu3⟩ := openRows (by simpa [Value.cells] using hf3)
  obtain ⟨a4, len4, cap4, rfl⟩ := okWide_slice Try.underlying23 (hval 4 23 v4 rfl rfl)
  have k4 := h4
  have lt4 : ∀ x ∈ p4, x.block < W.heap.size := by obtain ⟨m, hm⟩ := k4; exact DataW.trod_lt m _ _ _ hm
  obtain ⟨fu4, hf4⟩ := h4
  obtain ⟨l4, el4, b4, u4, uu4⟩ := openRows (by simpa [Value.cells] using hf4)
  obtain ⟨a5, len5, cap5, rfl⟩ := okWide_slice Try.underlying23 (hval 5 23 v5 rfl rfl)
  have k5 := h5
  have lt5 : ∀ x ∈ p5, x.block < W.heap.size := by obtain ⟨m, hm⟩ := k5; exact DataW.trod_lt m _ _ _ hm
  obtain ⟨fu5, hf5⟩ := h5
  obtain ⟨l5, el5, b5, u5, uu5⟩ := openRows (by simpa [Value.cells] using hf5)
  obtain ⟨a6, len6, cap6, rfl⟩ := okWide_slice Try.underlying24 (hval 6 24 v6 rfl rfl)
  have k6 := h6
  have lt6 : ∀ x ∈ p6, x.block < W.heap.size := by obtain ⟨m, hm⟩ := k6; exact DataW.trod_lt m _ _ _ hm
  obtain ⟨fu6, hf6⟩ := h6
  obtain ⟨l6, el6, b6, u6, uu6⟩ := openInts (by simpa [Value.cells] using hf6)
  have hb := bulk_bound hk
  simp only [List.append_nil, Rows.uptoBulkAll] at hb
  clear hA0
  refine (fnGoOnOther_walk W x0 a1 a2 a3 a4 a5 a6 cap1 cap2 cap3 cap4 cap5 cap6 len1 len2 len3 len4 len5 len6 l1 l2 l3 l4 l5 l6 el1 el2 el3 el4 el5 el6 b1 b2 b3 b4 b5 b6 (by omega) (by omega) (by omega) (by omega) (by omega) (by omega)).mono fun e W' ⟨he, bel⟩ => ?_
  subst he
  exact ⟨_, rfl, _, _, _, [], _, [], hW', trodAll_mk1 (shut_bool Try.underlying4 _), (trodAll_cons_mk (shut_int Try.underlying3 wx0) (trodAll_cons_mk (Below.trod laidOut (by kernel_rfl) (of_decide_eq_true (by kernel_rfl)) k1 bel lt1) (trodAll_cons_mk (Below.trod laidOut (by kernel_rfl) (of_decide_eq_true (by kernel_rfl)) k2 bel lt2) (trodAll_cons_mk (Below.trod laidOut (by kernel_rfl) (of_decide_eq_true (by kernel_rfl)) k3 bel lt3) (trodAll_cons_mk (Below.trod laidOut (by kernel_rfl) (of_decide_eq_true (by kernel_rfl)) k4 bel lt4) (trodAll_cons_mk (Below.trod laidOut (by kernel_rfl) (of_decide_eq_true (by kernel_rfl)) k5 bel lt5) (trodAll_cons_mk (Below.trod laidOut (by kernel_rfl) (of_decide_eq_true (by kernel_rfl)) k6 bel lt6) trodAll_mk0))))))), rfl, bel.frame _, fun h => by cases h⟩

theorem fnGoOnOther_fact0 : (fun (P : Program) (f : FuncId) (fn : Func) (s : ChangeSpec) (c : OpenClaim) => (c.wf (OpenSpec.ofChange s) : Bool)) Try.prog 17 Try.f17 Rows.fnGoOnOtherSpec Rows.fnGoOnOtherUptoRow = true := by kernel_rfl
theorem fnGoOnOther_fact1 : (fun (P : Program) (f : FuncId) (fn : Func) (s : ChangeSpec) (c : OpenClaim) => (laidOutB P : Bool)) Try.prog 17 Try.f17 Rows.fnGoOnOtherSpec Rows.fnGoOnOtherUptoRow = true := prog_laid
theorem fnGoOnOther_fact2 : (fun (P : Program) (f : FuncId) (fn : Func) (s : ChangeSpec) (c : OpenClaim) => (mapsRowed P : Bool)) Try.prog 17 Try.f17 Rows.fnGoOnOtherSpec Rows.fnGoOnOtherUptoRow = true := prog_maps
theorem fnGoOnOther_fact3 : (fun (P : Program) (f : FuncId) (fn : Func) (s : ChangeSpec) (c : OpenClaim) => (fn.params.all (P.readableRec ·) : Bool)) Try.prog 17 Try.f17 Rows.fnGoOnOtherSpec Rows.fnGoOnOtherUptoRow = true := by kernel_rfl
theorem fnGoOnOther_fact4 : (fun (P : Program) (f : FuncId) (fn : Func) (s : ChangeSpec) (c : OpenClaim) => (namedTie P c.named s.vars : Bool)) Try.prog 17 Try.f17 Rows.fnGoOnOtherSpec Rows.fnGoOnOtherUptoRow = true := by kernel_rfl
theorem fnGoOnOther_fact5 : (fun (P : Program) (f : FuncId) (fn : Func) (s : ChangeSpec) (c : OpenClaim) => ((c.stops == []) : Bool)) Try.prog 17 Try.f17 Rows.fnGoOnOtherSpec Rows.fnGoOnOtherUptoRow = true := by kernel_rfl
theorem fnGoOnOther_fact6 : (fun (P : Program) (f : FuncId) (fn : Func) (s : ChangeSpec) (c : OpenClaim) => ((P.stops == []) : Bool)) Try.prog 17 Try.f17 Rows.fnGoOnOtherSpec Rows.fnGoOnOtherUptoRow = true := prog_stops
theorem fnGoOnOther_fact7 : (fun (P : Program) (f : FuncId) (fn : Func) (s : ChangeSpec) (c : OpenClaim) => ((c.knobs == []) : Bool)) Try.prog 17 Try.f17 Rows.fnGoOnOtherSpec Rows.fnGoOnOtherUptoRow = true := by kernel_rfl
theorem fnGoOnOther_fact8 : (fun (P : Program) (f : FuncId) (fn : Func) (s : ChangeSpec) (c : OpenClaim) => ((P.stopKnobs == []) : Bool)) Try.prog 17 Try.f17 Rows.fnGoOnOtherSpec Rows.fnGoOnOtherUptoRow = true := prog_knobs
theorem fnGoOnOther_fact9 : (fun (P : Program) (f : FuncId) (fn : Func) (s : ChangeSpec) (c : OpenClaim) => ((c.inPlace == P.inPlace f) : Bool)) Try.prog 17 Try.f17 Rows.fnGoOnOtherSpec Rows.fnGoOnOtherUptoRow = true := by kernel_rfl
theorem fnGoOnOther_fact10 : (fun (P : Program) (f : FuncId) (fn : Func) (s : ChangeSpec) (c : OpenClaim) => ((c.unfollowed == P.unfollowed f) : Bool)) Try.prog 17 Try.f17 Rows.fnGoOnOtherSpec Rows.fnGoOnOtherUptoRow = true := by kernel_rfl
theorem fnGoOnOther_fact11 : (fun (P : Program) (f : FuncId) (fn : Func) (s : ChangeSpec) (c : OpenClaim) => ((c.recurses == P.recurses f) : Bool)) Try.prog 17 Try.f17 Rows.fnGoOnOtherSpec Rows.fnGoOnOtherUptoRow = true := by kernel_rfl
theorem fnGoOnOther_fact12 : (fun (P : Program) (f : FuncId) (fn : Func) (s : ChangeSpec) (c : OpenClaim) => ((c.named == P.varsNamed f) : Bool)) Try.prog 17 Try.f17 Rows.fnGoOnOtherSpec Rows.fnGoOnOtherUptoRow = true := by kernel_rfl
theorem fnGoOnOther_fact13 : (fun (P : Program) (f : FuncId) (fn : Func) (s : ChangeSpec) (c : OpenClaim) => ((c.maps == (fn.params.toList ++ s.plain.varTypes P).any (P.mapsRec ·)) : Bool)) Try.prog 17 Try.f17 Rows.fnGoOnOtherSpec Rows.fnGoOnOtherUptoRow = true := by kernel_rfl
theorem fnGoOnOther_fact14 : (fun (P : Program) (f : FuncId) (fn : Func) (s : ChangeSpec) (c : OpenClaim) => ((c.ifaces == (fn.params.toList ++ s.plain.varTypes P).any (P.ifacesRec ·)) : Bool)) Try.prog 17 Try.f17 Rows.fnGoOnOtherSpec Rows.fnGoOnOtherUptoRow = true := by kernel_rfl
theorem fnGoOnOther_fact15 : (fun (P : Program) (f : FuncId) (fn : Func) (s : ChangeSpec) (c : OpenClaim) => ((c.mapsOut == P.mapsAmong fn.resultTypes.toList) : Bool)) Try.prog 17 Try.f17 Rows.fnGoOnOtherSpec Rows.fnGoOnOtherUptoRow = true := by kernel_rfl
theorem fnGoOnOther_fact16 : (fun (P : Program) (f : FuncId) (fn : Func) (s : ChangeSpec) (c : OpenClaim) => ((c.loops == (fn.params.toList ++ s.plain.varTypes P).any (P.loopsFrom ·)) : Bool)) Try.prog 17 Try.f17 Rows.fnGoOnOtherSpec Rows.fnGoOnOtherUptoRow = true := by kernel_rfl
theorem fnGoOnOther_fact17 : (fun (P : Program) (f : FuncId) (fn : Func) (s : ChangeSpec) (c : OpenClaim) => ((c.wideKeys == (fn.params.toList ++ s.plain.varTypes P ++ fn.resultTypes.toList).any (P.wideKeysFrom ·)) : Bool)) Try.prog 17 Try.f17 Rows.fnGoOnOtherSpec Rows.fnGoOnOtherUptoRow = true := by kernel_rfl
theorem fnGoOnOther_fact18 : (fun (P : Program) (f : FuncId) (fn : Func) (s : ChangeSpec) (c : OpenClaim) => (s.vars.all (P.varReadable ·) : Bool)) Try.prog 17 Try.f17 Rows.fnGoOnOtherSpec Rows.fnGoOnOtherUptoRow = true := by kernel_rfl
theorem fnGoOnOther_fact19 : (fun (P : Program) (f : FuncId) (fn : Func) (s : ChangeSpec) (c : OpenClaim) => (fn.resultTypes.all (fun t => P.readableRec t && decide (t < P.types.size)) : Bool)) Try.prog 17 Try.f17 Rows.fnGoOnOtherSpec Rows.fnGoOnOtherUptoRow = true := by kernel_rfl
theorem fnGoOnOther_fact20 : (fun (P : Program) (f : FuncId) (fn : Func) (s : ChangeSpec) (c : OpenClaim) => ((c.ifacesOut == fn.resultTypes.toList.any (P.ifacesRec ·)) : Bool)) Try.prog 17 Try.f17 Rows.fnGoOnOtherSpec Rows.fnGoOnOtherUptoRow = true := by kernel_rfl
theorem fnGoOnOther_fact21 : (fun (P : Program) (f : FuncId) (fn : Func) (s : ChangeSpec) (c : OpenClaim) => ((c.loopsOut == fn.resultTypes.toList.any (P.loopsFrom ·)) : Bool)) Try.prog 17 Try.f17 Rows.fnGoOnOtherSpec Rows.fnGoOnOtherUptoRow = true := by kernel_rfl
theorem fnGoOnOther_fact22 : (fun (P : Program) (f : FuncId) (fn : Func) (s : ChangeSpec) (c : OpenClaim) => ((c.plainKeys == P.plainKeys) : Bool)) Try.prog 17 Try.f17 Rows.fnGoOnOtherSpec Rows.fnGoOnOtherUptoRow = true := prog_keys
theorem fnGoOnOther_fact23 : (fun (P : Program) (f : FuncId) (fn : Func) (s : ChangeSpec) (c : OpenClaim) => (c.shortTexts.isNone : Bool)) Try.prog 17 Try.f17 Rows.fnGoOnOtherSpec Rows.fnGoOnOtherUptoRow = true := by kernel_rfl
theorem fnGoOnOther_fact24 : (fun (P : Program) (f : FuncId) (fn : Func) (s : ChangeSpec) (c : OpenClaim) => (P.stopsHeard : Bool)) Try.prog 17 Try.f17 Rows.fnGoOnOtherSpec Rows.fnGoOnOtherUptoRow = true := prog_heard
theorem fnGoOnOther_fact25 : (fun (P : Program) (f : FuncId) (fn : Func) (s : ChangeSpec) (c : OpenClaim) => (P.mayEnter : Bool)) Try.prog 17 Try.f17 Rows.fnGoOnOtherSpec Rows.fnGoOnOtherUptoRow = true := prog_enter
theorem fnGoOnOther_fact26 : (fun (P : Program) (f : FuncId) (fn : Func) (s : ChangeSpec) (c : OpenClaim) => ((c.lifted == P.liftsFinal) : Bool)) Try.prog 17 Try.f17 Rows.fnGoOnOtherSpec Rows.fnGoOnOtherUptoRow = true := prog_lifts
theorem fnGoOnOther_fact27 : (fun (P : Program) (f : FuncId) (fn : Func) (s : ChangeSpec) (c : OpenClaim) => ((P.make == some c.make) : Bool)) Try.prog 17 Try.f17 Rows.fnGoOnOtherSpec Rows.fnGoOnOtherUptoRow = true := prog_make
theorem fnGoOnOther_fact28 : (fun (P : Program) (f : FuncId) (fn : Func) (s : ChangeSpec) (c : OpenClaim) => ((c.kinds == (if c.domain.isEmpty then [] else fn.params.toList.map fun t => match P.underlying t with | some (.int k) => some k | _ => none)) : Bool)) Try.prog 17 Try.f17 Rows.fnGoOnOtherSpec Rows.fnGoOnOtherUptoRow = true := by kernel_rfl
theorem fnGoOnOther_fact29 : (fun (P : Program) (f : FuncId) (fn : Func) (s : ChangeSpec) (c : OpenClaim) => ((c.pinned == c.pinnedBy) : Bool)) Try.prog 17 Try.f17 Rows.fnGoOnOtherSpec Rows.fnGoOnOtherUptoRow = true := by kernel_rfl
theorem fnGoOnOther_fact30 : (fun (P : Program) (f : FuncId) (fn : Func) (s : ChangeSpec) (c : OpenClaim) => ((c.veiled == (fn.params.toList ++ s.plain.varTypes P ++ fn.resultTypes.toList).any (P.veiledRec ·)) : Bool)) Try.prog 17 Try.f17 Rows.fnGoOnOtherSpec Rows.fnGoOnOtherUptoRow = true := by kernel_rfl
theorem fnGoOnOther_fact31 : (fun (P : Program) (f : FuncId) (fn : Func) (s : ChangeSpec) (c : OpenClaim) => (c.veiledFits P fn.params.toList (fn.params.toList ++ s.plain.varTypes P ++ fn.resultTypes.toList) : Bool)) Try.prog 17 Try.f17 Rows.fnGoOnOtherSpec Rows.fnGoOnOtherUptoRow = true := by kernel_rfl
set_option maxRecDepth 100000 in
theorem fnGoOnOther_facts : joinedFacts Try.prog 17 Try.f17 Rows.fnGoOnOtherSpec Rows.fnGoOnOtherUptoRow = true := and_mk (and_mk (and_mk (and_mk (and_mk (and_mk (and_mk (and_mk (and_mk (and_mk (and_mk (and_mk (and_mk (and_mk (and_mk (and_mk (and_mk (and_mk (and_mk (and_mk (and_mk (and_mk (and_mk (and_mk (and_mk (and_mk (and_mk (and_mk (and_mk (and_mk (and_mk (fnGoOnOther_fact0) fnGoOnOther_fact1) fnGoOnOther_fact2) fnGoOnOther_fact3) fnGoOnOther_fact4) fnGoOnOther_fact5) fnGoOnOther_fact6) fnGoOnOther_fact7) fnGoOnOther_fact8) fnGoOnOther_fact9) fnGoOnOther_fact10) fnGoOnOther_fact11) fnGoOnOther_fact12) fnGoOnOther_fact13) fnGoOnOther_fact14) fnGoOnOther_fact15) fnGoOnOther_fact16) fnGoOnOther_fact17) fnGoOnOther_fact18) fnGoOnOther_fact19) fnGoOnOther_fact20) fnGoOnOther_fact21) fnGoOnOther_fact22) fnGoOnOther_fact23) fnGoOnOther_fact24) fnGoOnOther_fact25) fnGoOnOther_fact26) fnGoOnOther_fact27) fnGoOnOther_fact28) fnGoOnOther_fact29) fnGoOnOther_fact30) fnGoOnOther_fact31

set_option maxRecDepth 100000 in
theorem fnGoOnOther_lifted (os : Os) (started : os.Started) (H : Type) (enc : TypeId × Value → H) (F : Stop.Interp) :
    ReturnsInHanded {} Try.checked os 17 .any ((Rows.OpenSpec.upto Rows.fnGoOnOtherSpec).pre6 enc Try.prog Try.f17 Rows.fnGoOnOtherUptoRow.domain false) (((Rows.OpenSpec.upto Rows.fnGoOnOtherSpec).at F).post enc Try.prog Try.f17 false true false false) := by
  refine returnsInHanded_of_cond (C := Try.checked) (s := Rows.OpenSpec.upto Rows.fnGoOnOtherSpec) (k := Rows.uptoSmall) rfl ownK started (by kernel_rfl) Try.func17
    (OpenSpec.witness (enc := enc) (C := Try.checked) (s := Rows.OpenSpec.upto Rows.fnGoOnOtherSpec) (k := Rows.uptoSmall) rfl false ⟨#[], #[.int .i64 0, .slice none 0 0, .slice none 0 0, .slice none 0 0, .slice none 0 0, .slice none 0 0, .slice none 0 0], []⟩ 8 (by kernel_rfl) (by kernel_rfl) (by kernel_rfl)
      (x := ([.lit (.int .i64 0), .nil, .nil, .nil, .nil, .nil, .nil], [], [])) (by kernel_rfl) rfl (by kernel_rfl)) ?_
  intro W base args ds gs before hval hW _ hk _
  exact fnGoOnOther_contract H enc W base args ds gs before hval hW hk

set_option maxRecDepth 100000 in
theorem fnGoOnOther_proved : Rows.FnGoOnOtherUptoSaid :=
  OpenClaim.holds_of_cond 17 Try.f17 rfl rfl rfl rfl rfl rfl rfl ⟨rfl, rfl, rfl, rfl, rfl⟩ rfl rfl rfl rfl rfl (by kernel_rfl) Try.func17 fnGoOnOther_facts
    (of_decide_eq_true (by kernel_rfl)) (by unfold Func.isWrapper; first | (rw [if_pos (by decide +kernel)]; kernel_rfl) | (rw [if_neg (by decide +kernel)]; exact ⟨rfl, rfl⟩))
    (fun os started H enc _ F => fnGoOnOther_lifted os started H enc F)

end Go.Proofs.Ythemhpefcfdcaaa
