/- For every input of bulk at most 1048576: of the kinds 0 to 3, from the state behind each write and each read, what is left to do gives what is left of the output (FnGoOnEach returns true); no other condition. -/
import Derived.Test.YthemhpefcfdcaaaKinds
import Derived.Test.YthemhpefcfdcaaaReach
import Derived.Test.YthemhpefcfdcaaaArgs
import Derived.Test.YthemhpefcfdcaaaFacts
namespace Go.Proofs.Ythemhpefcfdcaaa
open Go.RowKit Go.Deep
open Go.ChangeShapes Go.WideShapes Go.ChangeAt
set_option linter.unusedVariables false

theorem wsts_get2 (l : List UInt8) : ∀ (ls : List (List UInt8)) (s : Sp) (i : Nat), i < ls.length → (wsts l ls s)[i]? = some (marsh (s.absorb (ls.take (i + 1)).flatten) ++ l)
  | [], _, _, h => by simp at h
  | d :: ds, s, 0, _ => by simp [wsts]
  | d :: ds, s, i + 1, h => by
    have := wsts_get2 l ds (s.absorb d) i (by simpa using h)
    simp only [wsts, List.getElem?_cons_succ, this, List.take_succ_cons, List.flatten_cons, Sp.absorb_append]
theorem rsts_get2 (l : List UInt8) : ∀ (zs : List Int) (s : Sp) (i : Nat), i < zs.length → (rsts l zs s)[i]? = some (marsh (after (zs.take (i + 1)) s) ++ l)
  | [], _, _, h => by simp at h
  | n :: ns, s, 0, _ => by simp [rsts, after]
  | n :: ns, s, i + 1, h => by
    have := rsts_get2 l ns (s.read (rdLen n)) i (by simpa using h)
    simp only [rsts, List.getElem?_cons_succ, this, List.take_succ_cons, after]
theorem outs_drop (zs : List Int) (k : Nat) (s : Sp) (hk : k ≤ zs.length) : (outs zs s).drop k = outs (zs.drop k) (after (zs.take k) s) := by
  have e := outs_append (zs.take k) (zs.drop k) s
  rw [List.take_append_drop] at e
  rw [e, List.drop_append, List.drop_of_length_le (by rw [outs_len, List.length_take]; omega), outs_len, List.length_take, Nat.min_eq_left hk, Nat.sub_self]
  rfl

/-- what is left to do from the state i on -/
theorem each_plan (l : List UInt8) (ls : List (List UInt8)) (zs : List Int) (s : Sp) (ok : s.Ok) (sq : s.sq = false) (i p r : Nat) (hp : ls.length = p) (hr : zs.length = r) (hi : i < p + r) :
    ∃ (wN k : Nat) (t : Sp), wN ≤ p ∧ k ≤ r ∧ (wsts l ls s ++ rsts l zs (s.absorb ls.flatten))[i]? = some (marsh t ++ l) ∧ t.Ok ∧ (t.rate = s.rate ∧ t.ds = s.ds ∧ t.ol = s.ol) ∧ (ls.drop wN = [] ∨ t.sq = false) ∧
      outs (zs.drop k) (t.absorb (ls.drop wN).flatten) = (outs zs (s.absorb ls.flatten)).drop k ∧ (if (p : Int) < (i : Int) + 1 then (p : Int) else (i : Int) + 1) = (wN : Int) ∧ (i : Int) + 1 - (wN : Int) = (k : Int) := by
  by_cases hip : i < p
  · have okt := ok.absorb sq (ls.take (i + 1)).flatten
    obtain ⟨g1, g2, g3, _⟩ := Sp.absorb_same s (ls.take (i + 1)).flatten
    refine ⟨i + 1, 0, s.absorb (ls.take (i + 1)).flatten, by omega, by omega, ?_, okt.1, ⟨g1, g2, g3⟩, .inr okt.2, ?_, ?_, by omega⟩
    · rw [List.getElem?_append_left (by rw [wsts_len, hp]; exact hip)]
      exact wsts_get2 l ls s i (by omega)
    · rw [List.drop_zero, List.drop_zero, ← Sp.absorb_append, ← List.flatten_append, List.take_append_drop]
    · rw [if_neg (by omega)]; omega
  · have ok1 := (ok.absorb sq ls.flatten).1
    obtain ⟨k, hk⟩ : ∃ k, i = p + k := ⟨i - p, by omega⟩
    obtain ⟨g1, g2, g3, _⟩ := Sp.absorb_same s ls.flatten
    obtain ⟨f1, f2, f3⟩ := after_same (zs.take (k + 1)) (s.absorb ls.flatten)
    have hd : ls.drop p = [] := List.drop_of_length_le (by omega)
    refine ⟨p, k + 1, after (zs.take (k + 1)) (s.absorb ls.flatten), Nat.le_refl _, by omega, ?_, after_ok _ ok1, ⟨f1.trans g1, f2.trans g2, f3.trans g3⟩, .inl hd, ?_, ?_, by omega⟩
    · rw [List.getElem?_append_right (by rw [wsts_len, hp]; omega), wsts_len, hp, hk, Nat.add_sub_cancel_left]
      exact rsts_get2 l zs _ k (by omega)
    · rw [hd, outs_drop _ _ _ (by omega)]; rfl
    · rw [if_pos (by omega)]

theorem slice_at (t e : TypeId) (hu : ∀ W : World, (underlying t).run Try.prog W = .ok (.slice e) W) (hz : ∀ W : World, (sizeOf e).run Try.prog W = .ok 1 W) (a : Option Addr) (n c k : Nat) (hk : k ≤ n) (hc : n ≤ c) :
    ∃ A' : Option Addr, (∀ W, (Instr.sliceAt t (.slice a n c) (some (.int .i64 (k : Int))) none none).run Try.prog W = .ok (.slice A' (n - k) (c - k)) W) ∧ (∀ pb po, a = some ⟨pb, po, none⟩ → k < n → A' = some ⟨pb, po + k, none⟩) := by
  have h1 : ∀ W, (Instr.sliceBound (.int .i64 (k : Int)) n .sliceB).run Try.prog W = .ok k W := fun W => by
    simp [Instr.sliceBound, asIntOf, hk]
  cases a with
  | none =>
    refine ⟨none, fun W => ?_, fun pb po h => by cases h⟩
    simp [Instr.sliceAt, hu, hz, Instr.slice, Instr.sliceBounds, h1]
  | some ad =>
    refine ⟨if c = k then some ad else some (ad.add (k * 1)), fun W => ?_, fun pb po h hlt => ?_⟩
    · simp [Instr.sliceAt, hu, hz, Instr.slice, Instr.sliceBounds, h1]
    · rw [if_neg (by omega)]
      simp only [Option.some.injEq] at h
      rw [h, add_row, Nat.mul_one]
theorem slice23 {B : Nat} {w : World} {a : Option Addr} {n c k : Nat} {ls : List (List UInt8)} (h : Rows2 B w a c ls) (hn : ls.length = n) (hk : k ≤ n) :
    ∃ A' : Option Addr, (∀ W, (Instr.sliceAt 23 (.slice a n c) (some (.int .i64 (k : Int))) none none).run Try.prog W = .ok (.slice A' (n - k) (c - k)) W) ∧ (ls.drop k).length = n - k ∧ ∀ w', Rows2 B w' a c ls → Rows2 B w' A' (c - k) (ls.drop k) := by
  obtain ⟨A', e1, e2⟩ := slice_at 23 22 (fun W => by kernel_rfl) (fun W => by kernel_rfl) a n c k hk (by rw [← hn]; exact h.1)
  refine ⟨A', e1, by rw [List.length_drop, hn], fun w' h => ?_⟩
  obtain ⟨h1, h2, h3⟩ := h
  refine ⟨by rw [List.length_drop]; omega, by omega, ?_⟩
  rcases h3 with h3 | ⟨pb, po, e, hb, hl⟩
  · exact .inl (by rw [h3]; simp)
  · by_cases hlt : k < n
    · refine .inr ⟨pb, po + k, e2 pb po e hlt, hb, fun i l hi => ?_⟩
      rw [List.getElem?_drop] at hi
      rw [Nat.add_assoc]
      exact hl (k + i) l hi
    · exact .inl (List.drop_of_length_le (by omega))
theorem slice24 {B : Nat} {w : World} {a : Option Addr} {n c k : Nat} {zs : List Int} (h : Ints B w a c zs) (hn : zs.length = n) (hk : k ≤ n) :
    ∃ A' : Option Addr, (∀ W, (Instr.sliceAt 24 (.slice a n c) (some (.int .i64 (k : Int))) none none).run Try.prog W = .ok (.slice A' (n - k) (c - k)) W) ∧ (zs.drop k).length = n - k ∧ ∀ w', Ints B w' a c zs → Ints B w' A' (c - k) (zs.drop k) := by
  obtain ⟨A', e1, e2⟩ := slice_at 24 3 (fun W => by kernel_rfl) (fun W => by kernel_rfl) a n c k hk (by rw [← hn]; exact h.1)
  refine ⟨A', e1, by rw [List.length_drop, hn], fun w' h => ?_⟩
  obtain ⟨h1, h2, h3⟩ := h
  refine ⟨by rw [List.length_drop]; omega, by omega, ?_⟩
  rcases h3 with h3 | ⟨pb, po, e, hb, hl⟩
  · exact .inl (by rw [h3]; simp)
  · by_cases hlt : k < n
    · refine .inr ⟨pb, po + k, e2 pb po e hlt, hb, fun i l hi => ?_⟩
      rw [List.getElem?_drop] at hi
      rw [Nat.add_assoc]
      exact hl (k + i) l hi
    · exact .inl (List.drop_of_length_le (by omega))

set_option maxRecDepth 100000 in
set_option maxHeartbeats 2000000 in
theorem fnGoOnEach_walk (w : World) (kind : Int) (aN aS aW aR : Option Addr) (cN cS cW cR n m p r : Nat) (N S : List UInt8) (ls : List (List UInt8)) (zs : List Int)
    (hn : N.length = n) (hm : S.length = m) (hp : ls.length = p) (hr : zs.length = r) (hN : Bs w.heap.size w aN cN N) (hS : Bs w.heap.size w aS cS S) (hW : Rows2 w.heap.size w aW cW ls) (hR : Ints w.heap.size w aR cR zs)
    (hnb : n ≤ 1048576) (hmb : m ≤ 1048576) (hpb : p ≤ 1048576) (hrb : r ≤ 1048576) :
    Calls Try.prog 16 #[.int .i64 kind, .slice aN n cN, .slice aS m cS, .slice aW p cW, .slice aR r cR] w fun e w' => e = .returned (.bool true) ∧ Below w.heap.size w w' := by
  by_cases h3 : 0 ≤ kind ∧ kind ≤ 3
  case neg =>
    have HO := Lib.hid (opened_no w kind h3)
    clear hn hm hp hr hN hS hW hR h3
    go_enter Try.func16, Try.ntmps16
    go_wp2_with fail
    refine HO.out.mono ?_
    rintro e w' ⟨rfl, rfl⟩
    go_wp2_with fail
    go_ret
    exact ⟨rfl, Below.refl _ _⟩
  obtain ⟨k1, k2⟩ := h3
  have HO := Lib.hid (opened_yes w kind k1 k2)
  obtain ⟨ok0, sq0, ol0⟩ := start_ok kind N S
  have lib := startIB_le kind N S (by omega) (by omega)
  have HST := Lib.hid (states_any w kind aN aS aW aR cN cS cW cR n m p r N S ls zs hn hm hp hr hN hS hW hR (by omega) (by omega) (by omega) (by omega))
  obtain ⟨s, hs⟩ : ∃ s, s = start kind N S := ⟨_, rfl⟩
  obtain ⟨l, hl⟩ : ∃ l, l = startIB kind N S := ⟨_, rfl⟩
  rw [← hs] at ok0 sq0
  rw [← hl] at lib
  rw [← hs, ← hl] at HST
  obtain ⟨q, hq⟩ : ∃ q, l.length = q := ⟨_, rfl⟩
  have hqb : q ≤ 281474976710656 := by omega
  have plan := fun i (hi : i < p + r) => each_plan l ls zs s ok0 sq0 i p r hp hr hi
  obtain ⟨D, hD⟩ : ∃ D, D = wsts l ls s ++ rsts l zs (s.absorb ls.flatten) := ⟨_, rfl⟩
  rw [← hD] at HST plan
  obtain ⟨L, hL⟩ : ∃ L, L = outs zs (s.absorb ls.flatten) := ⟨_, rfl⟩
  rw [← hL] at plan
  have hLl : L.length = r := by rw [hL, outs_len, hr]
  have HPLAN := Lib.hid plan
  have HS := Lib.hid hs
  have HQ := Lib.hid hq
  have HLL := Lib.hid hLl
  have HL := Lib.hid hL
  have b1 : ((p : Int) + (r : Int) != (p : Int) + (r : Int)) = false := by simp
  have b2 : ((r : Int) != (r : Int)) = false := by simp
  have j0 : IntKind.i64.wrap ((p : Int) + (r : Int)) = (p : Int) + (r : Int) := IntWalk.i64_in _ (by omega)
  clear plan hD hL hs hl hq lib sq0 ok0 ol0 hLl
  go_enter Try.func16, Try.ntmps16
  go_wp2_with fail
  refine HO.out.mono ?_
  rintro e w' ⟨rfl, rfl⟩
  go_wp2_with fail
  refine HST.out.mono ?_
  rintro e w3 ⟨f3, fc3, rfl, hf3, bl3⟩
  have z3 := bl3.size
  have HSQ := Lib.hid (squeeze_any w3 kind aN aS aW aR cN cS cW cR n m p r N S ls zs hn hm hp hr ((hN.keep bl3).mono z3) ((hS.keep bl3).mono z3) ((hW.keep bl3).mono z3) ((hR.keep bl3).mono z3) (by omega) (by omega) (by omega) (by omega))
  rw [← HS.out, ← HL.out] at HSQ
  clear HST HO
  go_wp2_with fail
  refine HSQ.out.mono ?_
  rintro e w4 ⟨f4, fc4, rfl, hf4, bl4⟩
  have b4 : Below w.heap.size w w4 := bl3.trans (bl4.mono z3)
  have z4 := b4.size
  have hf3' := (hf3.keep bl4).mono bl4.size
  clear HSQ hf3
  go_wp2_with fail
  go_loopw [51] (fun v wr => ∃ i : Nat, v = .int .i64 (i : Int) ∧ i ≤ p + r ∧ Below w4.heap.size w4 wr) (fun v _ => p + r - (intOf v).toNat)
  case atStart => exact ⟨0, rfl, by omega, Below.refl _ _⟩
  case round =>
    obtain ⟨i, rfl, hi, bl5⟩ := hrel
    have bl5' : Below w.heap.size w wr := b4.trans (bl5.mono z4)
    have z5 := bl5'.size
    by_cases hlt : i < p + r
    · obtain ⟨wN, k, t, hwN, hk, hDi, okt, ⟨t1, t2, t3⟩, tsq, touts, hmin, hsub⟩ := HPLAN.out i hlt
      have lA : (marsh t ++ l).length = 207 + q := by rw [List.length_append, marsh_len _ okt.len, HQ.out]
      obtain ⟨pb, po, va, vc, g1, g2, g3, g4⟩ := hf3'.at hDi
      subst g1
      rw [lA] at g3
      have g5 : wr.cell? ⟨pb, po + i, none⟩ = some (.slice va (207 + q) vc) := by rw [bl5.cell (p := ⟨pb, po + i, none⟩) g2]; exact g3
      obtain ⟨A1, sl1, ln1, rw1⟩ := slice23 hW hp hwN
      obtain ⟨A2, sl2, ln2, rw2⟩ := slice24 hR hr hk
      obtain ⟨A3, sl3, ln3, rw3⟩ := slice23 hf4 HLL.out hk
      have bdr : Below wr.heap.size wr wr.drew := ⟨rfl, rfl, rfl, Nat.le_refl _, fun _ _ => rfl⟩
      have bd : Below w.heap.size w wr.drew := bl5'.trans (bdr.mono z5)
      have bd4 : Below w4.heap.size w4 wr.drew := bl5.trans (bdr.mono bl5.size)
      have HG := Lib.hid ((goon_any wr.drew kind aN aS va A1 A2 cN cS vc (cW - wN) (cR - k) n m q (p - wN) (r - k) N S l t (ls.drop wN) (zs.drop k) hn hm HQ.out ln1 ln2 ((hN.keep bd).mono z5) ((hS.keep bd).mono z5) ((g4.keep bd4).mono bl5.size) ((rw1 _ (hW.keep bd)).mono z5) ((rw2 _ (hR.keep bd)).mono z5) okt (by rw [← HS.out]; exact t1.symm) (by rw [← HS.out]; exact t2.symm) (by rw [← HS.out]; exact t3.symm) tsq (by omega) (by omega) (by omega) hqb (by omega)).mono fun e w' ⟨a, cap, x1, x2, x3⟩ => (⟨a, cap, x1, x2, bdr.trans x3⟩ : ∃ a cap, e = Ending.returned (.tuple #[.slice a (r - k) cap, .int .i64 0]) ∧ Rows2 w'.heap.size w' a cap (outs (zs.drop k) (t.absorb (ls.drop wN).flatten)) ∧ Below wr.heap.size wr w'))
      rw [touts] at HG
      have i1 : (i : Int) < (p : Int) + (r : Int) := by omega
      have i2 : (0 : Int) ≤ (wN : Int) := by omega
      have i3 : (wN : Int) ≤ (p : Int) := by omega
      have i4 : (k : Int) ≤ (r : Int) := by omega
      have i5 : (0 : Int) ≤ (k : Int) := by omega
      have j1 : IntKind.i64.wrap (k : Int) = (k : Int) := IntWalk.i64_in _ (by omega)
      have j2 : IntKind.i64.wrap ((i : Int) + 1) = (i : Int) + 1 := IntWalk.i64_in _ (by omega)
      have LN3 := Lib.hid ln3
      have RW3 := Lib.hid rw3
      have hlt' := hlt
      clear g3 hDi touts lA t1 t2 t3 ln1 ln2 ln3 rw1 rw2 rw3 tsq
      go_wp2_with fail
      go_region_held3 (fun _ => True) (trivial) (first | (go_at_call 31; refine HG.out.mono ?_; rintro e w6 ⟨f6, fc6, rfl, hf6, bl6⟩))
      have bl6' : Below w4.heap.size w4 w6 := bl5.trans (bl6.mono bl5.size)
      have HSP := Lib.hid (sameParts_any w6 w6.heap.size f6 A3 fc6 (fc4 - k) (r - k) (r - k) (L.drop k) LN3.out LN3.out hf6 ((RW3.out w6 (hf4.keep bl6')).mono bl6'.size))
      clear HG hf6 g5 hmin hsub
      go_wp2_with fail
      refine HSP.out.mono ?_
      rintro e w7 ⟨rfl, kk, rfl⟩
      go_wp2_with fail
      go_roundw
      case rel => exact ⟨i + 1, by go_num, by omega, Below.eqvN' bl6' kk⟩
      case measure => simp [intOf]; omega
    · have hir : i = p + r := by omega
      have i1 : ¬ (i : Int) < (p : Int) + (r : Int) := by omega
      go_wp2_with fail
      go_ret
      exact ⟨rfl, bl5'⟩

theorem fnGoOnEach_contract (H : Type) (enc : TypeId × Value → H) (W : World) (base : Nat) (args : Array Value) (ds gs : List (DataW H)) (before : List MemPlace)
    (hval : ∀ (j : Nat) t v, Try.f16.params[j]? = some t → args[j]? = some v → Value.okWide Try.prog W .any base t v)
    (hW : DataW.Whole enc Try.prog Try.f16.params.toList Rows.fnGoOnEachSpec.vars false W args.toList ds gs before)
    (hk : Rows.uptoSmall H (ds ++ gs) = true) :
    Calls Try.prog 16 args W fun e W' => ∃ v, e = .returned v ∧ Rows.fnGoOnEachSpec.post enc Try.prog Try.f16 false true false false W args v W' := by
  have hW' := hW
  obtain ⟨p, q, hA0, hV, rfl, hfz, hnd⟩ := hW
  have hA : DataW.TrodAll enc Try.prog W 0 (fun _ => true) true Try.f16.params.toList args.toList ds p := hA0
  rw [Try.params16] at hA hval
  obtain ⟨v0, vs0, d0, ds0, p0, q0, hargs, rfl, rfl, h0, r0⟩ := trodAll_cons hA
  obtain ⟨v1, vs1, d1, ds1, p1, q1, rfl, rfl, rfl, h1, r1⟩ := trodAll_cons r0
  obtain ⟨v2, vs2, d2, ds2, p2, q2, rfl, rfl, rfl, h2, r2⟩ := trodAll_cons r1
  obtain ⟨v3, vs3, d3, ds3, p3, q3, rfl, rfl, rfl, h3, r3⟩ := trodAll_cons r2
  obtain ⟨v4, vs4, d4, ds4, p4, q4, rfl, rfl, rfl, h4, r4⟩ := trodAll_cons r3
  obtain ⟨rfl, rfl, rfl⟩ := trodAll_nil r4
  obtain rfl : args = #[v0, v1, v2, v3, v4] := by cases args; simp_all
  obtain ⟨rfl, rfl⟩ := trodVars_none hV
  obtain ⟨x0, rfl, rfl, rfl, wx0⟩ := open_int Try.underlying3 (hval 0 3 v0 rfl rfl) h0
  obtain ⟨a1, len1, cap1, rfl⟩ := okWide_slice Try.underlying22 (hval 1 22 v1 rfl rfl)
  have k1 := h1
  have lt1 : ∀ x ∈ p1, x.block < W.heap.size := by obtain ⟨m, hm⟩ := k1; exact DataW.trod_lt m _ _ _ hm
  obtain ⟨fu1, hf1⟩ := h1
  obtain ⟨l1, el1, b1, u1⟩ := openBs (by simpa [Value.cells] using hf1)
  obtain ⟨a2, len2, cap2, rfl⟩ := okWide_slice Try.underlying22 (hval 2 22 v2 rfl rfl)
  have k2 := h2
  have lt2 : ∀ x ∈ p2, x.block < W.heap.size := by obtain ⟨m, hm⟩ := k2; exact DataW.trod_lt m _ _ _ hm
  obtain ⟨fu2, hf2⟩ := h2
  obtain ⟨l2, el2, b2, u2⟩ := openBs (by simpa [Value.cells] using hf2)
  obtain ⟨a3, len3, cap3, rfl⟩ := okWide_slice Try.underlying23 (hval 3 23 v3 rfl rfl)
  have k3 := h3
  have lt3 : ∀ x ∈ p3, x.block < W.heap.size := by obtain ⟨m, hm⟩ := k3; exact DataW.trod_lt m _ _ _ hm
  obtain ⟨fu3, hf3⟩ := h3
  obtain ⟨l3, el3, b3, u3, uu3⟩ := openRows (by simpa [Value.cells] using hf3)
  obtain ⟨a4, len4, cap4, rfl⟩ := okWide_slice Try.underlying24 (hval 4 24 v4 rfl rfl)
  have k4 := h4
  have lt4 : ∀ x ∈ p4, x.block < W.heap.size := by obtain ⟨m, hm⟩ := k4; exact DataW.trod_lt m _ _ _ hm
  obtain ⟨fu4, hf4⟩ := h4
  obtain ⟨l4, el4, b4, u4, uu4⟩ := openInts (by simpa [Value.cells] using hf4)
  have hb := bulk_bound hk
  simp only [List.append_nil, Rows.uptoBulkAll] at hb
  clear hA0
  refine (fnGoOnEach_walk W x0 a1 a2 a3 a4 cap1 cap2 cap3 cap4 len1 len2 len3 len4 l1 l2 l3 l4 el1 el2 el3 el4 b1 b2 b3 b4 (by omega) (by omega) (by omega) (by omega)).mono fun e W' ⟨he, bel⟩ => ?_
  subst he
  exact ⟨_, rfl, _, _, _, [], _, [], hW', trodAll_mk1 (shut_bool Try.underlying4 _), (trodAll_cons_mk (shut_int Try.underlying3 wx0) (trodAll_cons_mk (Below.trod laidOut (by kernel_rfl) (of_decide_eq_true (by kernel_rfl)) k1 bel lt1) (trodAll_cons_mk (Below.trod laidOut (by kernel_rfl) (of_decide_eq_true (by kernel_rfl)) k2 bel lt2) (trodAll_cons_mk (Below.trod laidOut (by kernel_rfl) (of_decide_eq_true (by kernel_rfl)) k3 bel lt3) (trodAll_cons_mk (Below.trod laidOut (by kernel_rfl) (of_decide_eq_true (by kernel_rfl)) k4 bel lt4) trodAll_mk0))))), rfl, bel.frame _, fun h => by cases h⟩

theorem fnGoOnEach_fact0 : (fun (P : Program) (f : FuncId) (fn : Func) (s : ChangeSpec) (c : OpenClaim) => (c.wf (OpenSpec.ofChange s) : Bool)) Try.prog 16 Try.f16 Rows.fnGoOnEachSpec Rows.fnGoOnEachUptoRow = true := by kernel_rfl
theorem fnGoOnEach_fact1 : (fun (P : Program) (f : FuncId) (fn : Func) (s : ChangeSpec) (c : OpenClaim) => (laidOutB P : Bool)) Try.prog 16 Try.f16 Rows.fnGoOnEachSpec Rows.fnGoOnEachUptoRow = true := prog_laid
theorem fnGoOnEach_fact2 : (fun (P : Program) (f : FuncId) (fn : Func) (s : ChangeSpec) (c : OpenClaim) => (mapsRowed P : Bool)) Try.prog 16 Try.f16 Rows.fnGoOnEachSpec Rows.fnGoOnEachUptoRow = true := prog_maps
theorem fnGoOnEach_fact3 : (fun (P : Program) (f : FuncId) (fn : Func) (s : ChangeSpec) (c : OpenClaim) => (fn.params.all (P.readableRec ·) : Bool)) Try.prog 16 Try.f16 Rows.fnGoOnEachSpec Rows.fnGoOnEachUptoRow = true := by kernel_rfl
theorem fnGoOnEach_fact4 : (fun (P : Program) (f : FuncId) (fn : Func) (s : ChangeSpec) (c : OpenClaim) => (namedTie P c.named s.vars : Bool)) Try.prog 16 Try.f16 Rows.fnGoOnEachSpec Rows.fnGoOnEachUptoRow = true := by kernel_rfl
theorem fnGoOnEach_fact5 : (fun (P : Program) (f : FuncId) (fn : Func) (s : ChangeSpec) (c : OpenClaim) => ((c.stops == []) : Bool)) Try.prog 16 Try.f16 Rows.fnGoOnEachSpec Rows.fnGoOnEachUptoRow = true := by kernel_rfl
theorem fnGoOnEach_fact6 : (fun (P : Program) (f : FuncId) (fn : Func) (s : ChangeSpec) (c : OpenClaim) => ((P.stops == []) : Bool)) Try.prog 16 Try.f16 Rows.fnGoOnEachSpec Rows.fnGoOnEachUptoRow = true := prog_stops
theorem fnGoOnEach_fact7 : (fun (P : Program) (f : FuncId) (fn : Func) (s : ChangeSpec) (c : OpenClaim) => ((c.knobs == []) : Bool)) Try.prog 16 Try.f16 Rows.fnGoOnEachSpec Rows.fnGoOnEachUptoRow = true := by kernel_rfl
theorem fnGoOnEach_fact8 : (fun (P : Program) (f : FuncId) (fn : Func) (s : ChangeSpec) (c : OpenClaim) => ((P.stopKnobs == []) : Bool)) Try.prog 16 Try.f16 Rows.fnGoOnEachSpec Rows.fnGoOnEachUptoRow = true := prog_knobs
theorem fnGoOnEach_fact9 : (fun (P : Program) (f : FuncId) (fn : Func) (s : ChangeSpec) (c : OpenClaim) => ((c.inPlace == P.inPlace f) : Bool)) Try.prog 16 Try.f16 Rows.fnGoOnEachSpec Rows.fnGoOnEachUptoRow = true := by kernel_rfl
theorem fnGoOnEach_fact10 : (fun (P : Program) (f : FuncId) (fn : Func) (s : ChangeSpec) (c : OpenClaim) => ((c.unfollowed == P.unfollowed f) : Bool)) Try.prog 16 Try.f16 Rows.fnGoOnEachSpec Rows.fnGoOnEachUptoRow = true := by kernel_rfl
theorem fnGoOnEach_fact11 : (fun (P : Program) (f : FuncId) (fn : Func) (s : ChangeSpec) (c : OpenClaim) => ((c.recurses == P.recurses f) : Bool)) Try.prog 16 Try.f16 Rows.fnGoOnEachSpec Rows.fnGoOnEachUptoRow = true := by kernel_rfl
theorem fnGoOnEach_fact12 : (fun (P : Program) (f : FuncId) (fn : Func) (s : ChangeSpec) (c : OpenClaim) => ((c.named == P.varsNamed f) : Bool)) Try.prog 16 Try.f16 Rows.fnGoOnEachSpec Rows.fnGoOnEachUptoRow = true := by kernel_rfl
theorem fnGoOnEach_fact13 : (fun (P : Program) (f : FuncId) (fn : Func) (s : ChangeSpec) (c : OpenClaim) => ((c.maps == (fn.params.toList ++ s.plain.varTypes P).any (P.mapsRec ·)) : Bool)) Try.prog 16 Try.f16 Rows.fnGoOnEachSpec Rows.fnGoOnEachUptoRow = true := by kernel_rfl
theorem fnGoOnEach_fact14 : (fun (P : Program) (f : FuncId) (fn : Func) (s : ChangeSpec) (c : OpenClaim) => ((c.ifaces == (fn.params.toList ++ s.plain.varTypes P).any (P.ifacesRec ·)) : Bool)) Try.prog 16 Try.f16 Rows.fnGoOnEachSpec Rows.fnGoOnEachUptoRow = true := by kernel_rfl
theorem fnGoOnEach_fact15 : (fun (P : Program) (f : FuncId) (fn : Func) (s : ChangeSpec) (c : OpenClaim) => ((c.mapsOut == P.mapsAmong fn.resultTypes.toList) : Bool)) Try.prog 16 Try.f16 Rows.fnGoOnEachSpec Rows.fnGoOnEachUptoRow = true := by kernel_rfl
theorem fnGoOnEach_fact16 : (fun (P : Program) (f : FuncId) (fn : Func) (s : ChangeSpec) (c : OpenClaim) => ((c.loops == (fn.params.toList ++ s.plain.varTypes P).any (P.loopsFrom ·)) : Bool)) Try.prog 16 Try.f16 Rows.fnGoOnEachSpec Rows.fnGoOnEachUptoRow = true := by kernel_rfl
theorem fnGoOnEach_fact17 : (fun (P : Program) (f : FuncId) (fn : Func) (s : ChangeSpec) (c : OpenClaim) => ((c.wideKeys == (fn.params.toList ++ s.plain.varTypes P ++ fn.resultTypes.toList).any (P.wideKeysFrom ·)) : Bool)) Try.prog 16 Try.f16 Rows.fnGoOnEachSpec Rows.fnGoOnEachUptoRow = true := by kernel_rfl
theorem fnGoOnEach_fact18 : (fun (P : Program) (f : FuncId) (fn : Func) (s : ChangeSpec) (c : OpenClaim) => (s.vars.all (P.varReadable ·) : Bool)) Try.prog 16 Try.f16 Rows.fnGoOnEachSpec Rows.fnGoOnEachUptoRow = true := by kernel_rfl
theorem fnGoOnEach_fact19 : (fun (P : Program) (f : FuncId) (fn : Func) (s : ChangeSpec) (c : OpenClaim) => (fn.resultTypes.all (fun t => P.readableRec t && decide (t < P.types.size)) : Bool)) Try.prog 16 Try.f16 Rows.fnGoOnEachSpec Rows.fnGoOnEachUptoRow = true := by kernel_rfl
theorem fnGoOnEach_fact20 : (fun (P : Program) (f : FuncId) (fn : Func) (s : ChangeSpec) (c : OpenClaim) => ((c.ifacesOut == fn.resultTypes.toList.any (P.ifacesRec ·)) : Bool)) Try.prog 16 Try.f16 Rows.fnGoOnEachSpec Rows.fnGoOnEachUptoRow = true := by kernel_rfl
theorem fnGoOnEach_fact21 : (fun (P : Program) (f : FuncId) (fn : Func) (s : ChangeSpec) (c : OpenClaim) => ((c.loopsOut == fn.resultTypes.toList.any (P.loopsFrom ·)) : Bool)) Try.prog 16 Try.f16 Rows.fnGoOnEachSpec Rows.fnGoOnEachUptoRow = true := by kernel_rfl
theorem fnGoOnEach_fact22 : (fun (P : Program) (f : FuncId) (fn : Func) (s : ChangeSpec) (c : OpenClaim) => ((c.plainKeys == P.plainKeys) : Bool)) Try.prog 16 Try.f16 Rows.fnGoOnEachSpec Rows.fnGoOnEachUptoRow = true := prog_keys
theorem fnGoOnEach_fact23 : (fun (P : Program) (f : FuncId) (fn : Func) (s : ChangeSpec) (c : OpenClaim) => (c.shortTexts.isNone : Bool)) Try.prog 16 Try.f16 Rows.fnGoOnEachSpec Rows.fnGoOnEachUptoRow = true := by kernel_rfl
theorem fnGoOnEach_fact24 : (fun (P : Program) (f : FuncId) (fn : Func) (s : ChangeSpec) (c : OpenClaim) => (P.stopsHeard : Bool)) Try.prog 16 Try.f16 Rows.fnGoOnEachSpec Rows.fnGoOnEachUptoRow = true := prog_heard
theorem fnGoOnEach_fact25 : (fun (P : Program) (f : FuncId) (fn : Func) (s : ChangeSpec) (c : OpenClaim) => (P.mayEnter : Bool)) Try.prog 16 Try.f16 Rows.fnGoOnEachSpec Rows.fnGoOnEachUptoRow = true := prog_enter
theorem fnGoOnEach_fact26 : (fun (P : Program) (f : FuncId) (fn : Func) (s : ChangeSpec) (c : OpenClaim) => ((c.lifted == P.liftsFinal) : Bool)) Try.prog 16 Try.f16 Rows.fnGoOnEachSpec Rows.fnGoOnEachUptoRow = true := prog_lifts
theorem fnGoOnEach_fact27 : (fun (P : Program) (f : FuncId) (fn : Func) (s : ChangeSpec) (c : OpenClaim) => ((P.make == some c.make) : Bool)) Try.prog 16 Try.f16 Rows.fnGoOnEachSpec Rows.fnGoOnEachUptoRow = true := prog_make
theorem fnGoOnEach_fact28 : (fun (P : Program) (f : FuncId) (fn : Func) (s : ChangeSpec) (c : OpenClaim) => ((c.kinds == (if c.domain.isEmpty then [] else fn.params.toList.map fun t => match P.underlying t with | some (.int k) => some k | _ => none)) : Bool)) Try.prog 16 Try.f16 Rows.fnGoOnEachSpec Rows.fnGoOnEachUptoRow = true := by kernel_rfl
theorem fnGoOnEach_fact29 : (fun (P : Program) (f : FuncId) (fn : Func) (s : ChangeSpec) (c : OpenClaim) => ((c.pinned == c.pinnedBy) : Bool)) Try.prog 16 Try.f16 Rows.fnGoOnEachSpec Rows.fnGoOnEachUptoRow = true := by kernel_rfl
theorem fnGoOnEach_fact30 : (fun (P : Program) (f : FuncId) (fn : Func) (s : ChangeSpec) (c : OpenClaim) => ((c.veiled == (fn.params.toList ++ s.plain.varTypes P ++ fn.resultTypes.toList).any (P.veiledRec ·)) : Bool)) Try.prog 16 Try.f16 Rows.fnGoOnEachSpec Rows.fnGoOnEachUptoRow = true := by kernel_rfl
theorem fnGoOnEach_fact31 : (fun (P : Program) (f : FuncId) (fn : Func) (s : ChangeSpec) (c : OpenClaim) => (c.veiledFits P fn.params.toList (fn.params.toList ++ s.plain.varTypes P ++ fn.resultTypes.toList) : Bool)) Try.prog 16 Try.f16 Rows.fnGoOnEachSpec Rows.fnGoOnEachUptoRow = true := by kernel_rfl
set_option maxRecDepth 100000 in
theorem fnGoOnEach_facts : joinedFacts Try.prog 16 Try.f16 Rows.fnGoOnEachSpec Rows.fnGoOnEachUptoRow = true := and_mk (and_mk (and_mk (and_mk (and_mk (and_mk (and_mk (and_mk (and_mk (and_mk (and_mk (and_mk (and_mk (and_mk (and_mk (and_mk (and_mk (and_mk (and_mk (and_mk (and_mk (and_mk (and_mk (and_mk (and_mk (and_mk (and_mk (and_mk (and_mk (and_mk (and_mk (fnGoOnEach_fact0) fnGoOnEach_fact1) fnGoOnEach_fact2) fnGoOnEach_fact3) fnGoOnEach_fact4) fnGoOnEach_fact5) fnGoOnEach_fact6) fnGoOnEach_fact7) fnGoOnEach_fact8) fnGoOnEach_fact9) fnGoOnEach_fact10) fnGoOnEach_fact11) fnGoOnEach_fact12) fnGoOnEach_fact13) fnGoOnEach_fact14) fnGoOnEach_fact15) fnGoOnEach_fact16) fnGoOnEach_fact17) fnGoOnEach_fact18) fnGoOnEach_fact19) fnGoOnEach_fact20) fnGoOnEach_fact21) fnGoOnEach_fact22) fnGoOnEach_fact23) fnGoOnEach_fact24) fnGoOnEach_fact25) fnGoOnEach_fact26) fnGoOnEach_fact27) fnGoOnEach_fact28) fnGoOnEach_fact29) fnGoOnEach_fact30) fnGoOnEach_fact31

set_option maxRecDepth 100000 in
theorem fnGoOnEach_lifted (os : Os) (started : os.Started) (H : Type) (enc : TypeId × Value → H) (F : Stop.Interp) :
    ReturnsInHanded {} Try.checked os 16 .any ((Rows.OpenSpec.upto Rows.fnGoOnEachSpec).pre6 enc Try.prog Try.f16 Rows.fnGoOnEachUptoRow.domain false) (((Rows.OpenSpec.upto Rows.fnGoOnEachSpec).at F).post enc Try.prog Try.f16 false true false false) := by
  refine returnsInHanded_of_cond (C := Try.checked) (s := Rows.OpenSpec.upto Rows.fnGoOnEachSpec) (k := Rows.uptoSmall) rfl ownK started (by kernel_rfl) Try.func16
    (OpenSpec.witness (enc := enc) (C := Try.checked) (s := Rows.OpenSpec.upto Rows.fnGoOnEachSpec) (k := Rows.uptoSmall) rfl false ⟨#[], #[.int .i64 0, .slice none 0 0, .slice none 0 0, .slice none 0 0, .slice none 0 0], []⟩ 8 (by kernel_rfl) (by kernel_rfl) (by kernel_rfl)
      (x := ([.lit (.int .i64 0), .nil, .nil, .nil, .nil], [], [])) (by kernel_rfl) rfl (by kernel_rfl)) ?_
  intro W base args ds gs before hval hW _ hk _
  exact fnGoOnEach_contract H enc W base args ds gs before hval hW hk

set_option maxRecDepth 100000 in
theorem fnGoOnEach_proved : Rows.FnGoOnEachUptoSaid :=
  OpenClaim.holds_of_cond 16 Try.f16 rfl rfl rfl rfl rfl rfl rfl ⟨rfl, rfl, rfl, rfl, rfl⟩ rfl rfl rfl rfl rfl (by kernel_rfl) Try.func16 fnGoOnEach_facts
    (of_decide_eq_true (by kernel_rfl)) (by unfold Func.isWrapper; first | (rw [if_pos (by decide +kernel)]; kernel_rfl) | (rw [if_neg (by decide +kernel)]; exact ⟨rfl, rfl⟩))
    (fun os started H enc _ F => fnGoOnEach_lifted os started H enc F)

end Go.Proofs.Ythemhpefcfdcaaa
