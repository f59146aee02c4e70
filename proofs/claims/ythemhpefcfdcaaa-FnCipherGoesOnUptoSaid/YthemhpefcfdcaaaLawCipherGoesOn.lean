/- For every input of bulk at most 1048576: of the kinds 0 to 3, from the state behind the key, what is read ciphers bytes, part by part (FnCipherGoesOn returns true); no other condition. -/
import Derived.Test.YthemhpefcfdcaaaKinds
import Derived.Test.YthemhpefcfdcaaaCut
import Derived.Test.YthemhpefcfdcaaaArgs
import Derived.Test.YthemhpefcfdcaaaFacts
namespace Go.Proofs.Ythemhpefcfdcaaa
open Go.RowKit Go.Deep
open Go.ChangeShapes Go.WideShapes Go.ChangeAt
set_option linter.unusedVariables false

theorem outs_sum2 : ∀ (ks : List Nat) (s : Sp), (∀ k ∈ ks, k ≤ 4096) → (outs (ks.map Int.ofNat) s).flatten = s.out ks.sum
  | [], s, _ => rfl
  | k :: ks, s, h => by
    have e : rdLen (Int.ofNat k) = k := rdLen_nat k (h k (by simp))
    simp only [List.map_cons, outs, e, List.flatten_cons, outs_sum2 ks _ (fun x hx => h x (by simp [hx])), List.sum_cons, Sp.out_add]
theorem outs_sizes2 (T : Nat) (hT : T ≤ 4096) (zs : List Int) (s : Sp) : (outs ((sizes T zs).map Int.ofNat) s).flatten = s.out T := by
  rw [outs_sum2 _ _ (fun k hk => by have := sizes_le zs T k hk; omega), sizes_sum]

set_option maxRecDepth 100000 in
set_option maxHeartbeats 2000000 in
theorem fnCipherGoesOn_walk (w : World) (kind : Int) (aN aS aK aD aC : Option Addr) (cN cS cK cD cC n m kk d r : Nat) (N S key data : List UInt8) (zs : List Int)
    (hn : N.length = n) (hm : S.length = m) (hkk : key.length = kk) (hd : data.length = d) (hr : zs.length = r) (hN : Bs w.heap.size w aN cN N) (hS : Bs w.heap.size w aS cS S) (hK : Bs w.heap.size w aK cK key) (hD : Bs w.heap.size w aD cD data) (hC : Ints w.heap.size w aC cC zs)
    (hnb : n ≤ 1048576) (hmb : m ≤ 1048576) (hkb : kk ≤ 1048576) (hdb : d ≤ 1048576) (hrb : r ≤ 1048576) :
    Calls Try.prog 18 #[.int .i64 kind, .slice aN n cN, .slice aS m cS, .slice aK kk cK, .slice aD d cD, .slice aC r cC] w fun e w' => e = .returned (.bool true) ∧ Below w.heap.size w w' := by
  by_cases h1 : (4096 : Int) < (d : Int)
  · clear hn hm hkk hd hr hN hS hK hD hC
    go_enter Try.func18, Try.ntmps18
    go_wp2_with fail
    go_ret
    exact ⟨rfl, Below.refl _ _⟩
  by_cases h3 : 0 ≤ kind ∧ kind ≤ 3
  case neg =>
    have HO := Lib.hid (opened_no w kind h3)
    clear hn hm hkk hd hr hN hS hK hD hC h3
    go_enter Try.func18, Try.ntmps18
    go_wp2_with fail
    refine HO.out.mono ?_
    rintro e w' ⟨rfl, rfl⟩
    go_wp2_with fail
    go_ret
    exact ⟨rfl, Below.refl _ _⟩
  have hd4 : d ≤ 4096 := by omega
  obtain ⟨k1, k2⟩ := h3
  have HO := Lib.hid (opened_yes w kind k1 k2)
  obtain ⟨ok0, sq0, ol0⟩ := start_ok kind N S
  have lib := startIB_le kind N S (by omega) (by omega)
  obtain ⟨s, hs⟩ : ∃ s, s = start kind N S := ⟨_, rfl⟩
  obtain ⟨l, hl⟩ : ∃ l, l = startIB kind N S := ⟨_, rfl⟩
  rw [← hs] at ok0 sq0
  rw [← hl] at lib
  obtain ⟨q, hq⟩ : ∃ q, l.length = q := ⟨_, rfl⟩
  have hqb : q ≤ 281474976710656 := by omega
  obtain ⟨s1, hs1⟩ : ∃ s1, s1 = s.absorb key := ⟨_, rfl⟩
  have ok1 : s1.Ok ∧ s1.sq = false := by rw [hs1]; exact ok0.absorb sq0 _
  have e1 : (start kind N S).rate = s1.rate ∧ (start kind N S).ds = s1.ds ∧ (start kind N S).ol = s1.ol := by
    rw [← hs, hs1]
    obtain ⟨g1, g2, g3, _⟩ := Sp.absorb_same s key
    exact ⟨g1.symm, g2.symm, g3.symm⟩
  have lA : (marsh s1 ++ l).length = 207 + q := by rw [List.length_append, marsh_len _ ok1.1.len, hq]
  obtain ⟨w1, hw1⟩ : ∃ w1, w1 = w.alloc (.cells #[.slice aK kk cK] 22) := ⟨_, rfl⟩
  have bl1 : Below w.heap.size w w1 := by rw [hw1]; exact (Below.refl _ _).alloc (Nat.le_refl _) _
  have hR1 : Rows2 w1.heap.size w1 (some ⟨w.heap.size, 0, none⟩) 1 [key] := by rw [hw1]; exact rows2_one hkk hK
  have z1 := bl1.size
  have HST := Lib.hid (states_any w1 kind aN aS (some ⟨w.heap.size, 0, none⟩) none cN cS 1 0 n m 1 0 N S [key] [] hn hm rfl rfl ((hN.keep bl1).mono z1) ((hS.keep bl1).mono z1) hR1 ⟨Nat.le_refl _, by omega, .inl rfl⟩ (by omega) (by omega) (by omega) (by omega))
  have eD : wsts (startIB kind N S) [key] (start kind N S) ++ rsts (startIB kind N S) [] ((start kind N S).absorb [key].flatten) = [marsh s1 ++ l] := by
    rw [← hs, ← hl]
    simp [wsts, rsts, ← hs1]
  rw [eD] at HST
  have HW1 := Lib.hid hw1
  have HLA := Lib.hid lA
  have HE1 := Lib.hid e1
  have HSQ := Lib.hid ok1.2
  have ok1' := ok1.1
  have HQ := Lib.hid hq
  have HS := Lib.hid hs
  have HS1 := Lib.hid hs1
  clear hw1 eD lA e1 ok1 hs hl hs1 lib hq sq0 ok0 ol0 hR1
  go_enter Try.func18, Try.ntmps18
  go_wp2_with fail
  refine HO.out.mono ?_
  rintro e w' ⟨rfl, rfl⟩
  go_wp2_with fail
  rw [← HW1.out]
  refine HST.out.mono ?_
  rintro e w3 ⟨f3, fc3, rfl, hf3, bl3⟩
  have bl3' : Below w.heap.size w w3 := bl1.trans (bl3.mono z1)
  have z3 := bl3'.size
  obtain ⟨pb, po, va, vc, g1, g2, g3, g4⟩ := hf3.at (i := 0) (l := marsh s1 ++ l) rfl
  subst g1
  rw [HLA.out, Nat.add_zero] at g3
  have bd3 : Below w3.heap.size w3 w3.drew := ⟨rfl, rfl, rfl, Nat.le_refl _, fun _ _ => rfl⟩
  have HZ := Lib.hid ((sizes_any w3.drew d r cC aC zs hr ((hC.keep (bl3'.trans (bd3.mono z3))).mono z3) (by omega) (by omega)).mono fun e w' ⟨a, cap, x1, x2, x3⟩ => (⟨a, cap, x1, x2, bd3.trans x3⟩ : ∃ a cap, e = Ending.returned (.slice a (r + 1) cap) ∧ w'.ownsRow w3.heap.size 3 1 (.slice a (r + 1) cap) (r + 1) (((sizes d zs).map Int.ofNat).map (Value.int .i64)) ∧ Below w3.heap.size w3 w'))
  have hg : ∀ w5 f5 fc5, Below w3.heap.size w3 w5 → w5.ownsRow w3.heap.size 3 1 (.slice f5 (r + 1) fc5) (r + 1) (((sizes d zs).map Int.ofNat).map (Value.int .i64)) →
      Calls Try.prog 31 #[.int .i64 kind, .slice aN n cN, .slice aS m cS, .slice va (207 + q) vc, .slice none 0 0, .slice f5 (r + 1) fc5] w5 fun e w' => ∃ a cap, e = .returned (.tuple #[.slice a (r + 1) cap, .int .i64 0]) ∧ Rows2 w'.heap.size w' a cap (outs ((sizes d zs).map Int.ofNat) s1) ∧ Below w5.heap.size w5 w' := fun w5 f5 fc5 bl5 ow5 => by
    have bl5' : Below w.heap.size w w5 := bl3'.trans (bl5.mono z3)
    have z5 := bl5'.size
    obtain ⟨hl5, hI5⟩ := Ints.of_own ow5
    exact goon_any w5 kind aN aS va none f5 cN cS vc 0 fc5 n m q 0 (r + 1) N S l s1 [] _ hn hm HQ.out rfl hl5 ((hN.keep bl5').mono z5) ((hS.keep bl5').mono z5) ((g4.keep bl5).mono bl5.size) ⟨Nat.le_refl _, by omega, .inl rfl⟩ hI5 ok1' HE1.out.1 HE1.out.2.1 HE1.out.2.2 (.inl rfl) (by omega) (by omega) (by omega) hqb (by omega)
  have HG := Lib.hid hg
  clear HST HO hg hf3 g4
  go_wp2_with fail
  go_region_held3 (fun W => W.cell? ⟨pb, po, none⟩ = some (.slice va (207 + q) vc)) (first | assumption | go_keep) (first | (go_at_call 23; refine HZ.out.mono ?_; rintro e w5 ⟨f5, fc5, rfl, ow5, bl5⟩; have g5 : w5.cell? ⟨pb, po, none⟩ = some (.slice va (207 + q) vc) := (by rw [bl5.cell (p := ⟨pb, po, none⟩) g2]; exact g3)) | (go_at_call 31; refine (HG.out w5 f5 fc5 bl5 ow5).mono ?_; rintro e w6 ⟨f6, fc6, rfl, hf6, bl6⟩; have g6 : w6.cell? ⟨pb, po, none⟩ = some (.slice va (207 + q) vc) := (by rw [bl6.cell (p := ⟨pb, po, none⟩) (Nat.lt_of_lt_of_le g2 bl5.size)]; exact g5)))
  have bl6' : Below w3.heap.size w3 w6 := bl5.trans (bl6.mono bl5.size)
  have b6 : Below w.heap.size w w6 := bl3'.trans (bl6'.mono z3)
  have z6 := b6.size
  have HC2 := Lib.hid (cipher_any w6 kind aN aS aK aD none cN cS cK cD 0 n m kk d 0 N S key data [] hn hm hkk hd rfl ((hN.keep b6).mono z6) ((hS.keep b6).mono z6) ((hK.keep b6).mono z6) ((hD.keep b6).mono z6) ⟨Nat.le_refl _, by omega, .inl rfl⟩ (by omega) (by omega) (by omega) (by omega))
  rw [← HS.out, ← HS1.out] at HC2
  clear HZ HG g5 g6 g3
  go_wp2_with fail
  refine HC2.out.mono ?_
  rintro e w7 ⟨f7, fc7, rfl, hf7, bl7⟩
  have b7 : Below w.heap.size w w7 := b6.trans (bl7.mono z6)
  have z7 := b7.size
  have hflat := outs_sizes2 d hd4 zs s1
  have HJ := Lib.hid (joined_any w7 f6 fc6 (r + 1) d (outs ((sizes d zs).map Int.ofNat) s1) (by rw [outs_len, List.length_map, sizes_len, hr]) (by rw [hflat, Sp.out_length]) ((hf6.keep bl7).mono bl7.size) (by omega))
  rw [hflat] at HJ
  clear HC2 hflat hf6
  go_wp2_with fail
  refine HJ.out.mono ?_
  rintro e w8 ⟨f8, fc8, rfl, hf8, bl8⟩
  have b8 : Below w.heap.size w w8 := b7.trans (bl8.mono z7)
  have z8 := b8.size
  have HM := Lib.hid (mixed_any w8 aD f8 cD fc8 d d d data _ hd (Sp.out_length _ _) (by omega) ((hD.keep b8).mono z8) hf8 (by omega))
  clear HJ hf8
  go_wp2_with fail
  refine HM.out.mono ?_
  rintro e w9 ⟨f9, fc9, rfl, hf9, bl9⟩
  have b9 : Below w.heap.size w w9 := b8.trans (bl9.mono z8)
  have bb79 : Below w7.heap.size w7 w9 := bl8.trans (bl9.mono bl8.size)
  have e9 : List.zipWith (· ^^^ ·) data (s1.out d) = ciph s1 data := by rw [ciph, hd]
  rw [e9] at hf9
  have HSA := Lib.hid (same_any w9 w9.heap.size f7 f9 fc7 fc9 d d _ (by rw [ciph_len, hd]) (by rw [ciph_len, hd]) ((hf7.keep bb79).mono bb79.size) hf9)
  clear HM hf9 e9 hf7 hn hm hkk hd hr
  go_wp2_with fail
  refine HSA.out.mono ?_
  rintro e w10 ⟨rfl, k, rfl⟩
  go_wp2_with fail
  go_ret
  exact ⟨rfl, Below.eqvN' b9 k⟩

theorem fnCipherGoesOn_contract (H : Type) (enc : TypeId × Value → H) (W : World) (base : Nat) (args : Array Value) (ds gs : List (DataW H)) (before : List MemPlace)
    (hval : ∀ (j : Nat) t v, Try.f18.params[j]? = some t → args[j]? = some v → Value.okWide Try.prog W .any base t v)
    (hW : DataW.Whole enc Try.prog Try.f18.params.toList Rows.fnCipherGoesOnSpec.vars false W args.toList ds gs before)
    (hk : Rows.uptoSmall H (ds ++ gs) = true) :
    Calls Try.prog 18 args W fun e W' => ∃ v, e = .returned v ∧ Rows.fnCipherGoesOnSpec.post enc Try.prog Try.f18 false true false false W args v W' := by
  have hW' := hW
  obtain ⟨p, q, hA0, hV, rfl, hfz, hnd⟩ := hW
  have hA : DataW.TrodAll enc Try.prog W 0 (fun _ => true) true Try.f18.params.toList args.toList ds p := hA0
  rw [Try.params18] at hA hval
  obtain ⟨v0, vs0, d0, ds0, p0, q0, hargs, rfl, rfl, h0, r0⟩ := trodAll_cons hA
  obtain ⟨v1, vs1, d1, ds1, p1, q1, rfl, rfl, rfl, h1, r1⟩ := trodAll_cons r0
  obtain ⟨v2, vs2, d2, ds2, p2, q2, rfl, rfl, rfl, h2, r2⟩ := trodAll_cons r1
  obtain ⟨v3, vs3, d3, ds3, p3, q3, rfl, rfl, rfl, h3, r3⟩ := trodAll_cons r2
  obtain ⟨v4, vs4, d4, ds4, p4, q4, rfl, rfl, rfl, h4, r4⟩ := trodAll_cons r3
  obtain ⟨v5, vs5, d5, ds5, p5, q5, rfl, rfl, rfl, h5, r5⟩ := trodAll_cons r4
  obtain ⟨rfl, rfl, rfl⟩ := trodAll_nil r5
  obtain rfl : args = #[v0, v1, v2, v3, v4, v5] := by cases args; simp_all
  obtain ⟨rfl, rfl⟩ := trodVars_none hV
  obtain ⟨x0, rfl, rfl, rfl, wx0⟩ := open_int Try.underlying3 (hval 0 3 v0 rfl rfl) h0
  obtain ⟨a1, len1, cap1, rfl⟩ := okWide_slice Try.underlying22 (hval 1 22 v1 rfl rfl)
  have k1 := h1
  have lt1 : ∀ x ∈ p1, x.block < W.heap.size := by obtain ⟨m, hm⟩ := k1; exact DataW.trod_lt m _ _ _ hm
  obtain ⟨fu1, hf1⟩ := h1
  obtain ⟨l1, el1, b1, u1⟩ := openBs (by simpa [Value.cells] using hf1)
  obtain ⟨a2, len2, cap2, rfl⟩ := okWide_slice Try.underlying22 (hval 2 22 v2 rfl rfl)
  have k2 := h2
  have lt2 : ∀ x ∈ p2, x.block < W.heap.size := by obtain ⟨m, hm⟩ := k2; exact DataW.trod_lt m _ _ _ hm
  obtain ⟨fu2, hf2⟩ := h2
  obtain ⟨l2, el2, b2, u2⟩ := openBs (by simpa [Value.cells] using hf2)
  obtain ⟨a3, len3, cap3, rfl⟩ := okWide_slice Try.underlying22 (hval 3 22 v3 rfl rfl)
  have k3 := h3
  have lt3 : ∀ x ∈ p3, x.block < W.heap.size := by obtain ⟨m, hm⟩ := k3; exact DataW.trod_lt m _ _ _ hm
  obtain ⟨fu3, hf3⟩ := h3
  obtain ⟨l3, el3, b3, u3⟩ := openBs (by simpa [Value.cells] using hf3)
  obtain ⟨a4, len4, cap4, rfl⟩ := okWide_slice Try.underlying22 (hval 4 22 v4 rfl rfl)
  have k4 := h4
  have lt4 : ∀ x ∈ p4, x.block < W.heap.size := by obtain ⟨m, hm⟩ := k4; exact DataW.trod_lt m _ _ _ hm
  obtain ⟨fu4, hf4⟩ := h4
  obtain ⟨l4, el4, b4, u4⟩ := openBs (by simpa [Value.cells] using hf4)
  obtain ⟨a5, len5, cap5, rfl⟩ := okWide_slice Try.underlying24 (hval 5 24 v5 rfl rfl)
  have k5 := h5
  have lt5 : ∀ x ∈ p5, x.block < W.heap.size := by obtain ⟨m, hm⟩ := k5; exact DataW.trod_lt m _ _ _ hm
  obtain ⟨fu5, hf5⟩ := h5
  obtain ⟨l5, el5, b5, u5, uu5⟩ := openInts (by simpa [Value.cells] using hf5)
  have hb := bulk_bound hk
  simp only [List.append_nil, Rows.uptoBulkAll] at hb
  clear hA0
  refine (fnCipherGoesOn_walk W x0 a1 a2 a3 a4 a5 cap1 cap2 cap3 cap4 cap5 len1 len2 len3 len4 len5 l1 l2 l3 l4 l5 el1 el2 el3 el4 el5 b1 b2 b3 b4 b5 (by omega) (by omega) (by omega) (by omega) (by omega)).mono fun e W' ⟨he, bel⟩ => ?_
  subst he
  exact ⟨_, rfl, _, _, _, [], _, [], hW', trodAll_mk1 (shut_bool Try.underlying4 _), (trodAll_cons_mk (shut_int Try.underlying3 wx0) (trodAll_cons_mk (Below.trod laidOut (by kernel_rfl) (of_decide_eq_true (by kernel_rfl)) k1 bel lt1) (trodAll_cons_mk (Below.trod laidOut (by kernel_rfl) (of_decide_eq_true (by kernel_rfl)) k2 bel lt2) (trodAll_cons_mk (Below.trod laidOut (by kernel_rfl) (of_decide_eq_true (by kernel_rfl)) k3 bel lt3) (trodAll_cons_mk (Below.trod laidOut (by kernel_rfl) (of_decide_eq_true (by kernel_rfl)) k4 bel lt4) (trodAll_cons_mk (Below.trod laidOut (by kernel_rfl) (of_decide_eq_true (by kernel_rfl)) k5 bel lt5) trodAll_mk0)))))), rfl, bel.frame _, fun h => by cases h⟩

theorem fnCipherGoesOn_fact0 : (fun (P : Program) (f : FuncId) (fn : Func) (s : ChangeSpec) (c : OpenClaim) => (c.wf (OpenSpec.ofChange s) : Bool)) Try.prog 18 Try.f18 Rows.fnCipherGoesOnSpec Rows.fnCipherGoesOnUptoRow = true := by kernel_rfl
theorem fnCipherGoesOn_fact1 : (fun (P : Program) (f : FuncId) (fn : Func) (s : ChangeSpec) (c : OpenClaim) => (laidOutB P : Bool)) Try.prog 18 Try.f18 Rows.fnCipherGoesOnSpec Rows.fnCipherGoesOnUptoRow = true := prog_laid
theorem fnCipherGoesOn_fact2 : (fun (P : Program) (f : FuncId) (fn : Func) (s : ChangeSpec) (c : OpenClaim) => (mapsRowed P : Bool)) Try.prog 18 Try.f18 Rows.fnCipherGoesOnSpec Rows.fnCipherGoesOnUptoRow = true := prog_maps
theorem fnCipherGoesOn_fact3 : (fun (P : Program) (f : FuncId) (fn : Func) (s : ChangeSpec) (c : OpenClaim) => (fn.params.all (P.readableRec ·) : Bool)) Try.prog 18 Try.f18 Rows.fnCipherGoesOnSpec Rows.fnCipherGoesOnUptoRow = true := by kernel_rfl
theorem fnCipherGoesOn_fact4 : (fun (P : Program) (f : FuncId) (fn : Func) (s : ChangeSpec) (c : OpenClaim) => (namedTie P c.named s.vars : Bool)) Try.prog 18 Try.f18 Rows.fnCipherGoesOnSpec Rows.fnCipherGoesOnUptoRow = true := by kernel_rfl
theorem fnCipherGoesOn_fact5 : (fun (P : Program) (f : FuncId) (fn : Func) (s : ChangeSpec) (c : OpenClaim) => ((c.stops == []) : Bool)) Try.prog 18 Try.f18 Rows.fnCipherGoesOnSpec Rows.fnCipherGoesOnUptoRow = true := by kernel_rfl
theorem fnCipherGoesOn_fact6 : (fun (P : Program) (f : FuncId) (fn : Func) (s : ChangeSpec) (c : OpenClaim) => ((P.stops == []) : Bool)) Try.prog 18 Try.f18 Rows.fnCipherGoesOnSpec Rows.fnCipherGoesOnUptoRow = true := prog_stops
theorem fnCipherGoesOn_fact7 : (fun (P : Program) (f : FuncId) (fn : Func) (s : ChangeSpec) (c : OpenClaim) => ((c.knobs == []) : Bool)) Try.prog 18 Try.f18 Rows.fnCipherGoesOnSpec Rows.fnCipherGoesOnUptoRow = true := by kernel_rfl
theorem fnCipherGoesOn_fact8 : (fun (P : Program) (f : FuncId) (fn : Func) (s : ChangeSpec) (c : OpenClaim) => ((P.stopKnobs == []) : Bool)) Try.prog 18 Try.f18 Rows.fnCipherGoesOnSpec Rows.fnCipherGoesOnUptoRow = true := prog_knobs
theorem fnCipherGoesOn_fact9 : (fun (P : Program) (f : FuncId) (fn : Func) (s : ChangeSpec) (c : OpenClaim) => ((c.inPlace == P.inPlace f) : Bool)) Try.prog 18 Try.f18 Rows.fnCipherGoesOnSpec Rows.fnCipherGoesOnUptoRow = true := by kernel_rfl
theorem fnCipherGoesOn_fact10 : (fun (P : Program) (f : FuncId) (fn : Func) (s : ChangeSpec) (c : OpenClaim) => ((c.unfollowed == P.unfollowed f) : Bool)) Try.prog 18 Try.f18 Rows.fnCipherGoesOnSpec Rows.fnCipherGoesOnUptoRow = true := by kernel_rfl
theorem fnCipherGoesOn_fact11 : (fun (P : Program) (f : FuncId) (fn : Func) (s : ChangeSpec) (c : OpenClaim) => ((c.recurses == P.recurses f) : Bool)) Try.prog 18 Try.f18 Rows.fnCipherGoesOnSpec Rows.fnCipherGoesOnUptoRow = true := by kernel_rfl
theorem fnCipherGoesOn_fact12 : (fun (P : Program) (f : FuncId) (fn : Func) (s : ChangeSpec) (c : OpenClaim) => ((c.named == P.varsNamed f) : Bool)) Try.prog 18 Try.f18 Rows.fnCipherGoesOnSpec Rows.fnCipherGoesOnUptoRow = true := by kernel_rfl
theorem fnCipherGoesOn_fact13 : (fun (P : Program) (f : FuncId) (fn : Func) (s : ChangeSpec) (c : OpenClaim) => ((c.maps == (fn.params.toList ++ s.plain.varTypes P).any (P.mapsRec ·)) : Bool)) Try.prog 18 Try.f18 Rows.fnCipherGoesOnSpec Rows.fnCipherGoesOnUptoRow = true := by kernel_rfl
theorem fnCipherGoesOn_fact14 : (fun (P : Program) (f : FuncId) (fn : Func) (s : ChangeSpec) (c : OpenClaim) => ((c.ifaces == (fn.params.toList ++ s.plain.varTypes P).any (P.ifacesRec ·)) : Bool)) Try.prog 18 Try.f18 Rows.fnCipherGoesOnSpec Rows.fnCipherGoesOnUptoRow = true := by kernel_rfl
theorem fnCipherGoesOn_fact15 : (fun (P : Program) (f : FuncId) (fn : Func) (s : ChangeSpec) (c : OpenClaim) => ((c.mapsOut == P.mapsAmong fn.resultTypes.toList) : Bool)) Try.prog 18 Try.f18 Rows.fnCipherGoesOnSpec Rows.fnCipherGoesOnUptoRow = true := by kernel_rfl
theorem fnCipherGoesOn_fact16 : (fun (P : Program) (f : FuncId) (fn : Func) (s : ChangeSpec) (c : OpenClaim) => ((c.loops == (fn.params.toList ++ s.plain.varTypes P).any (P.loopsFrom ·)) : Bool)) Try.prog 18 Try.f18 Rows.fnCipherGoesOnSpec Rows.fnCipherGoesOnUptoRow = true := by kernel_rfl
theorem fnCipherGoesOn_fact17 : (fun (P : Program) (f : FuncId) (fn : Func) (s : ChangeSpec) (c : OpenClaim) => ((c.wideKeys == (fn.params.toList ++ s.plain.varTypes P ++ fn.resultTypes.toList).any (P.wideKeysFrom ·)) : Bool)) Try.prog 18 Try.f18 Rows.fnCipherGoesOnSpec Rows.fnCipherGoesOnUptoRow = true := by kernel_rfl
theorem fnCipherGoesOn_fact18 : (fun (P : Program) (f : FuncId) (fn : Func) (s : ChangeSpec) (c : OpenClaim) => (s.vars.all (P.varReadable ·) : Bool)) Try.prog 18 Try.f18 Rows.fnCipherGoesOnSpec Rows.fnCipherGoesOnUptoRow = true := by kernel_rfl
theorem fnCipherGoesOn_fact19 : (fun (P : Program) (f : FuncId) (fn : Func) (s : ChangeSpec) (c : OpenClaim) => (fn.resultTypes.all (fun t => P.readableRec t && decide (t < P.types.size)) : Bool)) Try.prog 18 Try.f18 Rows.fnCipherGoesOnSpec Rows.fnCipherGoesOnUptoRow = true := by kernel_rfl
theorem fnCipherGoesOn_fact20 : (fun (P : Program) (f : FuncId) (fn : Func) (s : ChangeSpec) (c : OpenClaim) => ((c.ifacesOut == fn.resultTypes.toList.any (P.ifacesRec ·)) : Bool)) Try.prog 18 Try.f18 Rows.fnCipherGoesOnSpec Rows.fnCipherGoesOnUptoRow = true := by kernel_rfl
theorem fnCipherGoesOn_fact21 : (fun (P : Program) (f : FuncId) (fn : Func) (s : ChangeSpec) (c : OpenClaim) => ((c.loopsOut == fn.resultTypes.toList.any (P.loopsFrom ·)) : Bool)) Try.prog 18 Try.f18 Rows.fnCipherGoesOnSpec Rows.fnCipherGoesOnUptoRow = true := by kernel_rfl
theorem fnCipherGoesOn_fact22 : (fun (P : Program) (f : FuncId) (fn : Func) (s : ChangeSpec) (c : OpenClaim) => ((c.plainKeys == P.plainKeys) : Bool)) Try.prog 18 Try.f18 Rows.fnCipherGoesOnSpec Rows.fnCipherGoesOnUptoRow = true := prog_keys
theorem fnCipherGoesOn_fact23 : (fun (P : Program) (f : FuncId) (fn : Func) (s : ChangeSpec) (c : OpenClaim) => (c.shortTexts.isNone : Bool)) Try.prog 18 Try.f18 Rows.fnCipherGoesOnSpec Rows.fnCipherGoesOnUptoRow = true := by kernel_rfl
theorem fnCipherGoesOn_fact24 : (fun (P : Program) (f : FuncId) (fn : Func) (s : ChangeSpec) (c : OpenClaim) => (P.stopsHeard : Bool)) Try.prog 18 Try.f18 Rows.fnCipherGoesOnSpec Rows.fnCipherGoesOnUptoRow = true := prog_heard
theorem fnCipherGoesOn_fact25 : (fun (P : Program) (f : FuncId) (fn : Func) (s : ChangeSpec) (c : OpenClaim) => (P.mayEnter : Bool)) Try.prog 18 Try.f18 Rows.fnCipherGoesOnSpec Rows.fnCipherGoesOnUptoRow = true := prog_enter
theorem fnCipherGoesOn_fact26 : (fun (P : Program) (f : FuncId) (fn : Func) (s : ChangeSpec) (c : OpenClaim) => ((c.lifted == P.liftsFinal) : Bool)) Try.prog 18 Try.f18 Rows.fnCipherGoesOnSpec Rows.fnCipherGoesOnUptoRow = true := prog_lifts
theorem fnCipherGoesOn_fact27 : (fun (P : Program) (f : FuncId) (fn : Func) (s : ChangeSpec) (c : OpenClaim) => ((P.make == some c.make) : Bool)) Try.prog 18 Try.f18 Rows.fnCipherGoesOnSpec Rows.fnCipherGoesOnUptoRow = true := prog_make
theorem fnCipherGoesOn_fact28 : (fun (P : Program) (f : FuncId) (fn : Func) (s : ChangeSpec) (c : OpenClaim) => ((c.kinds == (if c.domain.isEmpty then [] else fn.params.toList.map fun t => match P.underlying t with | some (.int k) => some k | _ => none)) : Bool)) Try.prog 18 Try.f18 Rows.fnCipherGoesOnSpec Rows.fnCipherGoesOnUptoRow = true := by kernel_rfl
theorem fnCipherGoesOn_fact29 : (fun (P : Program) (f : FuncId) (fn : Func) (s : ChangeSpec) (c : OpenClaim) => ((c.pinned == c.pinnedBy) : Bool)) Try.prog 18 Try.f18 Rows.fnCipherGoesOnSpec Rows.fnCipherGoesOnUptoRow = true := by kernel_rfl
theorem fnCipherGoesOn_fact30 : (fun (P : Program) (f : FuncId) (fn : Func) (s : ChangeSpec) (c : OpenClaim) => ((c.veiled == (fn.params.toList ++ s.plain.varTypes P ++ fn.resultTypes.toList).any (P.veiledRec ·)) : Bool)) Try.prog 18 Try.f18 Rows.fnCipherGoesOnSpec Rows.fnCipherGoesOnUptoRow = true := by kernel_rfl
theorem fnCipherGoesOn_fact31 : (fun (P : Program) (f : FuncId) (fn : Func) (s : ChangeSpec) (c : OpenClaim) => (c.veiledFits P fn.params.toList (fn.params.toList ++ s.plain.varTypes P ++ fn.resultTypes.toList) : Bool)) Try.prog 18 Try.f18 Rows.fnCipherGoesOnSpec Rows.fnCipherGoesOnUptoRow = true := by kernel_rfl
set_option maxRecDepth 100000 in
theorem fnCipherGoesOn_facts : joinedFacts Try.prog 18 Try.f18 Rows.fnCipherGoesOnSpec Rows.fnCipherGoesOnUptoRow = true := and_mk (and_mk (and_mk (and_mk (and_mk (and_mk (and_mk (and_mk (and_mk (and_mk (and_mk (and_mk (and_mk (and_mk (and_mk (and_mk (and_mk (and_mk (and_mk (and_mk (and_mk (and_mk (and_mk (and_mk (and_mk (and_mk (and_mk (and_mk (and_mk (and_mk (and_mk (fnCipherGoesOn_fact0) fnCipherGoesOn_fact1) fnCipherGoesOn_fact2) fnCipherGoesOn_fact3) fnCipherGoesOn_fact4) fnCipherGoesOn_fact5) fnCipherGoesOn_fact6) fnCipherGoesOn_fact7) fnCipherGoesOn_fact8) fnCipherGoesOn_fact9) fnCipherGoesOn_fact10) fnCipherGoesOn_fact11) fnCipherGoesOn_fact12) fnCipherGoesOn_fact13) fnCipherGoesOn_fact14) fnCipherGoesOn_fact15) fnCipherGoesOn_fact16) fnCipherGoesOn_fact17) fnCipherGoesOn_fact18) fnCipherGoesOn_fact19) fnCipherGoesOn_fact20) fnCipherGoesOn_fact21) fnCipherGoesOn_fact22) fnCipherGoesOn_fact23) fnCipherGoesOn_fact24) fnCipherGoesOn_fact25) fnCipherGoesOn_fact26) fnCipherGoesOn_fact27) fnCipherGoesOn_fact28) fnCipherGoesOn_fact29) fnCipherGoesOn_fact30) fnCipherGoesOn_fact31

set_option maxRecDepth 100000 in
theorem fnCipherGoesOn_lifted (os : Os) (started : os.Started) (H : Type) (enc : TypeId × Value → H) (F : Stop.Interp) :
    ReturnsInHanded {} Try.checked os 18 .any ((Rows.OpenSpec.upto Rows.fnCipherGoesOnSpec).pre6 enc Try.prog Try.f18 Rows.fnCipherGoesOnUptoRow.domain false) (((Rows.OpenSpec.upto Rows.fnCipherGoesOnSpec).at F).post enc Try.prog Try.f18 false true false false) := by
  refine returnsInHanded_of_cond (C := Try.checked) (s := Rows.OpenSpec.upto Rows.fnCipherGoesOnSpec) (k := Rows.uptoSmall) rfl ownK started (by kernel_rfl) Try.func18
    (OpenSpec.witness (enc := enc) (C := Try.checked) (s := Rows.OpenSpec.upto Rows.fnCipherGoesOnSpec) (k := Rows.uptoSmall) rfl false ⟨#[], #[.int .i64 0, .slice none 0 0, .slice none 0 0, .slice none 0 0, .slice none 0 0, .slice none 0 0], []⟩ 8 (by kernel_rfl) (by kernel_rfl) (by kernel_rfl)
      (x := ([.lit (.int .i64 0), .nil, .nil, .nil, .nil, .nil], [], [])) (by kernel_rfl) rfl (by kernel_rfl)) ?_
  intro W base args ds gs before hval hW _ hk _
  exact fnCipherGoesOn_contract H enc W base args ds gs before hval hW hk

set_option maxRecDepth 100000 in
theorem fnCipherGoesOn_proved : Rows.FnCipherGoesOnUptoSaid :=
  OpenClaim.holds_of_cond 18 Try.f18 rfl rfl rfl rfl rfl rfl rfl ⟨rfl, rfl, rfl, rfl, rfl⟩ rfl rfl rfl rfl rfl (by kernel_rfl) Try.func18 fnCipherGoesOn_facts
    (of_decide_eq_true (by kernel_rfl)) (by unfold Func.isWrapper; first | (rw [if_pos (by decide +kernel)]; kernel_rfl) | (rw [if_neg (by decide +kernel)]; exact ⟨rfl, rfl⟩))
    (fun os started H enc _ F => fnCipherGoesOn_lifted os started H enc F)

end Go.Proofs.Ythemhpefcfdcaaa
