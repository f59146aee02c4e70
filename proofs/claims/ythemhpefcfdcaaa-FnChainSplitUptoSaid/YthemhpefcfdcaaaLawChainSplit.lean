/- For every input of bulk at most 1048576: a chain in two parts, the second one from what the first one gave last, is the chain (FnChainSplit returns true); no other condition. -/
import Derived.Test.YthemhpefcfdcaaaVals
import Derived.Test.YthemhpefcfdcaaaArgs
import Derived.Test.YthemhpefcfdcaaaFacts
namespace Go.Proofs.Ythemhpefcfdcaaa
open Go.RowKit Go.Deep
open Go.ChangeShapes Go.WideShapes Go.ChangeAt
set_option linter.unusedVariables false

theorem own_src {w : World} {base : Nat} {e : TypeId} {a : Option Addr} {n c : Nat} {xs : List Value} (h : w.ownsRow base e 1 (.slice a n c) n xs) : xs = [] ∨ ∃ ad, a = some ad ∧ ∀ j u, xs[j]? = some u → w.cell? (ad.add j) = some u := by
  obtain ⟨h1, h2⟩ := h
  rcases h2 with ⟨e, h0⟩ | ⟨g, cap, cur, e, hg, hh, hle, hm, hsz, htk⟩
  · exact .inl (List.eq_nil_of_length_eq_zero (by omega))
  · simp only [Value.slice.injEq] at e
    obtain ⟨rfl, _, rfl⟩ := e
    refine .inr ⟨_, rfl, fun j u hj => ?_⟩
    rw [add_row]
    rw [← htk, List.getElem?_take] at hj
    split at hj
    · simp only [World.cell?, hh, Nat.zero_add]
      simpa using hj
    · cases hj
theorem Parts.vals {B : Nat} {w : World} {xs : List Value} {os : List (List UInt8)} (h : Parts B w xs os) : Vals w.heap.size w xs os :=
  ⟨h.1, fun i l hi => by obtain ⟨a, c, e1, e2⟩ := h.2 i l hi; exact ⟨a, c, e1, (Bs.of_own e2).2⟩⟩
theorem Parts.one {B : Nat} {w : World} {xs : List Value} {os : List (List UInt8)} (h : Parts B w xs os) : ∀ u ∈ xs, u.oneCell' = true := h.vals.one
theorem chain_each (s : Sp) (k : Nat) : ∀ (ps : List (List UInt8)) (st : List UInt8) (i : Nat) (l : List UInt8), (chain s k st ps)[i]? = some l → l.length = k
  | [], _, _, _, h => by simp [chain] at h
  | p :: ps, st, 0, l, h => by
    simp only [chain, List.getElem?_cons_zero, Option.some.injEq] at h
    rw [← h]; exact Sp.out_length _ _
  | p :: ps, st, i + 1, l, h => chain_each s k ps _ i l (by simpa [chain] using h)

set_option maxRecDepth 100000 in
set_option maxHeartbeats 4000000 in
theorem fnChainSplit_walk (w : World) (kind z : Int) (aN aS aT aP aM : Option Addr) (cN cS cT cP cM n m t p q : Nat) (N S st : List UInt8) (ps ms : List (List UInt8))
    (hn : N.length = n) (hm : S.length = m) (ht : st.length = t) (hp : ps.length = p) (hq : ms.length = q) (hN : Bs w.heap.size w aN cN N) (hS : Bs w.heap.size w aS cS S) (hT : Bs w.heap.size w aT cT st) (hP : Rows2 w.heap.size w aP cP ps) (hM : Rows2 w.heap.size w aM cM ms)
    (hnb : n ≤ 1048576) (hmb : m ≤ 1048576) (htb : t ≤ 1048576) (hpb : p ≤ 1048576) (hqb : q ≤ 1048576) :
    Calls Try.prog 6 #[.int .i64 kind, .slice aN n cN, .slice aS m cS, .slice aT t cT, .slice aP p cP, .slice aM q cM, .int .i64 z] w fun e w' => e = .returned (.bool true) ∧ Below w.heap.size w w' := by
  obtain ⟨k, hk⟩ : ∃ k, k = rdLen z := ⟨_, rfl⟩
  have HK := Lib.hid hk
  clear hk
  have bl1 : Below w.heap.size w (w.alloc (.cells #[] 22)) := (Below.refl _ _).alloc (Nat.le_refl _) _
  obtain ⟨a2, c2, w2, ys2, hap2, own2, hv2, bl2a⟩ := app_rows (w.alloc (.cells #[] 22)) w.heap.size _ 0 0 [] [] (own_empty w 22 w.heap.size (Nat.le_refl _)) (Vals.nil _ _) bl1.size aP p cP ps hp (hP.keep bl1) (by omega)
  rw [Nat.zero_add] at hap2 own2
  rw [List.nil_append] at hv2
  have bl2 : Below w.heap.size w w2 := bl1.trans bl2a
  obtain ⟨a3, c3, w3, ys3, hap3, own3, hv3, bl3a⟩ := app_rows w2 w.heap.size a2 p c2 ys2 ps own2 hv2 bl2.size aM q cM ms hq (hM.keep bl2) (by omega)
  have bl3 : Below w.heap.size w w3 := bl2.trans bl3a
  have s3 := bl3.size
  obtain ⟨hl3, hR3⟩ := Rows2.of_own own3 (hv3.mono s3)
  have HC := Lib.hid (chain_any w3 kind z aN aS aT a3 cN cS cT c3 n m t (p + q) k N S st (ps ++ ms) hn hm ht hl3 HK.out ((hN.keep bl3).mono s3) ((hS.keep bl3).mono s3) ((hT.keep bl3).mono s3) hR3 (by omega) (by omega) (by omega) (by omega) (by omega))
  have HAP2 := Lib.hid hap2
  have HAP3 := Lib.hid hap3
  clear hap2 hap3 own2 own3 hv2 hv3 hR3 hl3 bl1 bl2a bl3a bl2
  go_enter Try.func6, Try.ntmps6
  go_wp2_with (first | (refine wpList_appendR rfl _ _ _ rfl _ _ rfl rfl _ _ HAP2.out ?_; clear HAP2) | (refine wpList_appendR rfl _ _ _ rfl _ _ rfl rfl _ _ HAP3.out ?_; clear HAP3))
  refine HC.out.mono ?_
  rintro e w5 ⟨f5, fc5, xs5, rfl, own5, P5, bl5⟩
  have bl5' : Below w.heap.size w w5 := bl3.trans (bl5.mono s3)
  have s5 := bl5'.size
  have HC2 := Lib.hid (chain_any w5 kind z aN aS aT aP cN cS cT cP n m t p k N S st ps hn hm ht hp HK.out ((hN.keep bl5').mono s5) ((hS.keep bl5').mono s5) ((hT.keep bl5').mono s5) ((hP.keep bl5').mono s5) (by omega) (by omega) (by omega) (by omega) (by omega))
  clear HC
  go_wp2_with fail
  refine HC2.out.mono ?_
  rintro e w6 ⟨f6, fc6, xs6, rfl, own6, P6, bl6⟩
  have bl6' : Below w.heap.size w w6 := bl5'.trans (bl6.mono s5)
  have s6 := bl6'.size
  have hlf : (chain (start kind N S) k st ps).length = p := by rw [chain_len, hp]
  have hf6 : Rows2 w6.heap.size w6 f6 fc6 (chain (start kind N S) k st ps) := (Rows2.of_own own6 P6.vals).2
  have b1 : ((p : Int) != (p : Int)) = false := by simp
  have b2 : ((p : Int) + (q : Int) != (p : Int) + (q : Int)) = false := by simp
  clear HC2
  by_cases h0 : p = 0
  · have i0 : ¬ (0 : Int) < (p : Int) := by omega
    have hps : ps = [] := List.eq_nil_of_length_eq_zero (by omega)
    have ELAST : (chain (start kind N S) k st ps).getLastD st = st := by rw [hps]; rfl
    clear h0 hps
    have bw7 : Below w6.heap.size w6 (w6.alloc (.cells #[] 22)) := (Below.refl _ _).alloc (Nat.le_refl _) _
    obtain ⟨a8, c8, w8, ys8, hap8, own8, hv8, bl8a⟩ := app_rows (w6.alloc (.cells #[] 22)) w6.heap.size _ 0 0 [] [] (own_empty w6 22 w6.heap.size (Nat.le_refl _)) (Vals.nil _ _) bw7.size f6 p fc6 _ hlf (hf6.keep bw7) (by omega)
    have bl8 : Below w6.heap.size w6 w8 := bw7.trans bl8a
    rw [Nat.zero_add] at hap8 own8
    rw [List.nil_append] at hv8
    have bl8' : Below w.heap.size w w8 := bl6'.trans (bl8.mono bl6'.size)
    have s8 := bl8'.size
    have HC3 := Lib.hid (chain_any w8 kind z aN aS aT aM cN cS cT cM n m t q k N S st ms hn hm ht hq HK.out ((hN.keep bl8').mono s8) ((hS.keep bl8').mono s8) ((hT.keep bl8').mono s8) ((hM.keep bl8').mono s8) (by omega) (by omega) (by omega) (by omega) (by omega))
    have HAP8 := Lib.hid hap8
    clear hap8
    go_wp2_with (refine wpList_appendR rfl _ _ _ rfl _ _ rfl rfl _ _ HAP8.out ?_; clear HAP8)
    refine HC3.out.mono ?_
    rintro e w9 ⟨f9, fc9, xs9, rfl, own9, P9, bl9⟩
    have own8' := own_below own8 bl9
    have bl9' : Below w6.heap.size w6 w9 := bl8.trans (bl9.mono bl8.size)
    have hl9 : xs9.length = q := by rw [P9.1, chain_len, hq]
    obtain ⟨a10, c10, w10, hap10, own10, gr10⟩ := app_own w9 w6.heap.size 23 22 (.slice none 0 0) 24 Try.underlying23 info22 rfl a8 p c8 ys8 own8' bl9'.size f9 q fc9 xs9 hl9 (own_src own9) (Parts.one P9) (by omega) (by omega) 23
    have P10 := P9.keep (w' := w10) fun _ _ _ h => own_grown h own8' (by decide) gr10
    have bl10 : Below w6.heap.size w9 w10 := (Below.refl _ _).grown gr10 bl9'.size fun k hk => (own8'.lt k hk).1
    have bl10' : Below w6.heap.size w6 w10 := bl9'.trans bl10
    have hv10 : Vals w10.heap.size w10 (ys8 ++ xs9) (chain (start kind N S) k st ps ++ chain (start kind N S) k st ms) :=
      ((hv8.keep ((bl9.mono bl8.size).trans bl10)).mono bl10'.size).append P10.vals
    obtain ⟨hl10, hR10⟩ := Rows2.of_own own10 hv10
    have e10 : chain (start kind N S) k st ps ++ chain (start kind N S) k st ms = chain (start kind N S) k st (ps ++ ms) := by rw [chain_append, ELAST]
    rw [e10] at hR10 hl10
    have bb10 : Below w5.heap.size w5 w10 := bl6.trans (bl10'.mono bl6.size)
    obtain ⟨f5', fc5', e5, hR5⟩ := (P5.keep (w' := w10) fun _ _ _ h => own_below h bb10).rows2 (own_below own5 bb10)
    rw [hl10] at e5
    simp only [Value.slice.injEq] at e5
    obtain ⟨rfl, _, rfl⟩ := e5
    have HSP := Lib.hid (sameParts_any w10 w10.heap.size f5 a10 fc5 c10 (p + q) (p + q) _ hl10 hl10 hR5 hR10)
    have blF : Below w.heap.size w w10 := bl6'.trans (bl10'.mono bl6'.size)
    have HAP10 := Lib.hid hap10
    clear hap10 HC3 P9 P10 P5 hR5 hR10 hv8 hv10 own8 own8' own9 own10 own5 own6
    go_wp2_with (refine wpList_appendR rfl _ _ _ rfl _ _ rfl rfl _ _ HAP10.out ?_; clear HAP10)
    refine HSP.out.mono ?_
    rintro e w11 ⟨rfl, kk, rfl⟩
    go_wp2_with fail
    go_ret
    exact ⟨rfl, Below.eqvN' blF kk⟩

  · obtain ⟨p', rfl⟩ : ∃ p', p = p' + 1 := ⟨p - 1, by omega⟩
    have i0 : (0 : Int) < ((p' + 1 : Nat) : Int) := by omega
    have i1 : (0 : Int) < (p' : Int) + 1 := by omega
    obtain ⟨lst, hlst⟩ : ∃ lst, (chain (start kind N S) k st ps)[p']? = some lst := ⟨(chain (start kind N S) k st ps)[p']'(by omega), by simp⟩
    obtain ⟨pb, po, va, vc, e6, _, cl, hbl⟩ := hf6.at hlst
    subst e6
    have ELAST : (chain (start kind N S) k st ps).getLastD st = lst := by
      rw [List.getLastD_eq_getLast?, List.getLast?_eq_getElem?, hlf]
      simp [hlst]
    have hlb : lst.length ≤ 4096 := by
      rw [chain_each _ _ _ _ _ _ hlst, HK.out]; exact rdLen_le z
    have HLST := Lib.hid hlst
    clear hlst h0
    have bw7 : Below w6.heap.size w6 (w6.alloc (.cells #[] 22)) := (Below.refl _ _).alloc (Nat.le_refl _) _
    obtain ⟨a8, c8, w8, ys8, hap8, own8, hv8, bl8a⟩ := app_rows (w6.alloc (.cells #[] 22)) w6.heap.size _ 0 0 [] [] (own_empty w6 22 w6.heap.size (Nat.le_refl _)) (Vals.nil _ _) bw7.size (some ⟨pb, po, none⟩) (p' + 1) fc6 _ hlf (hf6.keep bw7) (by omega)
    have bl8 : Below w6.heap.size w6 w8 := bw7.trans bl8a
    rw [Nat.zero_add] at hap8 own8
    rw [List.nil_append] at hv8
    have bl8' : Below w.heap.size w w8 := bl6'.trans (bl8.mono bl6'.size)
    have s8 := bl8'.size
    have HC3 := Lib.hid (chain_any w8 kind z aN aS va aM cN cS vc cM n m lst.length q k N S lst ms hn hm rfl hq HK.out ((hN.keep bl8').mono s8) ((hS.keep bl8').mono s8) ((hbl.keep bl8).mono bl8.size) ((hM.keep bl8').mono s8) (by omega) (by omega) (by omega) (by omega) (by omega))
    have HAP8 := Lib.hid hap8
    clear hap8
    go_wp2_with (refine wpList_appendR rfl _ _ _ rfl _ _ rfl rfl _ _ HAP8.out ?_; clear HAP8)
    refine HC3.out.mono ?_
    rintro e w9 ⟨f9, fc9, xs9, rfl, own9, P9, bl9⟩
    have own8' := own_below own8 bl9
    have bl9' : Below w6.heap.size w6 w9 := bl8.trans (bl9.mono bl8.size)
    have hl9 : xs9.length = q := by rw [P9.1, chain_len, hq]
    obtain ⟨a10, c10, w10, hap10, own10, gr10⟩ := app_own w9 w6.heap.size 23 22 (.slice none 0 0) 24 Try.underlying23 info22 rfl a8 (p' + 1) c8 ys8 own8' bl9'.size f9 q fc9 xs9 hl9 (own_src own9) (Parts.one P9) (by omega) (by omega) 23
    have P10 := P9.keep (w' := w10) fun _ _ _ h => own_grown h own8' (by decide) gr10
    have bl10 : Below w6.heap.size w9 w10 := (Below.refl _ _).grown gr10 bl9'.size fun k hk => (own8'.lt k hk).1
    have bl10' : Below w6.heap.size w6 w10 := bl9'.trans bl10
    have hv10 : Vals w10.heap.size w10 (ys8 ++ xs9) (chain (start kind N S) k st ps ++ chain (start kind N S) k lst ms) :=
      ((hv8.keep ((bl9.mono bl8.size).trans bl10)).mono bl10'.size).append P10.vals
    obtain ⟨hl10, hR10⟩ := Rows2.of_own own10 hv10
    have e10 : chain (start kind N S) k st ps ++ chain (start kind N S) k lst ms = chain (start kind N S) k st (ps ++ ms) := by rw [chain_append, ELAST]
    rw [e10] at hR10 hl10
    have bb10 : Below w5.heap.size w5 w10 := bl6.trans (bl10'.mono bl6.size)
    obtain ⟨f5', fc5', e5, hR5⟩ := (P5.keep (w' := w10) fun _ _ _ h => own_below h bb10).rows2 (own_below own5 bb10)
    rw [hl10] at e5
    simp only [Value.slice.injEq] at e5
    obtain ⟨rfl, _, rfl⟩ := e5
    have HSP := Lib.hid (sameParts_any w10 w10.heap.size f5 a10 fc5 c10 (p' + 1 + q) (p' + 1 + q) _ hl10 hl10 hR5 hR10)
    have blF : Below w.heap.size w w10 := bl6'.trans (bl10'.mono bl6'.size)
    have HAP10 := Lib.hid hap10
    clear hap10 HC3 P9 P10 P5 hR5 hR10 hv8 hv10 own8 own8' own9 own10 own5 own6
    go_wp2_with (refine wpList_appendR rfl _ _ _ rfl _ _ rfl rfl _ _ HAP10.out ?_; clear HAP10)
    refine HSP.out.mono ?_
    rintro e w11 ⟨rfl, kk, rfl⟩
    go_wp2_with fail
    go_ret
    exact ⟨rfl, Below.eqvN' blF kk⟩


theorem fnChainSplit_contract (H : Type) (enc : TypeId × Value → H) (W : World) (base : Nat) (args : Array Value) (ds gs : List (DataW H)) (before : List MemPlace)
    (hval : ∀ (j : Nat) t v, Try.f6.params[j]? = some t → args[j]? = some v → Value.okWide Try.prog W .any base t v)
    (hW : DataW.Whole enc Try.prog Try.f6.params.toList Rows.fnChainSplitSpec.vars false W args.toList ds gs before)
    (hk : Rows.uptoSmall H (ds ++ gs) = true) :
    Calls Try.prog 6 args W fun e W' => ∃ v, e = .returned v ∧ Rows.fnChainSplitSpec.post enc Try.prog Try.f6 false true false false W args v W' := by
  have hW' := hW
  obtain ⟨p, q, hA0, hV, rfl, hfz, hnd⟩ := hW
  have hA : DataW.TrodAll enc Try.prog W 0 (fun _ => true) true Try.f6.params.toList args.toList ds p := hA0
  rw [Try.params6] at hA hval
  obtain ⟨v0, vs0, d0, ds0, p0, q0, hargs, rfl, rfl, h0, r0⟩ := trodAll_cons hA
  obtain ⟨v1, vs1, d1, ds1, p1, q1, rfl, rfl, rfl, h1, r1⟩ := trodAll_cons r0
  obtain ⟨v2, vs2, d2, ds2, p2, q2, rfl, rfl, rfl, h2, r2⟩ := trodAll_cons r1
  obtain ⟨v3, vs3, d3, ds3, p3, q3, rfl, rfl, rfl, h3, r3⟩ := trodAll_cons r2
  obtain ⟨v4, vs4, d4, ds4, p4, q4, rfl, rfl, rfl, h4, r4⟩ := trodAll_cons r3
  obtain ⟨v5, vs5, d5, ds5, p5, q5, rfl, rfl, rfl, h5, r5⟩ := trodAll_cons r4
  obtain ⟨v6, vs6, d6, ds6, p6, q6, rfl, rfl, rfl, h6, r6⟩ := trodAll_cons r5
  obtain ⟨rfl, rfl, rfl⟩ := trodAll_nil r6
  obtain rfl : args = #[v0, v1, v2, v3, v4, v5, v6] := by cases args; simp_all
  obtain ⟨rfl, rfl⟩ := trodVars_none hV
  obtain ⟨x0, rfl, rfl, rfl, wx0⟩ := open_int Try.underlying3 (hval 0 3 v0 rfl rfl) h0
  obtain ⟨a1, len1, cap1, rfl⟩ := okWide_slice Try.underlying22 (hval 1 22 v1 rfl rfl)
  have k1 := h1
  have lt1 : ∀ x ∈ p1, x.block < W.heap.size := by obtain ⟨m, hm⟩ := k1; exact DataW.trod_lt m _ _ _ hm
  obtain ⟨fu1, hf1⟩ := h1
  obtain ⟨l1, el1, b1, u1⟩ := openBs (by simpa [Value.cells] using hf1)
  obtain ⟨a2, len2, cap2, rfl⟩ := okWide_slice Try.underlying22 (hval 2 22 v2 rfl rfl)
  have k2 := h2
  have lt2 : ∀ x ∈ p2, x.block < W.heap.size := by obtain ⟨m, hm⟩ := k2; exact DataW.trod_lt m _ _ _ hm
  obtain ⟨fu2, hf2⟩ := h2
  obtain ⟨l2, el2, b2, u2⟩ := openBs (by simpa [Value.cells] using hf2)
  obtain ⟨a3, len3, cap3, rfl⟩ := okWide_slice Try.underlying22 (hval 3 22 v3 rfl rfl)
  have k3 := h3
  have lt3 : ∀ x ∈ p3, x.block < W.heap.size := by obtain ⟨m, hm⟩ := k3; exact DataW.trod_lt m _ _ _ hm
  obtain ⟨fu3, hf3⟩ := h3
  obtain ⟨l3, el3, b3, u3⟩ := openBs (by simpa [Value.cells] using hf3)
  obtain ⟨a4, len4, cap4, rfl⟩ := okWide_slice Try.underlying23 (hval 4 23 v4 rfl rfl)
  have k4 := h4
  have lt4 : ∀ x ∈ p4, x.block < W.heap.size := by obtain ⟨m, hm⟩ := k4; exact DataW.trod_lt m _ _ _ hm
  obtain ⟨fu4, hf4⟩ := h4
  obtain ⟨l4, el4, b4, u4, uu4⟩ := openRows (by simpa [Value.cells] using hf4)
  obtain ⟨a5, len5, cap5, rfl⟩ := okWide_slice Try.underlying23 (hval 5 23 v5 rfl rfl)
  have k5 := h5
  have lt5 : ∀ x ∈ p5, x.block < W.heap.size := by obtain ⟨m, hm⟩ := k5; exact DataW.trod_lt m _ _ _ hm
  obtain ⟨fu5, hf5⟩ := h5
  obtain ⟨l5, el5, b5, u5, uu5⟩ := openRows (by simpa [Value.cells] using hf5)
  obtain ⟨x6, rfl, rfl, rfl, wx6⟩ := open_int Try.underlying3 (hval 6 3 v6 rfl rfl) h6
  have hb := bulk_bound hk
  simp only [List.append_nil, Rows.uptoBulkAll] at hb
  clear hA0
  refine (fnChainSplit_walk W x0 x6 a1 a2 a3 a4 a5 cap1 cap2 cap3 cap4 cap5 len1 len2 len3 len4 len5 l1 l2 l3 l4 l5 el1 el2 el3 el4 el5 b1 b2 b3 b4 b5 (by omega) (by omega) (by omega) (by omega) (by omega)).mono fun e W' ⟨he, bel⟩ => ?_
  subst he
  exact ⟨_, rfl, _, _, _, [], _, [], hW', trodAll_mk1 (shut_bool Try.underlying4 _), (trodAll_cons_mk (shut_int Try.underlying3 wx0) (trodAll_cons_mk (Below.trod laidOut (by kernel_rfl) (of_decide_eq_true (by kernel_rfl)) k1 bel lt1) (trodAll_cons_mk (Below.trod laidOut (by kernel_rfl) (of_decide_eq_true (by kernel_rfl)) k2 bel lt2) (trodAll_cons_mk (Below.trod laidOut (by kernel_rfl) (of_decide_eq_true (by kernel_rfl)) k3 bel lt3) (trodAll_cons_mk (Below.trod laidOut (by kernel_rfl) (of_decide_eq_true (by kernel_rfl)) k4 bel lt4) (trodAll_cons_mk (Below.trod laidOut (by kernel_rfl) (of_decide_eq_true (by kernel_rfl)) k5 bel lt5) (trodAll_cons_mk (shut_int Try.underlying3 wx6) trodAll_mk0))))))), rfl, bel.frame _, fun h => by cases h⟩

theorem fnChainSplit_fact0 : (fun (P : Program) (f : FuncId) (fn : Func) (s : ChangeSpec) (c : OpenClaim) => (c.wf (OpenSpec.ofChange s) : Bool)) Try.prog 6 Try.f6 Rows.fnChainSplitSpec Rows.fnChainSplitUptoRow = true := by kernel_rfl
theorem fnChainSplit_fact1 : (fun (P : Program) (f : FuncId) (fn : Func) (s : ChangeSpec) (c : OpenClaim) => (laidOutB P : Bool)) Try.prog 6 Try.f6 Rows.fnChainSplitSpec Rows.fnChainSplitUptoRow = true := prog_laid
theorem fnChainSplit_fact2 : (fun (P : Program) (f : FuncId) (fn : Func) (s : ChangeSpec) (c : OpenClaim) => (mapsRowed P : Bool)) Try.prog 6 Try.f6 Rows.fnChainSplitSpec Rows.fnChainSplitUptoRow = true := prog_maps
theorem fnChainSplit_fact3 : (fun (P : Program) (f : FuncId) (fn : Func) (s : ChangeSpec) (c : OpenClaim) => (fn.params.all (P.readableRec ·) : Bool)) Try.prog 6 Try.f6 Rows.fnChainSplitSpec Rows.fnChainSplitUptoRow = true := by kernel_rfl
theorem fnChainSplit_fact4 : (fun (P : Program) (f : FuncId) (fn : Func) (s : ChangeSpec) (c : OpenClaim) => (namedTie P c.named s.vars : Bool)) Try.prog 6 Try.f6 Rows.fnChainSplitSpec Rows.fnChainSplitUptoRow = true := by kernel_rfl
theorem fnChainSplit_fact5 : (fun (P : Program) (f : FuncId) (fn : Func) (s : ChangeSpec) (c : OpenClaim) => ((c.stops == []) : Bool)) Try.prog 6 Try.f6 Rows.fnChainSplitSpec Rows.fnChainSplitUptoRow = true := by kernel_rfl
theorem fnChainSplit_fact6 : (fun (P : Program) (f : FuncId) (fn : Func) (s : ChangeSpec) (c : OpenClaim) => ((P.stops == []) : Bool)) Try.prog 6 Try.f6 Rows.fnChainSplitSpec Rows.fnChainSplitUptoRow = true := prog_stops
theorem fnChainSplit_fact7 : (fun (P : Program) (f : FuncId) (fn : Func) (s : ChangeSpec) (c : OpenClaim) => ((c.knobs == []) : Bool)) Try.prog 6 Try.f6 Rows.fnChainSplitSpec Rows.fnChainSplitUptoRow = true := by kernel_rfl
theorem fnChainSplit_fact8 : (fun (P : Program) (f : FuncId) (fn : Func) (s : ChangeSpec) (c : OpenClaim) => ((P.stopKnobs == []) : Bool)) Try.prog 6 Try.f6 Rows.fnChainSplitSpec Rows.fnChainSplitUptoRow = true := prog_knobs
theorem fnChainSplit_fact9 : (fun (P : Program) (f : FuncId) (fn : Func) (s : ChangeSpec) (c : OpenClaim) => ((c.inPlace == P.inPlace f) : Bool)) Try.prog 6 Try.f6 Rows.fnChainSplitSpec Rows.fnChainSplitUptoRow = true := by kernel_rfl
theorem fnChainSplit_fact10 : (fun (P : Program) (f : FuncId) (fn : Func) (s : ChangeSpec) (c : OpenClaim) => ((c.unfollowed == P.unfollowed f) : Bool)) Try.prog 6 Try.f6 Rows.fnChainSplitSpec Rows.fnChainSplitUptoRow = true := by kernel_rfl
theorem fnChainSplit_fact11 : (fun (P : Program) (f : FuncId) (fn : Func) (s : ChangeSpec) (c : OpenClaim) => ((c.recurses == P.recurses f) : Bool)) Try.prog 6 Try.f6 Rows.fnChainSplitSpec Rows.fnChainSplitUptoRow = true := by kernel_rfl
theorem fnChainSplit_fact12 : (fun (P : Program) (f : FuncId) (fn : Func) (s : ChangeSpec) (c : OpenClaim) => ((c.named == P.varsNamed f) : Bool)) Try.prog 6 Try.f6 Rows.fnChainSplitSpec Rows.fnChainSplitUptoRow = true := by kernel_rfl
theorem fnChainSplit_fact13 : (fun (P : Program) (f : FuncId) (fn : Func) (s : ChangeSpec) (c : OpenClaim) => ((c.maps == (fn.params.toList ++ s.plain.varTypes P).any (P.mapsRec ·)) : Bool)) Try.prog 6 Try.f6 Rows.fnChainSplitSpec Rows.fnChainSplitUptoRow = true := by kernel_rfl
theorem fnChainSplit_fact14 : (fun (P : Program) (f : FuncId) (fn : Func) (s : ChangeSpec) (c : OpenClaim) => ((c.ifaces == (fn.params.toList ++ s.plain.varTypes P).any (P.ifacesRec ·)) : Bool)) Try.prog 6 Try.f6 Rows.fnChainSplitSpec Rows.fnChainSplitUptoRow = true := by kernel_rfl
theorem fnChainSplit_fact15 : (fun (P : Program) (f : FuncId) (fn : Func) (s : ChangeSpec) (c : OpenClaim) => ((c.mapsOut == P.mapsAmong fn.resultTypes.toList) : Bool)) Try.prog 6 Try.f6 Rows.fnChainSplitSpec Rows.fnChainSplitUptoRow = true := by kernel_rfl
theorem fnChainSplit_fact16 : (fun (P : Program) (f : FuncId) (fn : Func) (s : ChangeSpec) (c : OpenClaim) => ((c.loops == (fn.params.toList ++ s.plain.varTypes P).any (P.loopsFrom ·)) : Bool)) Try.prog 6 Try.f6 Rows.fnChainSplitSpec Rows.fnChainSplitUptoRow = true := by kernel_rfl
theorem fnChainSplit_fact17 : (fun (P : Program) (f : FuncId) (fn : Func) (s : ChangeSpec) (c : OpenClaim) => ((c.wideKeys == (fn.params.toList ++ s.plain.varTypes P ++ fn.resultTypes.toList).any (P.wideKeysFrom ·)) : Bool)) Try.prog 6 Try.f6 Rows.fnChainSplitSpec Rows.fnChainSplitUptoRow = true := by kernel_rfl
theorem fnChainSplit_fact18 : (fun (P : Program) (f : FuncId) (fn : Func) (s : ChangeSpec) (c : OpenClaim) => (s.vars.all (P.varReadable ·) : Bool)) Try.prog 6 Try.f6 Rows.fnChainSplitSpec Rows.fnChainSplitUptoRow = true := by kernel_rfl
theorem fnChainSplit_fact19 : (fun (P : Program) (f : FuncId) (fn : Func) (s : ChangeSpec) (c : OpenClaim) => (fn.resultTypes.all (fun t => P.readableRec t && decide (t < P.types.size)) : Bool)) Try.prog 6 Try.f6 Rows.fnChainSplitSpec Rows.fnChainSplitUptoRow = true := by kernel_rfl
theorem fnChainSplit_fact20 : (fun (P : Program) (f : FuncId) (fn : Func) (s : ChangeSpec) (c : OpenClaim) => ((c.ifacesOut == fn.resultTypes.toList.any (P.ifacesRec ·)) : Bool)) Try.prog 6 Try.f6 Rows.fnChainSplitSpec Rows.fnChainSplitUptoRow = true := by kernel_rfl
theorem fnChainSplit_fact21 : (fun (P : Program) (f : FuncId) (fn : Func) (s : ChangeSpec) (c : OpenClaim) => ((c.loopsOut == fn.resultTypes.toList.any (P.loopsFrom ·)) : Bool)) Try.prog 6 Try.f6 Rows.fnChainSplitSpec Rows.fnChainSplitUptoRow = true := by kernel_rfl
theorem fnChainSplit_fact22 : (fun (P : Program) (f : FuncId) (fn : Func) (s : ChangeSpec) (c : OpenClaim) => ((c.plainKeys == P.plainKeys) : Bool)) Try.prog 6 Try.f6 Rows.fnChainSplitSpec Rows.fnChainSplitUptoRow = true := prog_keys
theorem fnChainSplit_fact23 : (fun (P : Program) (f : FuncId) (fn : Func) (s : ChangeSpec) (c : OpenClaim) => (c.shortTexts.isNone : Bool)) Try.prog 6 Try.f6 Rows.fnChainSplitSpec Rows.fnChainSplitUptoRow = true := by kernel_rfl
theorem fnChainSplit_fact24 : (fun (P : Program) (f : FuncId) (fn : Func) (s : ChangeSpec) (c : OpenClaim) => (P.stopsHeard : Bool)) Try.prog 6 Try.f6 Rows.fnChainSplitSpec Rows.fnChainSplitUptoRow = true := prog_heard
theorem fnChainSplit_fact25 : (fun (P : Program) (f : FuncId) (fn : Func) (s : ChangeSpec) (c : OpenClaim) => (P.mayEnter : Bool)) Try.prog 6 Try.f6 Rows.fnChainSplitSpec Rows.fnChainSplitUptoRow = true := prog_enter
theorem fnChainSplit_fact26 : (fun (P : Program) (f : FuncId) (fn : Func) (s : ChangeSpec) (c : OpenClaim) => ((c.lifted == P.liftsFinal) : Bool)) Try.prog 6 Try.f6 Rows.fnChainSplitSpec Rows.fnChainSplitUptoRow = true := prog_lifts
theorem fnChainSplit_fact27 : (fun (P : Program) (f : FuncId) (fn : Func) (s : ChangeSpec) (c : OpenClaim) => ((P.make == some c.make) : Bool)) Try.prog 6 Try.f6 Rows.fnChainSplitSpec Rows.fnChainSplitUptoRow = true := prog_make
theorem fnChainSplit_fact28 : (fun (P : Program) (f : FuncId) (fn : Func) (s : ChangeSpec) (c : OpenClaim) => ((c.kinds == (if c.domain.isEmpty then [] else fn.params.toList.map fun t => match P.underlying t with | some (.int k) => some k | _ => none)) : Bool)) Try.prog 6 Try.f6 Rows.fnChainSplitSpec Rows.fnChainSplitUptoRow = true := by kernel_rfl
theorem fnChainSplit_fact29 : (fun (P : Program) (f : FuncId) (fn : Func) (s : ChangeSpec) (c : OpenClaim) => ((c.pinned == c.pinnedBy) : Bool)) Try.prog 6 Try.f6 Rows.fnChainSplitSpec Rows.fnChainSplitUptoRow = true := by kernel_rfl
theorem fnChainSplit_fact30 : (fun (P : Program) (f : FuncId) (fn : Func) (s : ChangeSpec) (c : OpenClaim) => ((c.veiled == (fn.params.toList ++ s.plain.varTypes P ++ fn.resultTypes.toList).any (P.veiledRec ·)) : Bool)) Try.prog 6 Try.f6 Rows.fnChainSplitSpec Rows.fnChainSplitUptoRow = true := by kernel_rfl
theorem fnChainSplit_fact31 : (fun (P : Program) (f : FuncId) (fn : Func) (s : ChangeSpec) (c : OpenClaim) => (c.veiledFits P fn.params.toList (fn.params.toList ++ s.plain.varTypes P ++ fn.resultTypes.toList) : Bool)) Try.prog 6 Try.f6 Rows.fnChainSplitSpec Rows.fnChainSplitUptoRow = true := by kernel_rfl
set_option maxRecDepth 100000 in
theorem fnChainSplit_facts : joinedFacts Try.prog 6 Try.f6 Rows.fnChainSplitSpec Rows.fnChainSplitUptoRow = true := and_mk (and_mk (and_mk (and_mk (and_mk (and_mk (and_mk (and_mk (and_mk (and_mk (and_mk (and_mk (and_mk (and_mk (and_mk (and_mk (and_mk (and_mk (and_mk (and_mk (and_mk (and_mk (and_mk (and_mk (and_mk (and_mk (and_mk (and_mk (and_mk (and_mk (and_mk (fnChainSplit_fact0) fnChainSplit_fact1) fnChainSplit_fact2) fnChainSplit_fact3) fnChainSplit_fact4) fnChainSplit_fact5) fnChainSplit_fact6) fnChainSplit_fact7) fnChainSplit_fact8) fnChainSplit_fact9) fnChainSplit_fact10) fnChainSplit_fact11) fnChainSplit_fact12) fnChainSplit_fact13) fnChainSplit_fact14) fnChainSplit_fact15) fnChainSplit_fact16) fnChainSplit_fact17) fnChainSplit_fact18) fnChainSplit_fact19) fnChainSplit_fact20) fnChainSplit_fact21) fnChainSplit_fact22) fnChainSplit_fact23) fnChainSplit_fact24) fnChainSplit_fact25) fnChainSplit_fact26) fnChainSplit_fact27) fnChainSplit_fact28) fnChainSplit_fact29) fnChainSplit_fact30) fnChainSplit_fact31

set_option maxRecDepth 100000 in
theorem fnChainSplit_lifted (os : Os) (started : os.Started) (H : Type) (enc : TypeId × Value → H) (F : Stop.Interp) :
    ReturnsInHanded {} Try.checked os 6 .any ((Rows.OpenSpec.upto Rows.fnChainSplitSpec).pre6 enc Try.prog Try.f6 Rows.fnChainSplitUptoRow.domain false) (((Rows.OpenSpec.upto Rows.fnChainSplitSpec).at F).post enc Try.prog Try.f6 false true false false) := by
  refine returnsInHanded_of_cond (C := Try.checked) (s := Rows.OpenSpec.upto Rows.fnChainSplitSpec) (k := Rows.uptoSmall) rfl ownK started (by kernel_rfl) Try.func6
    (OpenSpec.witness (enc := enc) (C := Try.checked) (s := Rows.OpenSpec.upto Rows.fnChainSplitSpec) (k := Rows.uptoSmall) rfl false ⟨#[], #[.int .i64 0, .slice none 0 0, .slice none 0 0, .slice none 0 0, .slice none 0 0, .slice none 0 0, .int .i64 0], []⟩ 8 (by kernel_rfl) (by kernel_rfl) (by kernel_rfl)
      (x := ([.lit (.int .i64 0), .nil, .nil, .nil, .nil, .nil, .lit (.int .i64 0)], [], [])) (by kernel_rfl) rfl (by kernel_rfl)) ?_
  intro W base args ds gs before hval hW _ hk _
  exact fnChainSplit_contract H enc W base args ds gs before hval hW hk

set_option maxRecDepth 100000 in
theorem fnChainSplit_proved : Rows.FnChainSplitUptoSaid :=
  OpenClaim.holds_of_cond 6 Try.f6 rfl rfl rfl rfl rfl rfl rfl ⟨rfl, rfl, rfl, rfl, rfl⟩ rfl rfl rfl rfl rfl (by kernel_rfl) Try.func6 fnChainSplit_facts
    (of_decide_eq_true (by kernel_rfl)) (by unfold Func.isWrapper; first | (rw [if_pos (by decide +kernel)]; kernel_rfl) | (rw [if_neg (by decide +kernel)]; exact ⟨rfl, rfl⟩))
    (fun os started H enc _ F => fnChainSplit_lifted os started H enc F)

end Go.Proofs.Ythemhpefcfdcaaa
