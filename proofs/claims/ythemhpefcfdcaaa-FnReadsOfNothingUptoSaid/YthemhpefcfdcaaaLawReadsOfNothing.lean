/- For every input of bulk at most 1048576: reads of no bytes, put in ahead of any reads, give nothing and change nothing of what the others give (FnReadsOfNothing returns true); no other condition. -/
import Derived.Test.YthemhpefcfdcaaaRn
import Derived.Test.YthemhpefcfdcaaaArgs
import Derived.Test.YthemhpefcfdcaaaFacts
namespace Go.Proofs.Ythemhpefcfdcaaa
open Go.RowKit Go.Deep
open Go.ChangeShapes Go.WideShapes Go.ChangeAt
set_option linter.unusedVariables false

/-- where the first loop stands -/
def RnO (w : World) (zs : List Int) (s : Sp) (v vm vd : Value) (wr : World) : Prop :=
  ∃ (i : Nat) (mo : List Int) (du : List Nat), v = .int .i64 (i : Int) ∧ i ≤ zs.length ∧ Below w.heap.size w wr ∧ wr.ownsRow w.heap.size 3 1 vm mo.length (mo.map (Value.int .i64)) ∧ wr.ownsRow w.heap.size 3 1 vd i ((du.map Int.ofNat).map (Value.int .i64)) ∧ Apart vm vd ∧ Pl zs s i mo du

set_option maxRecDepth 100000 in
set_option maxHeartbeats 2000000 in
theorem fnReadsOfNothing_walk (w : World) (kind : Int) (aN aS aW aR aM : Option Addr) (cN cS cW cR cM n m p r q : Nat) (N S : List UInt8) (ls : List (List UInt8)) (zs : List Int) (bs : List Bool)
    (hn : N.length = n) (hm : S.length = m) (hp : ls.length = p) (hr : zs.length = r) (hq : bs.length = q) (hN : Bs w.heap.size w aN cN N) (hS : Bs w.heap.size w aS cS S) (hW : Rows2 w.heap.size w aW cW ls) (hR : Ints w.heap.size w aR cR zs) (hM : Bools w.heap.size w aM cM bs)
    (hnb : n ≤ 1048576) (hmb : m ≤ 1048576) (hpb : p ≤ 1048576) (hrb : r ≤ 1048576) (hqb : q ≤ 1048576) :
    Calls Try.prog 3 #[.int .i64 kind, .slice aN n cN, .slice aS m cS, .slice aW p cW, .slice aR r cR, .slice aM q cM] w fun e w' => e = .returned (.bool true) ∧ Below w.heap.size w w' := by
  obtain ⟨s, hs⟩ : ∃ s, s = (start kind N S).absorb ls.flatten := ⟨_, rfl⟩
  have HS := Lib.hid hs
  have HR' := Lib.hid hr
  have HQ' := Lib.hid hq
  obtain ⟨i3, hi0, hz0, hz1, hz2⟩ := info_parts info3
  have HI0 := Lib.hid hi0
  have HZ0 := Lib.hid hz0
  have HZ1 := Lib.hid hz1
  have HZ2 := Lib.hid hz2
  -- the two rows
  have bl1 : Below w.heap.size w (w.alloc (.cells #[] 3)) := (Below.refl _ _).alloc (Nat.le_refl _) _
  have bl2 : Below w.heap.size w ((w.alloc (.cells #[] 3)).alloc (.cells #[] 3)) := bl1.alloc bl1.size _
  have ow1 := own_empty w 3 w.heap.size (Nat.le_refl _)
  have ow1' := ow1.alloc (.cells #[] 3)
  have ow2 := own_empty (w.alloc (.cells #[] 3)) 3 w.heap.size bl1.size
  have st : RnO w zs s (.int .i64 ((0 : Nat) : Int)) (.slice (some ⟨w.heap.size, 0, none⟩) 0 0) (.slice (some ⟨w.heap.size + 1, 0, none⟩) 0 0) ((w.alloc (.cells #[] 3)).alloc (.cells #[] 3)) :=
    ⟨0, [], [], rfl, Nat.zero_le _, bl2, ow1', by simpa using ow2, fun g ⟨h1, h2⟩ => by simp only [Value.ownBlock, Option.some.injEq] at h1 h2; omega, Pl.nil _ _⟩
  clear hi0 hz0 hz1 hz2 hs bl1 bl2 ow1 ow1' ow2 hq
  go_enter Try.func3, Try.ntmps3
  go_wp2_with fail
  generalize (w.alloc (.cells #[] 3)).alloc (.cells #[] 3) = w2 at *
  generalize Value.slice (some ⟨w.heap.size, 0, none⟩) 0 0 = vm2 at *
  generalize Value.slice (some ⟨w.heap.size + 1, 0, none⟩) 0 0 = vd2 at *
  go_loopw [25, 13, 14] (fun v vm vd wr => RnO w zs s v vm vd wr) (fun v _ _ _ => r - (intOf v).toNat)
  case atStart => exact st
  case round =>
    clear st
    obtain ⟨i, mo, du, rfl, hi, bl3, owm, owd, hap, hpl⟩ := hrel
    have s3 := bl3.size
    have hmo := hpl.le
    rw [HR'.out] at hi
    by_cases hlt : i < r
    · obtain ⟨z, hz⟩ : ∃ z, zs[i]? = some z := ⟨zs[i]'(by rw [HR'.out]; exact hlt), by simp [HR'.out, hlt]⟩
      obtain ⟨pb, po, e1, e2, c1⟩ := (hR.keep bl3).at hz
      subst e1
      have i1 : (i : Int) < (r : Int) := by omega
      have HPL := Lib.hid hpl
      have HZ := Lib.hid hz
      -- is there a mark?
      by_cases hmark : bs[i]? = some true
      · obtain ⟨qb, qo, e3, e4, c2⟩ := (hM.keep bl3).at hmark
        subst e3
        have hiq : i < q := by have := (List.getElem?_eq_some_iff.1 hmark).1; have := HQ'.out; omega
        have i2 : (i : Int) < (q : Int) := by omega
        have hpl2 := hpl.step true hz
        have HPL2 := Lib.hid hpl2
        clear hpl hz hmark hpl2
        obtain ⟨am, cm, rfl⟩ := own_slice owm
        go_wp2_with (first
          | (refine wpList_append_own_at _ rfl _ _ 24 rfl w.heap.size 3 i3 (.int .i64 0) 1 8 Try.underlying24 HI0.out HZ0.out HZ1.out HZ2.out rfl (by decide) _ _ _ rfl (owm.alloc _) ⟨wr.heap.size, 0, none⟩ 1 1 [.int .i64 0] rfl rfl (cell_one_new _ _ _) (by simp [Value.oneCell']) (by unfold maxLen; omega) (by omega) (by simp; omega) ?_; intro v4 w4 owm4 gr4 _ at4; obtain ⟨a4, c4, rfl⟩ := own_slice owm4; obtain ⟨owd4, ap4, bl4⟩ := grow_two bl3 (Nat.le_refl _) owd owm hap.symm gr4 at4; have s4 := bl4.size; clear c1 c2)
          | (refine wpList_append_own_at _ rfl _ _ 24 rfl w.heap.size 3 i3 (.int .i64 0) 1 8 Try.underlying24 HI0.out HZ0.out HZ1.out HZ2.out rfl (by decide) _ _ _ rfl (owd4.alloc _) ⟨w4.heap.size, 0, none⟩ 1 1 [.int .i64 ((mo.length : Int) + 1)] rfl rfl (cell_one_new _ _ _) (by simp [Value.oneCell']) (by unfold maxLen; omega) (by omega) (by simp; omega) ?_; intro v5 w5 owd5 gr5 _ at5; obtain ⟨owm5, ap5, bl5⟩ := grow_two bl4 (Nat.le_refl _) owm4 owd4 ap4.symm gr5 at5; have s5 := bl5.size)
          | (refine wpList_append_own_at _ rfl _ _ 24 rfl w.heap.size 3 i3 (.int .i64 0) 1 8 Try.underlying24 HI0.out HZ0.out HZ1.out HZ2.out rfl (by decide) _ _ _ rfl (owm5.alloc _) ⟨w5.heap.size, 0, none⟩ 1 1 [.int .i64 z] rfl rfl (cell_one_new _ _ _) (by simp [Value.oneCell']) (by unfold maxLen; omega) (by omega) (by simp; omega) ?_; intro v6 w6 owm6 gr6 _ at6; obtain ⟨owd6, ap6, bl6⟩ := grow_two bl5 (Nat.le_refl _) owd5 owm5 ap5.symm gr6 at6))
        refine ⟨⟨i + 1, (mo ++ [0]) ++ [z], du ++ [(mo ++ [0]).length], by go_num, by rw [HR'.out]; omega, bl6, ?_, ?_, ap6.symm, HPL2.out⟩, by simp [intOf]; omega⟩
        · simpa using owm6
        · simpa using owd6
      · have hpl2 := hpl.step false hz
        have HPL2 := Lib.hid hpl2
        obtain ⟨am, cm, rfl⟩ := own_slice owm
        by_cases hiq : i < q
        case' pos =>
          obtain ⟨qb, qo, e3, e4, c2⟩ := (hM.keep bl3).at (i := i) (z := false) (by
            have hlt : i < bs.length := by rw [HQ'.out]; exact hiq
            rw [List.getElem?_eq_getElem hlt] at hmark ⊢
            cases hb : bs[i]
            · rfl
            · rw [hb] at hmark; exact absurd rfl hmark)
          subst e3
          have i2 : (i : Int) < (q : Int) := by omega
        case' neg =>
          have i2 : ¬ (i : Int) < (q : Int) := by omega
        all_goals
          clear hpl hz hmark hpl2
          go_wp2_with (first
            | (refine wpList_append_own_at _ rfl _ _ 24 rfl w.heap.size 3 i3 (.int .i64 0) 1 8 Try.underlying24 HI0.out HZ0.out HZ1.out HZ2.out rfl (by decide) _ _ _ rfl (owd.alloc _) ⟨wr.heap.size, 0, none⟩ 1 1 [.int .i64 (mo.length : Int)] rfl rfl (cell_one_new _ _ _) (by simp [Value.oneCell']) (by unfold maxLen; omega) (by omega) (by simp; omega) ?_; intro v5 w5 owd5 gr5 _ at5; obtain ⟨owm5, ap5, bl5⟩ := grow_two bl3 (Nat.le_refl _) owm owd hap gr5 at5; have s5 := bl5.size)
            | (refine wpList_append_own_at _ rfl _ _ 24 rfl w.heap.size 3 i3 (.int .i64 0) 1 8 Try.underlying24 HI0.out HZ0.out HZ1.out HZ2.out rfl (by decide) _ _ _ rfl (owm5.alloc _) ⟨w5.heap.size, 0, none⟩ 1 1 [.int .i64 z] rfl rfl (cell_one_new _ _ _) (by simp [Value.oneCell']) (by unfold maxLen; omega) (by omega) (by simp; omega) ?_; intro v6 w6 owm6 gr6 _ at6; obtain ⟨owd6, ap6, bl6⟩ := grow_two bl5 (Nat.le_refl _) owd5 owm5 ap5.symm gr6 at6))
          refine ⟨⟨i + 1, (mo ++ []) ++ [z], du ++ [(mo ++ []).length], by go_num, by rw [HR'.out]; omega, bl6, ?_, ?_, ap6.symm, HPL2.out⟩, by simp [intOf]; omega⟩
          · simpa using owm6
          · simpa using owd6
    · have hir : i = r := by omega
      have i1 : ¬ (i : Int) < (r : Int) := by omega
      obtain ⟨am, cm, rfl⟩ := own_slice owm
      obtain ⟨ad, cd, rfl⟩ := own_slice owd
      obtain ⟨w3, rfl⟩ : ∃ w3 : World, w3 = wr := ⟨_, rfl⟩
      obtain ⟨hml, hIM⟩ := Ints.of_own owm
      obtain ⟨hdl, hID⟩ := Ints.of_own owd
      have HQ1 := Lib.hid (squeeze_any w3 kind aN aS aW aR cN cS cW cR n m p r N S ls zs hn hm hp hr ((hN.keep bl3).mono s3) ((hS.keep bl3).mono s3) ((hW.keep bl3).mono s3) ((hR.keep bl3).mono s3) (by omega) (by omega) (by omega) (by omega))
      rw [← HS.out] at HQ1
      obtain ⟨M, hM'⟩ : ∃ M, M = mo.length := ⟨_, rfl⟩
      have HML := Lib.hid hM'.symm
      rw [← hM'] at hmo owm ⊢
      have HDL := Lib.hid hdl
      have HPL := Lib.hid hpl
      have hMb : M ≤ 2097152 := by omega
      have b1 : ((r : Int) != (r : Int)) = false := by simp
      have b2 : ((M : Int) != (M : Int)) = false := by simp
      clear hM' hml hdl hpl owm owd hap
      go_wp2_with fail
      refine HQ1.out.mono ?_
      rintro e w5 ⟨f5, fc5, rfl, hf5, bl5⟩
      have b5 : Below w.heap.size w w5 := bl3.trans (bl5.mono s3)
      have s5 := b5.size
      have HQ2 := Lib.hid (squeeze_any w5 kind aN aS aW am cN cS cW cm n m p M N S ls mo hn hm hp HML.out ((hN.keep b5).mono s5) ((hS.keep b5).mono s5) ((hW.keep b5).mono s5) ((hIM.keep bl5).mono bl5.size) (by omega) (by omega) (by omega) (by omega))
      rw [← HS.out] at HQ2
      clear HQ1
      go_wp2_with fail
      refine HQ2.out.mono ?_
      rintro e w6 ⟨f6, fc6, rfl, hf6, bl6⟩
      have b6 : Below w.heap.size w w6 := b5.trans (bl6.mono s5)
      have bb36 : Below w3.heap.size w3 w6 := bl5.trans (bl6.mono bl5.size)
      have hf5' := (hf5.keep bl6).mono bl6.size
      have hIM' := (hIM.keep bb36).mono bb36.size
      have hID' := (hID.keep bb36).mono bb36.size
      have hR' := hR.keep b6
      clear HQ2 hf5 hIM hID hn hm hp hr hN hS hW hR hM
      go_wp2_with fail
      go_loopw [79] (fun v wr => ∃ (j kk : Nat), v = .int .i64 (j : Int) ∧ j ≤ r ∧ wr = w6.drewN kk) (fun v _ => r - (intOf v).toNat)
      case atStart => exact ⟨0, 0, rfl, Nat.zero_le _, rfl⟩
      case round =>
        obtain ⟨j, kk, rfl, hj, rfl⟩ := hrel
        by_cases hlt2 : j < r
        · have j1 : (j : Int) < (r : Int) := by omega
          obtain ⟨k, hk⟩ : ∃ k, (du.map Int.ofNat)[j]? = some (Int.ofNat k) ∧ du[j]? = some k := by
            have hl : j < du.length := by rw [HPL.out.len]; omega
            exact ⟨du[j], by simp [hl], by simp [hl]⟩
          obtain ⟨hk1, hk2⟩ := hk
          obtain ⟨hkM, heq⟩ := HPL.out.each j k hk2
          rw [HML.out] at hkM
          obtain ⟨z, hz⟩ : ∃ z, zs[j]? = some z := ⟨zs[j]'(by rw [HR'.out]; exact hlt2), by simp [HR'.out, hlt2]⟩
          obtain ⟨o, ho, hol⟩ := outs_get zs s j z hz
          rw [ho] at heq
          obtain ⟨d1, d2, x1, _, cd1⟩ := hID'.at hk1
          obtain ⟨a1, a2, va, vc, x2, _, ca1, ba⟩ := hf5'.at ho
          obtain ⟨p1, p2, ua, uc, x3, _, cb1, bb⟩ := hf6.at heq
          obtain ⟨r1, r2, x4, _, cr1⟩ := hR'.at hz
          subst x1 x2 x3 x4
          have HSA := Lib.hid (fun jj => same_any (w6.drewN jj) w6.heap.size va ua vc uc o.length o.length o rfl rfl ba bb)
          have kM : (k : Int) < (M : Int) := by omega
          rw [show (Int.ofNat k) = (k : Int) from rfl] at cd1
          have HPL' := HPL
          clear hk1 hk2 ba bb
          by_cases k0 : k = 0
          case' pos =>
            have kz3 : decide (0 < k) = false := by simp; omega
            have kz4 : decide ((0 : Int) < (k : Int)) = false := by simp; omega
            clear k0
          case' neg =>
            obtain ⟨K, rfl⟩ : ∃ K, k = K + 1 := ⟨k - 1, by omega⟩
            obtain ⟨z', hz'⟩ : ∃ z', mo[K]? = some z' := ⟨mo[K]'(by rw [HML.out]; omega), by simp⟩
            obtain ⟨o', ho', hol'⟩ := outs_get mo s K z' hz'
            obtain ⟨m1, m2, y1, _, cm1⟩ := hIM'.at hz'
            obtain ⟨p1', p2', ua', uc', y2, _, cb2, _⟩ := hf6.at ho'
            simp only [Option.some.injEq, Addr.mk.injEq, and_true] at y2
            obtain ⟨rfl, rfl⟩ := y2
            subst y1
            rw [show (((K + 1 : Nat)) : Int) = (K : Int) + 1 by omega] at cd1 kM
            have kz1 : (0 : Int) < (K : Int) + 1 := by omega
            have kz2 : (K : Int) < (M : Int) := by omega
            have kz3 : K < M := by omega
            have kz4 : (0 : Int) ≤ (K : Int) + 1 := by omega
            have kz5 : (0 : Int) ≤ (K : Int) := by omega
            have kw : IntKind.i64.wrap (K : Int) = (K : Int) := IntWalk.i64_in _ (by omega)
            clear k0
            by_cases z0 : z' = 0
            case' pos =>
              subst z0
              rw [hol', show rdLen 0 = 0 from rfl] at cb2
              clear hol' hz' ho'
            case' neg =>
              have zb : (z' == 0) = false := by simpa using z0
              clear z0 hz' ho'
          all_goals
            clear heq ho
            rcases rdLen_cases z with ⟨c3, e⟩ | ⟨c3, c4, e⟩ | ⟨c3, e⟩
            · rw [hol, e] at ca1 cb1 HSA
              clear e hol hz
              go_wp2_with fail
              go_quiet ((with_reducible refine quiet_add (HSA.out _)))
              go_wp2_with fail
              go_roundw
              case rel => exact ⟨j + 1, _, by go_num, by omega, rfl⟩
              case measure => simp [intOf]; omega
            · obtain ⟨L, hL⟩ : ∃ L, L = rdLen z := ⟨_, rfl⟩
              rw [← hL] at hol e
              rw [hol] at ca1 cb1 HSA
              clear hL hz hol
              subst e
              have bk : ((L : Int) != (L : Int)) = false := by simp
              go_wp2_with fail
              go_quiet ((with_reducible refine quiet_add (HSA.out _)))
              go_wp2_with fail
              go_roundw
              case rel => exact ⟨j + 1, _, by go_num, by omega, rfl⟩
              case measure => simp [intOf]; omega
            · rw [hol, e] at ca1 cb1 HSA
              clear e hol hz
              go_wp2_with fail
              go_quiet ((with_reducible refine quiet_add (HSA.out _)))
              go_wp2_with fail
              go_roundw
              case rel => exact ⟨j + 1, _, by go_num, by omega, rfl⟩
              case measure => simp [intOf]; omega
        · have j1 : ¬ (j : Int) < (r : Int) := by omega
          have hjr : j = r := by omega
          go_wp2_with fail
          go_ret
          exact ⟨rfl, b6.trans ⟨rfl, rfl, rfl, Nat.le_refl _, fun _ _ => rfl⟩⟩

theorem fnReadsOfNothing_contract (H : Type) (enc : TypeId × Value → H) (W : World) (base : Nat) (args : Array Value) (ds gs : List (DataW H)) (before : List MemPlace)
    (hval : ∀ (j : Nat) t v, Try.f3.params[j]? = some t → args[j]? = some v → Value.okWide Try.prog W .any base t v)
    (hW : DataW.Whole enc Try.prog Try.f3.params.toList Rows.fnReadsOfNothingSpec.vars false W args.toList ds gs before)
    (hk : Rows.uptoSmall H (ds ++ gs) = true) :
    Calls Try.prog 3 args W fun e W' => ∃ v, e = .returned v ∧ Rows.fnReadsOfNothingSpec.post enc Try.prog Try.f3 false true false false W args v W' := by
  have hW' := hW
  obtain ⟨p, q, hA0, hV, rfl, hfz, hnd⟩ := hW
  have hA : DataW.TrodAll enc Try.prog W 0 (fun _ => true) true Try.f3.params.toList args.toList ds p := hA0
  rw [Try.params3] at hA hval
  obtain ⟨v0, vs0, d0, ds0, p0, q0, hargs, rfl, rfl, h0, r0⟩ := trodAll_cons hA
  obtain ⟨v1, vs1, d1, ds1, p1, q1, rfl, rfl, rfl, h1, r1⟩ := trodAll_cons r0
  obtain ⟨v2, vs2, d2, ds2, p2, q2, rfl, rfl, rfl, h2, r2⟩ := trodAll_cons r1
  obtain ⟨v3, vs3, d3, ds3, p3, q3, rfl, rfl, rfl, h3, r3⟩ := trodAll_cons r2
  obtain ⟨v4, vs4, d4, ds4, p4, q4, rfl, rfl, rfl, h4, r4⟩ := trodAll_cons r3
  obtain ⟨v5, vs5, d5, ds5, p5, q5, rfl, rfl, rfl, h5, r5⟩ := trodAll_cons r4
  obtain ⟨rfl, rfl, rfl⟩ := trodAll_nil r5
  obtain rfl : args = #[v0, v1, v2, v3, v4, v5] := by cases args; simp_all
  obtain ⟨rfl, rfl⟩ := trodVars_none hV
  obtain ⟨x0, rfl, rfl, rfl, wx0⟩ := open_int Try.underlying3 (hval 0 3 v0 rfl rfl) h0
  obtain ⟨a1, len1, cap1, rfl⟩ := okWide_slice Try.underlying22 (hval 1 22 v1 rfl rfl)
  have k1 := h1
  have lt1 : ∀ x ∈ p1, x.block < W.heap.size := by obtain ⟨m, hm⟩ := k1; exact DataW.trod_lt m _ _ _ hm
  obtain ⟨fu1, hf1⟩ := h1
  obtain ⟨l1, el1, b1, u1⟩ := openBs (by simpa [Value.cells] using hf1)
  obtain ⟨a2, len2, cap2, rfl⟩ := okWide_slice Try.underlying22 (hval 2 22 v2 rfl rfl)
  have k2 := h2
  have lt2 : ∀ x ∈ p2, x.block < W.heap.size := by obtain ⟨m, hm⟩ := k2; exact DataW.trod_lt m _ _ _ hm
  obtain ⟨fu2, hf2⟩ := h2
  obtain ⟨l2, el2, b2, u2⟩ := openBs (by simpa [Value.cells] using hf2)
  obtain ⟨a3, len3, cap3, rfl⟩ := okWide_slice Try.underlying23 (hval 3 23 v3 rfl rfl)
  have k3 := h3
  have lt3 : ∀ x ∈ p3, x.block < W.heap.size := by obtain ⟨m, hm⟩ := k3; exact DataW.trod_lt m _ _ _ hm
  obtain ⟨fu3, hf3⟩ := h3
  obtain ⟨l3, el3, b3, u3, uu3⟩ := openRows (by simpa [Value.cells] using hf3)
  obtain ⟨a4, len4, cap4, rfl⟩ := okWide_slice Try.underlying24 (hval 4 24 v4 rfl rfl)
  have k4 := h4
  have lt4 : ∀ x ∈ p4, x.block < W.heap.size := by obtain ⟨m, hm⟩ := k4; exact DataW.trod_lt m _ _ _ hm
  obtain ⟨fu4, hf4⟩ := h4
  obtain ⟨l4, el4, b4, u4, uu4⟩ := openInts (by simpa [Value.cells] using hf4)
  obtain ⟨a5, len5, cap5, rfl⟩ := okWide_slice Try.underlying25 (hval 5 25 v5 rfl rfl)
  have k5 := h5
  have lt5 : ∀ x ∈ p5, x.block < W.heap.size := by obtain ⟨m, hm⟩ := k5; exact DataW.trod_lt m _ _ _ hm
  obtain ⟨fu5, hf5⟩ := h5
  obtain ⟨l5, el5, b5, u5, uu5⟩ := openBools (by simpa [Value.cells] using hf5)
  have hb := bulk_bound hk
  simp only [List.append_nil, Rows.uptoBulkAll] at hb
  clear hA0
  refine (fnReadsOfNothing_walk W x0 a1 a2 a3 a4 a5 cap1 cap2 cap3 cap4 cap5 len1 len2 len3 len4 len5 l1 l2 l3 l4 l5 el1 el2 el3 el4 el5 b1 b2 b3 b4 b5 (by omega) (by omega) (by omega) (by omega) (by omega)).mono fun e W' ⟨he, bel⟩ => ?_
  subst he
  exact ⟨_, rfl, _, _, _, [], _, [], hW', trodAll_mk1 (shut_bool Try.underlying4 _), (trodAll_cons_mk (shut_int Try.underlying3 wx0) (trodAll_cons_mk (Below.trod laidOut (by kernel_rfl) (of_decide_eq_true (by kernel_rfl)) k1 bel lt1) (trodAll_cons_mk (Below.trod laidOut (by kernel_rfl) (of_decide_eq_true (by kernel_rfl)) k2 bel lt2) (trodAll_cons_mk (Below.trod laidOut (by kernel_rfl) (of_decide_eq_true (by kernel_rfl)) k3 bel lt3) (trodAll_cons_mk (Below.trod laidOut (by kernel_rfl) (of_decide_eq_true (by kernel_rfl)) k4 bel lt4) (trodAll_cons_mk (Below.trod laidOut (by kernel_rfl) (of_decide_eq_true (by kernel_rfl)) k5 bel lt5) trodAll_mk0)))))), rfl, bel.frame _, fun h => by cases h⟩

theorem fnReadsOfNothing_fact0 : (fun (P : Program) (f : FuncId) (fn : Func) (s : ChangeSpec) (c : OpenClaim) => (c.wf (OpenSpec.ofChange s) : Bool)) Try.prog 3 Try.f3 Rows.fnReadsOfNothingSpec Rows.fnReadsOfNothingUptoRow = true := by kernel_rfl
theorem fnReadsOfNothing_fact1 : (fun (P : Program) (f : FuncId) (fn : Func) (s : ChangeSpec) (c : OpenClaim) => (laidOutB P : Bool)) Try.prog 3 Try.f3 Rows.fnReadsOfNothingSpec Rows.fnReadsOfNothingUptoRow = true := prog_laid
theorem fnReadsOfNothing_fact2 : (fun (P : Program) (f : FuncId) (fn : Func) (s : ChangeSpec) (c : OpenClaim) => (mapsRowed P : Bool)) Try.prog 3 Try.f3 Rows.fnReadsOfNothingSpec Rows.fnReadsOfNothingUptoRow = true := prog_maps
theorem fnReadsOfNothing_fact3 : (fun (P : Program) (f : FuncId) (fn : Func) (s : ChangeSpec) (c : OpenClaim) => (fn.params.all (P.readableRec ·) : Bool)) Try.prog 3 Try.f3 Rows.fnReadsOfNothingSpec Rows.fnReadsOfNothingUptoRow = true := by kernel_rfl
theorem fnReadsOfNothing_fact4 : (fun (P : Program) (f : FuncId) (fn : Func) (s : ChangeSpec) (c : OpenClaim) => (namedTie P c.named s.vars : Bool)) Try.prog 3 Try.f3 Rows.fnReadsOfNothingSpec Rows.fnReadsOfNothingUptoRow = true := by kernel_rfl
theorem fnReadsOfNothing_fact5 : (fun (P : Program) (f : FuncId) (fn : Func) (s : ChangeSpec) (c : OpenClaim) => ((c.stops == []) : Bool)) Try.prog 3 Try.f3 Rows.fnReadsOfNothingSpec Rows.fnReadsOfNothingUptoRow = true := by kernel_rfl
theorem fnReadsOfNothing_fact6 : (fun (P : Program) (f : FuncId) (fn : Func) (s : ChangeSpec) (c : OpenClaim) => ((P.stops == []) : Bool)) Try.prog 3 Try.f3 Rows.fnReadsOfNothingSpec Rows.fnReadsOfNothingUptoRow = true := prog_stops
theorem fnReadsOfNothing_fact7 : (fun (P : Program) (f : FuncId) (fn : Func) (s : ChangeSpec) (c : OpenClaim) => ((c.knobs == []) : Bool)) Try.prog 3 Try.f3 Rows.fnReadsOfNothingSpec Rows.fnReadsOfNothingUptoRow = true := by kernel_rfl
theorem fnReadsOfNothing_fact8 : (fun (P : Program) (f : FuncId) (fn : Func) (s : ChangeSpec) (c : OpenClaim) => ((P.stopKnobs == []) : Bool)) Try.prog 3 Try.f3 Rows.fnReadsOfNothingSpec Rows.fnReadsOfNothingUptoRow = true := prog_knobs
theorem fnReadsOfNothing_fact9 : (fun (P : Program) (f : FuncId) (fn : Func) (s : ChangeSpec) (c : OpenClaim) => ((c.inPlace == P.inPlace f) : Bool)) Try.prog 3 Try.f3 Rows.fnReadsOfNothingSpec Rows.fnReadsOfNothingUptoRow = true := by kernel_rfl
theorem fnReadsOfNothing_fact10 : (fun (P : Program) (f : FuncId) (fn : Func) (s : ChangeSpec) (c : OpenClaim) => ((c.unfollowed == P.unfollowed f) : Bool)) Try.prog 3 Try.f3 Rows.fnReadsOfNothingSpec Rows.fnReadsOfNothingUptoRow = true := by kernel_rfl
theorem fnReadsOfNothing_fact11 : (fun (P : Program) (f : FuncId) (fn : Func) (s : ChangeSpec) (c : OpenClaim) => ((c.recurses == P.recurses f) : Bool)) Try.prog 3 Try.f3 Rows.fnReadsOfNothingSpec Rows.fnReadsOfNothingUptoRow = true := by kernel_rfl
theorem fnReadsOfNothing_fact12 : (fun (P : Program) (f : FuncId) (fn : Func) (s : ChangeSpec) (c : OpenClaim) => ((c.named == P.varsNamed f) : Bool)) Try.prog 3 Try.f3 Rows.fnReadsOfNothingSpec Rows.fnReadsOfNothingUptoRow = true := by kernel_rfl
theorem fnReadsOfNothing_fact13 : (fun (P : Program) (f : FuncId) (fn : Func) (s : ChangeSpec) (c : OpenClaim) => ((c.maps == (fn.params.toList ++ s.plain.varTypes P).any (P.mapsRec ·)) : Bool)) Try.prog 3 Try.f3 Rows.fnReadsOfNothingSpec Rows.fnReadsOfNothingUptoRow = true := by kernel_rfl
theorem fnReadsOfNothing_fact14 : (fun (P : Program) (f : FuncId) (fn : Func) (s : ChangeSpec) (c : OpenClaim) => ((c.ifaces == (fn.params.toList ++ s.plain.varTypes P).any (P.ifacesRec ·)) : Bool)) Try.prog 3 Try.f3 Rows.fnReadsOfNothingSpec Rows.fnReadsOfNothingUptoRow = true := by kernel_rfl
theorem fnReadsOfNothing_fact15 : (fun (P : Program) (f : FuncId) (fn : Func) (s : ChangeSpec) (c : OpenClaim) => ((c.mapsOut == P.mapsAmong fn.resultTypes.toList) : Bool)) Try.prog 3 Try.f3 Rows.fnReadsOfNothingSpec Rows.fnReadsOfNothingUptoRow = true := by kernel_rfl
theorem fnReadsOfNothing_fact16 : (fun (P : Program) (f : FuncId) (fn : Func) (s : ChangeSpec) (c : OpenClaim) => ((c.loops == (fn.params.toList ++ s.plain.varTypes P).any (P.loopsFrom ·)) : Bool)) Try.prog 3 Try.f3 Rows.fnReadsOfNothingSpec Rows.fnReadsOfNothingUptoRow = true := by kernel_rfl
theorem fnReadsOfNothing_fact17 : (fun (P : Program) (f : FuncId) (fn : Func) (s : ChangeSpec) (c : OpenClaim) => ((c.wideKeys == (fn.params.toList ++ s.plain.varTypes P ++ fn.resultTypes.toList).any (P.wideKeysFrom ·)) : Bool)) Try.prog 3 Try.f3 Rows.fnReadsOfNothingSpec Rows.fnReadsOfNothingUptoRow = true := by kernel_rfl
theorem fnReadsOfNothing_fact18 : (fun (P : Program) (f : FuncId) (fn : Func) (s : ChangeSpec) (c : OpenClaim) => (s.vars.all (P.varReadable ·) : Bool)) Try.prog 3 Try.f3 Rows.fnReadsOfNothingSpec Rows.fnReadsOfNothingUptoRow = true := by kernel_rfl
theorem fnReadsOfNothing_fact19 : (fun (P : Program) (f : FuncId) (fn : Func) (s : ChangeSpec) (c : OpenClaim) => (fn.resultTypes.all (fun t => P.readableRec t && decide (t < P.types.size)) : Bool)) Try.prog 3 Try.f3 Rows.fnReadsOfNothingSpec Rows.fnReadsOfNothingUptoRow = true := by kernel_rfl
theorem fnReadsOfNothing_fact20 : (fun (P : Program) (f : FuncId) (fn : Func) (s : ChangeSpec) (c : OpenClaim) => ((c.ifacesOut == fn.resultTypes.toList.any (P.ifacesRec ·)) : Bool)) Try.prog 3 Try.f3 Rows.fnReadsOfNothingSpec Rows.fnReadsOfNothingUptoRow = true := by kernel_rfl
theorem fnReadsOfNothing_fact21 : (fun (P : Program) (f : FuncId) (fn : Func) (s : ChangeSpec) (c : OpenClaim) => ((c.loopsOut == fn.resultTypes.toList.any (P.loopsFrom ·)) : Bool)) Try.prog 3 Try.f3 Rows.fnReadsOfNothingSpec Rows.fnReadsOfNothingUptoRow = true := by kernel_rfl
theorem fnReadsOfNothing_fact22 : (fun (P : Program) (f : FuncId) (fn : Func) (s : ChangeSpec) (c : OpenClaim) => ((c.plainKeys == P.plainKeys) : Bool)) Try.prog 3 Try.f3 Rows.fnReadsOfNothingSpec Rows.fnReadsOfNothingUptoRow = true := prog_keys
theorem fnReadsOfNothing_fact23 : (fun (P : Program) (f : FuncId) (fn : Func) (s : ChangeSpec) (c : OpenClaim) => (c.shortTexts.isNone : Bool)) Try.prog 3 Try.f3 Rows.fnReadsOfNothingSpec Rows.fnReadsOfNothingUptoRow = true := by kernel_rfl
theorem fnReadsOfNothing_fact24 : (fun (P : Program) (f : FuncId) (fn : Func) (s : ChangeSpec) (c : OpenClaim) => (P.stopsHeard : Bool)) Try.prog 3 Try.f3 Rows.fnReadsOfNothingSpec Rows.fnReadsOfNothingUptoRow = true := prog_heard
theorem fnReadsOfNothing_fact25 : (fun (P : Program) (f : FuncId) (fn : Func) (s : ChangeSpec) (c : OpenClaim) => (P.mayEnter : Bool)) Try.prog 3 Try.f3 Rows.fnReadsOfNothingSpec Rows.fnReadsOfNothingUptoRow = true := prog_enter
theorem fnReadsOfNothing_fact26 : (fun (P : Program) (f : FuncId) (fn : Func) (s : ChangeSpec) (c : OpenClaim) => ((c.lifted == P.liftsFinal) : Bool)) Try.prog 3 Try.f3 Rows.fnReadsOfNothingSpec Rows.fnReadsOfNothingUptoRow = true := prog_lifts
theorem fnReadsOfNothing_fact27 : (fun (P : Program) (f : FuncId) (fn : Func) (s : ChangeSpec) (c : OpenClaim) => ((P.make == some c.make) : Bool)) Try.prog 3 Try.f3 Rows.fnReadsOfNothingSpec Rows.fnReadsOfNothingUptoRow = true := prog_make
theorem fnReadsOfNothing_fact28 : (fun (P : Program) (f : FuncId) (fn : Func) (s : ChangeSpec) (c : OpenClaim) => ((c.kinds == (if c.domain.isEmpty then [] else fn.params.toList.map fun t => match P.underlying t with | some (.int k) => some k | _ => none)) : Bool)) Try.prog 3 Try.f3 Rows.fnReadsOfNothingSpec Rows.fnReadsOfNothingUptoRow = true := by kernel_rfl
theorem fnReadsOfNothing_fact29 : (fun (P : Program) (f : FuncId) (fn : Func) (s : ChangeSpec) (c : OpenClaim) => ((c.pinned == c.pinnedBy) : Bool)) Try.prog 3 Try.f3 Rows.fnReadsOfNothingSpec Rows.fnReadsOfNothingUptoRow = true := by kernel_rfl
theorem fnReadsOfNothing_fact30 : (fun (P : Program) (f : FuncId) (fn : Func) (s : ChangeSpec) (c : OpenClaim) => ((c.veiled == (fn.params.toList ++ s.plain.varTypes P ++ fn.resultTypes.toList).any (P.veiledRec ·)) : Bool)) Try.prog 3 Try.f3 Rows.fnReadsOfNothingSpec Rows.fnReadsOfNothingUptoRow = true := by kernel_rfl
theorem fnReadsOfNothing_fact31 : (fun (P : Program) (f : FuncId) (fn : Func) (s : ChangeSpec) (c : OpenClaim) => (c.veiledFits P fn.params.toList (fn.params.toList ++ s.plain.varTypes P ++ fn.resultTypes.toList) : Bool)) Try.prog 3 Try.f3 Rows.fnReadsOfNothingSpec Rows.fnReadsOfNothingUptoRow = true := by kernel_rfl
set_option maxRecDepth 100000 in
theorem fnReadsOfNothing_facts : joinedFacts Try.prog 3 Try.f3 Rows.fnReadsOfNothingSpec Rows.fnReadsOfNothingUptoRow = true := and_mk (and_mk (and_mk (and_mk (and_mk (and_mk (and_mk (and_mk (and_mk (and_mk (and_mk (and_mk (and_mk (and_mk (and_mk (and_mk (and_mk (and_mk (and_mk (and_mk (and_mk (and_mk (and_mk (and_mk (and_mk (and_mk (and_mk (and_mk (and_mk (and_mk (and_mk (fnReadsOfNothing_fact0) fnReadsOfNothing_fact1) fnReadsOfNothing_fact2) fnReadsOfNothing_fact3) fnReadsOfNothing_fact4) fnReadsOfNothing_fact5) fnReadsOfNothing_fact6) fnReadsOfNothing_fact7) fnReadsOfNothing_fact8) fnReadsOfNothing_fact9) fnReadsOfNothing_fact10) fnReadsOfNothing_fact11) fnReadsOfNothing_fact12) fnReadsOfNothing_fact13) fnReadsOfNothing_fact14) fnReadsOfNothing_fact15) fnReadsOfNothing_fact16) fnReadsOfNothing_fact17) fnReadsOfNothing_fact18) fnReadsOfNothing_fact19) fnReadsOfNothing_fact20) fnReadsOfNothing_fact21) fnReadsOfNothing_fact22) fnReadsOfNothing_fact23) fnReadsOfNothing_fact24) fnReadsOfNothing_fact25) fnReadsOfNothing_fact26) fnReadsOfNothing_fact27) fnReadsOfNothing_fact28) fnReadsOfNothing_fact29) fnReadsOfNothing_fact30) fnReadsOfNothing_fact31

set_option maxRecDepth 100000 in
theorem fnReadsOfNothing_lifted (os : Os) (started : os.Started) (H : Type) (enc : TypeId × Value → H) (F : Stop.Interp) :
    ReturnsInHanded {} Try.checked os 3 .any ((Rows.OpenSpec.upto Rows.fnReadsOfNothingSpec).pre6 enc Try.prog Try.f3 Rows.fnReadsOfNothingUptoRow.domain false) (((Rows.OpenSpec.upto Rows.fnReadsOfNothingSpec).at F).post enc Try.prog Try.f3 false true false false) := by
  refine returnsInHanded_of_cond (C := Try.checked) (s := Rows.OpenSpec.upto Rows.fnReadsOfNothingSpec) (k := Rows.uptoSmall) rfl ownK started (by kernel_rfl) Try.func3
    (OpenSpec.witness (enc := enc) (C := Try.checked) (s := Rows.OpenSpec.upto Rows.fnReadsOfNothingSpec) (k := Rows.uptoSmall) rfl false ⟨#[], #[.int .i64 0, .slice none 0 0, .slice none 0 0, .slice none 0 0, .slice none 0 0, .slice none 0 0], []⟩ 8 (by kernel_rfl) (by kernel_rfl) (by kernel_rfl)
      (x := ([.lit (.int .i64 0), .nil, .nil, .nil, .nil, .nil], [], [])) (by kernel_rfl) rfl (by kernel_rfl)) ?_
  intro W base args ds gs before hval hW _ hk _
  exact fnReadsOfNothing_contract H enc W base args ds gs before hval hW hk

set_option maxRecDepth 100000 in
theorem fnReadsOfNothing_proved : Rows.FnReadsOfNothingUptoSaid :=
  OpenClaim.holds_of_cond 3 Try.f3 rfl rfl rfl rfl rfl rfl rfl ⟨rfl, rfl, rfl, rfl, rfl⟩ rfl rfl rfl rfl rfl (by kernel_rfl) Try.func3 fnReadsOfNothing_facts
    (of_decide_eq_true (by kernel_rfl)) (by unfold Func.isWrapper; first | (rw [if_pos (by decide +kernel)]; kernel_rfl) | (rw [if_neg (by decide +kernel)]; exact ⟨rfl, rfl⟩))
    (fun os started H enc _ F => fnReadsOfNothing_lifted os started H enc F)

end Go.Proofs.Ythemhpefcfdcaaa
