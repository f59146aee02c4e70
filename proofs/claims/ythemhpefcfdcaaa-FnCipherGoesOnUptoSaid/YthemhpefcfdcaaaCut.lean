/- spec.Cut. -/
import Derived.Test.YthemhpefcfdcaaaSizes
namespace Go.Proofs.Ythemhpefcfdcaaa
open Go.RowKit
set_option linter.unusedVariables false

/-- the parts of bytes -/
def splits : List UInt8 → List Nat → List (List UInt8)
  | _, [] => []
  | l, k :: ks => l.take k :: splits (l.drop k) ks
theorem splits_len : ∀ (ks : List Nat) (l : List UInt8), (splits l ks).length = ks.length
  | [], _ => rfl
  | k :: ks, l => by simp [splits, splits_len ks]
theorem splits_flat : ∀ (ks : List Nat) (l : List UInt8), (splits l ks).flatten = l.take ks.sum
  | [], l => by simp [splits]
  | k :: ks, l => by
    simp only [splits, List.flatten_cons, splits_flat ks, List.sum_cons]
    rw [List.take_add]
def cut (data : List UInt8) (zs : List Int) : List (List UInt8) := splits data (sizes data.length zs)
theorem cut_flat (data : List UInt8) (zs : List Int) : (cut data zs).flatten = data := by
  rw [cut, splits_flat, sizes_sum]; exact List.take_of_length_le (Nat.le_refl _)
theorem cut_len (data : List UInt8) (zs : List Int) : (cut data zs).length = zs.length + 1 := by rw [cut, splits_len, sizes_len]

/-- a row of one type stays where a row of another type grows -/
theorem own_grown {w w' : World} {base base' : Nat} {e e' : TypeId} {v v' : Value} {n n' : Nat} {xs xs' : List Value} (h : w.ownsRow base e 1 v n xs) (h' : w.ownsRow base' e' 1 v' n' xs') (he : e ≠ e') (hg : w.grownBy w' v'.ownBlock) : w'.ownsRow base e 1 v n xs := by
  obtain ⟨h1, h2⟩ := h
  refine ⟨h1, h2.imp (fun x => x) ?_⟩
  rintro ⟨g, cap, cur, e1, e2, e3, e4⟩
  refine ⟨g, cap, cur, e1, e2, ?_, e4⟩
  rw [hg.block g (Array.getElem?_eq_some_iff.1 e3).1 ?_]
  · exact e3
  · rcases h'.2 with ⟨rfl, _⟩ | ⟨g', cap', cur', rfl, _, e3', _⟩
    · intro e; cases e
    · intro e
      simp only [Value.ownBlock, Option.some.injEq] at e
      subst e
      rw [e3] at e3'
      simp only [Option.some.injEq, Obj.cells.injEq] at e3'
      exact he e3'.2.1
/-- a row stays where only later blocks turn -/
theorem own_below {w w' : World} {base : Nat} {e : TypeId} {v : Value} {n : Nat} {xs : List Value} (h : w.ownsRow base e 1 v n xs) (hb : Below w.heap.size w w') : w'.ownsRow base e 1 v n xs := by
  obtain ⟨h1, h2⟩ := h
  refine ⟨h1, h2.imp (fun x => x) ?_⟩
  rintro ⟨g, cap, cur, e1, e2, e3, e4⟩
  exact ⟨g, cap, cur, e1, e2, by rw [hb.block g (Array.getElem?_eq_some_iff.1 e3).1]; exact e3, e4⟩
theorem own_base {w : World} {base base' : Nat} {e : TypeId} {v : Value} {n : Nat} {xs : List Value} (h : w.ownsRow base e 1 v n xs) (hb : base' ≤ base) : w.ownsRow base' e 1 v n xs := by
  obtain ⟨h1, h2⟩ := h
  refine ⟨h1, h2.imp (fun x => x) ?_⟩
  rintro ⟨g, cap, cur, e1, e2, e3⟩
  exact ⟨g, cap, cur, e1, by omega, e3⟩

/-- parts that the call owns, each with some room behind it -/
def Parts (B : Nat) (w : World) (xs : List Value) (os : List (List UInt8)) : Prop :=
  xs.length = os.length ∧ ∀ (i : Nat) (o : List UInt8), os[i]? = some o → ∃ a c, xs[i]? = some (Value.slice a o.length c) ∧ w.ownsRow B 5 1 (.slice a o.length c) o.length (o.map BV)
theorem Parts.nil (B : Nat) (w : World) : Parts B w [] [] := ⟨rfl, fun i o h => by cases h⟩
theorem Parts.keep {B : Nat} {w w' : World} {xs : List Value} {os : List (List UInt8)} (h : Parts B w xs os) (hk : ∀ v n l, w.ownsRow B 5 1 v n l → w'.ownsRow B 5 1 v n l) : Parts B w' xs os := by
  refine ⟨h.1, fun i o hi => ?_⟩
  obtain ⟨a, c, e1, e2⟩ := h.2 i o hi
  exact ⟨a, c, e1, hk _ _ _ e2⟩
theorem Parts.snoc {B : Nat} {w : World} {xs : List Value} {os : List (List UInt8)} (h : Parts B w xs os) (o : List UInt8) (a : Option Addr) (c : Nat) (hr : w.ownsRow B 5 1 (.slice a o.length c) o.length (o.map BV)) :
    Parts B w (xs ++ [.slice a o.length c]) (os ++ [o]) := by
  refine ⟨by simp [h.1], fun i o' hi => ?_⟩
  by_cases hlt : i < os.length
  · rw [List.getElem?_append_left hlt] at hi
    obtain ⟨a', c', e1, e2⟩ := h.2 i o' hi
    exact ⟨a', c', by rw [List.getElem?_append_left (by rw [h.1]; exact hlt)]; exact e1, e2⟩
  · rw [List.getElem?_append_right (by omega)] at hi
    have hi0 : i - os.length = 0 := by
      have := (List.getElem?_eq_some_iff.1 hi).1
      simp at this
      omega
    rw [hi0] at hi
    simp only [List.getElem?_cons_zero, Option.some.injEq] at hi
    subst hi
    exact ⟨a, c, by rw [List.getElem?_append_right (by rw [h.1]; omega), h.1, hi0]; rfl, hr⟩
theorem Parts.rows2 {base B : Nat} {w : World} {v : Value} {n : Nat} {xs : List Value} {os : List (List UInt8)} (h : Parts B w xs os) (hown : w.ownsRow base 22 1 v n xs) :
    ∃ a cap, v = .slice a os.length cap ∧ Rows2 w.heap.size w a cap os := by
  obtain ⟨h1, h2⟩ := hown
  have hn : n = os.length := by rw [← h.1, h1]; omega
  rcases h2 with ⟨rfl, h0⟩ | ⟨g, cap, cur, rfl, hg, hh, hle, hm, hsz, htk⟩
  · have : os = [] := List.eq_nil_of_length_eq_zero (by omega)
    subst this
    exact ⟨none, 0, rfl, Nat.le_refl _, by omega, .inl rfl⟩
  · refine ⟨some ⟨g, 0, none⟩, cap, by rw [hn], by omega, by unfold maxLen at hm; omega, .inr ⟨g, 0, rfl, (Array.getElem?_eq_some_iff.1 hh).1, fun i l hi => ?_⟩⟩
    obtain ⟨a, c, e1, e2⟩ := h.2 i l hi
    obtain ⟨_, hB⟩ := Bs.of_own e2
    refine ⟨a, c, ?_, hB⟩
    rw [← htk] at e1
    rw [List.getElem?_take] at e1
    split at e1
    · simp only [World.cell?, hh, Nat.zero_add]
      simpa using e1
    · cases e1

/-- where the cutting stands -/
def CuO (w : World) (data : List UInt8) (ks : List Nat) (vs : Value) (q : Nat) (v o t : Value) (wr : World) : Prop :=
  ∃ (i p : Nat) (xs : List Value) (os : List (List UInt8)), v = .int .i64 (i : Int) ∧ t = .int .i64 (p : Int) ∧ i ≤ ks.length ∧ p + (ks.drop i).sum = data.length ∧ Below w.heap.size w wr ∧
    wr.ownsRow w.heap.size 3 1 vs q ((ks.map Int.ofNat).map (Value.int .i64)) ∧ wr.ownsRow w.heap.size 22 1 o i xs ∧ Parts w.heap.size wr xs os ∧ os ++ splits (data.drop p) (ks.drop i) = splits data ks
def CuI (w0 : World) (l : List UInt8) (p k : Nat) (o t : Value) (wr : World) : Prop :=
  ∃ j : Nat, t = .int .i64 ((p : Int) + (j : Int)) ∧ j ≤ k ∧ Below w0.heap.size w0 wr ∧ wr.ownsRow w0.heap.size 5 1 o j ((l.take j).map BV)

set_option maxRecDepth 100000 in
set_option maxHeartbeats 2000000 in
theorem cut_any (w : World) (d r c cR : Nat) (a aR : Option Addr) (data : List UInt8) (zs : List Int) (hd : data.length = d) (hr : zs.length = r) (hD : Bs w.heap.size w a c data) (hR : Ints w.heap.size w aR cR zs) (hdb : d ≤ 140737488355328) (hrb : (r + 1) * 24 ≤ 140737488355328) :
    Calls Try.prog 22 #[.slice a d c, .slice aR r cR] w fun e w' => ∃ a cap, e = .returned (.slice a (r + 1) cap) ∧ Rows2 w'.heap.size w' a cap (cut data zs) ∧ Below w.heap.size w w' := by
  have HD := Lib.hid hd
  have bl1 : Below w.heap.size w (w.alloc (.cells #[] 22)) := (Below.refl _ _).alloc (Nat.le_refl _) _
  have ow1 := own_empty w 22 w.heap.size (Nat.le_refl _)
  obtain ⟨w1, hw1⟩ : ∃ w1, w1 = w.alloc (.cells #[] 22) := ⟨_, rfl⟩
  rw [← hw1] at bl1 ow1
  have s1 := bl1.size
  have HS := Lib.hid (sizes_any w1 d r cR aR zs hr ((hR.keep bl1).mono s1) (by omega) (by omega))
  obtain ⟨ks, hks⟩ : ∃ ks, ks = sizes d zs := ⟨_, rfl⟩
  have hkl : ks.length = r + 1 := by rw [hks, sizes_len, hr]
  have hsum : ks.sum = d := by rw [hks, sizes_sum]
  have hcut : cut data zs = splits data ks := by rw [cut, hd, hks]
  rw [← hks] at HS
  rw [hcut]
  have HW1 := Lib.hid hw1
  have HKL := Lib.hid hkl
  have HSUM := Lib.hid hsum
  obtain ⟨i5, hi0, hz0, hz1, hz2⟩ := info_parts info5
  have HI5 := Lib.hid hi0
  have HZ50 := Lib.hid hz0
  have HZ51 := Lib.hid hz1
  have HZ52 := Lib.hid hz2
  clear hi0 hz0 hz1 hz2
  obtain ⟨i22, hi0, hz0, hz1, hz2⟩ := info_parts info22
  have HI22 := Lib.hid hi0
  have HZ220 := Lib.hid hz0
  have HZ221 := Lib.hid hz1
  have HZ222 := Lib.hid hz2
  have r1 : r + 1 ≤ 9223372036854775807 := by omega
  clear hi0 hz0 hz1 hz2 hks hkl hsum hcut hw1 hd hr hR
  go_enter Try.func22, Try.ntmps22
  go_wp2_with fail
  rw [← HW1.out]
  refine HS.out.mono ?_
  rintro e w2 ⟨f2, fc2, rfl, ow2, bl2⟩
  have bl2' : Below w.heap.size w w2 := bl1.trans (bl2.mono s1)
  have st : CuO w data ks (.slice f2 (r + 1) fc2) (r + 1) (.int .i64 ((0 : Nat) : Int)) (.slice (some ⟨w.heap.size, 0, none⟩) 0 0) (.int .i64 ((0 : Nat) : Int)) w2 :=
    ⟨0, 0, [], [], rfl, rfl, Nat.zero_le _, by simp [HSUM.out, HD.out], bl2', own_base ow2 s1, own_below ow1 bl2, Parts.nil _ _, by simp⟩
  clear ow1 ow2 bl1 bl2 bl2'
  go_wp2_with fail
  generalize Value.slice (some ⟨w.heap.size, 0, none⟩) 0 0 = o2 at *
  go_loopw [17, 5, 6] (fun v o t wr => CuO w data ks (.slice f2 (r + 1) fc2) (r + 1) v o t wr) (fun v _ _ _ => r + 1 - (intOf v).toNat)
  case atStart => exact st
  case round =>
    obtain ⟨i, p, xs, os, rfl, rfl, hi, hp, bl3, owS, owO, hP, hcat⟩ := hrel
    have s3 := bl3.size
    by_cases hlt : i < r + 1
    · obtain ⟨k, hk⟩ : ∃ k, ks[i]? = some k := ⟨ks[i]'(by rw [HKL.out]; exact hlt), by simp [HKL.out, hlt]⟩
      have hkz : (ks.map Int.ofNat)[i]? = some (k : Int) := by rw [List.getElem?_map, hk]; rfl
      obtain ⟨pb, po, e1, e2, c1⟩ := (Ints.of_own owS).2.at hkz
      subst e1
      have hdr : ks.drop i = k :: ks.drop (i + 1) := by
        obtain ⟨h1, h2⟩ := List.getElem?_eq_some_iff.1 hk
        rw [← h2]; exact List.drop_eq_getElem_cons h1
      rw [hdr, List.sum_cons, HD.out] at hp
      have hpk : p + k ≤ d := by omega
      have hcat' : (os ++ [(data.drop p).take k]) ++ splits (data.drop (p + k)) (ks.drop (i + 1)) = splits data ks := by
        rw [← hcat, hdr, splits, List.drop_drop]; simp
      have i1 : (i : Int) < (r : Int) + 1 := by omega
      have i2 : (i : Int) < ((r + 1 : Nat) : Int) := by omega
      have HCAT := Lib.hid hcat'
      have HP' := Lib.hid hp
      have st2 : CuI wr (data.drop p) p k (.slice (some ⟨wr.heap.size, 0, none⟩) 0 0) (.int .i64 (p : Int)) (wr.alloc (.cells #[] 5)) :=
        ⟨0, by simp, Nat.zero_le _, (Below.refl _ _).alloc (Nat.le_refl _) _, own_empty wr 5 wr.heap.size (Nat.le_refl _)⟩
      clear hk hkz hdr hcat hcat' hp
      go_wp2_with fail
      obtain ⟨w3, hw3⟩ : ∃ w3 : World, w3 = wr := ⟨_, rfl⟩
      rw [← hw3] at st2 bl3 owS owO hP s3 c1 ⊢
      clear hw3
      generalize w3.alloc (.cells #[] 5) = w4 at *
      generalize Value.slice (some ⟨w3.heap.size, 0, none⟩) 0 0 = o4 at *
      go_loopw [9, 10] (fun o t wr => CuI w3 (data.drop p) p k o t wr) (fun _ t _ => p + k - (intOf t).toNat)
      case atStart => exact st2
      case round =>
        obtain ⟨j, rfl, hj, bl5, ow5⟩ := hrel
        have s5 := bl5.size
        by_cases hlt2 : j < k
        · obtain ⟨x, hx⟩ : ∃ x, data[p + j]? = some x := ⟨data[p + j]'(by rw [HD.out]; omega), by simp⟩
          have bl5' : Below w.heap.size w wr := bl3.trans (bl5.mono s3)
          obtain ⟨qb, qo, e3, e4, c2⟩ := (hD.keep bl5').at hx
          subst e3
          have j1 : (p : Int) + (j : Int) < (p : Int) + (k : Int) := by omega
          have j2 : (p : Int) + (j : Int) < (d : Int) := by omega
          have j3 : (0 : Int) ≤ (p : Int) + (j : Int) := by omega
          have j4 : p + j < d := by omega
          have HX := Lib.hid hx
          clear hx
          have dropx : (data.drop p)[j]? = some x := by rw [List.getElem?_drop]; exact HX.out
          have HDX := Lib.hid dropx
          clear dropx
          go_wp2_with (refine wpList_append_own _ rfl _ _ 22 rfl w3.heap.size 5 i5 (.int .u8 0) 1 1 Try.underlying22 HI5.out HZ50.out HZ51.out HZ52.out rfl (by decide) _ _ _ rfl (ow5.alloc _) ⟨wr.heap.size, 0, none⟩ 1 1 [BV x] rfl rfl (cell_one_new _ _ _) (by simp [Value.oneCell', BV]) (by unfold maxLen; omega) (by omega) (by simp; omega) ?_; intro v' w6 own6 grow6 _)
          refine ⟨⟨j + 1, ?_, by omega, ?_, ?_⟩, ?_⟩
          · simp only [Value.int.injEq, true_and]; omega
          · exact (bl5.alloc bl5.size _).grown grow6 (by simp; omega) fun k' hk' => (ow5.lt k' hk').1
          · have e : ((data.drop p).take (j + 1)).map BV = ((data.drop p).take j).map BV ++ [BV x] := by
              rw [List.take_add_one, HDX.out]; simp
            rw [e]; exact own6
          · simp [intOf]; omega
        · have hjk : j = k := by omega
          subst hjk
          have j1 : ¬ (p : Int) + (j : Int) < (p : Int) + (j : Int) := by omega
          obtain ⟨a5, c5, rfl⟩ := own_slice ow5
          have owO5 := own_below owO bl5
          have owS5 := own_below owS bl5
          have hP5 := hP.keep (w' := wr) fun _ _ _ h => own_below h bl5
          have bl5' : Below w.heap.size w wr := bl3.trans (bl5.mono s3)
          have s5' := bl5'.size
          clear owO owS hP st st2 c1
          go_wp2_with (refine wpList_append_own _ rfl _ _ 23 rfl w.heap.size 22 i22 (.slice none 0 0) 1 24 Try.underlying23 HI22.out HZ220.out HZ221.out HZ222.out rfl (by decide) _ _ _ rfl (owO5.alloc _) ⟨wr.heap.size, 0, none⟩ 1 1 [.slice a5 j c5] rfl rfl (cell_one_new _ _ _) (by simp [Value.oneCell']) (by unfold maxLen; omega) (by omega) (by simp; omega) ?_; intro v' w6 own6 grow6 _)
          have owA := owO5.alloc (Obj.cells #[.slice a5 j c5] 22)
          have hl : ((data.drop p).take j).length = j := by simp [HD.out]; omega
          have pa : (wr.alloc (Obj.cells #[.slice a5 j c5] 22)).ownsRow w.heap.size 5 1 (.slice a5 ((data.drop p).take j).length c5) ((data.drop p).take j).length (((data.drop p).take j).map BV) := by
            rw [hl]; exact own_base (ow5.alloc _) s3
          have P6 := ((hP5.keep (w' := wr.alloc (Obj.cells #[.slice a5 j c5] 22)) fun _ _ _ h => h.alloc _).snoc _ a5 c5 pa).keep (w' := w6) fun _ _ _ h => own_grown h owA (by decide) grow6
          rw [hl] at P6
          refine ⟨⟨i + 1, p + j, xs ++ [.slice a5 j c5], os ++ [(data.drop p).take j], by go_num, by go_num, by rw [HKL.out]; omega, by rw [HD.out]; have := HP'.out; omega, ?_, ?_, own6, P6, HCAT.out⟩, ?_⟩
          · exact (bl5'.alloc bl5'.size _).grown grow6 (by simp; omega) fun k' hk' => (owO5.lt k' hk').1
          · exact own_grown (owS5.alloc _) owA (by decide) grow6
          · simp [intOf]; omega
    · have hir : i = r + 1 := by rw [HKL.out] at hi; omega
      have hdr : ks.drop i = [] := List.drop_eq_nil_of_le (by rw [HKL.out]; omega)
      rw [hdr, splits, List.append_nil] at hcat
      subst hcat
      obtain ⟨a', c', rfl, hf⟩ := hP.rows2 owO
      have hlen : (splits data ks).length = r + 1 := by rw [splits_len, HKL.out]
      have HLEN := Lib.hid hlen
      have HF := Lib.hid hf
      clear hdr hlen hf hP owO owS st hp
      go_wp2_with fail
      go_ret
      rw [HLEN.out]
      exact ⟨a', c', rfl, HF.out, bl3⟩
end Go.Proofs.Ythemhpefcfdcaaa
