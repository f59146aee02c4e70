/- bytes.Clone; UnmarshalBinary of a SHAKE. -/
import Derived.Test.YthemhpefcfdcaaaLoad
import Derived.Test.YthemhpefcfdcaaaSpec
import Derived.Deep.RegionHeld3
namespace Go.Proofs.Ythemhpefcfdcaaa
open Go.RowKit
set_option linter.unusedVariables false

theorem clone_run (w : World) (ad : Addr) (q c : Nat) (l : List UInt8) (hl : l.length = q) (hL : Lies w ad l) (hlt : ad.block < w.heap.size) (hq : q ≤ 281474976710656) :
    ∃ a' c' w', (Builtin.append_ #[22, 22] 22 #[.slice (some ⟨w.heap.size, 0, none⟩) 0 0, .slice (some ad) q c]).run Try.prog (w.alloc (.cells #[] 5)) = .ok (.slice a' q c') w' ∧ Below w.heap.size w w' := by
  have bl1 : Below w.heap.size w (w.alloc (.cells #[] 5)) := (Below.refl _ _).alloc (Nat.le_refl _) _
  by_cases h0 : q = 0
  · have hnil : l = [] := List.eq_nil_of_length_eq_zero (by omega)
    have own1 := own_empty w 5 w.heap.size (Nat.le_refl _)
    obtain ⟨a2, c2, w2, hap2, own2, gr2⟩ := app_own (w.alloc (.cells #[] 5)) w.heap.size 22 5 (.int .u8 0) 1 Try.underlying22 info5 rfl _ 0 0 [] own1 (by simp) (some ad) q c [] (by simp; omega) (.inl rfl) (by intro u hu; cases hu) (by omega) (by omega) 22
    rw [Nat.zero_add] at hap2
    exact ⟨a2, c2, w2, hap2, bl1.grown gr2 bl1.size fun k hk => (own1.lt k hk).1⟩
  · obtain ⟨i0, hi, hz0, hz1, hz2⟩ := info_parts info5
    have hL1 := hL.below bl1 hlt
    have e := run_append_grow (P := Try.prog) (w.alloc (.cells #[] 5)) 22 22 5 i0 (.int .u8 0) Try.underlying22 hi hz0 ⟨w.heap.size, 0, none⟩ 0 0 [] (by simp) (fun j v h => by cases h) ad q c (l.map BV) (by rw [hz1]; simp [hl]) (fun j v hj => by
      rw [List.getElem?_map] at hj
      cases hx : l[j]? with
      | none => rw [hx] at hj; cases hj
      | some y => rw [hx] at hj; simp only [Option.map_some, Option.some.injEq] at hj; rw [← hj]; exact hL1 j y hx) (by omega) (by omega) (by
        rw [hz2, Nat.mul_one]
        have : Builtin.nextslicecap (0 + q) 0 = q := by unfold Builtin.nextslicecap; rw [if_pos (by omega)]; omega
        rw [this]; exact hq)
    rw [Nat.zero_add] at e
    have bl2 : Below w.heap.size w (w.alloc (.cells #[] 5)).drew := bl1.trans ⟨rfl, rfl, rfl, Nat.le_refl _, fun _ _ => rfl⟩
    exact ⟨_, _, _, e, bl2.alloc bl2.size _⟩

theorem eqlIn_slice_nil (w : World) (d : Nat) (ad : Addr) (q c : Nat) : (Op.equalIn (d + 1) 22 (.slice (some ad) q c) (.slice none 0 0)).run Try.prog w = .ok false w := by
  have hu : (underlying 22).run Try.prog w = .ok (.slice 5) w := by kernel_rfl
  simp [Op.equalIn, hu]
theorem eql_slice_nil (w : World) (ad : Addr) (q c : Nat) : (binOp .eql 22 (.slice (some ad) q c) (.slice none 0 0)).run Try.prog w = .ok (.bool false) w := by
  simp only [binOp]
  simp [Op.equal, Op.maxDepth, eqlIn_slice_nil w 9999 ad q c]

set_option maxRecDepth 100000 in
theorem clone_any (w : World) (ad : Addr) (q c : Nat) (l : List UInt8) (hl : l.length = q) (hL : Lies w ad l) (hlt : ad.block < w.heap.size) (hq : q ≤ 281474976710656) :
    Calls Try.prog 58 #[.slice (some ad) q c] w fun e w' => ∃ a' c', e = .returned (.slice a' q c') ∧ Below w.heap.size w w' := by
  obtain ⟨a', c', w', hap, bl⟩ := clone_run w ad q c l hl hL hlt hq
  have HAP := Lib.hid hap
  have heq := eql_slice_nil w ad q c
  clear hap hL hl
  go_enter Try.func58, Try.ntmps58
  go_wp2_with (refine wpList_appendR rfl _ _ _ rfl _ _ rfl rfl _ _ HAP.out ?_; clear HAP)
  go_ret
  exact ⟨a', c', rfl, bl⟩

theorem Lies.left {w : World} {q : Addr} {l m : List UInt8} (h : Lies w q (l ++ m)) : Lies w q l := fun j x hj => h j x (by
  rw [List.getElem?_append_left (List.getElem?_eq_some_iff.1 hj).1]; exact hj)
theorem Lies.right {w : World} {pb po k : Nat} {l m : List UInt8} (h : Lies w ⟨pb, po, none⟩ (l ++ m)) (hk : l.length = k) : Lies w ⟨pb, po + k, none⟩ m := fun j x hj => by
  have := h (k + j) x (by rw [List.getElem?_append_right (by omega), hk, Nat.add_sub_cancel_left]; exact hj)
  rw [add_row] at this ⊢
  rw [Nat.add_assoc]
  exact this
theorem Lies.block {w w' : World} {q : Addr} {l : List UInt8} (h : Lies w q l) (hb : w'.heap[q.block]? = w.heap[q.block]?) : Lies w' q l := fun j x hj => by
  have := h j x hj
  unfold World.cell? at this ⊢
  have e : (q.add j).block = q.block := by unfold Addr.add; split <;> rfl
  rw [e, hb]
  rw [e] at this
  exact this

set_option maxRecDepth 100000 in
set_option maxHeartbeats 1000000 in
theorem fload_any (w : World) (b pb po c q : Nat) (t : TypeId) (s0 s : Sp) (ib : Value) (l : List UInt8) (h : Has w b t s0 ib) (ok0 : s0.Ok) (ok : s.Ok) (hds : s.ds = 31 ∨ s.ds = 4) (e1 : s0.rate = s.rate) (e2 : s0.ds = s.ds) (e3 : s0.ol = s.ol)
    (hl : Lies w ⟨pb, po, none⟩ (marsh s ++ l)) (hlq : l.length = q) (hne : pb ≠ b) (hpb : pb < w.heap.size) (hc : 207 + q ≤ c) (hcb : c ≤ 9223372036854775807) (hq : q ≤ 281474976710656) :
    Calls Try.prog 47 #[.pointer (some ⟨b, 0, none⟩), .slice (some ⟨pb, po, none⟩) (207 + q) c] w fun e w' => e = .returned .nilIface ∧ ∃ ib', Has w' b t s ib' ∧ Mod b w w' := by
  have HD := Lib.hid (dload_any w.drew b pb po c t s0 s ib h ok0 ok hds e1 e2 e3 hl.left hne (by omega) hcb)
  have hla := ok.len
  have hb := h.size
  have hm := marsh_len s hla
  have h1 : Has (w.drew.setRow b (s.cells ib)) b t s ib := Has.setRow (w := w.drew) h _ _
  have m1 : Mod b w (w.drew.setRow b (s.cells ib)) := ((Mod.refl b w).eqv (Eqv.drew _)).setRow _
  have hlies : ∀ (w1 : World) (ad : Addr), ad.block = pb → Lies w ad l → Eqv (w.drew.setRow b (s.cells ib)) w1 → ∀ K', Calls Try.prog 58 #[.slice (some ad) q K'] w1 fun e w' => ∃ a' c', e = .returned (.slice a' q c') ∧ Below w1.heap.size w1 w' := fun w1 ad hadb hadL hw1 K' => by
    refine clone_any w1 ad q K' l hlq (hadL.block ?_) ?_ hq
    · rw [hw1.heap, hadb, setRow_other _ _ _ _ hne]; rfl
    · rw [hw1.heap, hadb, size_setRow]; exact hpb
  have hcl1 : ¬ c = 207 → ∀ (w1 : World), Eqv (w.drew.setRow b (s.cells ib)) w1 → Calls Try.prog 58 #[.slice (some ⟨pb, po + 207, none⟩) q (c - 207)] w1 fun e w' => ∃ a' c', e = .returned (.slice a' q c') ∧ Below w1.heap.size w1 w' := fun _ w1 hw1 => hlies w1 _ rfl (hl.right hm) hw1 _
  have hcl2 : c = 207 → ∀ (w1 : World), Eqv (w.drew.setRow b (s.cells ib)) w1 → Calls Try.prog 58 #[.slice (some ⟨pb, po, none⟩) q 0] w1 fun e w' => ∃ a' c', e = .returned (.slice a' q c') ∧ Below w1.heap.size w1 w' := fun hcc w1 hw1 => hlies w1 _ rfl (fun j x hj => by
    have : l = [] := List.eq_nil_of_length_eq_zero (by omega)
    rw [this] at hj; cases hj) hw1 _
  have fin : ∀ (w1 w2 : World) (v : Value), Eqv (w.drew.setRow b (s.cells ib)) w1 → Below w1.heap.size w1 w2 → w2.cell? ⟨b, 205, none⟩ = some ib ∧ w2.frozen? ⟨b, 205, none⟩ = false ∧ Has (w2.setCell ⟨b, 205, none⟩ v) b t s v ∧ Mod b w (w2.setCell ⟨b, 205, none⟩ v) := fun w1 w2 v hw1 bl => by
    have h2 : Has w2 b t s ib := by
      unfold Has; rw [bl.block b (by rw [hw1.heap, size_setRow]; exact hb), hw1.heap]; exact h1
    refine ⟨(h2.fields hla).2.2.2.2.2, h2.frozen 205, ?_, ?_⟩
    · rw [h2.setCell, cells_ib _ _ _ hla]; exact h2.setRow _ _
    · rw [h2.setCell]
      exact ((m1.eqv hw1).trans ⟨bl.os, bl.tape, bl.output, bl.size, fun k hk _ => bl.block k hk⟩).setRow _
  have HCL1 := Lib.hid hcl1
  have HCL2 := Lib.hid hcl2
  have FIN := Lib.hid fin
  have i1 : ¬ 207 + (q : Int) < 207 := by omega
  have i2 : 207 ≤ 207 + q := by omega
  have i3 : 207 ≤ c := by omega
  have i4 : 207 + q ≤ c := hc
  have i5 : (207 : Int) ≤ (c : Int) := by omega
  have i6 : (0 : Int) ≤ (q : Int) := by omega
  clear hcl1 hcl2 hlies fin h1 m1 hl hm h e1 e2 e3 hlq
  go_enter Try.func47, Try.ntmps47
  go_wp2_with fail
  go_region_held3 (fun _ => True) (trivial) (first | (go_at_call 57; refine HD.out.mono ?_; rintro e w1 ⟨rfl, hw1⟩))
  clear HD
  go_wp2_with fail
  all_goals
    first
      | refine (HCL1.out (by assumption) w1 hw1).mono ?_
      | refine (HCL2.out (by assumption) w1 hw1).mono ?_
    rintro e w2 ⟨a', c', rfl, bl2⟩
    obtain ⟨k1, k2, k3, k4⟩ := FIN.out w1 w2 (.slice a' q c') hw1 bl2
    go_wp2_with fail
    go_ret
    exact ⟨rfl, _, k3, k4⟩

set_option maxRecDepth 100000 in
theorem load_any (w : World) (b pb po c q : Nat) (s0 s : Sp) (ib : Value) (l : List UInt8) (h : Shk w b s0 ib) (ok0 : s0.Ok) (ok : s.Ok) (hds : s.ds = 31 ∨ s.ds = 4) (e1 : s0.rate = s.rate) (e2 : s0.ds = s.ds) (e3 : s0.ol = s.ol)
    (hl : Lies w ⟨pb, po, none⟩ (marsh s ++ l)) (hlq : l.length = q) (hne : pb ≠ b) (hpb : pb < w.heap.size) (hc : 207 + q ≤ c) (hcb : c ≤ 9223372036854775807) (hq : q ≤ 281474976710656) :
    Calls Try.prog 37 #[.pointer (some ⟨b, 0, none⟩), .slice (some ⟨pb, po, none⟩) (207 + q) c] w fun e w' => e = .returned .nilIface ∧ ∃ ib', Has w' b 71 s ib' ∧ Mod b w w' := by
  have HC := Lib.hid (init_any w b s0 ib h ok0)
  go_enter Try.func37, Try.ntmps37
  go_wp2_with fail
  refine HC.out.mono ?_
  rintro e w1 ⟨rfl, h1, m1⟩
  have hs1 := m1.size
  have H2 := Lib.hid (fload_any w1 b pb po c q 71 s0 s ib l h1 ok0 ok hds e1 e2 e3 (hl.mod m1 hne) hlq hne (by omega) hc hcb hq)
  clear HC hl e1 e2 e3 hlq
  go_wp2_with fail
  refine H2.out.mono ?_
  rintro e w2 ⟨rfl, ib', h2, m2⟩
  go_wp2_with fail
  go_ret
  exact ⟨rfl, ib', h2, m1.trans m2⟩
end Go.Proofs.Ythemhpefcfdcaaa
