/- newCShake: the first block of a cSHAKE. -/
import Derived.Test.YthemhpefcfdcaaaCsh
import Derived.Deep.RegionHeld3
import Derived.Deep.RegionLaw
import Derived.BigRegion
namespace Go.Proofs.Ythemhpefcfdcaaa
open Go.RowKit
set_option linter.unusedVariables false

/-- append of bytes within the capacity -/
theorem run_append22 (w : World) (g : Nat) (t : TypeId) (cur l : List UInt8) (n K m cap : Nat) (a : Option Addr) (ty : TypeId) (hg : w.heap[g]? = some (.cells (cur.map BV).toArray t (0, 0))) (hK : cur.length = K) (hfit : n + m ≤ K)
    (hl : l.length = m) (ha : l = [] ∨ ∃ q, a = some q ∧ Lies w q l) :
    (Builtin.append_ #[22, 22] ty #[.slice (some ⟨g, 0, none⟩) n K, .slice a m cap]).run Try.prog w =
      .ok (.slice (some ⟨g, 0, none⟩) (n + m) K) (w.setRow g ((cur.take n ++ l ++ cur.drop (n + m)).map BV).toArray) := by
  have hu : (underlying 22).run Try.prog w = .ok (.slice 5) w := by kernel_rfl
  have hz : (sizeOf 5).run Try.prog w = .ok 1 w := by kernel_rfl
  have hfc : (Builtin.firstCells 1 m (.slice a m cap)).run Try.prog w = .ok (l.map BV).toArray w := by
    rcases ha with h0 | ⟨q, rfl, hq⟩
    · subst h0
      simp only [List.length_nil] at hl
      subst hl
      cases a with
      | none => simp [Builtin.firstCells]
      | some q => simp [Builtin.firstCells, loadCells, loadCellsFrom]
    · have h := run_loadCells_list (P := Try.prog) w q (l.map BV) (fun j v hj => by
        rw [List.getElem?_map] at hj
        cases hx : l[j]? with
        | none => rw [hx] at hj; cases hj
        | some z => rw [hx] at hj; simp only [Option.map_some, Option.some.injEq] at hj; rw [← hj]; exact hq j z hx)
      simp only [List.length_map, hl] at h
      simp [Builtin.firstCells, h]
  have hst := run_storeCells_at Try.prog g n t (l.map BV) 0 (cur.map BV).toArray w hg (by simp; omega) (map_BV_one _)
  have e1 : (w.setRow g ((List.map BV cur).toArray.toList.take (n + 0) ++ l.map BV ++ (List.map BV cur).toArray.toList.drop (n + 0 + (l.map BV).length)).toArray) = w.setRow g ((cur.take n ++ l ++ cur.drop (n + m)).map BV).toArray := by
    simp only [Nat.add_zero, List.length_map, hl, List.map_append, List.map_take, List.map_drop]
  rw [e1] at hst
  simp [Builtin.append_, hu, hz, Builtin.lenOf, hfit, hfc, add_row, hst]

theorem wp_appendR {P : Program} {o : Oper} {a : Act} {w : World} {K : Act → World → Prop} {Q : Exit → Act → World → Prop} (s x : Operand) (t : TypeId)
    (ho : o.op = .call { callee := .builtin .append, args := #[s, x], argTypes := #[t, t] }) (vs vx : Value) (hs : a.eval s = vs) (hx : a.eval x = vx) (v : Value) (w' : World)
    (hrun : (Builtin.append_ #[t, t] o.type #[vs, vx]).run P w = .ok v w') (h : K (a.put o.dst v) w') : o.wp P a w K Q := by
  unfold Oper.wp execOp
  simp only [ho, resolve, invoke, builtin, Sem.run_bind, Sem.run_pure, Result.andThen_ok]
  simp only [List.map_toArray, List.map_cons, List.map_nil, hs, hx, hrun, Result.andThen_ok]
  exact h
theorem wpList_appendR {P : Program} {ops : Array Oper} {rest : List Oper} {o : Oper} {a : Act} {w : World} {Q : Exit → Act → World → Prop} (hgd : o.guard = none) (s x : Operand) (t : TypeId)
    (ho : o.op = .call { callee := .builtin .append, args := #[s, x], argTypes := #[t, t] }) (vs vx : Value) (hs : a.eval s = vs) (hx : a.eval x = vx) (v : Value) (w' : World)
    (hrun : (Builtin.append_ #[t, t] o.type #[vs, vx]).run P w = .ok v w') (h : wpList P ops Q rest (a.put o.dst v) w') : wpList P ops Q (o :: rest) a w :=
  wpList_plain hgd fun K hK => wp_appendR s x t ho vs vx hs hx v w' hrun (hK _ _ h)
theorem step_appendR {P : Program} {ops : Array Oper} {o : Oper} {a : Act} {w : World} {K : Act → World → Prop} {Q : Exit → Act → World → Prop} {E : Prop} (hgd : o.guard = none) (s x : Operand) (t : TypeId)
    (ho : o.op = .call { callee := .builtin .append, args := #[s, x], argTypes := #[t, t] }) (vs vx : Value) (hs : a.eval s = vs) (hx : a.eval x = vx) (v : Value) (w' : World)
    (hrun : (Builtin.append_ #[t, t] o.type #[vs, vx]).run P w = .ok v w') (h : K (a.put o.dst v) w') : if Region.wanted o (yielded ops a.tmps) = true then o.wp P a w K Q else E := by
  have hw : Region.wanted o (yielded ops a.tmps) = true := by simp [Region.wanted, hgd]
  rw [if_pos hw]
  exact wp_appendR s x t ho vs vx hs hx v w' hrun h

/-- a cut: whatever the order, one frame and one world come out -/
theorem wp_cutN {P : Program} {c : Code} {K : Act → World → Prop} {Q : Exit → Act → World → Prop} {a : Act} {w : World} (A : Act) (W : World)
    (h1 : c.wp P (Exit.then (fun a' w' => a' = A ∧ w' = W) Q) a w) (h2 : K A W) : c.wp P (Exit.then K Q) a w :=
  Code.wp_mono (fun e a w q => by
    cases e
    case normal => obtain ⟨rfl, rfl⟩ := q; exact h2
    all_goals exact q) h1

theorem cells_ib (s : Sp) (ib v : Value) (hl : s.a.length = 200) : (s.cells ib).setIfInBounds 205 v = s.cells v := by
  apply Array.toList_inj.1
  simp [Sp.cells, Sp.tl, hl]

/-- the first block of a cSHAKE -/
def initB (N S : List UInt8) : List UInt8 := lenc (N.length * 8) ++ N ++ lenc (S.length * 8) ++ S

/-- the first block under way: c stands in block g, whose slice stands in the SHAKE in block b -/
structure Ini (w x : World) (b g K : Nat) (s0 : Sp) (c : List UInt8) (k : Nat) : Prop where
  ck : c.length = k
  has : Has x b 69 s0 (.slice (some ⟨g, 0, none⟩) k K)
  row : x.heap[g]? = some (.cells ((c ++ zeros (K - k)).map BV).toArray 5 (0, 0))
  mod : Mod b w x
  gw : w.heap.size ≤ g
  gb : g ≠ b
  le : k ≤ K
  l0 : s0.a.length = 200

theorem Mod.setNew {b : Nat} {x y : World} (h : Mod b x y) {g : Nat} (hg : x.heap.size ≤ g) (c : Array Value) : Mod b x (y.setRow g c) :=
  ⟨h.os, h.tape, h.output, by rw [size_setRow]; exact h.size, fun i hi hb => by rw [setRow_other _ _ _ _ (by omega)]; exact h.block i hi hb⟩

theorem Ini.alloc {w x : World} {b g K : Nat} {s0 : Sp} {c : List UInt8} {k : Nat} (h : Ini w x b g K s0 c k) (o : Obj) : Ini w (x.drew.alloc o) b g K s0 c k :=
  ⟨h.ck, Has.alloc (w := x.drew) h.has o, by rw [Below.heap_alloc x.drew _ g (Array.getElem?_eq_some_iff.1 h.row).1]; exact h.row, (h.mod.eqv (Eqv.drew _)).alloc _, h.gw, h.gb, h.le, h.l0⟩

theorem Ini.app {w x : World} {b g K : Nat} {s0 : Sp} {c : List UInt8} {k : Nat} (h : Ini w x b g K s0 c k) (l : List UInt8) (m cap : Nat) (a : Option Addr) (ty : TypeId) (hl : l.length = m) (hfit : k + m ≤ K) (ha : l = [] ∨ ∃ q, a = some q ∧ Lies x q l) :
    ∃ y, (Builtin.append_ #[22, 22] ty #[.slice (some ⟨g, 0, none⟩) k K, .slice a m cap]).run Try.prog x = .ok (.slice (some ⟨g, 0, none⟩) (k + m) K) y ∧
      y.cell? ⟨b, 205, none⟩ = some (.slice (some ⟨g, 0, none⟩) k K) ∧ y.frozen? ⟨b, 205, none⟩ = false ∧ Ini w (y.setCell ⟨b, 205, none⟩ (.slice (some ⟨g, 0, none⟩) (k + m) K)) b g K s0 (c ++ l) (k + m) := by
  have hap := run_append22 x g 5 (c ++ zeros (K - k)) l k K m cap a ty h.row (by rw [List.length_append, zeros_len, h.ck]; have := h.le; omega) hfit hl ha
  have e : (c ++ zeros (K - k)).take k ++ l ++ (c ++ zeros (K - k)).drop (k + m) = (c ++ l) ++ zeros (K - (k + m)) := by
    have := h.ck
    rw [List.take_append_of_le_length (by omega), List.take_of_length_le (by omega), List.drop_append, List.drop_of_length_le (by omega), this, Nat.add_sub_cancel_left]
    simp only [zeros, List.drop_replicate, List.nil_append]
    rw [Nat.sub_sub]
  rw [e] at hap
  have hy : Has (x.setRow g (((c ++ l) ++ zeros (K - (k + m))).map BV).toArray) b 69 s0 (.slice (some ⟨g, 0, none⟩) k K) := by
    unfold Has; rw [setRow_other _ _ _ _ (Ne.symm h.gb)]; exact h.has
  refine ⟨_, hap, (hy.fields h.l0).2.2.2.2.2, hy.frozen 205, ?_⟩
  rw [hy.setCell, cells_ib _ _ _ h.l0]
  refine ⟨by rw [List.length_append, h.ck, hl], hy.setRow _ _, ?_, (h.mod.setNew h.gw _).setRow _, h.gw, h.gb, hfit, h.l0⟩
  rw [setRow_other _ _ _ _ h.gb]
  exact setRow_heap _ g _ _ 5 _ h.row


set_option maxRecDepth 100000 in
set_option maxHeartbeats 1000000 in
theorem cshake_any (w : World) (b : Nat) (h : Has w b 69 spZ nilS) (aN aS : Option Addr) (cN cS n m : Nat) (N S : List UInt8) (hn : N.length = n) (hm : S.length = m) (hN : Arg w b aN cN N) (hS : Arg w b aS cS S)
    (hnb : n ≤ 140737488355328) (hmb : m ≤ 140737488355328) (hsum : 18 + n + m ≤ 281474976710656) (rate ol : Nat) (ds : UInt8) (hr1 : 1 ≤ rate) (hr2 : rate ≤ 168) :
    Calls Try.prog 66 #[.pointer (some ⟨b, 0, none⟩), .slice aN n cN, .slice aS m cS, .int .i64 (rate : Int), .int .i64 (ol : Int), BV ds] w fun e w' => e = .returned (.pointer (some ⟨b, 0, none⟩)) ∧
      ∃ g K, w.heap.size ≤ g ∧ K ≤ 281474976710656 ∧ (initB N S).length ≤ K ∧ Has w' b 69 (bytepad (sp0 rate ds ol) rate (initB N S)) (.slice (some ⟨g, 0, none⟩) (initB N S).length K) ∧
        w'.heap[g]? = some (.cells ((initB N S ++ zeros (K - (initB N S).length)).map BV).toArray 5 (0, 0)) ∧ Mod b w w' := by
  have hb := h.size
  obtain ⟨C, b1, b2, b3⟩ := build_start (rate : Int) (ol : Int) (ds.toNat : Int) rate ol ds rfl rfl rfl
  obtain ⟨s0, hs0⟩ : ∃ s0, s0 = sp0 rate ds ol := ⟨_, rfl⟩
  rw [← hs0] at b3
  have l0 : s0.a.length = 200 := by rw [hs0]; exact zs200_len
  have ok0 : s0.Ok ∧ s0.sq = false := by rw [hs0]; exact ⟨⟨zs200_len, hr1, by show rate ≤ 168; exact hr2, Nat.zero_le _, fun _ => hr1⟩, rfl⟩
  have hCs : C.size = 205 := by
    have := congrArg Array.size b3
    rw [Array.size_push, cells_size _ _ l0] at this
    omega
  have hst : (C.toList ++ (spZ.cells nilS).toList.drop C.size).toArray = s0.cells nilS := by
    rw [← b3, hCs]
    apply Array.toList_inj.1
    simp [Sp.cells, Sp.tl, spZ, sp0, zs200_len, List.drop_append]
  have hC1 : ∀ v ∈ C.toList, v.oneCell' = true := fun v hv => cells_one s0 nilS rfl v (by rw [← b3]; simp; exact .inl (by simpa using hv))
  have hi : (Try.prog.info? 67).map (·.size) = some C.size := by rw [hCs]; kernel_rfl
  have hle : C.size ≤ (spZ.cells nilS).size := by rw [hCs, cells_size _ _ zs200_len]; omega
  have h0 : w.heap[b]? = some (.cells (spZ.cells nilS) 69 (0, 0)) := h
  have H1 : Has (w.setRow b (s0.cells nilS)) b 69 s0 nilS := h.setRow _ _
  have m1 : Mod b w (w.setRow b (s0.cells nilS)) := (Mod.refl _ _).setRow _
  have HI := Lib.hid hi
  have HST := Lib.hid hst
  have HC1 := Lib.hid hC1
  have HH0 := Lib.hid h0
  have HLE := Lib.hid hle
  have HS0 := Lib.hid hs0
  have HB := Lib.hid b1
  unfold BV
  clear b1 b2 b3 hCs hst hC1 hi hle h0 hs0
  go_enter Try.func66, Try.ntmps66
  go_wp2_with (first | (refine wpList_built rfl 67 _ rfl #[(2, .int .i64 (rate : Int)), (4, .int .i64 (ol : Int)), (3, .int .u8 (ds.toNat : Int))] (by simp [Act.eval]) C (HB.out _) ?_) | (refine wpList_store_row rfl 67 _ _ rfl b (by simp [Act.eval, Act.put]) C (spZ.cells nilS) (by simp [Act.eval, Act.put]) 69 HH0.out HLE.out HI.out HC1.out ?_))
  rw [HST.out]
  generalize w.setRow b (s0.cells nilS) = w1 at *
  clear HST HC1 HH0 HLE HB HI
  obtain ⟨K, hK⟩ : ∃ K, K = 18 + n + m := ⟨_, rfl⟩
  have mk := run_make22 0 (9 + (n : Int) + 9 + (m : Int)) 0 K rfl (by omega) (Nat.zero_le _) (by omega) w1
  obtain ⟨w2, hw2⟩ : ∃ w2, w2 = w1.alloc (.cells ((zeros K).map BV).toArray 5) := ⟨_, rfl⟩
  rw [← hw2] at mk
  obtain ⟨g, hg⟩ : ∃ g, g = w1.heap.size := ⟨_, rfl⟩
  rw [← hg] at mk
  have H2 : Has w2 b 69 s0 nilS := by rw [hw2]; exact H1.alloc _
  have m2 : Mod b w w2 := by rw [hw2]; exact m1.alloc _
  have G2 : w2.heap[g]? = some (.cells ((zeros K).map BV).toArray 5 (0, 0)) := by rw [hw2, hg]; exact heap_alloc_new _ _
  have hgb : g ≠ b := by have := H1.size; omega
  have hgw : w.heap.size ≤ g := by have := m1.size; omega
  have c5 := (H2.fields l0).2.2.2.2.2
  have f5 := H2.frozen 205
  have e3 : w2.setCell ⟨b, 205, none⟩ (.slice (some ⟨g, 0, none⟩) 0 K) = w2.setRow b (s0.cells (.slice (some ⟨g, 0, none⟩) 0 K)) := by
    rw [H2.setCell, cells_ib _ _ _ l0]
  have E3 := Lib.hid e3
  have HG2 := Lib.hid G2
  have HKK := Lib.hid hK
  unfold nilS at c5
  clear hw2 hg hK e3 G2
  rw [mk]
  simp only [Result.andThen_ok]
  clear mk
  go_wp2_with fail
  rw [E3.out]
  have I3 : Ini w (w2.setRow b (s0.cells (.slice (some ⟨g, 0, none⟩) 0 K))) b g K s0 [] 0 :=
    ⟨rfl, H2.setRow _ _, by rw [setRow_other _ _ _ _ hgb]; exact HG2.out, m2.setRow _, hgw, hgb, Nat.zero_le _, l0⟩
  generalize w2.setRow b (s0.cells (.slice (some ⟨g, 0, none⟩) 0 K)) = w3 at *
  clear E3 c5 f5 HG2 H2 m2
  -- the length of the name
  obtain ⟨j, hj⟩ : ∃ j, j = encN (n * 8) := ⟨_, rfl⟩
  have hce := leftEncode_any w3.drew (n * 8) j (by omega) hj
  have hjb := encN_bd (n * 8) (by omega)
  rw [← hj] at hjb
  have I4 := I3.alloc (.cells ((encRow (n * 8)).map BV).toArray 5)
  have R4 : (w3.drew.alloc (.cells ((encRow (n * 8)).map BV).toArray 5)).heap[w3.heap.size]? = some (.cells ((encRow (n * 8)).map BV).toArray 5 (0, 0)) := heap_alloc_new w3.drew _
  generalize w3.drew.alloc (.cells ((encRow (n * 8)).map BV).toArray 5) = w4 at *
  have hll := lenc_len (n * 8) (by omega)
  rw [← hj] at hll
  obtain ⟨w5, hap, k1, k2, I5⟩ := I4.app (lenc (n * 8)) (j + 1) (j + 1) (some ⟨w3.heap.size, 8 - j, none⟩) 22 hll (by have := HKK.out; omega) (.inr ⟨_, rfl, by
    have e : lenc (n * 8) = (encRow (n * 8)).drop (8 - j) := by rw [hj]; rfl
    rw [e]; exact lies_row R4 _⟩)
  rw [Nat.zero_add] at hap I5
  have c3 := (I3.has.fields l0).2.2.2.2.2
  have c4 := (I4.has.fields l0).2.2.2.2.2
  rw [show ((n * 8 : Nat) : Int) = (n : Int) * 8 by omega] at hce
  have HCE := Lib.hid hce
  have HAP := Lib.hid hap
  have u1 : IntKind.u64.wrap (n : Int) = (n : Int) := IntWalk.u64_in _ (by omega)
  have u2 : IntKind.u64.wrap ((n : Int) * 8) = (n : Int) * 8 := IntWalk.u64_in _ (by omega)
  have HLL := Lib.hid hll
  clear hce hap hj R4 hll
  apply wp_cutN
  case h1 =>
    go_region_law (first | (refine step_appendR (by rfl) _ _ _ (by rfl) _ _ (by rfl) (by rfl) _ _ HAP.out ?_) | (go_simp; go_at_call 72; (with_reducible refine HCE.out.mono ?_); rintro e w' ⟨rfl, rfl⟩))
    all_goals exact ⟨rfl, rfl⟩
  clear u1 u2 c3 c4 k1 k2 HAP HCE I3 I4
  generalize w5.setCell ⟨b, 205, none⟩ (.slice (some ⟨g, 0, none⟩) (j + 1) K) = w6 at *
  -- the name
  have lN : N = [] ∨ ∃ q, aN = some q ∧ Lies w6 q N := hN.2.2.imp (fun x => x) (fun ⟨pb, po, e, hne, hl⟩ => ⟨_, e, hl.mod I5.mod hne⟩)
  obtain ⟨w7, hap, k1, k2, I7⟩ := I5.app N n cN aN 22 hn (by have := HKK.out; omega) lN
  have HAP := Lib.hid hap
  have c6 := (I5.has.fields l0).2.2.2.2.2
  clear hap lN
  go_wp2_with (refine wpList_appendR rfl _ _ _ rfl _ _ rfl rfl _ _ HAP.out ?_)
  clear c6 k1 k2 HAP I5
  generalize w7.setCell ⟨b, 205, none⟩ (.slice (some ⟨g, 0, none⟩) (j + 1 + n) K) = w8 at *
  -- the length of the customization
  obtain ⟨i, hi⟩ : ∃ i, i = encN (m * 8) := ⟨_, rfl⟩
  have hce := leftEncode_any w8.drew (m * 8) i (by omega) hi
  have hib := encN_bd (m * 8) (by omega)
  rw [← hi] at hib
  have I9 := I7.alloc (.cells ((encRow (m * 8)).map BV).toArray 5)
  have R9 : (w8.drew.alloc (.cells ((encRow (m * 8)).map BV).toArray 5)).heap[w8.heap.size]? = some (.cells ((encRow (m * 8)).map BV).toArray 5 (0, 0)) := heap_alloc_new w8.drew _
  generalize w8.drew.alloc (.cells ((encRow (m * 8)).map BV).toArray 5) = w9 at *
  have hll := lenc_len (m * 8) (by omega)
  rw [← hi] at hll
  obtain ⟨w10, hap, k1, k2, I10⟩ := I9.app (lenc (m * 8)) (i + 1) (i + 1) (some ⟨w8.heap.size, 8 - i, none⟩) 22 hll (by have := HKK.out; omega) (.inr ⟨_, rfl, by
    have e : lenc (m * 8) = (encRow (m * 8)).drop (8 - i) := by rw [hi]; rfl
    rw [e]; exact lies_row R9 _⟩)
  have c7 := (I7.has.fields l0).2.2.2.2.2
  have c9 := (I9.has.fields l0).2.2.2.2.2
  rw [show ((m * 8 : Nat) : Int) = (m : Int) * 8 by omega] at hce
  have HCE := Lib.hid hce
  have HAP := Lib.hid hap
  have u1 : IntKind.u64.wrap (m : Int) = (m : Int) := IntWalk.u64_in _ (by omega)
  have u2 : IntKind.u64.wrap ((m : Int) * 8) = (m : Int) * 8 := IntWalk.u64_in _ (by omega)
  have HLI := Lib.hid hll
  clear hce hap hi R9 hll
  apply wp_cutN
  case h1 =>
    go_region_law (first | (refine step_appendR (by rfl) _ _ _ (by rfl) _ _ (by rfl) (by rfl) _ _ HAP.out ?_) | (go_simp; go_at_call 72; (with_reducible refine HCE.out.mono ?_); rintro e w' ⟨rfl, rfl⟩))
    all_goals exact ⟨rfl, rfl⟩
  clear u1 u2 c7 c9 k1 k2 HAP HCE I7 I9
  generalize w10.setCell ⟨b, 205, none⟩ (.slice (some ⟨g, 0, none⟩) (j + 1 + n + (i + 1)) K) = w11 at *
  -- the customization
  have lS : S = [] ∨ ∃ q, aS = some q ∧ Lies w11 q S := hS.2.2.imp (fun x => x) (fun ⟨pb, po, e, hne, hl⟩ => ⟨_, e, hl.mod I10.mod hne⟩)
  obtain ⟨w12, hap, k1, k2, I12⟩ := I10.app S m cS aS 22 hm (by have := HKK.out; omega) lS
  have HAP := Lib.hid hap
  have c11 := (I10.has.fields l0).2.2.2.2.2
  clear hap lS
  go_wp2_with (refine wpList_appendR rfl _ _ _ rfl _ _ rfl rfl _ _ HAP.out ?_)
  clear c11 k1 k2 HAP I10
  generalize w12.setCell ⟨b, 205, none⟩ (.slice (some ⟨g, 0, none⟩) (j + 1 + n + (i + 1) + m) K) = w13 at *
  obtain ⟨L, hL⟩ : ∃ L, L = j + 1 + n + (i + 1) + m := ⟨_, rfl⟩
  rw [← hL] at I12 ⊢
  have eIB : [] ++ lenc (n * 8) ++ N ++ lenc (m * 8) ++ S = initB N S := by unfold initB; rw [hn, hm]; simp
  rw [eIB] at I12
  have fin : ∃ IB, IB = initB N S := ⟨_, rfl⟩
  obtain ⟨IB, hIB⟩ := fin
  rw [← hIB] at I12
  have HIB := Lib.hid hIB
  have hLI := I12.ck
  have hLK := I12.le
  have hKb : K ≤ 281474976710656 := by have := HKK.out; omega
  have hli : Lies w13 ⟨g, 0, none⟩ IB := by
    have e : IB = ((IB ++ zeros (K - L)).drop 0).take L := by
      rw [List.drop_zero, List.take_append_of_le_length (by omega), List.take_of_length_le (by omega)]
    rw [e]
    exact (lies_row I12.row 0).take L
  have hrt : s0.rate = rate := by rw [HS0.out]; rfl
  have hcb := bytepad_any w13.drew b 69 s0 (.slice (some ⟨g, 0, none⟩) L K) I12.has ok0.1 ok0.2 rate hr1 hr2 (some ⟨g, 0, none⟩) K L IB hLI (by omega) ⟨by omega, by omega, .inr ⟨g, 0, rfl, hgb, hli⟩⟩
  have c1 := (I12.has.fields l0).2.1
  have c5 := (I12.has.fields l0).2.2.2.2.2
  rw [hrt] at c1
  have HCB := Lib.hid hcb
  have HLI' := Lib.hid hLI
  clear hcb hL eIB hIB hLI hrt
  go_still_tail 10, (by kernel_rfl)
  change wpList _ _ _ _ _ w13.drew
  go_wp2_with fail
  refine HCB.out.mono ?_
  rintro e w14 ⟨rfl, h14, m14⟩
  go_wp2_with fail
  go_ret
  rw [← HIB.out]
  refine ⟨rfl, g, K, hgw, hKb, by rw [HLI'.out]; exact hLK, ?_, ?_, (I12.mod.eqv (Eqv.drew _)).trans m14⟩
  · rw [← HS0.out, HLI'.out]; exact h14
  · rw [HLI'.out, m14.block g (Array.getElem?_eq_some_iff.1 I12.row).1 hgb]; exact I12.row
end Go.Proofs.Ythemhpefcfdcaaa
