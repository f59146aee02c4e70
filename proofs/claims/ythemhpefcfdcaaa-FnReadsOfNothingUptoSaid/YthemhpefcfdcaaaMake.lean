/- How the library makes a SHAKE at its start; init; Write and Read of the SHAKE. -/
import Derived.Test.YthemhpefcfdcaaaRead
namespace Go.Proofs.Ythemhpefcfdcaaa
open Go.RowKit
set_option linter.unusedVariables false

def zs200 : List UInt8 := List.replicate 200 0
theorem zs200_len : zs200.length = 200 := by unfold zs200; exact List.length_replicate
def nilS : Value := .slice none 0 0
/-- a sponge at its start -/
def sp0 (rate : Nat) (ds : UInt8) (ol : Nat) : Sp := { a := zs200, n := 0, rate := rate, ds := ds, ol := ol, sq := false }

def dig0 (rate ds ol : Value) : Array Value := (zs200.map BV ++ [.int .i64 0, rate, ds, ol, .int .i64 0]).toArray
theorem build67 (w : World) (rate ol : Int) (ds : Int) :
    (Instr.build 67 #[(2, .int .i64 rate), (4, .int .i64 ol), (3, .int .u8 ds)]).run Try.prog w = .ok (.agg (dig0 (.int .i64 rate) (.int .u8 ds) (.int .i64 ol))) w := by kernel_rfl

theorem foldl_set (off : Nat) : ∀ (l : List Value) (n : Nat) (Z : Array Value), off + n + l.length ≤ Z.size →
    (l.zipIdx n).foldl (fun cs (c, j) => cs.setIfInBounds (off + j) c) Z = (Z.toList.take (off + n) ++ l ++ Z.toList.drop (off + n + l.length)).toArray
  | [], n, Z, _ => by simp
  | x :: l, n, Z, h => by
    simp only [List.zipIdx_cons, List.foldl_cons]
    rw [foldl_set off l (n + 1) _ (by simp at h ⊢; omega)]
    have e := list_seg_step Z.toList (off + n) x l (by simp at h ⊢; omega)
    simp only [Array.toList_setIfInBounds]
    rw [show off + (n + 1) = off + n + 1 by omega, e]
    simp

theorem fill_one (place : Nat → Option (Nat × Nat)) (Z C : Array Value) (i off size : Nat) (hp : place i = some (off, size)) (hs : C.size = size) (hz : off + size ≤ Z.size) :
    Instr.fill place Z [(i, .agg C)] = some (Z.toList.take off ++ C.toList ++ Z.toList.drop (off + size)).toArray := by
  have e := foldl_set off C.toList 0 Z (by simp; omega)
  simp only [Instr.fill, hp, Value.cells, hs]
  rw [if_neg (by simp; omega)]
  congr 1
  rw [← Array.foldl_toList, Array.toList_zipIdx, e]
  simp [hs]

theorem built71 (C : Array Value) : Try.prog.built 71 [(0, .agg C)] = Instr.fill (fun i => (#[(0, 206)] : Array (Nat × Nat))[i]?) ((dig0 (.int .i64 0) (BV 0) (.int .i64 0)).push nilS) [(0, .agg C)] := by kernel_rfl
theorem build71 (w : World) (C : Array Value) (hC : C.size = 206) : (Instr.build 71 #[(0, .agg C)]).run Try.prog w = .ok (.agg C) w := by
  refine run_build w 71 #[(0, .agg C)] C ?_
  rw [show (#[(0, Value.agg C)] : Array (Nat × Value)).toList = [(0, .agg C)] from rfl, built71, fill_one _ _ C 0 0 206 rfl hC (by simp [dig0, zs200_len])]
  rw [List.drop_of_length_le (by simp [dig0, zs200_len])]
  simp
theorem built69 (C : Array Value) : Try.prog.built 69 [(0, .agg C)] = Instr.fill (fun i => (#[(0, 205), (205, 1)] : Array (Nat × Nat))[i]?) ((dig0 (.int .i64 0) (BV 0) (.int .i64 0)).push nilS) [(0, .agg C)] := by kernel_rfl
theorem build69 (w : World) (C : Array Value) (hC : C.size = 205) : (Instr.build 69 #[(0, .agg C)]).run Try.prog w = .ok (.agg (C.push nilS)) w := by
  refine run_build w 69 #[(0, .agg C)] (C.push nilS) ?_
  rw [show (#[(0, Value.agg C)] : Array (Nat × Value)).toList = [(0, .agg C)] from rfl, built69, fill_one _ _ C 0 0 205 rfl hC (by simp [dig0, zs200_len])]
  congr 1
  apply Array.toList_inj.1
  simp [dig0, nilS, zs200_len, List.drop_append]

theorem build71' (w : World) : (Instr.build 71 #[]).run Try.prog w = .ok (.agg ((dig0 (.int .i64 0) (BV 0) (.int .i64 0)).push nilS)) w := by kernel_rfl
theorem build69' (w : World) : (Instr.build 69 #[]).run Try.prog w = .ok (.agg ((dig0 (.int .i64 0) (BV 0) (.int .i64 0)).push nilS)) w := by kernel_rfl

/-- the cells of a sponge at its start -/
theorem cells_sp0 (rate : Nat) (ds : UInt8) (ol : Nat) : (dig0 (.int .i64 (rate : Int)) (BV ds) (.int .i64 (ol : Int))).push nilS = (sp0 rate ds ol).cells nilS := by
  apply Array.toList_inj.1
  simp [dig0, sp0, Sp.cells, Sp.tl]

theorem Has.size {w : World} {b : Nat} {t : TypeId} {s : Sp} {ib : Value} (h : Has w b t s ib) : b < w.heap.size := (Array.getElem?_eq_some_iff.1 h).1
theorem cells_size (s : Sp) (ib : Value) (hl : s.a.length = 200) : (s.cells ib).size = 206 := by simp [Sp.cells, Sp.tl, hl]

theorem build_start (rate ol ds : Int) (r o : Nat) (d : UInt8) (hr : rate = (r : Int)) (ho : ol = (o : Int)) (hd : ds = (d.toNat : Int)) :
    ∃ C, (∀ W, (Instr.build 67 #[(2, .int .i64 rate), (4, .int .i64 ol), (3, .int .u8 ds)]).run Try.prog W = .ok (.agg C) W) ∧
    (∀ W, (Instr.build 69 #[(0, .agg C)]).run Try.prog W = .ok (.agg ((sp0 r d o).cells nilS)) W) ∧ C.push nilS = (sp0 r d o).cells nilS := by
  have e : (dig0 (.int .i64 rate) (.int .u8 ds) (.int .i64 ol)).push nilS = (sp0 r d o).cells nilS := by
    rw [hr, ho, hd]
    exact cells_sp0 r d o
  refine ⟨_, fun W => build67 W rate ol ds, fun W => ?_, e⟩
  rw [build69 W _ (by simp [dig0, zs200_len]), e]

theorem wpList_built {P : Program} {ops : Array Oper} {rest : List Oper} {o : Oper} {a : Act} {w : World} {Q : Exit → Act → World → Prop} (hgd : o.guard = none) (t : TypeId) (parts : Array (Nat × Operand)) (ho : o.op = .build t parts)
    (ps : Array (Nat × Value)) (hp : (parts.map fun (i, x) => (i, a.eval x)) = ps) (C : Array Value) (hr : (Instr.build t ps).run P w = .ok (.agg C) w)
    (h : wpList P ops Q rest (a.put o.dst (.agg C)) w) : wpList P ops Q (o :: rest) a w :=
  wpList_plain hgd fun K hK => by
    unfold Oper.wp execOp
    simp only [ho, hp, Sem.run_bind, hr, Result.andThen_ok]
    exact hK _ _ h

set_option maxRecDepth 100000 in
theorem new128_f (w : World) (D : Array Value) (hD : D = (sp0 168 31 32).cells nilS) : Calls Try.prog 48 #[] w fun e w' => e = .returned (.pointer (some ⟨w.heap.size, 0, none⟩)) ∧ w.alloc (.cells D 69) = w' := by
  obtain ⟨C, h1, h2, _⟩ := build_start 168 32 31 168 32 31 rfl rfl rfl
  rw [← hD] at h2
  clear hD
  go_enter Try.func48, Try.ntmps48
  go_wp2_with (first | (refine wpList_built rfl 67 _ rfl #[(2, .int .i64 168), (4, .int .i64 32), (3, .int .u8 31)] (by simp [Act.eval]) C (h1 _) ?_) | (refine wpList_built rfl 69 _ rfl #[(0, .agg C)] (by simp [Act.eval, Act.put]) D (h2 _) ?_))
  go_ret
  exact ⟨rfl, rfl⟩

set_option maxRecDepth 100000 in
theorem new256_f (w : World) (D : Array Value) (hD : D = (sp0 136 31 64).cells nilS) : Calls Try.prog 49 #[] w fun e w' => e = .returned (.pointer (some ⟨w.heap.size, 0, none⟩)) ∧ w.alloc (.cells D 69) = w' := by
  obtain ⟨C, h1, h2, _⟩ := build_start 136 64 31 136 64 31 rfl rfl rfl
  rw [← hD] at h2
  clear hD
  go_enter Try.func49, Try.ntmps49
  go_wp2_with (first | (refine wpList_built rfl 67 _ rfl #[(2, .int .i64 136), (4, .int .i64 64), (3, .int .u8 31)] (by simp [Act.eval]) C (h1 _) ?_) | (refine wpList_built rfl 69 _ rfl #[(0, .agg C)] (by simp [Act.eval, Act.put]) D (h2 _) ?_))
  go_ret
  exact ⟨rfl, rfl⟩

set_option maxRecDepth 100000 in
theorem new128_any (w : World) : Calls Try.prog 38 #[] w fun e w' => e = .returned (.pointer (some ⟨w.heap.size + 1, 0, none⟩)) ∧
    (w.alloc (.cells ((sp0 168 31 32).cells nilS) 69)).alloc (.cells ((sp0 168 31 32).cells nilS) 71) = w' := by
  obtain ⟨D, hD⟩ : ∃ D, D = (sp0 168 31 32).cells nilS := ⟨_, rfl⟩
  rw [← hD]
  have hsz : D.size = 206 := by rw [hD]; exact cells_size _ _ zs200_len
  have hc := new128_f w D hD
  have hb := fun W => build71 W D hsz
  have hi : (Try.prog.info? 69).map (·.size) = some D.size := by rw [hsz]; kernel_rfl
  have hg := heap_alloc_new w (.cells D 69)
  have HC := Lib.hid hc
  have HI := Lib.hid hi
  clear hc hsz hD hi
  go_enter Try.func38, Try.ntmps38
  go_wp2_with fail
  refine HC.out.mono ?_
  rintro e w' ⟨rfl, rfl⟩
  go_wp2_with (first | (refine wpList_load_row rfl 69 _ rfl w.heap.size rfl 69 D (0, 0) _ hg Try.underlying69 rfl HI.out ?_) | (refine wpList_built rfl 71 _ rfl #[(0, .agg D)] (by simp [Act.eval, Act.put]) D (hb _) ?_))
  go_ret
  exact ⟨rfl, rfl⟩

set_option maxRecDepth 100000 in
theorem new256_any (w : World) : Calls Try.prog 39 #[] w fun e w' => e = .returned (.pointer (some ⟨w.heap.size + 1, 0, none⟩)) ∧
    (w.alloc (.cells ((sp0 136 31 64).cells nilS) 69)).alloc (.cells ((sp0 136 31 64).cells nilS) 71) = w' := by
  obtain ⟨D, hD⟩ : ∃ D, D = (sp0 136 31 64).cells nilS := ⟨_, rfl⟩
  rw [← hD]
  have hsz : D.size = 206 := by rw [hD]; exact cells_size _ _ zs200_len
  have hc := new256_f w D hD
  have hb := fun W => build71 W D hsz
  have hi : (Try.prog.info? 69).map (·.size) = some D.size := by rw [hsz]; kernel_rfl
  have hg := heap_alloc_new w (.cells D 69)
  have HC := Lib.hid hc
  have HI := Lib.hid hi
  clear hc hsz hD hi
  go_enter Try.func39, Try.ntmps39
  go_wp2_with fail
  refine HC.out.mono ?_
  rintro e w' ⟨rfl, rfl⟩
  go_wp2_with (first | (refine wpList_load_row rfl 69 _ rfl w.heap.size rfl 69 D (0, 0) _ hg Try.underlying69 rfl HI.out ?_) | (refine wpList_built rfl 71 _ rfl #[(0, .agg D)] (by simp [Act.eval, Act.put]) D (hb _) ?_))
  go_ret
  exact ⟨rfl, rfl⟩


theorem wpList_store_row {P : Program} {ops : Array Oper} {rest : List Oper} {o : Oper} {a : Act} {w : World} {Q : Exit → Act → World → Prop} (hgd : o.guard = none) (ty : TypeId) (x y : Operand) (ho : o.op = .store ty x y)
    (g : Nat) (hx : a.eval x = .pointer (some ⟨g, 0, none⟩)) (D cur : Array Value) (hy : a.eval y = .agg D) (t : TypeId) (hg : w.heap[g]? = some (.cells cur t (0, 0))) (hsz : D.size ≤ cur.size)
    (hi : (P.info? ty).map (·.size) = some D.size) (h1 : ∀ v ∈ D.toList, v.oneCell' = true)
    (h : wpList P ops Q rest (a.put o.dst undef) (w.setRow g (D.toList ++ cur.toList.drop D.size).toArray)) : wpList P ops Q (o :: rest) a w :=
  wpList_plain hgd fun K hK => by
    have hst := run_storeCells_at P g 0 t D.toList 0 cur w hg (by simpa using hsz) h1
    have hs : (sizeOf ty).run P w = .ok D.size w := by
      cases hq : P.info? ty with
      | none => simp [hq] at hi
      | some i => simp [hq] at hi; simp [sizeOf, typeInfo, hq, hi]
    unfold Oper.wp execOp
    simp only [ho, hx, hy, Instr.storeAt, Instr.sureAddr, storeVar, Value.cells, Sem.run_bind, Sem.run_pure, Result.andThen_ok, hs, ne_eq, not_true, if_false, hst]
    have := hK _ _ h
    simpa [Oper.upon] using this

/-- the zero value of the type -/
def spZ : Sp := sp0 0 0 0
theorem cells_one (s : Sp) (ib : Value) (h : ib.oneCell' = true) : ∀ v ∈ (s.cells ib).toList, v.oneCell' = true := by
  intro v hv
  simp only [Sp.cells, Sp.tl, List.mem_append, List.mem_cons, List.not_mem_nil, or_false] at hv
  rcases hv with hv | rfl | rfl | rfl | rfl | rfl | rfl
  · exact map_BV_one _ v hv
  all_goals first | rfl | exact h

/-- block b may have turned; below the old end no other has -/
structure Mod (b : Nat) (w w' : World) : Prop where
  os : w'.os = w.os
  tape : w'.tape = w.tape
  output : w'.output = w.output
  size : w.heap.size ≤ w'.heap.size
  block : ∀ k, k < w.heap.size → k ≠ b → w'.heap[k]? = w.heap[k]?

theorem Mod.refl (b : Nat) (w : World) : Mod b w w := ⟨rfl, rfl, rfl, Nat.le_refl _, fun _ _ _ => rfl⟩
theorem Mod.trans {b : Nat} {x y z : World} (h : Mod b x y) (k : Mod b y z) : Mod b x z :=
  ⟨k.os.trans h.os, k.tape.trans h.tape, k.output.trans h.output, Nat.le_trans h.size k.size, fun i hi hb => (k.block i (Nat.lt_of_lt_of_le hi h.size) hb).trans (h.block i hi hb)⟩
theorem Mod.eqv {b : Nat} {x y z : World} (h : Mod b x y) (k : Eqv y z) : Mod b x z :=
  ⟨k.os.trans h.os, k.tape.trans h.tape, k.output.trans h.output, by rw [k.heap]; exact h.size, fun i hi hb => by rw [k.heap]; exact h.block i hi hb⟩
theorem Mod.setRow {b : Nat} {x y : World} (h : Mod b x y) (c : Array Value) : Mod b x (y.setRow b c) :=
  ⟨h.os, h.tape, h.output, by rw [size_setRow]; exact h.size, fun i hi hb => by rw [setRow_other _ _ _ _ hb]; exact h.block i hi hb⟩
theorem Mod.alloc {b : Nat} {x y : World} (h : Mod b x y) (o : Obj) : Mod b x (y.alloc o) :=
  ⟨h.os, h.tape, h.output, Nat.le_trans h.size (by simp), fun i hi hb => (Below.heap_alloc y o i (Nat.lt_of_lt_of_le hi h.size)).trans (h.block i hi hb)⟩
theorem Has.alloc {w : World} {b : Nat} {t : TypeId} {s : Sp} {ib : Value} (h : Has w b t s ib) (o : Obj) : Has (w.alloc o) b t s ib := by
  unfold Has; rw [Below.heap_alloc _ _ _ h.size]; exact h

set_option maxRecDepth 100000 in
theorem init_done (w : World) (b : Nat) (t : TypeId) (s : Sp) (ib : Value) (h : Has w b t s ib) (hl : s.a.length = 200) (ho : 0 < s.ol) :
    Calls Try.prog 43 #[.pointer (some ⟨b, 0, none⟩)] w fun e w' => e = .returned (.tuple #[]) ∧ w = w' := by
  have c3 := (h.fields hl).2.2.2.1
  have hb : ((s.ol : Int) == 0) = false := by simp; omega
  go_enter Try.func43, Try.ntmps43
  go_wp2
  go_end0
  exact ⟨rfl, rfl⟩

set_option maxRecDepth 100000 in
theorem init_zero (w : World) (b : Nat) (h : Has w b 71 spZ nilS) :
    Calls Try.prog 43 #[.pointer (some ⟨b, 0, none⟩)] w fun e w' => e = .returned (.tuple #[]) ∧ Has w' b 71 (sp0 136 31 64) nilS ∧ Mod b w w' := by
  have c3 : w.cell? ⟨b, 203, none⟩ = some (.int .i64 0) := (h.fields zs200_len).2.2.2.1
  obtain ⟨D, hD⟩ : ∃ D, D = (sp0 136 31 64).cells nilS := ⟨_, rfl⟩
  have hsz : D.size = 206 := by rw [hD]; exact cells_size _ _ zs200_len
  have hc := new256_any w
  rw [← hD] at hc
  have hi : (Try.prog.info? 71).map (·.size) = some D.size := by rw [hsz]; kernel_rfl
  have hg := heap_alloc2_new w (.cells D 69) (.cells D 71)
  have hb : ((w.alloc (.cells D 69)).alloc (.cells D 71)).heap[b]? = some (.cells (spZ.cells nilS) 71 (0, 0)) := (h.alloc _).alloc _
  have h1 : ∀ v ∈ D.toList, v.oneCell' = true := by rw [hD]; exact cells_one _ _ rfl
  have hm : Mod b w ((w.alloc (.cells D 69)).alloc (.cells D 71)) := ((Mod.refl b w).alloc _).alloc _
  have hle : D.size ≤ (spZ.cells nilS).size := by rw [hsz, cells_size _ _ zs200_len]; exact Nat.le_refl _
  have hdr : (D.toList ++ (spZ.cells nilS).toList.drop D.size).toArray = D := by
    rw [List.drop_of_length_le (by rw [Array.length_toList, hsz, cells_size _ _ zs200_len]; exact Nat.le_refl _)]
    simp
  have hbad : Hid (D = (sp0 136 31 64).cells nilS) := hD
  have HC := Lib.hid hc
  have HI := Lib.hid hi
  have HDR := Lib.hid hdr
  have H1 := Lib.hid h1
  have HB := Lib.hid hb
  have HG := Lib.hid hg
  have HL := Lib.hid hle
  clear hc hsz hD hi h1 hdr hb hg hle
  go_enter Try.func43, Try.ntmps43
  go_wp2_with (first | (go_at_call 52; go_in) | (go_at_call 61; go_in))
  refine HC.out.mono ?_
  rintro e w' ⟨rfl, rfl⟩
  go_wp2_with (first | (refine wpList_load_row rfl 71 _ rfl (w.heap.size + 1) rfl 71 D (0, 0) _ HG.out Try.underlying71 rfl HI.out ?_) | (refine wpList_store_row rfl 71 _ _ rfl b (by simp [Act.eval, Act.put]) D (spZ.cells nilS) (by simp [Act.eval, Act.put]) 71 HB.out HL.out HI.out H1.out ?_))
  go_end0
  rw [HDR.out]
  refine ⟨rfl, ?_, hm.setRow _⟩
  have e := setRow_heap _ b _ D 71 _ HB.out
  unfold Has
  rw [e, hbad.out]
end Go.Proofs.Ythemhpefcfdcaaa
