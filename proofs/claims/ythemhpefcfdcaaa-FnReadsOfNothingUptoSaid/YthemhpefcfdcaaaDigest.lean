/- The sponge in memory: permute, pad, write and read of the library's Digest, as functions on the sponge. -/
import Derived.Test.YthemhpefcfdcaaaExt
import Derived.StillTailTactics
import Derived.Deep.QuietTactic
import Derived.BigQuiet
import Derived.Lib.Hide
namespace Go.Proofs.Ythemhpefcfdcaaa
open Go.RowKit

/-- the six fields behind the 200 bytes -/
def Sp.tl (s : Sp) (ib : Value) : List Value := [.int .i64 (s.n : Int), .int .i64 (s.rate : Int), BV s.ds, .int .i64 (s.ol : Int), .int .i64 (if s.sq then 1 else 0), ib]
def Sp.cells (s : Sp) (ib : Value) : Array Value := (s.a.map BV ++ s.tl ib).toArray

def Has (w : World) (b : Nat) (t : TypeId) (s : Sp) (ib : Value) : Prop := w.heap[b]? = some (.cells (s.cells ib) t (0, 0))

theorem Has.frozen {w : World} {b : Nat} {t : TypeId} {s : Sp} {ib : Value} (h : Has w b t s ib) (o : Nat) : w.frozen? ⟨b, o, none⟩ = false := by
  simp [World.frozen?, show w.heap[b]? = _ from h]
theorem Has.cell {w : World} {b : Nat} {t : TypeId} {s : Sp} {ib : Value} (h : Has w b t s ib) (o : Nat) : w.cell? ⟨b, o, none⟩ = (s.cells ib)[o]? := by
  simp [World.cell?, show w.heap[b]? = _ from h]
theorem Has.fields {w : World} {b : Nat} {t : TypeId} {s : Sp} {ib : Value} (h : Has w b t s ib) (hl : s.a.length = 200) :
    w.cell? ⟨b, 200, none⟩ = some (.int .i64 (s.n : Int)) ∧ w.cell? ⟨b, 201, none⟩ = some (.int .i64 (s.rate : Int)) ∧ w.cell? ⟨b, 202, none⟩ = some (BV s.ds) ∧
    w.cell? ⟨b, 203, none⟩ = some (.int .i64 (s.ol : Int)) ∧ w.cell? ⟨b, 204, none⟩ = some (.int .i64 (if s.sq then 1 else 0)) ∧ w.cell? ⟨b, 205, none⟩ = some ib := by
  simp [h.cell, Sp.cells, Sp.tl, hl]
theorem Has.byte {w : World} {b : Nat} {t : TypeId} {s : Sp} {ib : Value} (h : Has w b t s ib) (i : Nat) (hi : i < s.a.length) :
    w.cell? ⟨b, i, none⟩ = some (BV (s.a.getD i 0)) := by
  rw [h.cell]
  simp [Sp.cells, hi, List.getElem?_append]

theorem Has.setRow {w : World} {b : Nat} {t : TypeId} {s : Sp} {ib : Value} (h : Has w b t s ib) (s' : Sp) (ib' : Value) : Has (w.setRow b (s'.cells ib')) b t s' ib' :=
  setRow_heap w b _ _ t _ h
/-- a store into the block -/
theorem Has.setCell {w : World} {b : Nat} {t : TypeId} {s : Sp} {ib : Value} (h : Has w b t s ib) (o : Nat) (v : Value) :
    w.setCell ⟨b, o, none⟩ v = w.setRow b ((s.cells ib).setIfInBounds o v) := setCell_eq_setRow w b o _ t (0, 0) v h
theorem cells_n (s : Sp) (ib : Value) (hl : s.a.length = 200) (k : Nat) : (s.cells ib).setIfInBounds 200 (.int .i64 (k : Int)) = { s with n := k }.cells ib := by
  apply Array.toList_inj.1
  simp [Sp.cells, Sp.tl, hl]

set_option maxHeartbeats 400000 in
theorem permute_any (w : World) (b : Nat) (t : TypeId) (s : Sp) (ib : Value) (h : Has w b t s ib) (hl : s.a.length = 200) :
    Calls Try.prog 75 #[.pointer (some ⟨b, 0, none⟩)] w fun e w' => e = .returned (.tuple #[]) ∧ w' = w.setRow b (s.perm.cells ib) := by
  have hk := call_keccak w b _ t s.a (s.tl ib) h hl rfl
  have h1 : Has (w.setRow b ({ s with a := kecc s.a }.cells ib)) b t { s with a := kecc s.a } ib := h.setRow _ _
  have e1 : (List.map BV (kecc s.a) ++ s.tl ib).toArray = { s with a := kecc s.a }.cells ib := rfl
  rw [e1] at hk
  have e2 : (w.setRow b ({ s with a := kecc s.a }.cells ib)).setCell ⟨b, 200, none⟩ (.int .i64 ((0 : Nat) : Int)) = w.setRow b (s.perm.cells ib) := by
    rw [h1.setCell, cells_n _ _ (kecc_length _), setRow_setRow]
    rfl
  have f1 := h1.frozen 200
  have c1 := (h1.fields (kecc_length _)).1
  generalize w.setRow b ({ s with a := kecc s.a }.cells ib) = w1 at *
  generalize w.setRow b (s.perm.cells ib) = w2 at *
  clear h1 e1 hl
  go_enter Try.func75, Try.ntmps75
  go_wp2
  go_end0
  exact ⟨rfl, e2⟩

/-- the same world but for what was drawn -/
structure Eqv (w w' : World) : Prop where
  heap : w'.heap = w.heap
  os : w'.os = w.os
  tape : w'.tape = w.tape
  output : w'.output = w.output

theorem Eqv.refl (w : World) : Eqv w w := ⟨rfl, rfl, rfl, rfl⟩
theorem Eqv.trans {a b c : World} (h : Eqv a b) (k : Eqv b c) : Eqv a c := ⟨k.heap.trans h.heap, k.os.trans h.os, k.tape.trans h.tape, k.output.trans h.output⟩
theorem Eqv.drew (w : World) : Eqv w w.drew := ⟨rfl, rfl, rfl, rfl⟩
theorem Eqv.drewN (w : World) (n : Nat) : Eqv w (w.drewN n) := ⟨rfl, rfl, rfl, rfl⟩
theorem Eqv.setRow {w w' : World} (h : Eqv w w') (b : Nat) (c : Array Value) : Eqv (w.setRow b c) (w'.setRow b c) :=
  ⟨by simp [World.setRow, h.heap], h.os, h.tape, h.output⟩
theorem Eqv.setCell {w w' : World} (h : Eqv w w') (a : Addr) (v : Value) : Eqv (w.setCell a v) (w'.setCell a v) :=
  ⟨by simp [World.setCell, h.heap], h.os, h.tape, h.output⟩
theorem Eqv.has {w w' : World} (h : Eqv w w') {b : Nat} {t : TypeId} {s : Sp} {ib : Value} (k : Has w b t s ib) : Has w' b t s ib := by
  unfold Has; rw [h.heap]; exact k
theorem Eqv.cell {w w' : World} (h : Eqv w w') (a : Addr) : w'.cell? a = w.cell? a := by simp [World.cell?, h.heap]

theorem bits_xor (x y : UInt8) : bits .xor .u8 (x.toNat : Int) (y.toNat : Int) = ((x ^^^ y).toNat : Int) := by
  rw [u8_xor_nat _ _ x.toNat_lt y.toNat_lt, UInt8.toNat_xor]

theorem Has.setByte {w : World} {b : Nat} {t : TypeId} {s : Sp} {ib : Value} (h : Has w b t s ib) (i : Nat) (hi : i < s.a.length) (x : UInt8) :
    w.setCell ⟨b, i, none⟩ (BV x) = w.setRow b ({ s with a := s.a.set i x }.cells ib) := by
  rw [h.setCell]
  congr 1
  apply Array.toList_inj.1
  simp [Sp.cells, hi, List.map_set]
  rfl
theorem cells_sq (s : Sp) (ib : Value) (hl : s.a.length = 200) : (s.cells ib).setIfInBounds 204 (.int .i64 1) = { s with sq := true }.cells ib := by
  apply Array.toList_inj.1
  simp [Sp.cells, Sp.tl, hl]

set_option maxRecDepth 100000 in
set_option maxHeartbeats 400000 in
theorem pad_any (w : World) (b : Nat) (t : TypeId) (s : Sp) (ib : Value) (h : Has w b t s ib) (hs : s.Ok) (hq : s.sq = false) :
    Calls Try.prog 76 #[.pointer (some ⟨b, 0, none⟩)] w fun e w' => e = .returned (.tuple #[]) ∧ Eqv (w.setRow b (s.padded.cells ib)) w' := by
  obtain ⟨c0, c1, c2, c3, c4, c5⟩ := h.fields hs.len
  have hn := hs.n2 hq
  have hr := hs.rate2
  have hr1 := hs.rate1
  have cb := h.byte s.n (by rw [hs.len]; omega)
  have f0 := h.frozen s.n
  have i1 : (s.n : Int) < 200 := by omega
  have i2 : s.n < 200 := by omega
  obtain ⟨x, hx⟩ : ∃ x, s.a.getD s.n 0 = x := ⟨_, rfl⟩
  rw [hx] at cb
  have e1 : w.setCell ⟨b, s.n, none⟩ (.int .u8 (bits .xor .u8 x.toNat s.ds.toNat)) = w.setRow b ({ s with a := s.a.set s.n (x ^^^ s.ds) }.cells ib) := by
    rw [bits_xor]
    exact h.setByte s.n (by rw [hs.len]; omega) _
  obtain ⟨s1, hs1⟩ : ∃ s1 : Sp, s1 = { s with a := s.a.set s.n (x ^^^ s.ds) } := ⟨_, rfl⟩
  rw [← hs1] at e1
  have hl1 : s1.a.length = 200 := by rw [hs1]; simpa using hs.len
  have hr' : s1.rate = s.rate := by rw [hs1]
  have hn' : s1.n = s.n := by rw [hs1]
  have H1 : Has (w.setRow b (s1.cells ib)).drew b t s1 ib := h.setRow _ _
  have q1 : Eqv (w.setRow b (s1.cells ib)) (w.setRow b (s1.cells ib)).drew := Eqv.drew _
  have E1 := Lib.hid e1
  have R := Lib.hid hr'
  have HX := Lib.hid hx
  have HS1 := Lib.hid hs1
  unfold BV at cb c2
  clear h hq e1 hr' hx hs1 hs c3 c4 c5
  go_enter Try.func76, Try.ntmps76
  go_wp2
  go_still_tail 17, (by kernel_rfl)
  change wpList _ _ _ _ _ w.drew
  go_wp2
  rw [E1.out]
  generalize (w.setRow b (s1.cells ib)).drew = w1 at *
  clear c0 c1 c2 cb f0 E1
  obtain ⟨d0, d1, d2, d3, d4, d5⟩ := H1.fields hl1
  clear d0 d2 d3 d4 d5
  rw [R.out] at d1
  obtain ⟨r, hrr⟩ : ∃ r, s.rate = r + 1 := ⟨s.rate - 1, by omega⟩
  rw [show (s.rate : Int) = (r : Int) + 1 by omega] at d1
  have j1 : (r : Int) < 200 := by omega
  have j4 : r < 200 := by omega
  have j3 : IntKind.i64.wrap (r : Int) = (r : Int) := IntWalk.i64_in _ (by omega)
  rw [hrr] at R
  have db := H1.byte r (by omega)
  obtain ⟨y, hy⟩ : ∃ y, s1.a.getD r 0 = y := ⟨_, rfl⟩
  rw [hy] at db
  have g0 := H1.frozen r
  have e2 : w1.setCell ⟨b, r, none⟩ (.int .u8 (bits .xor .u8 y.toNat 128)) = w1.setRow b ({ s1 with a := s1.a.set r (y ^^^ 128) }.cells ib) := by
    have e := bits_xor y 128
    have e' : ((128 : UInt8).toNat : Int) = 128 := rfl
    rw [e'] at e
    rw [e]
    exact H1.setByte r (by omega) _
  unfold BV at db
  have HY := Lib.hid hy
  have HR := Lib.hid hrr
  clear hy hrr hr hr1 hn
  have E2 := Lib.hid e2
  clear e2
  obtain ⟨s2, hs2⟩ : ∃ s2 : Sp, s2 = { s1 with a := s1.a.set r (y ^^^ 128) } := ⟨_, rfl⟩
  have HS2 := Lib.hid hs2
  have hl2 : s2.a.length = 200 := by rw [hs2]; simpa using hl1
  rw [← hs2] at E2
  have H2 : Has (w1.setRow b (s2.cells ib)).drew b t s2 ib := H1.setRow _ _
  have q2 : Eqv (w1.setRow b (s2.cells ib)) (w1.setRow b (s2.cells ib)).drew := Eqv.drew _
  clear hs2
  go_still_tail 14, (by kernel_rfl)
  change wpList _ _ _ _ _ w1.drew
  go_wp2_with fail
  rw [E2.out]
  generalize (w1.setRow b (s2.cells ib)).drew = w2 at *
  clear d1 db g0 E2
  refine (permute_any w2 b t s2 ib H2 hl2).mono ?_
  rintro e w3 ⟨rfl, h3⟩
  have H3 : Has w3 b t s2.perm ib := by rw [h3]; exact H2.setRow _ _
  have c4 := (H3.fields (kecc_length _)).2.2.2.2.1
  have f4 := H3.frozen 204
  have h3' : Hid (w3 = w2.setRow b (s2.perm.cells ib)) := h3
  clear h3
  go_wp2
  go_end0
  refine ⟨rfl, ?_⟩
  have e4 : w3.setCell ⟨b, 204, none⟩ (.int .i64 1) = w3.setRow b ({ s2.perm with sq := true }.cells ib) := by
    rw [H3.setCell, cells_sq _ _ (kecc_length _)]
  have e5 : s.padded = { s2.perm with sq := true } := by
    have a1 := HX.out
    have a2 := HY.out
    have a3 := HS1.out
    have a4 := HS2.out
    subst a4 a3
    simp only [Sp.padded, Sp.perm, HR.out, Nat.add_sub_cancel]
    rw [a1]
    simp only at a2
    rw [a2]
  rw [e4, h3'.out, setRow_setRow, e5]
  have k1 := q1.setRow b ({ s2.perm with sq := true }.cells ib)
  have k2 := q2.setRow b ({ s2.perm with sq := true }.cells ib)
  rw [setRow_setRow] at k1 k2
  exact k1.trans k2

theorem eqlIn_ptr_same (w : World) (d : Nat) (a : Addr) : (Op.equalIn (d + 1) 96 (.pointer (some a)) (.pointer (some a))).run Try.prog w = .ok true w := by
  have hu : (underlying 96).run Try.prog w = .ok (.pointer 5) w := by kernel_rfl
  have hz : (sizeOf 5).run Try.prog w = .ok 1 w := by kernel_rfl
  simp [Op.equalIn, hu, hz, sameAddr]
theorem eql_ptr_same (w : World) (a : Addr) : (binOp .eql 96 (.pointer (some a)) (.pointer (some a))).run Try.prog w = .ok (.bool true) w := by
  simp only [binOp]
  simp [Op.equal, Op.maxDepth, eqlIn_ptr_same w 9999 a]

theorem eqlIn_ptr_other (w : World) (d : Nat) (g o : Nat) (b : Addr) (cur : Array Value) (t : TypeId) (v : Value)
    (hg : w.heap[g]? = some (.cells cur t (0, 0))) (hb : w.cell? b = some v) (hne : b.block ≠ g) :
    (Op.equalIn (d + 1) 96 (.pointer (some ⟨g, o, none⟩)) (.pointer (some b))).run Try.prog w = .ok false w := by
  have hu : (underlying 96).run Try.prog w = .ok (.pointer 5) w := by kernel_rfl
  have hz : (sizeOf 5).run Try.prog w = .ok 1 w := by kernel_rfl
  have hne' : ¬ g = b.block := fun h => hne h.symm
  have hfa : w.frozen? ⟨g, o, none⟩ = false := by simp [World.frozen?, hg]
  obtain ⟨hv1, hv2, hm⟩ := apart_looks w g o b cur t v hg hb
  simp [Op.equalIn, hu, hz, sameAddr, hne', hfa, hv1, hv2, hm]
theorem eql_ptr_other (w : World) (g o : Nat) (b : Addr) (cur : Array Value) (t : TypeId) (v : Value)
    (hg : w.heap[g]? = some (.cells cur t (0, 0))) (hb : w.cell? b = some v) (hne : b.block ≠ g) :
    (binOp .eql 96 (.pointer (some ⟨g, o, none⟩)) (.pointer (some b))).run Try.prog w = .ok (.bool false) w := by
  simp only [binOp]
  simp [Op.equal, Op.maxDepth, eqlIn_ptr_other w 9999 g o b cur t v hg hb hne]

set_option maxRecDepth 100000 in
set_option maxHeartbeats 400000 in
theorem inexact_same (w : World) (a : Addr) (n c m d : Nat) (hn : 0 < n) (hm : 0 < m) :
    Calls Try.prog 79 #[.slice (some a) n c, .slice (some a) m d] w fun e w' => e = .returned (.bool false) ∧ ∃ k, w' = w.drewN k := by
  have heq := fun k => eql_ptr_same (w.drewN k) a
  have e1 : ((n : Int) == 0) = false := by simp; omega
  have e2 : ((m : Int) == 0) = false := by simp; omega
  have i1 : (0 : Int) < (n : Int) := by omega
  have i2 : (0 : Int) < (m : Int) := by omega
  go_enter Try.func79, Try.ntmps79
  go_wp2
  go_quiet (fail)
  go_wp2
  go_ret
  exact ⟨rfl, _, rfl⟩

set_option maxRecDepth 100000 in
set_option maxHeartbeats 400000 in
theorem inexact_other (w : World) (g o n c m d : Nat) (b : Addr) (cur : Array Value) (t : TypeId) (v : Value)
    (hg : w.heap[g]? = some (.cells cur t (0, 0))) (hb : w.cell? b = some v) (hne : b.block ≠ g) (hn : 0 < n) (hm : 0 < m) :
    Calls Try.prog 79 #[.slice (some ⟨g, o, none⟩) n c, .slice (some b) m d] w fun e w' => e = .returned (.bool false) ∧ ∃ k, w' = w.drewN k := by
  have heq := fun k => eql_ptr_other (w.drewN k) g o b cur t v hg hb hne
  have hov := fun k => call_anyOverlap (w.drewN k) g o n c b m d cur t v hg hb hne
  have e1 : ((n : Int) == 0) = false := by simp; omega
  have e2 : ((m : Int) == 0) = false := by simp; omega
  have i1 : (0 : Int) < (n : Int) := by omega
  have i2 : (0 : Int) < (m : Int) := by omega
  clear hg hb hne
  go_enter Try.func79, Try.ntmps79
  go_wp2
  go_quiet (fail)
  go_wp2
  go_ret
  exact ⟨rfl, _, rfl⟩
/-- the bytes l lie in memory from q on -/
def Lies (w : World) (q : Addr) (l : List UInt8) : Prop := ∀ j x, l[j]? = some x → w.cell? (q.add j) = some (BV x)

theorem Lies.drewN {w : World} {q : Addr} {l : List UInt8} (h : Lies w q l) (n : Nat) : Lies (w.drewN n) q l := h
theorem Lies.take {w : World} {q : Addr} {l : List UInt8} (h : Lies w q l) (n : Nat) : Lies w q (l.take n) := fun j x hj => h j x (by
  rw [List.getElem?_take] at hj
  split at hj
  · exact hj
  · cases hj)

theorem zipWith_take (f : UInt8 → UInt8 → UInt8) : ∀ (xs l : List UInt8), List.zipWith f (xs.take l.length) l = List.zipWith f xs l
  | _, [] => by simp
  | [], _ :: _ => by simp
  | x :: xs, y :: l => by simp [zipWith_take f xs l]

theorem xor_cells (s : Sp) (ib : Value) (l : List UInt8) (hl : s.n + l.length ≤ s.a.length) :
    ∃ pre xs post, (s.cells ib).toList = pre ++ xs.map BV ++ post ∧ pre.length = s.n ∧ xs.length = l.length ∧
      (pre ++ (List.zipWith (· ^^^ ·) xs l).map BV ++ post).toArray = { s with a := Sp.xorAt s.a s.n l }.cells ib := by
  refine ⟨(s.a.take s.n).map BV, (s.a.drop s.n).take l.length, (s.a.drop (s.n + l.length)).map BV ++ s.tl ib, ?_, ?_, ?_, ?_⟩
  · simp only [Sp.cells]
    rw [← List.append_assoc, ← List.map_append, ← List.map_append]
    congr 2
    rw [List.append_assoc, ← List.drop_drop, List.take_append_drop, List.take_append_drop]
  · simp; omega
  · simp; omega
  · simp only [Sp.cells, Sp.xorAt, List.map_append, List.append_assoc]
    rw [zipWith_take]
    rfl

set_option maxRecDepth 100000 in
set_option maxHeartbeats 400000 in
theorem xor_any (w : World) (g : Nat) (t : TypeId) (s : Sp) (ib : Value) (h : Has w g t s ib) (hl : s.a.length = 200)
    (q : Addr) (yl yc rl rc k : Nat) (l : List UInt8) (hyl : l.length = yl) (hk : k = min rl yl) (h0 : 0 < k) (hrc : rl ≤ rc) (hyc : yl ≤ yc) (hb : s.n + rl ≤ 200) (hy : Lies w q l) (hne : q.block ≠ g) :
    Calls Try.prog 74 #[.slice (some ⟨g, s.n, none⟩) rl rc, .slice (some ⟨g, s.n, none⟩) rl rc, .slice (some q) yl yc] w
      fun e w' => e = .returned (.int .i64 (k : Int)) ∧ Eqv (w.setRow g ({ s with a := Sp.xorAt s.a s.n (l.take k) }.cells ib)) w' := by
  have hmin : (if yl < rl then (yl : Int) else (rl : Int)) = (k : Int) := by split <;> omega
  have k0 : ((k : Int) == 0) = false := by simp; omega
  have k1 : k ≤ rl := by omega
  have k2 : k ≤ rc := by omega
  have k3 : k ≤ yc := by omega
  have k4 : ¬ rl < k := by omega
  have hlk : (l.take k).length = k := by simp; omega
  have hc0 : ∃ v, w.cell? q = some v := by
    have hlt : 0 < l.length := by omega
    have := hy 0 (l[0]) (by simp [hlt])
    exact ⟨_, by simpa [Addr.add] using this⟩
  obtain ⟨v, hv⟩ := hc0
  have C1 := fun n => inexact_same (w.drewN n) ⟨g, s.n, none⟩ k rc k rc h0 h0
  have C2 := fun n => inexact_other (w.drewN n) g s.n k rc k yc q (s.cells ib) t v h hv hne h0 h0
  obtain ⟨pre, xs, post, x1, x2, x3, x4⟩ := xor_cells s ib (l.take k) (by rw [hlk, hl]; omega)
  have hx := fun n => call_xorBytes (w.drewN n) g s.n (s.cells ib) t xs (l.take k) q pre post h x1 x2 x3 (fun j v hj => by
    rw [List.getElem?_map] at hj
    cases hq : (l.take k)[j]? with
    | none => rw [hq] at hj; cases hj
    | some z => rw [hq] at hj; simp only [Option.map_some, Option.some.injEq] at hj; rw [← hj]; exact hy.take k j z hq)
  rw [x4, hlk] at hx
  have i3 : 0 < rl := by omega
  have i4 : 0 < yl := by omega
  have i1 : (0 : Int) < (rl : Int) := by omega
  have i2 : (0 : Int) < (yl : Int) := by omega
  have fin : ∀ n, Eqv (w.setRow g ({ s with a := Sp.xorAt s.a s.n (l.take k) }.cells ib)) ((w.drewN n).setRow g ({ s with a := Sp.xorAt s.a s.n (l.take k) }.cells ib)) := fun n =>
    (Eqv.drewN w n).setRow _ _
  have HC1 := Lib.hid C1
  have HC2 := Lib.hid C2
  have HF := Lib.hid fin
  clear C1 C2 fin x1 x2 x3 x4 hk hlk hl hy hne h hv hyl
  go_enter Try.func74, Try.ntmps74
  go_wp2_with fail
  go_quiet ((first | (with_reducible refine Calls.quiet_of (HC1.out _)) | (with_reducible refine Calls.quiet_of (HC2.out _)) | (trace_state; fail)))
  go_wp2_with fail
  go_still_tail 7, (by kernel_rfl)
  change wpList _ _ _ _ _ (w.drewN nq).drew
  go_wp2_with fail
  go_ret
  exact ⟨rfl, HF.out _⟩
end Go.Proofs.Ythemhpefcfdcaaa
