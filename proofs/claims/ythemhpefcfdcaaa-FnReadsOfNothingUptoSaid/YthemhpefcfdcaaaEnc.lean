/- bits.Len64, BEPutUint64, leftEncode: a number as bytes. -/
import Derived.Test.YthemhpefcfdcaaaShake
namespace Go.Proofs.Ythemhpefcfdcaaa
open Go.RowKit
set_option linter.unusedVariables false

theorem wpList_tab {ops : Array Oper} {rest : List Oper} {o : Oper} {a : Act} {w : World} {Q : Exit → Act → World → Prop} (hgd : o.guard = none) (x i : Operand) (ho : o.op = .index 9 x i)
    (S : ByteArray) (hx : a.eval x = .string S) (k : Nat) (hi : a.eval i = .int .u8 (k : Int)) (hsz : S.size = 256) (hk : k < 256) (hall : ∀ j : Fin 256, (S.data.toList.getD j 0).toNat = bitLen j)
    (h : wpList Try.prog ops Q rest (a.put o.dst (.int .u8 (bitLen k : Int))) w) : wpList Try.prog ops Q (o :: rest) a w :=
  wpList_plain hgd fun K hK => by
    have hr := run_index_string (P := Try.prog) (w := w) 9 S .u8 (k : Int) Try.underlying9
    have hv : (S.data.toList.getD k 0).toNat = bitLen k := hall ⟨k, hk⟩
    have hks : k < S.size := by omega
    have he : S.data.toList.getD k 0 = S[k] := by
      simp only [List.getD]
      rw [List.getElem?_eq_getElem (by simpa using hks)]
      rfl
    rw [he] at hv
    have hv' : (S[k].toNat : Int) = (bitLen k : Int) := congrArg Int.ofNat hv
    unfold Oper.wp execOp
    simp only [ho, hx, hi, Sem.run_bind]
    rw [hr]
    have := hK _ _ h
    simp [hks, hv', Oper.upon]
    exact this

theorem bitLen_le {x b : Nat} (h : x < 2 ^ b) : bitLen x ≤ b := by
  unfold bitLen
  split
  · omega
  · rename_i h0
    have := (Nat.log2_lt h0).2 h
    omega

theorem bitLen_div (x b : Nat) (h : 2 ^ b ≤ x) : bitLen x = b + bitLen (x / 2 ^ b) := bitLen_shift x b (by
  have := (Nat.le_div_iff_mul_le (Nat.two_pow_pos b)).2 (show 1 * 2 ^ b ≤ x by omega)
  omega)

theorem bl8 (x : Nat) (h : 256 ≤ x) : bitLen x = 8 + bitLen (x / 256) := bitLen_div x 8 h
theorem bl16 (x : Nat) (h : 65536 ≤ x) : bitLen x = 16 + bitLen (x / 65536) := bitLen_div x 16 h
theorem bl32 (x : Nat) (h : 4294967296 ≤ x) : bitLen x = 32 + bitLen (x / 4294967296) := bitLen_div x 32 h
theorem ret_i64 {a b : Int} (h : a = b) : Ending.returned (.int .i64 a) = .returned (.int .i64 b) := by rw [h]

set_option maxRecDepth 100000 in
set_option maxHeartbeats 2000000 in
theorem len64_any (x : Nat) (w : World) (hx : x ≤ 1125899906842624) :
    Calls Try.prog 77 #[.int .u64 (x : Int)] w fun e w' => e = .returned (.int .i64 (bitLen x : Int)) ∧ w = w' := by
  have hc : (x < 256) ∨ (256 ≤ x ∧ x < 65536) ∨ (65536 ≤ x ∧ x < 16777216) ∨ (16777216 ≤ x ∧ x < 4294967296) ∨ (4294967296 ≤ x ∧ x < 1099511627776) ∨ (1099511627776 ≤ x ∧ x < 281474976710656) ∨ (281474976710656 ≤ x) := by omega
  rcases hc with h1 | ⟨h0, h1⟩ | ⟨h0, h1⟩ | ⟨h0, h1⟩ | ⟨h0, h1⟩ | ⟨h0, h1⟩ | h0
  · have d32 : ¬ ((4294967296 : Int) ≤ (x : Int)) := by omega
    have d16 : ¬ ((65536 : Int) ≤ (x : Int)) := by omega
    have d8 : ¬ ((256 : Int) ≤ (x : Int)) := by omega
    have hy : x < 256 := by omega
    have b1 := bitLen_le (x := x) (b := 8) hy
    have e : bitLen x = bitLen (x) := by rfl
    have E := Lib.hid e
    clear e
    go_enter Try.func77, Try.ntmps77
    go_wp2_with ((refine wpList_tab rfl _ _ rfl _ rfl (x) ?_ ?_ hy ?_ ?_ <;> first | rfl | decide +kernel | (simp; done) | skip))
    go_ret
    exact ⟨rfl, rfl⟩
  · have d32 : ¬ ((4294967296 : Int) ≤ (x : Int)) := by omega
    have d16 : ¬ ((65536 : Int) ≤ (x : Int)) := by omega
    have d8 : (256 : Int) ≤ (x : Int) := by omega
    have hy : x / 256 < 256 := by omega
    have b1 := bitLen_le (x := x / 256) (b := 8) hy
    have e : bitLen x = 8 + bitLen (x / 256) := by rw [bl8 (x) (by omega)]
    have E := Lib.hid e
    clear e
    go_enter Try.func77, Try.ntmps77
    go_wp2_with ((refine wpList_tab rfl _ _ rfl _ rfl (x / 256) ?_ ?_ hy ?_ ?_ <;> first | rfl | decide +kernel | (simp; done) | skip))
    go_ret
    exact ⟨ret_i64 (by rw [E.out]; simp <;> omega), rfl⟩
  · have d32 : ¬ ((4294967296 : Int) ≤ (x : Int)) := by omega
    have d16 : (65536 : Int) ≤ (x : Int) := by omega
    have d8 : ¬ ((256 : Int) ≤ (x : Int) / 65536) := by omega
    have hy : x / 65536 < 256 := by omega
    have b1 := bitLen_le (x := x / 65536) (b := 8) hy
    have e : bitLen x = 16 + bitLen (x / 65536) := by rw [bl16 (x) (by omega)]
    have E := Lib.hid e
    clear e
    go_enter Try.func77, Try.ntmps77
    go_wp2_with ((refine wpList_tab rfl _ _ rfl _ rfl (x / 65536) ?_ ?_ hy ?_ ?_ <;> first | rfl | decide +kernel | (simp; done) | skip))
    go_ret
    exact ⟨ret_i64 (by rw [E.out]; simp <;> omega), rfl⟩
  · have d32 : ¬ ((4294967296 : Int) ≤ (x : Int)) := by omega
    have d16 : (65536 : Int) ≤ (x : Int) := by omega
    have d8 : (256 : Int) ≤ (x : Int) / 65536 := by omega
    have hy : x / 65536 / 256 < 256 := by omega
    have b1 := bitLen_le (x := x / 65536 / 256) (b := 8) hy
    have e : bitLen x = 24 + bitLen (x / 65536 / 256) := by rw [bl16 (x) (by omega), bl8 (x / 65536) (by omega)]; omega
    have E := Lib.hid e
    clear e
    go_enter Try.func77, Try.ntmps77
    go_wp2_with ((refine wpList_tab rfl _ _ rfl _ rfl (x / 65536 / 256) ?_ ?_ hy ?_ ?_ <;> first | rfl | decide +kernel | (simp; done) | skip))
    go_ret
    exact ⟨ret_i64 (by rw [E.out]; simp <;> omega), rfl⟩
  · have d32 : (4294967296 : Int) ≤ (x : Int) := by omega
    have d16 : ¬ ((65536 : Int) ≤ (x : Int) / 4294967296) := by omega
    have d8 : ¬ ((256 : Int) ≤ (x : Int) / 4294967296) := by omega
    have hy : x / 4294967296 < 256 := by omega
    have b1 := bitLen_le (x := x / 4294967296) (b := 8) hy
    have e : bitLen x = 32 + bitLen (x / 4294967296) := by rw [bl32 (x) (by omega)]
    have E := Lib.hid e
    clear e
    go_enter Try.func77, Try.ntmps77
    go_wp2_with ((refine wpList_tab rfl _ _ rfl _ rfl (x / 4294967296) ?_ ?_ hy ?_ ?_ <;> first | rfl | decide +kernel | (simp; done) | skip))
    go_ret
    exact ⟨ret_i64 (by rw [E.out]; simp <;> omega), rfl⟩
  · have d32 : (4294967296 : Int) ≤ (x : Int) := by omega
    have d16 : ¬ ((65536 : Int) ≤ (x : Int) / 4294967296) := by omega
    have d8 : (256 : Int) ≤ (x : Int) / 4294967296 := by omega
    have hy : x / 4294967296 / 256 < 256 := by omega
    have b1 := bitLen_le (x := x / 4294967296 / 256) (b := 8) hy
    have e : bitLen x = 40 + bitLen (x / 4294967296 / 256) := by rw [bl32 (x) (by omega), bl8 (x / 4294967296) (by omega)]; omega
    have E := Lib.hid e
    clear e
    go_enter Try.func77, Try.ntmps77
    go_wp2_with ((refine wpList_tab rfl _ _ rfl _ rfl (x / 4294967296 / 256) ?_ ?_ hy ?_ ?_ <;> first | rfl | decide +kernel | (simp; done) | skip))
    go_ret
    exact ⟨ret_i64 (by rw [E.out]; simp <;> omega), rfl⟩
  · have d32 : (4294967296 : Int) ≤ (x : Int) := by omega
    have d16 : (65536 : Int) ≤ (x : Int) / 4294967296 := by omega
    have d8 : ¬ ((256 : Int) ≤ (x : Int) / 4294967296 / 65536) := by omega
    have hy : x / 4294967296 / 65536 < 256 := by omega
    have b1 := bitLen_le (x := x / 4294967296 / 65536) (b := 8) hy
    have e : bitLen x = 48 + bitLen (x / 4294967296 / 65536) := by rw [bl32 (x) (by omega), bl16 (x / 4294967296) (by omega)]; omega
    have E := Lib.hid e
    clear e
    go_enter Try.func77, Try.ntmps77
    go_wp2_with ((refine wpList_tab rfl _ _ rfl _ rfl (x / 4294967296 / 65536) ?_ ?_ hy ?_ ?_ <;> first | rfl | decide +kernel | (simp; done) | skip))
    go_ret
    exact ⟨ret_i64 (by rw [E.out]; simp <;> omega), rfl⟩

theorem setRow_setCell_bytes {w : World} {g : Nat} {t : TypeId} {X : Array Value} (hg : w.heap[g]? = some (.cells X t (0, 0))) (l : List UInt8) (i : Nat) (y : UInt8) :
    (w.setRow g (l.map BV).toArray).setCell ⟨g, i, none⟩ (BV y) = w.setRow g ((l.set i y).map BV).toArray := by
  rw [setCell_eq_setRow _ g i _ t (0, 0) _ (setRow_heap w g _ _ t _ hg), setRow_setRow]
  congr 1
  apply Array.toList_inj.1
  simp [List.map_set]

theorem bv_mod (n : Nat) : Value.int .u8 ((n : Int) % 256) = BV (UInt8.ofNat n) := by
  unfold BV
  congr 1
theorem bv_lt (n : Nat) (h : n < 256) : Value.int .u8 (n : Int) = BV (UInt8.ofNat n) := by
  rw [← bv_mod]
  congr 1
  omega

/-- the nine bytes behind BEPutUint64 -/
def beRow (x : Nat) (l : List UInt8) : List UInt8 :=
  (((((((l.set 1 (UInt8.ofNat (x / 72057594037927936))).set 2 (UInt8.ofNat (x / 281474976710656))).set 3 (UInt8.ofNat (x / 1099511627776))).set 4 (UInt8.ofNat (x / 4294967296))).set 5
    (UInt8.ofNat (x / 16777216))).set 6 (UInt8.ofNat (x / 65536))).set 7 (UInt8.ofNat (x / 256))).set 8 (UInt8.ofNat x)
theorem beRow_len (x : Nat) (l : List UInt8) : (beRow x l).length = l.length := by simp [beRow]

set_option maxRecDepth 100000 in
set_option maxHeartbeats 1000000 in
theorem beput_any (w : World) (g : Nat) (t : TypeId) (cur : List UInt8) (x : Nat) (hx : x ≤ 1125899906842624) (hl : cur.length = 9) (hg : w.heap[g]? = some (.cells (cur.map BV).toArray t (0, 0))) :
    Calls Try.prog 78 #[.slice (some ⟨g, 1, none⟩) 8 8, .int .u64 (x : Int)] w fun e w' => e = .returned (.tuple #[]) ∧ w.setRow g ((beRow x cur).map BV).toArray = w' := by
  have hc : ∀ i, i < 9 → ∃ v, w.cell? ⟨g, i, none⟩ = some v := by
    intro i hi
    refine ⟨BV (cur[i]), ?_⟩
    simp [World.cell?, hg, hl, hi]
  obtain ⟨v1, c1⟩ := hc 1 (by omega)
  obtain ⟨v2, c2⟩ := hc 2 (by omega)
  obtain ⟨v3, c3⟩ := hc 3 (by omega)
  obtain ⟨v4, c4⟩ := hc 4 (by omega)
  obtain ⟨v5, c5⟩ := hc 5 (by omega)
  obtain ⟨v6, c6⟩ := hc 6 (by omega)
  obtain ⟨v7, c7⟩ := hc 7 (by omega)
  obtain ⟨v8, c8⟩ := hc 8 (by omega)
  have hf : ∀ i, w.frozen? ⟨g, i, none⟩ = false := by intro i; simp [World.frozen?, hg]
  have f1 := hf 1
  have f2 := hf 2
  have f3 := hf 3
  have f4 := hf 4
  have f5 := hf 5
  have f6 := hf 6
  have f7 := hf 7
  have f8 := hf 8
  have fin : (((((((w.setCell ⟨g, 1, none⟩ (.int .u8 ((x : Int) / 72057594037927936))).setCell ⟨g, 2, none⟩ (.int .u8 ((x : Int) / 281474976710656))).setCell ⟨g, 3, none⟩ (.int .u8 ((x : Int) / 1099511627776 % 256))).setCell
      ⟨g, 4, none⟩ (.int .u8 ((x : Int) / 4294967296 % 256))).setCell ⟨g, 5, none⟩ (.int .u8 ((x : Int) / 16777216 % 256))).setCell ⟨g, 6, none⟩ (.int .u8 ((x : Int) / 65536 % 256))).setCell ⟨g, 7, none⟩ (.int .u8 ((x : Int) / 256 % 256))).setCell
      ⟨g, 8, none⟩ (.int .u8 ((x : Int) % 256)) = w.setRow g ((beRow x cur).map BV).toArray := by
    have e1 : (.int .u8 ((x : Int) / 72057594037927936) : Value) = BV (UInt8.ofNat (x / 72057594037927936)) := bv_lt (x / 72057594037927936) (by omega)
    have e2 : (.int .u8 ((x : Int) / 281474976710656) : Value) = BV (UInt8.ofNat (x / 281474976710656)) := bv_lt (x / 281474976710656) (by omega)
    have e3 : (.int .u8 ((x : Int) / 1099511627776 % 256) : Value) = BV (UInt8.ofNat (x / 1099511627776)) := bv_mod (x / 1099511627776)
    have e4 : (.int .u8 ((x : Int) / 4294967296 % 256) : Value) = BV (UInt8.ofNat (x / 4294967296)) := bv_mod (x / 4294967296)
    have e5 : (.int .u8 ((x : Int) / 16777216 % 256) : Value) = BV (UInt8.ofNat (x / 16777216)) := bv_mod (x / 16777216)
    have e6 : (.int .u8 ((x : Int) / 65536 % 256) : Value) = BV (UInt8.ofNat (x / 65536)) := bv_mod (x / 65536)
    have e7 : (.int .u8 ((x : Int) / 256 % 256) : Value) = BV (UInt8.ofNat (x / 256)) := bv_mod (x / 256)
    have e8 : (.int .u8 ((x : Int) % 256) : Value) = BV (UInt8.ofNat x) := bv_mod x
    have e0 : w = w.setRow g (cur.map BV).toArray := (setRow_self w g _ t (0, 0) hg).symm
    rw [e1, e2, e3, e4, e5, e6, e7, e8]
    conv => lhs; rw [e0]
    rw [setRow_setCell_bytes hg, setRow_setCell_bytes hg, setRow_setCell_bytes hg, setRow_setCell_bytes hg, setRow_setCell_bytes hg, setRow_setCell_bytes hg, setRow_setCell_bytes hg, setRow_setCell_bytes hg]
    rfl
  have FIN := Lib.hid fin
  clear hc hf hg fin
  go_enter Try.func78, Try.ntmps78
  go_wp2
  go_end0
  go_wp2
  go_end0
  exact ⟨rfl, FIN.out.symm⟩

def encN (x : Nat) : Nat := max 1 ((bitLen x + 7) / 8)
def encRow (x : Nat) : List UInt8 := (beRow x (zeros 9)).set (8 - encN x) (UInt8.ofNat (encN x))
def lenc (x : Nat) : List UInt8 := (encRow x).drop (8 - encN x)
theorem encRow_len (x : Nat) : (encRow x).length = 9 := by simp [encRow, beRow_len, zeros_len]
theorem encN_bd (x : Nat) (hx : x ≤ 1125899906842624) : 1 ≤ encN x ∧ encN x ≤ 7 := by
  have := bitLen_le (x := x) (b := 51) (by omega)
  unfold encN
  omega
theorem lenc_len (x : Nat) (hx : x ≤ 1125899906842624) : (lenc x).length = encN x + 1 := by
  have := encN_bd x hx
  simp [lenc, encRow_len]
  omega

set_option maxRecDepth 100000 in
set_option maxHeartbeats 1000000 in
theorem leftEncode_any (w : World) (x n : Nat) (hx : x ≤ 1125899906842624) (hn : n = encN x) :
    Calls Try.prog 72 #[.int .u64 (x : Int)] w fun e w' => e = .returned (.slice (some ⟨w.heap.size, 8 - n, none⟩) (n + 1) (n + 1)) ∧ w.alloc (.cells ((encRow x).map BV).toArray 5) = w' := by
  have hc := len64_any x w hx
  have HC := Lib.hid hc
  have mk := run_make22 9 9 9 9 rfl rfl (Nat.le_refl _) (by omega) w
  obtain ⟨w1, hw1⟩ : ∃ w1, w1 = w.alloc (.cells ((zeros 9).map BV).toArray 5) := ⟨_, rfl⟩
  rw [← hw1] at mk
  have hg1 : w1.heap[w.heap.size]? = some (.cells ((zeros 9).map BV).toArray 5 (0, 0)) := by rw [hw1]; exact heap_alloc_new _ _
  have h2 := beput_any w1 w.heap.size 5 (zeros 9) x hx (zeros_len 9) hg1
  have H2 := Lib.hid h2
  obtain ⟨w2, hw2⟩ : ∃ w2, w2 = w1.setRow w.heap.size ((beRow x (zeros 9)).map BV).toArray := ⟨_, rfl⟩
  rw [← hw2] at H2
  have hg2 : w2.heap[w.heap.size]? = some (.cells ((beRow x (zeros 9)).map BV).toArray 5 (0, 0)) := by rw [hw2]; exact setRow_heap _ _ _ _ _ _ hg1
  have hb := encN_bd x hx
  rw [← hn] at hb
  have hbl := bitLen_le (x := x) (b := 51) (by omega)
  obtain ⟨v, hv⟩ : ∃ v, w2.cell? ⟨w.heap.size, 8 - n, none⟩ = some v := by
    have hlt : 8 - n < (beRow x (zeros 9)).length := by rw [beRow_len, zeros_len]; omega
    refine ⟨BV ((beRow x (zeros 9))[8 - n]), ?_⟩
    simp [World.cell?, hg2, hlt]
  have hf : w2.frozen? ⟨w.heap.size, 8 - n, none⟩ = false := by simp [World.frozen?, hg2]
  have fin : w2.setCell ⟨w.heap.size, 8 - n, none⟩ (.int .u8 (n : Int)) = w.alloc (.cells ((encRow x).map BV).toArray 5) := by
    rw [bv_lt n (by omega), hw2, setRow_setCell_bytes hg1]
    have e : (beRow x (zeros 9)).set (8 - n) (UInt8.ofNat n) = encRow x := by rw [hn]; rfl
    rw [e, hw1]
    simp only [World.setRow, World.alloc]
    congr 1
    apply Array.ext
    · simp
    · intro k h1 h2
      simp only [Array.getElem_modify, Array.getElem_push]
      split
      · rename_i h; subst h; simp
      · rename_i h; simp at h1; split <;> first | rfl | omega
  have FIN := Lib.hid fin
  have HN := Lib.hid hn
  clear hc hw1 hg1 h2 hw2 hg2 fin hn
  go_enter Try.func72, Try.ntmps72
  go_wp2_with fail
  refine HC.out.mono ?_
  rintro e w' ⟨rfl, rfl⟩
  by_cases h0 : bitLen x = 0
  · have hn1 : n = 1 := by rw [HN.out]; unfold encN; omega
    subst hn1
    rw [h0]
    have e0 : (((0 : Nat) : Int) + 7) / 8 = 0 := by decide
    go_wp2_with fail
    refine H2.out.mono ?_
    rintro e w' ⟨rfl, rfl⟩
    go_wp2_with fail
    go_ret
    exact ⟨rfl, FIN.out.symm⟩
  · have en : ((bitLen x : Int) + 7) / 8 = (n : Int) := by rw [HN.out]; unfold encN; omega
    have b0 : ((n : Int) == 0) = false := by simp; omega
    have EN := Lib.hid en
    have j1 : 0 ≤ (9 : Int) - (n : Int) - 1 := by omega
    have j2 : (9 : Int) - (n : Int) - 1 ≤ 9 := by omega
    have j3 : ((9 : Int) - (n : Int) - 1).toNat = 8 - n := by omega
    go_wp2_with fail
    refine H2.out.mono ?_
    rintro e w' ⟨rfl, rfl⟩
    go_wp2_with fail
    go_ret
    refine ⟨?_, FIN.out.symm⟩
    show Ending.returned (.slice (some ⟨w.heap.size, 8 - n, none⟩) (9 - (8 - n)) (9 - (8 - n))) = _
    rw [show 9 - (8 - n) = n + 1 by omega]
end Go.Proofs.Ythemhpefcfdcaaa
