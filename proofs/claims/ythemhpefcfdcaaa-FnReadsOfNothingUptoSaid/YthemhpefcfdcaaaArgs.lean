/- What the readings of the arguments give: bytes, slices of slices of bytes, ints, bools in memory; and their bulk. -/
import Derived.Test.YthemhpefcfdcaaaSpec
import Derived.ProofKit
import Derived.OpenShut
import Derived.JoinedCond
import Derived.Deep.Matrix
namespace Go.Proofs.Ythemhpefcfdcaaa
open Go.RowKit Go.Deep
open Go.ChangeShapes Go.WideShapes Go.ChangeAt
set_option linter.unusedVariables false

theorem cells5 : Try.prog.cellsOf 5 = 1 := by kernel_rfl
theorem cells3 : Try.prog.cellsOf 3 = 1 := by kernel_rfl
theorem cells4 : Try.prog.cellsOf 4 = 1 := by kernel_rfl
theorem cells22 : Try.prog.cellsOf 22 = 1 := by kernel_rfl
theorem ownK : ownKnob Try.prog.godebug = none := by kernel_rfl
theorem laidOut : laidOutB Try.prog = true := by kernel_rfl

/-! bulk -/
theorem bulk_one {H : Type} (d : DataW H) : 1 ≤ Rows.uptoBulk d := by
  cases d with
  | lit l => cases l <;> simp [Rows.uptoBulk]
  | nil => simp [Rows.uptoBulk]
  | ptr d => simp [Rows.uptoBulk]
  | slice elems spare => simp [Rows.uptoBulk]
  | agg parts => simp [Rows.uptoBulk]
  | iface t d => simp [Rows.uptoBulk]
  | map entries => simp [Rows.uptoBulk]
  | held h => simp [Rows.uptoBulk]
theorem bulk_part {H : Type} {d : DataW H} {l : List (DataW H)} (h : d ∈ l) : Rows.uptoBulk d ≤ Rows.uptoBulkAll l := by
  induction l with
  | nil => cases h
  | cons x r ih =>
    simp only [Rows.uptoBulkAll]
    cases List.mem_cons.1 h with
    | inl e => subst e; omega
    | inr e => have := ih e; omega
theorem bulk_len {H : Type} (l : List (DataW H)) : l.length ≤ Rows.uptoBulkAll l := by
  induction l with
  | nil => simp [Rows.uptoBulkAll]
  | cons x r ih => have := bulk_one x; simp only [Rows.uptoBulkAll, List.length_cons]; omega
theorem bulk_slice {H : Type} (elems spare : List (DataW H)) : elems.length ≤ Rows.uptoBulk (.slice elems spare) := by
  have h1 := bulk_len elems
  simp only [Rows.uptoBulk]
  omega
theorem bulk_bound {H : Type} {l : List (DataW H)} (hk : Rows.uptoSmall H l = true) : Rows.uptoBulkAll l ≤ 1048576 := of_decide_eq_true hk

def toU8 (z : Int) : UInt8 := UInt8.ofNat z.toNat
theorem toU8_val {z : Int} (h : (Lit.int .u8 z).wf = true) : (Value.int .u8 z) = BV (toU8 z) := by
  have hb := bounds_u8 h
  unfold toU8
  rw [← bv_lt z.toNat (by omega)]
  congr 1
  omega

section
variable {H : Type} {enc : TypeId × Value → H} {W : World}

/-- ints of any kind that lie in a row -/
theorem row_addr {x : Addr} {v : Value} (h : W.cell? (x.add 0) = some v) : x = ⟨x.block, x.off, none⟩ ∧ x.block < W.heap.size := by
  have h' : W.cell? x = some v := by simpa [Addr.add] using h
  have hs := World.cell?_spot h'
  obtain ⟨b, o, s⟩ := x
  simp only at hs
  subst hs
  exact ⟨rfl, block_lt_of_cell h'⟩

theorem openBs {fuel : Nat} {a : Option Addr} {len cap : Nat} {d : DataW H} {p : List MemPlace} (hf : DataW.trod enc Try.prog W 0 (fun _ => true) true fuel 22 [.slice a len cap] = some (d, p)) :
    ∃ l : List UInt8, l.length = len ∧ Bs W.heap.size W a cap l ∧ len ≤ Rows.uptoBulk d := by
  rcases open_ints Try.underlying22 Try.underlying5 cells5 hf with ⟨hcs, hx⟩ | ⟨x, l, c, zs, hcs, _, hl, hm, hz, hx, hcell, hwz⟩
  · simp only [List.cons.injEq, Value.slice.injEq, and_true] at hcs
    obtain ⟨rfl, rfl, rfl⟩ := hcs
    exact ⟨[], rfl, ⟨Nat.le_refl _, by omega, .inl rfl⟩, Nat.zero_le _⟩
  · simp only [List.cons.injEq, Value.slice.injEq, and_true] at hcs
    obtain ⟨rfl, rfl, rfl⟩ := hcs
    simp only [if_true] at hz
    simp only [Prod.mk.injEq] at hx
    have hlen : ((zs.take len).map toU8).length = len := by simp; omega
    refine ⟨(zs.take len).map toU8, hlen, ⟨by omega, by unfold maxLen at hm; omega, ?_⟩, ?_⟩
    · by_cases h0 : len = 0
      · exact .inl (List.eq_nil_of_length_eq_zero (by omega))
      · obtain ⟨e, hb⟩ := row_addr (hcell 0 (by omega))
        refine .inr ⟨x.block, x.off, by rw [← e], hb, fun j y hj => ?_⟩
        rw [← e]
        have hjl : j < len := by have := (List.getElem?_eq_some_iff.1 hj).1; omega
        rw [hcell j (by omega)]
        rw [List.getElem?_map, List.getElem?_take, if_pos hjl, List.getElem?_eq_getElem (by omega)] at hj
        simp only [Option.map_some, Option.some.injEq] at hj
        rw [← hj, ← toU8_val (hwz _ (List.getElem_mem (by omega)))]
        simp [List.getD, show j < zs.length by omega]
    · rw [hx.1]
      have := bulk_slice (lits (H := H) .u8 (zs.take len)) (lits .u8 (zs.drop len))
      simp only [lits, List.length_map, List.length_take] at this
      simp only [lits]
      omega

theorem openInts {fuel : Nat} {a : Option Addr} {len cap : Nat} {d : DataW H} {p : List MemPlace} (hf : DataW.trod enc Try.prog W 0 (fun _ => true) true fuel 24 [.slice a len cap] = some (d, p)) :
    ∃ zs : List Int, zs.length = len ∧ Ints W.heap.size W a cap zs ∧ len ≤ Rows.uptoBulk d ∧ ∀ z ∈ zs, -9223372036854775808 ≤ z ∧ z ≤ 9223372036854775807 := by
  rcases open_ints Try.underlying24 Try.underlying3 cells3 hf with ⟨hcs, hx⟩ | ⟨x, l, c, zs, hcs, _, hl, hm, hz, hx, hcell, hwz⟩
  · simp only [List.cons.injEq, Value.slice.injEq, and_true] at hcs
    obtain ⟨rfl, rfl, rfl⟩ := hcs
    exact ⟨[], rfl, ⟨Nat.le_refl _, by omega, .inl rfl⟩, Nat.zero_le _, fun z h => by cases h⟩
  · simp only [List.cons.injEq, Value.slice.injEq, and_true] at hcs
    obtain ⟨rfl, rfl, rfl⟩ := hcs
    simp only [if_true] at hz
    simp only [Prod.mk.injEq] at hx
    have hlen : (zs.take len).length = len := by simp; omega
    refine ⟨zs.take len, hlen, ⟨by omega, by unfold maxLen at hm; omega, ?_⟩, ?_, fun z hz' => ?_⟩
    · by_cases h0 : len = 0
      · exact .inl (List.eq_nil_of_length_eq_zero (by omega))
      · obtain ⟨e, hb⟩ := row_addr (hcell 0 (by omega))
        refine .inr ⟨x.block, x.off, by rw [← e], hb, fun j y hj => ?_⟩
        have hjl : j < len := by have := (List.getElem?_eq_some_iff.1 hj).1; omega
        rw [← add_row, ← e, hcell j (by omega)]
        rw [List.getElem?_take, if_pos hjl] at hj
        simp [List.getD, hj]
    · rw [hx.1]
      have := bulk_slice (lits (H := H) .i64 (zs.take len)) (lits .i64 (zs.drop len))
      simp only [lits, List.length_map, List.length_take] at this
      simp only [lits]
      omega
    · have hb := bounds_i64 (hwz z (List.mem_of_mem_take hz'))
      omega

theorem bulk_row (A : Option Addr) (L : Nat) (Z : List Int) (hZ : L ≤ Z.length) (hA : A = none → L = 0) : L ≤ Rows.uptoBulk (intRow (H := H) .u8 A L Z) := by
  cases A with
  | none => rw [hA rfl]; exact Nat.zero_le _
  | some a =>
    have := bulk_slice (lits (H := H) .u8 (Z.take L)) (lits .u8 (Z.drop L))
    simp only [lits, List.length_map, List.length_take] at this
    simp only [intRow, lits]
    omega

theorem openRows {fuel : Nat} {a : Option Addr} {len cap : Nat} {d : DataW H} {p : List MemPlace} (hf : DataW.trod enc Try.prog W 0 (fun _ => true) true fuel 23 [.slice a len cap] = some (d, p)) :
    ∃ ls : List (List UInt8), ls.length = len ∧ Rows2 W.heap.size W a cap ls ∧ len ≤ Rows.uptoBulk d ∧ ∀ l ∈ ls, l.length ≤ Rows.uptoBulk d := by
  rcases open_int_rows Try.underlying23 Try.underlying22 Try.underlying5 cells22 cells5 hf with ⟨hcs, hx⟩ | ⟨x, l, c, A, L, C, Z, hcs, _, hl, hm, hx, hrow⟩
  · simp only [List.cons.injEq, Value.slice.injEq, and_true] at hcs
    obtain ⟨rfl, rfl, rfl⟩ := hcs
    exact ⟨[], rfl, ⟨Nat.le_refl _, by omega, .inl rfl⟩, Nat.zero_le _, fun z h => by cases h⟩
  · simp only [List.cons.injEq, Value.slice.injEq, and_true] at hcs
    obtain ⟨rfl, rfl, rfl⟩ := hcs
    simp only [Prod.mk.injEq] at hx
    have hel : ∀ r, r < cap → (((Z r).take (L r)).map toU8).length = L r := by
      intro r hr
      obtain ⟨_, h1, _, h2, _⟩ := hrow r hr
      simp; omega
    refine ⟨(List.range len).map fun r => ((Z r).take (L r)).map toU8, by simp, ⟨by simpa using hl, by unfold maxLen at hm; omega, ?_⟩, ?_, ?_⟩
    · by_cases h0 : len = 0
      · exact .inl (by rw [h0]; rfl)
      · obtain ⟨e, hb⟩ := row_addr (hrow 0 (by omega)).1
        refine .inr ⟨x.block, x.off, by rw [← e], hb, fun i y hi => ?_⟩
        have hil : i < len := by have := (List.getElem?_eq_some_iff.1 hi).1; simpa using this
        rw [List.getElem?_map, List.getElem?_range hil] at hi
        simp only [Option.map_some, Option.some.injEq] at hi
        obtain ⟨h1, h2, h3, h4, h5, h6, h7⟩ := hrow i (by omega)
        have hyl : y.length = L i := by rw [← hi]; exact hel i (by omega)
        refine ⟨A i, C i, by rw [hyl, ← add_row, ← e]; exact h1, by omega, by unfold maxLen at h3; omega, ?_⟩
        by_cases hz : L i = 0
        · exact .inl (List.eq_nil_of_length_eq_zero (by omega))
        · cases hA : A i with
          | none => have := h6 hA; omega
          | some a' =>
            obtain ⟨_, h8⟩ := h7 a' hA
            obtain ⟨e', hb'⟩ := row_addr (h8 0 (by omega))
            refine .inr ⟨a'.block, a'.off, by rw [← e'], hb', fun j u hj => ?_⟩
            rw [← e']
            have hjl : j < L i := by have := (List.getElem?_eq_some_iff.1 hj).1; omega
            rw [h8 j (by omega)]
            rw [← hi, List.getElem?_map, List.getElem?_take, if_pos hjl, List.getElem?_eq_getElem (by omega)] at hj
            simp only [Option.map_some, Option.some.injEq] at hj
            rw [← hj, ← toU8_val (h5 _ (List.getElem_mem (by omega)))]
            simp [List.getD, show j < (Z i).length by omega]
    · rw [hx.1]
      have := bulk_slice ((List.range len).map fun r => intRow (H := H) .u8 (A r) (L r) (Z r)) ((List.range (cap - len)).map fun j => intRow .u8 (A (len + j)) (L (len + j)) (Z (len + j)))
      simp only [List.length_map, List.length_range] at this
      exact this
    · intro y hy
      obtain ⟨r, hr, rfl⟩ := List.mem_map.1 hy
      have hrl : r < len := List.mem_range.1 hr
      rw [hel r (by omega), hx.1]
      obtain ⟨_, h2, _, h4, _, h6, _⟩ := hrow r (by omega)
      have hb := bulk_row (H := H) (A r) (L r) (Z r) (by omega) (fun h => by have := h6 h; omega)
      have hp := bulk_part (H := H) (d := intRow .u8 (A r) (L r) (Z r)) (l := (List.range len).map fun r => intRow .u8 (A r) (L r) (Z r)) (List.mem_map.2 ⟨r, hr, rfl⟩)
      simp only [Rows.uptoBulk]
      omega
end
end Go.Proofs.Ythemhpefcfdcaaa
