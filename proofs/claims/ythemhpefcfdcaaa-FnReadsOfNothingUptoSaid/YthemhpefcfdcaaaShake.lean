/- Write and Read of the public SHAKE, through its wrappers. -/
import Derived.Test.YthemhpefcfdcaaaMake
namespace Go.Proofs.Ythemhpefcfdcaaa
open Go.RowKit
set_option linter.unusedVariables false

set_option maxRecDepth 100000 in
theorem fwrite_any (w : World) (b : Nat) (t : TypeId) (s : Sp) (ib : Value) (h : Has w b t s ib) (hs : s.Ok) (hq : s.sq = false)
    (a : Option Addr) (cap n : Nat) (l : List UInt8) (hn : l.length = n) (ha : Arg w b a cap l) :
    Calls Try.prog 44 #[.pointer (some ⟨b, 0, none⟩), .slice a n cap] w
      fun e w' => e = .returned (.tuple #[.int .i64 (n : Int), .nilIface]) ∧ Eqv (w.setRow b ((s.absorb l).cells ib)) w' := by
  have hc := write_any w b t s ib h hs hq a cap n l hn ha
  have HC := Lib.hid hc
  clear hc h hs hq hn ha
  go_enter Try.func44, Try.ntmps44
  go_wp2_with (first | (go_at_call 53; go_in) | (go_at_call 62; go_in))
  refine HC.out.mono ?_
  rintro e w' ⟨rfl, hq⟩
  go_wp2
  go_ret2
  exact ⟨rfl, hq⟩

set_option maxRecDepth 100000 in
theorem fread_any (w : World) (b g : Nat) (t tO : TypeId) (s : Sp) (ib : Value) (h : Has w b t s ib) (hs : s.Ok)
    (n : Nat) (l0 : List UInt8) (hn : l0.length = n) (hmax : n ≤ 9223372036854775807) (hg : w.heap[g]? = some (.cells (l0.map BV).toArray tO (0, 0))) (hgb : g ≠ b) :
    Calls Try.prog 54 #[.pointer (some ⟨b, 0, none⟩), .slice (some ⟨g, 0, none⟩) n n] w
      fun e w' => e = .returned (.tuple #[.int .i64 (n : Int), .nilIface]) ∧ Eqv ((w.setRow b ((s.read n).cells ib)).setRow g ((s.out n).map BV).toArray) w' := by
  have hc := read_any w b g t tO s ib h hs n l0 hn hmax hg hgb
  have HC := Lib.hid hc
  have h68 := call_getIndicator
  have h69 := call_setIndicator
  clear hc h hs hn hg hgb
  go_enter Try.func54, Try.ntmps54
  go_wp2_with (first | (go_at_call 63; go_in) | (go_at_call 64; go_in))
  go_end0
  go_wp2_with (first | (go_at_call 63; go_in) | (go_at_call 64; go_in))
  refine HC.out.mono ?_
  rintro e w' ⟨rfl, hq⟩
  go_wp2
  go_ret2
  exact ⟨rfl, hq⟩

/-- a SHAKE in memory, or the zero value, which is SHAKE256 at its start -/
def Shk (w : World) (b : Nat) (s : Sp) (ib : Value) : Prop :=
  (Has w b 71 s ib ∧ 0 < s.ol) ∨ (Has w b 71 spZ nilS ∧ s = sp0 136 31 64 ∧ ib = nilS)

theorem Shk.size {w : World} {b : Nat} {s : Sp} {ib : Value} (h : Shk w b s ib) : b < w.heap.size := by
  rcases h with ⟨h, _⟩ | ⟨h, _, _⟩ <;> exact h.size
theorem Shk.of {w : World} {b : Nat} {s : Sp} {ib : Value} (h : Has w b 71 s ib) (ho : 0 < s.ol) : Shk w b s ib := .inl ⟨h, ho⟩
/-- another block turns -/
theorem Shk.keep {w w' : World} {b : Nat} {s : Sp} {ib : Value} (h : Shk w b s ib) (hb : w'.heap[b]? = w.heap[b]?) : Shk w' b s ib := by
  unfold Shk Has at *
  rw [hb]
  exact h

theorem init_any (w : World) (b : Nat) (s : Sp) (ib : Value) (h : Shk w b s ib) (hs : s.Ok) :
    Calls Try.prog 43 #[.pointer (some ⟨b, 0, none⟩)] w fun e w' => e = .returned (.tuple #[]) ∧ Has w' b 71 s ib ∧ Mod b w w' := by
  rcases h with ⟨h, ho⟩ | ⟨h, h1, h2⟩
  · exact (init_done w b 71 s ib h hs.len ho).mono fun e w' ⟨he, hw⟩ => ⟨he, by rw [← hw]; exact h, by rw [← hw]; exact Mod.refl _ _⟩
  · rw [h1, h2]
    exact init_zero w b h

theorem Lies.mod {w w' : World} {b : Nat} (h : Mod b w w') {q : Addr} {l : List UInt8} (hl : Lies w q l) (hne : q.block ≠ b) : Lies w' q l := by
  intro j x hj
  have hc := hl j x hj
  have hlt : q.block < w.heap.size := by
    have := block_lt_of_cell hc
    unfold Addr.add at this
    split at this <;> exact this
  have e := h.block q.block hlt hne
  have : w'.cell? (q.add j) = w.cell? (q.add j) := by
    unfold World.cell?
    have : (q.add j).block = q.block := by unfold Addr.add; split <;> rfl
    rw [this, e]
  rw [this]
  exact hc
theorem Arg.mod {w w' : World} {b : Nat} (h : Mod b w w') {a : Option Addr} {cap : Nat} {l : List UInt8} (ha : Arg w b a cap l) : Arg w' b a cap l := by
  obtain ⟨h1, h2, h3⟩ := ha
  refine ⟨h1, h2, h3.imp (fun x => x) ?_⟩
  rintro ⟨pb, po, e, hne, hl⟩
  exact ⟨pb, po, e, hne, hl.mod h hne⟩

set_option maxRecDepth 100000 in
theorem swrite_any (w : World) (b : Nat) (s : Sp) (ib : Value) (h : Shk w b s ib) (hs : s.Ok) (hq : s.sq = false)
    (a : Option Addr) (cap n : Nat) (l : List UInt8) (hn : l.length = n) (ha : Arg w b a cap l) :
    Calls Try.prog 33 #[.pointer (some ⟨b, 0, none⟩), .slice a n cap] w
      fun e w' => e = .returned (.tuple #[.int .i64 (n : Int), .nilIface]) ∧ Has w' b 71 (s.absorb l) ib ∧ Mod b w w' := by
  have hc := init_any w b s ib h hs
  have HC := Lib.hid hc
  clear hc h
  go_enter Try.func33, Try.ntmps33
  go_wp2_with fail
  refine HC.out.mono ?_
  rintro e w1 ⟨rfl, h1, hm⟩
  have h2 := fwrite_any w1 b 71 s ib h1 hs hq a cap n l hn (ha.mod hm)
  have H2 := Lib.hid h2
  clear h2
  go_wp2_with fail
  refine H2.out.mono ?_
  rintro e w2 ⟨rfl, h3⟩
  go_wp2_with fail
  go_ret2
  exact ⟨rfl, h3.has (h1.setRow _ _), (hm.setRow _).eqv h3⟩

/-- blocks b and g may have turned; below the old end no other has -/
structure Mod2 (b g : Nat) (w w' : World) : Prop where
  os : w'.os = w.os
  tape : w'.tape = w.tape
  output : w'.output = w.output
  size : w.heap.size ≤ w'.heap.size
  block : ∀ k, k < w.heap.size → k ≠ b → k ≠ g → w'.heap[k]? = w.heap[k]?

set_option maxRecDepth 100000 in
theorem sread_any (w : World) (b g : Nat) (tO : TypeId) (s : Sp) (ib : Value) (h : Shk w b s ib) (hs : s.Ok)
    (n : Nat) (l0 : List UInt8) (hn : l0.length = n) (hmax : n ≤ 9223372036854775807) (hg : w.heap[g]? = some (.cells (l0.map BV).toArray tO (0, 0))) (hgb : g ≠ b) :
    Calls Try.prog 45 #[.pointer (some ⟨b, 0, none⟩), .slice (some ⟨g, 0, none⟩) n n] w
      fun e w' => e = .returned (.tuple #[.int .i64 (n : Int), .nilIface]) ∧ Has w' b 71 (s.read n) ib ∧ w'.heap[g]? = some (.cells ((s.out n).map BV).toArray tO (0, 0)) ∧ Mod2 b g w w' := by
  have hc := init_any w b s ib h hs
  have HC := Lib.hid hc
  have HG := Lib.hid hg
  have hgl : g < w.heap.size := (Array.getElem?_eq_some_iff.1 hg).1
  clear hc h hg
  go_enter Try.func45, Try.ntmps45
  go_wp2_with fail
  refine HC.out.mono ?_
  rintro e w1 ⟨rfl, h1, hm⟩
  have hg1 : w1.heap[g]? = some (.cells (l0.map BV).toArray tO (0, 0)) := (hm.block g hgl hgb).trans HG.out
  have h2 := fread_any w1 b g 71 tO s ib h1 hs n l0 hn hmax hg1 hgb
  have H2 := Lib.hid h2
  have HG1 := Lib.hid hg1
  clear h2 hg1
  go_wp2_with fail
  refine H2.out.mono ?_
  rintro e w2 ⟨rfl, h3⟩
  go_wp2_with fail
  go_ret2
  have hs1 : Has (w1.setRow b ((s.read n).cells ib)) b 71 (s.read n) ib := h1.setRow _ _
  have hg2 : (w1.setRow b ((s.read n).cells ib)).heap[g]? = some (.cells (l0.map BV).toArray tO (0, 0)) := by rw [setRow_other _ _ _ _ hgb]; exact HG1.out
  refine ⟨rfl, h3.has ?_, ?_, ?_⟩
  · unfold Has
    rw [setRow_other _ _ _ _ (Ne.symm hgb)]
    exact hs1
  · rw [h3.heap]
    exact setRow_heap _ g _ _ tO _ hg2
  · refine ⟨h3.os.trans hm.os, h3.tape.trans hm.tape, h3.output.trans hm.output, ?_, fun k hk hb hg => ?_⟩
    · rw [h3.heap, size_setRow, size_setRow]; exact hm.size
    · rw [h3.heap, setRow_other _ _ _ _ hg, setRow_other _ _ _ _ hb]; exact hm.block k hk hb

theorem info5 : (Try.prog.info? 5).map (fun i => (i.zero, i.size, i.bytes)) = some (some (.int .u8 0), 1, 1) := by kernel_rfl

def zeros (k : Nat) : List UInt8 := List.replicate k 0
theorem zeros_len (k : Nat) : (zeros k).length = k := by simp [zeros]
theorem made_zeros (k : Nat) : madeCells #[.int .u8 0] k = ((zeros k).map BV).toArray := by
  apply Array.toList_inj.1
  simp only [madeCells, zeros, List.map_replicate]
  apply List.ext_getElem
  · simp
  · intro i h1 h2
    simp [BV, Nat.mod_one]

/-- make of bytes -/
theorem run_make22 (l c : Int) (kl kc : Nat) (hl : l = (kl : Int)) (hc : c = (kc : Int)) (hlc : kl ≤ kc) (hm : kc ≤ 281474976710656) (u : World) :
    (Instr.makeSlice 22 (.int .i64 l) (.int .i64 c)).run Try.prog u = .ok (.slice (some ⟨u.heap.size, 0, none⟩) kl kc) (u.alloc (.cells ((zeros kc).map BV).toArray 5)) := by
  obtain ⟨i0, hi, hz0, hz1, hz2⟩ := info_parts info5
  have h := run_make (P := Try.prog) u 22 5 i0 (.int .u8 0) Try.underlying22 hi hz0 .i64 .i64 l c (by omega) (by omega) (by rw [hz2]; omega) (by omega)
  rw [h, hl, hc]
  simp only [Int.toNat_natCast, hz1, Nat.mul_one, Value.cells, made_zeros]

def rdLen (n : Int) : Nat := (min (max n 0) 4096).toNat
theorem rdLen_le (n : Int) : rdLen n ≤ 4096 := by unfold rdLen; omega
theorem rdLen_cases (n : Int) : (n < 0 ∧ rdLen n = 0) ∨ (0 ≤ n ∧ n ≤ 4096 ∧ (n = (rdLen n : Int))) ∨ (4096 < n ∧ rdLen n = 4096) := by
  unfold rdLen; omega

set_option maxRecDepth 100000 in
theorem rd_any (w : World) (b : Nat) (s : Sp) (ib : Value) (h : Shk w b s ib) (hs : s.Ok) (n : Int) (k : Nat) (hk : k = rdLen n) :
    Calls Try.prog 34 #[.pointer (some ⟨b, 0, none⟩), .int .i64 n] w fun e w' => e = .returned (.slice (some ⟨w.heap.size, 0, none⟩) k k) ∧
      Has w' b 71 (s.read k) ib ∧ w'.heap[w.heap.size]? = some (.cells ((s.out k).map BV).toArray 5 (0, 0)) ∧ Mod b w w' := by
  have hk4 := rdLen_le n
  rw [← hk] at hk4
  have hb := h.size
  obtain ⟨w1, hw1⟩ : ∃ w1, w1 = w.alloc (.cells ((zeros k).map BV).toArray 5) := ⟨_, rfl⟩
  have h1 : Shk w1 b s ib := h.keep (by rw [hw1]; exact Below.heap_alloc _ _ _ hb)
  have hg1 : w1.heap[w.heap.size]? = some (.cells ((zeros k).map BV).toArray 5 (0, 0)) := by rw [hw1]; exact heap_alloc_new _ _
  have hc := sread_any w1 b w.heap.size 5 s ib h1 hs k (zeros k) (zeros_len k) (by omega) hg1 (by omega)
  have hm1 : Mod b w w1 := by rw [hw1]; exact (Mod.refl _ _).alloc _
  have hsz : w1.heap.size = w.heap.size + 1 := by rw [hw1]; simp
  have HC := Lib.hid hc
  have HW1 := Lib.hid hw1
  have HS := Lib.hid hsz
  have mk : ∀ l : Int, l = (k : Int) → (Instr.makeSlice 22 (.int .i64 l) (.int .i64 l)).run Try.prog w = .ok (.slice (some ⟨w.heap.size, 0, none⟩) k k) w1 := fun l hl => by
    rw [hw1]; exact run_make22 l l k k hl hl (Nat.le_refl _) (by omega) w
  clear hc hg1 h1 hsz
  rcases rdLen_cases n with ⟨c1, e⟩ | ⟨c1, c2, e⟩ | ⟨c1, e⟩
  all_goals
    first
      | have mk' := mk n (by omega)
      | have mk' := mk 0 (by omega)
      | have mk' := mk 4096 (by omega)
    have HK := Lib.hid hk
    clear mk hk hw1 e
    go_enter Try.func34, Try.ntmps34
    go_wp2_with fail
    refine HC.out.mono ?_
    rintro e w2 ⟨rfl, h2, h3, h4⟩
    have H3 := Lib.hid h3
    clear h3
    go_wp2_with fail
    go_ret
    refine ⟨rfl, h2, H3.out, h4.os.trans hm1.os, h4.tape.trans hm1.tape, h4.output.trans hm1.output, Nat.le_trans hm1.size h4.size, fun i hi hib => ?_⟩
    exact (h4.block i (by rw [HS.out]; omega) hib (by omega)).trans (hm1.block i hi hib)
end Go.Proofs.Ythemhpefcfdcaaa
