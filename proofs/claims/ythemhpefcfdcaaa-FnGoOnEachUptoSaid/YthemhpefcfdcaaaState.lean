/- impl.state: the saved state of a SHAKE, with its first block. -/
import Derived.Test.YthemhpefcfdcaaaSave
namespace Go.Proofs.Ythemhpefcfdcaaa
open Go.RowKit
set_option linter.unusedVariables false

set_option maxRecDepth 100000 in
set_option maxHeartbeats 1000000 in
theorem fappend_any (w : World) (b g K q Ki : Nat) (t : TypeId) (s : Sp) (ai : Option Addr) (l : List UInt8) (h : Has w b t s (.slice ai q Ki)) (hs : s.Ok) (hds : s.ds = 31 ∨ s.ds = 4) (hl : l.length = q)
    (hi : l = [] ∨ ∃ gi, ai = some ⟨gi, 0, none⟩ ∧ gi ≠ g ∧ Lies w ⟨gi, 0, none⟩ l) (hg : w.heap[g]? = some (.cells ((zeros K).map BV).toArray 5 (0, 0))) (hgb : g ≠ b) (hK : 207 + q ≤ K) :
    Calls Try.prog 65 #[.pointer (some ⟨b, 0, none⟩), .slice (some ⟨g, 0, none⟩) 0 K] w fun e w' => e = .returned (.tuple #[.slice (some ⟨g, 0, none⟩) (207 + q) K, .nilIface]) ∧ Sav w w' b g K t s (.slice ai q Ki) (marsh s ++ l) (207 + q) := by
  have HC := Lib.hid (dappend_any w b g K t s _ h hs hds hg hgb (by omega))
  have hlen := hs.len
  clear hg h
  go_enter Try.func65, Try.ntmps65
  go_wp2_with fail
  refine HC.out.mono ?_
  rintro e w1 ⟨rfl, S1⟩
  have c5 := (S1.has.fields hlen).2.2.2.2.2
  have hi1 : l = [] ∨ ∃ q, ai = some q ∧ Lies w1 q l := hi.imp (fun x => x) (fun ⟨gi, e, hne, hl⟩ => ⟨_, e, hl.mod S1.mod hne⟩)
  obtain ⟨w2, hap, S2⟩ := S1.app l q Ki ai 22 (207 + q) hl rfl hK hi1
  have HAP := Lib.hid hap
  clear hap hi1 hl hlen HC
  go_wp2_with (refine wpList_appendR rfl _ _ _ rfl _ _ rfl rfl _ _ HAP.out ?_; clear HAP)
  go_ret2
  exact ⟨rfl, S2⟩

set_option maxRecDepth 100000 in
set_option maxHeartbeats 1000000 in
theorem fmarshal_any (w : World) (b q Ki : Nat) (t : TypeId) (s : Sp) (ai : Option Addr) (l : List UInt8) (h : Has w b t s (.slice ai q Ki)) (hs : s.Ok) (hds : s.ds = 31 ∨ s.ds = 4) (hl : l.length = q)
    (hi : l = [] ∨ ∃ gi, ai = some ⟨gi, 0, none⟩ ∧ gi < w.heap.size ∧ Lies w ⟨gi, 0, none⟩ l) (hq : 207 + q ≤ 281474976710656) :
    Calls Try.prog 55 #[.pointer (some ⟨b, 0, none⟩)] w fun e w' => e = .returned (.tuple #[.slice (some ⟨w.heap.size, 0, none⟩) (207 + q) (207 + q), .nilIface]) ∧ w'.heap[w.heap.size]? = some (.cells ((marsh s ++ l).map BV).toArray 5 (0, 0)) ∧ Below w.heap.size w w' := by
  have hb := h.size
  have mk := run_make22 0 (207 + (q : Int)) 0 (207 + q) rfl (by omega) (Nat.zero_le _) hq w
  obtain ⟨w1, hw1⟩ : ∃ w1, w1 = w.alloc (.cells ((zeros (207 + q)).map BV).toArray 5) := ⟨_, rfl⟩
  have hg1 : w1.heap[w.heap.size]? = some (.cells ((zeros (207 + q)).map BV).toArray 5 (0, 0)) := by rw [hw1]; exact heap_alloc_new _ _
  have h1 : Has w1 b t s (.slice ai q Ki) := by rw [hw1]; exact h.alloc _
  have bl1 : Below w.heap.size w w1 := by rw [hw1]; exact (Below.refl _ _).alloc (Nat.le_refl _) _
  have hs1 := bl1.size
  have hi1 : l = [] ∨ ∃ gi, ai = some ⟨gi, 0, none⟩ ∧ gi ≠ w.heap.size ∧ Lies w1 ⟨gi, 0, none⟩ l := hi.imp (fun x => x) (fun ⟨gi, e, hlt, hl⟩ => ⟨gi, e, by omega, hl.below bl1 hlt⟩)
  have HC := Lib.hid (fappend_any w1 b w.heap.size (207 + q) q Ki t s ai l h1 hs hds hl hi1 hg1 (by omega) (Nat.le_refl _))
  rw [← hw1] at mk
  have c5 := (h.fields hs.len).2.2.2.2.2
  have HL := Lib.hid hl
  have hlen := hs.len
  have HLEN := Lib.hid hlen
  have w1e : IntKind.i64.wrap (207 + (q : Int)) = 207 + (q : Int) := IntWalk.i64_in _ (by omega)
  clear hw1 hg1 h1 hi1 hi hl hlen h
  go_enter Try.func55, Try.ntmps55
  go_wp2_with fail
  try (rw [mk]; simp only [Result.andThen_ok]; go_wp2_with fail)
  refine HC.out.mono ?_
  rintro e w2 ⟨rfl, S2⟩
  have hrow := S2.row
  rw [Nat.sub_self] at hrow
  have hm := S2.mod
  have bl2 : Below w.heap.size w w2 := bl1.trans ⟨hm.os, hm.tape, hm.output, hm.size, fun k hk => hm.block k (by omega) (by omega)⟩
  have HR := Lib.hid hrow
  clear S2 hm hrow mk HC c5
  go_wp2_with fail
  go_ret2
  refine ⟨rfl, ?_, bl2⟩
  rw [HR.out]; simp [zeros]

theorem IbIs.parts {w : World} {base : Nat} {ib : Value} {l : List UInt8} (h : IbIs w base ib l) :
    ∃ ai Ki, ib = .slice ai l.length Ki ∧ (l = [] ∨ ∃ gi, ai = some ⟨gi, 0, none⟩ ∧ gi < w.heap.size ∧ Lies w ⟨gi, 0, none⟩ l) := by
  rcases h with ⟨rfl, rfl⟩ | ⟨g, K, h1, h2, h3, h4, h5⟩
  · exact ⟨none, 0, rfl, .inl rfl⟩
  · refine ⟨_, K, h2, .inr ⟨g, rfl, (Array.getElem?_eq_some_iff.1 h5).1, fun j x hj => ?_⟩⟩
    have := lies_row h5 0 j x (by rw [List.drop_zero, List.getElem?_append_left (List.getElem?_eq_some_iff.1 hj).1]; exact hj)
    exact this
/-- the first block stays where all blocks of bytes stay -/
theorem IbIs.keep5 {w w' : World} {base : Nat} {ib : Value} {l : List UInt8} (h : IbIs w base ib l) (hk : ∀ (g : Nat) (c : Array Value), w.heap[g]? = some (.cells c 5 (0, 0)) → w'.heap[g]? = w.heap[g]?) : IbIs w' base ib l := by
  rcases h with h | ⟨g, K, h1, h2, h3, h4, h5⟩
  · exact .inl h
  · exact .inr ⟨g, K, h1, h2, h3, h4, by rw [hk g _ h5]; exact h5⟩
theorem Shk.type5 {w : World} {b : Nat} {s : Sp} {ib : Value} (h : Shk w b s ib) (c : Array Value) : w.heap[b]? ≠ some (.cells c 5 (0, 0)) := by
  intro e
  rcases h with ⟨h, _⟩ | ⟨h, _⟩ <;> (unfold Has at h; rw [h] at e; simp at e)
theorem IbIs.mod {w w' : World} {base b : Nat} {s : Sp} {ib ib' : Value} {l : List UInt8} (h : IbIs w base ib l) (hs : Shk w b s ib') (hm : Mod b w w') : IbIs w' base ib l :=
  h.keep5 fun g c hc => hm.block g (Array.getElem?_eq_some_iff.1 hc).1 (fun e => hs.type5 c (by rw [← e]; exact hc))

set_option maxRecDepth 100000 in
theorem marshal_any (w : World) (b q base : Nat) (s : Sp) (ib : Value) (l : List UInt8) (h : Shk w b s ib) (hs : s.Ok) (hds : s.ds = 31 ∨ s.ds = 4) (hl : l.length = q) (hi : IbIs w base ib l) (hq : 207 + q ≤ 281474976710656) :
    Calls Try.prog 46 #[.pointer (some ⟨b, 0, none⟩)] w fun e w' => ∃ g, e = .returned (.tuple #[.slice (some ⟨g, 0, none⟩) (207 + q) (207 + q), .nilIface]) ∧ w.heap.size ≤ g ∧ Has w' b 71 s ib ∧ w'.heap[g]? = some (.cells ((marsh s ++ l).map BV).toArray 5 (0, 0)) ∧ Mod b w w' := by
  have HC := Lib.hid (init_any w b s ib h hs)
  go_enter Try.func46, Try.ntmps46
  go_wp2_with fail
  refine HC.out.mono ?_
  rintro e w1 ⟨rfl, h1, m1⟩
  obtain ⟨ai, Ki, e1, hi1⟩ := (hi.mod h m1).parts
  rw [hl] at e1
  subst e1
  have h2 := fmarshal_any w1 b q Ki 71 s ai l h1 hs hds hl hi1 hq
  have H2 := Lib.hid h2
  have hb1 := h1.size
  clear h2 HC
  go_wp2_with fail
  refine H2.out.mono ?_
  rintro e w2 ⟨rfl, hg2, bl2⟩
  have HG := Lib.hid hg2
  clear hg2
  go_wp2_with fail
  go_ret2
  refine ⟨w1.heap.size, rfl, m1.size, ?_, HG.out, m1.trans ⟨bl2.os, bl2.tape, bl2.output, bl2.size, fun k hk _ => bl2.block k hk⟩⟩
  unfold Has; rw [bl2.block b hb1]; exact h1

set_option maxRecDepth 100000 in
theorem state_any (w : World) (b q base : Nat) (s : Sp) (ib : Value) (l : List UInt8) (h : Shk w b s ib) (hs : s.Ok) (hds : s.ds = 31 ∨ s.ds = 4) (hl : l.length = q) (hi : IbIs w base ib l) (hq : 207 + q ≤ 281474976710656) :
    Calls Try.prog 35 #[.pointer (some ⟨b, 0, none⟩)] w fun e w' => ∃ g, e = .returned (.slice (some ⟨g, 0, none⟩) (207 + q) (207 + q)) ∧ w.heap.size ≤ g ∧ Has w' b 71 s ib ∧ w'.heap[g]? = some (.cells ((marsh s ++ l).map BV).toArray 5 (0, 0)) ∧ Mod b w w' := by
  have HC := Lib.hid (marshal_any w b q base s ib l h hs hds hl hi hq)
  clear h hi hl hds
  go_enter Try.func35, Try.ntmps35
  go_wp2_with fail
  refine HC.out.mono ?_
  rintro e w1 ⟨g, rfl, h1, h2, h3, h4⟩
  have H3 := Lib.hid h3
  clear h3
  go_wp2_with fail
  go_ret
  exact ⟨g, rfl, h1, h2, H3.out, h4⟩
end Go.Proofs.Ythemhpefcfdcaaa
