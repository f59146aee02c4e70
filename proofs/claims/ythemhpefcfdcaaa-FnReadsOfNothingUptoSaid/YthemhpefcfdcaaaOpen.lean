/- How each kind is opened. -/
import Derived.Test.YthemhpefcfdcaaaInit
namespace Go.Proofs.Ythemhpefcfdcaaa
open Go.RowKit
set_option linter.unusedVariables false

/-- a cSHAKE at its start -/
def cst (rate ol : Nat) (N S : List UInt8) : Sp := if N.length = 0 ∧ S.length = 0 then sp0 rate 31 ol else bytepad (sp0 rate 4 ol) rate (initB N S)
def cib (N S : List UInt8) : List UInt8 := if N.length = 0 ∧ S.length = 0 then [] else initB N S

/-- the slice ib is the bytes l, in a block from base on -/
def IbIs (w : World) (base : Nat) (ib : Value) (l : List UInt8) : Prop :=
  (ib = nilS ∧ l = []) ∨ ∃ g K, base ≤ g ∧ ib = .slice (some ⟨g, 0, none⟩) l.length K ∧ l.length ≤ K ∧ K ≤ 281474976710656 ∧ w.heap[g]? = some (.cells ((l ++ zeros (K - l.length)).map BV).toArray 5 (0, 0))

theorem initB_le (N S : List UInt8) (hN : N.length ≤ 140737488355328) (hS : S.length ≤ 140737488355328) : (initB N S).length ≤ 18 + N.length + S.length := by
  have h1 := encN_bd (N.length * 8) (by omega)
  have h2 := encN_bd (S.length * 8) (by omega)
  have h3 := lenc_len (N.length * 8) (by omega)
  have h4 := lenc_len (S.length * 8) (by omega)
  simp only [initB, List.length_append]
  omega

theorem spZ_has_alloc (w : World) (D : Array Value) (hD : D = (dig0 (.int .i64 0) (BV 0) (.int .i64 0)).push nilS) (t : TypeId) : Has (w.alloc (.cells D t)) w.heap.size t spZ nilS := by
  unfold Has
  rw [hD, show (dig0 (.int .i64 0) (BV 0) (.int .i64 0)).push nilS = spZ.cells nilS from cells_sp0 0 0 0]
  exact heap_alloc_new _ _

set_option maxRecDepth 100000 in
set_option maxHeartbeats 1000000 in
theorem newc128_e (w : World) (b : Nat) (h : Has w b 69 spZ nilS) (aN aS : Option Addr) (cN cS : Nat) :
    Calls Try.prog 59 #[.pointer (some ⟨b, 0, none⟩), .slice aN 0 cN, .slice aS 0 cS] w fun e w' => e = .returned (.pointer (some ⟨b, 0, none⟩)) ∧ Has w' b 69 (sp0 168 31 32) nilS ∧ Mod b w w' := by
  obtain ⟨D, hD⟩ : ∃ D, D = (sp0 168 31 32).cells nilS := ⟨_, rfl⟩
  have hsz : D.size = 206 := by rw [hD]; exact cells_size _ _ zs200_len
  have hc := new128_f w D hD
  have hi : (Try.prog.info? 69).map (·.size) = some D.size := by rw [hsz]; kernel_rfl
  have hg := heap_alloc_new w (.cells D 69)
  have hb : (w.alloc (.cells D 69)).heap[b]? = some (.cells (spZ.cells nilS) 69 (0, 0)) := h.alloc _
  have h1 : ∀ v ∈ D.toList, v.oneCell' = true := by rw [hD]; exact cells_one _ _ rfl
  have hm : Mod b w (w.alloc (.cells D 69)) := (Mod.refl b w).alloc _
  have hle : D.size ≤ (spZ.cells nilS).size := by rw [hsz, cells_size _ _ zs200_len]; exact Nat.le_refl _
  have hdr : (D.toList ++ (spZ.cells nilS).toList.drop D.size).toArray = D := by
    rw [List.drop_of_length_le (by rw [Array.length_toList, hsz, cells_size _ _ zs200_len]; exact Nat.le_refl _)]
    simp
  have hbad : Hid (D = (sp0 168 31 32).cells nilS) := hD
  have HC := Lib.hid hc
  have HI := Lib.hid hi
  have HDR := Lib.hid hdr
  have H1 := Lib.hid h1
  have HB := Lib.hid hb
  have HG := Lib.hid hg
  have HL := Lib.hid hle
  clear hc hsz hD hi h1 hdr hb hg hle
  go_enter Try.func59, Try.ntmps59
  go_wp2_with fail
  refine HC.out.mono ?_
  rintro e w' ⟨rfl, rfl⟩
  go_wp2_with (first | (refine wpList_load_row rfl 69 _ rfl w.heap.size rfl 69 D (0, 0) _ HG.out Try.underlying69 rfl HI.out ?_) | (refine wpList_store_row rfl 69 _ _ rfl b (by simp [Act.eval, Act.put]) D (spZ.cells nilS) (by simp [Act.eval, Act.put]) 69 HB.out HL.out HI.out H1.out ?_))
  go_ret
  rw [HDR.out]
  refine ⟨rfl, ?_, hm.setRow _⟩
  have e := setRow_heap _ b _ D 69 _ HB.out
  unfold Has
  rw [e, hbad.out]

set_option maxRecDepth 100000 in
set_option maxHeartbeats 1000000 in
theorem newc128_any (w : World) (b : Nat) (h : Has w b 69 spZ nilS) (aN aS : Option Addr) (cN cS n m : Nat) (N S : List UInt8) (hn : N.length = n) (hm : S.length = m) (hN : Arg w b aN cN N) (hS : Arg w b aS cS S)
    (hnb : n ≤ 140737488355328) (hmb : m ≤ 140737488355328) (hsum : 18 + n + m ≤ 281474976710656) :
    Calls Try.prog 59 #[.pointer (some ⟨b, 0, none⟩), .slice aN n cN, .slice aS m cS] w fun e w' => e = .returned (.pointer (some ⟨b, 0, none⟩)) ∧
      ∃ ib, Has w' b 69 (cst 168 32 N S) ib ∧ IbIs w' w.heap.size ib (cib N S) ∧ Mod b w w' := by
  by_cases h0 : N.length = 0 ∧ S.length = 0
  · obtain ⟨h1, h2⟩ := h0
    have e1 : n = 0 := by omega
    have e2 : m = 0 := by omega
    subst e1 e2
    refine (newc128_e w b h aN aS cN cS).mono fun e w' ⟨he, hh, hm⟩ => ⟨he, nilS, ?_, ?_, hm⟩
    · unfold cst; rw [if_pos ⟨h1, h2⟩]; exact hh
    · unfold cib; rw [if_pos ⟨h1, h2⟩]; exact .inl ⟨rfl, rfl⟩
  · have hc := cshake_any w b h aN aS cN cS n m N S hn hm hN hS hnb hmb hsum 168 32 4 (by omega) (by omega)
    have hc' : Calls Try.prog 66 #[.pointer (some ⟨b, 0, none⟩), .slice aN n cN, .slice aS m cS, .int .i64 168, .int .i64 32, .int .u8 4] w fun e w' => e = .returned (.pointer (some ⟨b, 0, none⟩)) ∧
      ∃ ib, Has w' b 69 (cst 168 32 N S) ib ∧ IbIs w' w.heap.size ib (cib N S) ∧ Mod b w w' := by
      refine Calls.mono hc fun e w' ⟨he, g, K, hg, hK, hl, hh, hr, hm⟩ => ⟨he, .slice (some ⟨g, 0, none⟩) (initB N S).length K, ?_, ?_, hm⟩
      · unfold cst; rw [if_neg h0]; exact hh
      · unfold cib; rw [if_neg h0]
        exact .inr ⟨g, K, hg, rfl, hl, hK, hr⟩
    have HC := Lib.hid hc'
    clear hc hc' hN hS h
    by_cases hz : n = 0
    · have hz1 : ¬ m = 0 := by omega
      subst hz
      have b2 : ((m : Int) == 0) = false := by simp; omega
      go_enter Try.func59, Try.ntmps59
      go_wp2_with fail
      refine HC.out.mono ?_
      rintro e w' ⟨rfl, hh⟩
      go_wp2_with fail
      go_ret
      exact ⟨rfl, hh⟩
    · have b1 : ((n : Int) == 0) = false := by simp; omega
      go_enter Try.func59, Try.ntmps59
      go_wp2_with fail
      refine HC.out.mono ?_
      rintro e w' ⟨rfl, hh⟩
      go_wp2_with fail
      go_ret
      exact ⟨rfl, hh⟩

set_option maxRecDepth 100000 in
set_option maxHeartbeats 1000000 in
theorem newc256_e (w : World) (b : Nat) (h : Has w b 69 spZ nilS) (aN aS : Option Addr) (cN cS : Nat) :
    Calls Try.prog 60 #[.pointer (some ⟨b, 0, none⟩), .slice aN 0 cN, .slice aS 0 cS] w fun e w' => e = .returned (.pointer (some ⟨b, 0, none⟩)) ∧ Has w' b 69 (sp0 136 31 64) nilS ∧ Mod b w w' := by
  obtain ⟨D, hD⟩ : ∃ D, D = (sp0 136 31 64).cells nilS := ⟨_, rfl⟩
  have hsz : D.size = 206 := by rw [hD]; exact cells_size _ _ zs200_len
  have hc := new256_f w D hD
  have hi : (Try.prog.info? 69).map (·.size) = some D.size := by rw [hsz]; kernel_rfl
  have hg := heap_alloc_new w (.cells D 69)
  have hb : (w.alloc (.cells D 69)).heap[b]? = some (.cells (spZ.cells nilS) 69 (0, 0)) := h.alloc _
  have h1 : ∀ v ∈ D.toList, v.oneCell' = true := by rw [hD]; exact cells_one _ _ rfl
  have hm : Mod b w (w.alloc (.cells D 69)) := (Mod.refl b w).alloc _
  have hle : D.size ≤ (spZ.cells nilS).size := by rw [hsz, cells_size _ _ zs200_len]; exact Nat.le_refl _
  have hdr : (D.toList ++ (spZ.cells nilS).toList.drop D.size).toArray = D := by
    rw [List.drop_of_length_le (by rw [Array.length_toList, hsz, cells_size _ _ zs200_len]; exact Nat.le_refl _)]
    simp
  have hbad : Hid (D = (sp0 136 31 64).cells nilS) := hD
  have HC := Lib.hid hc
  have HI := Lib.hid hi
  have HDR := Lib.hid hdr
  have H1 := Lib.hid h1
  have HB := Lib.hid hb
  have HG := Lib.hid hg
  have HL := Lib.hid hle
  clear hc hsz hD hi h1 hdr hb hg hle
  go_enter Try.func60, Try.ntmps60
  go_wp2_with fail
  refine HC.out.mono ?_
  rintro e w' ⟨rfl, rfl⟩
  go_wp2_with (first | (refine wpList_load_row rfl 69 _ rfl w.heap.size rfl 69 D (0, 0) _ HG.out Try.underlying69 rfl HI.out ?_) | (refine wpList_store_row rfl 69 _ _ rfl b (by simp [Act.eval, Act.put]) D (spZ.cells nilS) (by simp [Act.eval, Act.put]) 69 HB.out HL.out HI.out H1.out ?_))
  go_ret
  rw [HDR.out]
  refine ⟨rfl, ?_, hm.setRow _⟩
  have e := setRow_heap _ b _ D 69 _ HB.out
  unfold Has
  rw [e, hbad.out]

set_option maxRecDepth 100000 in
set_option maxHeartbeats 1000000 in
theorem newc256_any (w : World) (b : Nat) (h : Has w b 69 spZ nilS) (aN aS : Option Addr) (cN cS n m : Nat) (N S : List UInt8) (hn : N.length = n) (hm : S.length = m) (hN : Arg w b aN cN N) (hS : Arg w b aS cS S)
    (hnb : n ≤ 140737488355328) (hmb : m ≤ 140737488355328) (hsum : 18 + n + m ≤ 281474976710656) :
    Calls Try.prog 60 #[.pointer (some ⟨b, 0, none⟩), .slice aN n cN, .slice aS m cS] w fun e w' => e = .returned (.pointer (some ⟨b, 0, none⟩)) ∧
      ∃ ib, Has w' b 69 (cst 136 64 N S) ib ∧ IbIs w' w.heap.size ib (cib N S) ∧ Mod b w w' := by
  by_cases h0 : N.length = 0 ∧ S.length = 0
  · obtain ⟨h1, h2⟩ := h0
    have e1 : n = 0 := by omega
    have e2 : m = 0 := by omega
    subst e1 e2
    refine (newc256_e w b h aN aS cN cS).mono fun e w' ⟨he, hh, hm⟩ => ⟨he, nilS, ?_, ?_, hm⟩
    · unfold cst; rw [if_pos ⟨h1, h2⟩]; exact hh
    · unfold cib; rw [if_pos ⟨h1, h2⟩]; exact .inl ⟨rfl, rfl⟩
  · have hc := cshake_any w b h aN aS cN cS n m N S hn hm hN hS hnb hmb hsum 136 64 4 (by omega) (by omega)
    have hc' : Calls Try.prog 66 #[.pointer (some ⟨b, 0, none⟩), .slice aN n cN, .slice aS m cS, .int .i64 136, .int .i64 64, .int .u8 4] w fun e w' => e = .returned (.pointer (some ⟨b, 0, none⟩)) ∧
      ∃ ib, Has w' b 69 (cst 136 64 N S) ib ∧ IbIs w' w.heap.size ib (cib N S) ∧ Mod b w w' := by
      refine Calls.mono hc fun e w' ⟨he, g, K, hg, hK, hl, hh, hr, hm⟩ => ⟨he, .slice (some ⟨g, 0, none⟩) (initB N S).length K, ?_, ?_, hm⟩
      · unfold cst; rw [if_neg h0]; exact hh
      · unfold cib; rw [if_neg h0]
        exact .inr ⟨g, K, hg, rfl, hl, hK, hr⟩
    have HC := Lib.hid hc'
    clear hc hc' hN hS h
    by_cases hz : n = 0
    · have hz1 : ¬ m = 0 := by omega
      subst hz
      have b2 : ((m : Int) == 0) = false := by simp; omega
      go_enter Try.func60, Try.ntmps60
      go_wp2_with fail
      refine HC.out.mono ?_
      rintro e w' ⟨rfl, hh⟩
      go_wp2_with fail
      go_ret
      exact ⟨rfl, hh⟩
    · have b1 : ((n : Int) == 0) = false := by simp; omega
      go_enter Try.func60, Try.ntmps60
      go_wp2_with fail
      refine HC.out.mono ?_
      rintro e w' ⟨rfl, hh⟩
      go_wp2_with fail
      go_ret
      exact ⟨rfl, hh⟩

/-- bytes in blocks below B -/
def Bs (B : Nat) (w : World) (a : Option Addr) (cap : Nat) (l : List UInt8) : Prop :=
  l.length ≤ cap ∧ cap ≤ 9223372036854775807 ∧ (l = [] ∨ ∃ pb po, a = some ⟨pb, po, none⟩ ∧ pb < B ∧ Lies w ⟨pb, po, none⟩ l)

theorem Lies.below {B : Nat} {w w' : World} (h : Below B w w') {q : Addr} {l : List UInt8} (hl : Lies w q l) (hq : q.block < B) : Lies w' q l := by
  intro j x hj
  rw [h.cell (p := q.add j) (by unfold Addr.add; split <;> exact hq)]
  exact hl j x hj
theorem Bs.keep {B : Nat} {w w' : World} (h : Below B w w') {a : Option Addr} {cap : Nat} {l : List UInt8} (ha : Bs B w a cap l) : Bs B w' a cap l := by
  obtain ⟨h1, h2, h3⟩ := ha
  refine ⟨h1, h2, h3.imp (fun x => x) ?_⟩
  rintro ⟨pb, po, e, hb, hl⟩
  exact ⟨pb, po, e, hb, hl.below h hb⟩
theorem Bs.arg {B : Nat} {w : World} {a : Option Addr} {cap : Nat} {l : List UInt8} (ha : Bs B w a cap l) {b : Nat} (hb : B ≤ b) : Arg w b a cap l := by
  obtain ⟨h1, h2, h3⟩ := ha
  refine ⟨h1, h2, h3.imp (fun x => x) ?_⟩
  rintro ⟨pb, po, e, hp, hl⟩
  exact ⟨pb, po, e, by omega, hl⟩
theorem Bs.mono {B B' : Nat} (hB : B ≤ B') {w : World} {a : Option Addr} {cap : Nat} {l : List UInt8} (ha : Bs B w a cap l) : Bs B' w a cap l := by
  obtain ⟨h1, h2, h3⟩ := ha
  refine ⟨h1, h2, h3.imp (fun x => x) ?_⟩
  rintro ⟨pb, po, e, hp, hl⟩
  exact ⟨pb, po, e, by omega, hl⟩
theorem Mod.below {b B : Nat} {w w' : World} (h : Mod b w w') (hb : B ≤ b) (hB : B ≤ w.heap.size) : Below B w w' :=
  ⟨h.os, h.tape, h.output, h.size, fun k hk => h.block k (by omega) (by omega)⟩

theorem IbIs.keep {w w' : World} {base : Nat} {ib : Value} {l : List UInt8} (h : IbIs w base ib l) (hk : ∀ g, base ≤ g → g < w.heap.size → w'.heap[g]? = w.heap[g]?) : IbIs w' base ib l := by
  rcases h with h | ⟨g, K, h1, h2, h3, h4, h5⟩
  · exact .inl h
  · exact .inr ⟨g, K, h1, h2, h3, h4, by rw [hk g h1 (Array.getElem?_eq_some_iff.1 h5).1]; exact h5⟩

set_option maxRecDepth 100000 in
set_option maxHeartbeats 1000000 in
theorem newcf128_any (w : World) (aN aS : Option Addr) (cN cS n m : Nat) (N S : List UInt8) (hn : N.length = n) (hm : S.length = m) (hN : Bs w.heap.size w aN cN N) (hS : Bs w.heap.size w aS cS S)
    (hnb : n ≤ 140737488355328) (hmb : m ≤ 140737488355328) (hsum : 18 + n + m ≤ 281474976710656) :
    Calls Try.prog 50 #[.slice aN n cN, .slice aS m cS] w fun e w' => e = .returned (.pointer (some ⟨w.heap.size, 0, none⟩)) ∧
      ∃ ib, Has w' w.heap.size 69 (cst 168 32 N S) ib ∧ IbIs w' (w.heap.size + 1) ib (cib N S) ∧ Below w.heap.size w w' := by
  obtain ⟨D, hD⟩ : ∃ D, D = (dig0 (.int .i64 0) (BV 0) (.int .i64 0)).push nilS := ⟨_, rfl⟩
  have hb0 : ∀ W, (Instr.build 69 #[]).run Try.prog W = .ok (.agg D) W := fun W => by rw [hD]; exact build69' W
  have h1 := spZ_has_alloc w D hD 69
  have m1 : Mod w.heap.size w (w.alloc (.cells D 69)) := (Mod.refl _ _).alloc _
  have bl : Below w.heap.size w (w.alloc (.cells D 69)) := m1.below (Nat.le_refl _) (Nat.le_refl _)
  have sz1 : (w.alloc (.cells D 69)).heap.size = w.heap.size + 1 := by simp
  have hN1 := (hN.keep bl).arg (b := w.heap.size) (Nat.le_refl _)
  have hS1 := (hS.keep bl).arg (b := w.heap.size) (Nat.le_refl _)
  have hc := newc128_any (w.alloc (.cells D 69)) w.heap.size h1 aN aS cN cS n m N S hn hm hN1 hS1 hnb hmb hsum
  rw [sz1] at hc
  have HC := Lib.hid hc
  have HB := Lib.hid hb0
  clear hc hb0 hN1 hS1 hN hS hD sz1 h1
  go_enter Try.func50, Try.ntmps50
  go_wp2_with (refine wpList_built rfl 69 _ rfl #[] (by simp) D (HB.out _) ?_)
  refine HC.out.mono ?_
  rintro e w2 ⟨rfl, ib, h2, hi, m2⟩
  go_wp2_with fail
  go_ret
  exact ⟨rfl, ib, h2, hi, (m1.trans m2).below (Nat.le_refl _) (Nat.le_refl _)⟩

set_option maxRecDepth 100000 in
set_option maxHeartbeats 1000000 in
theorem newcs128_any (w : World) (aN aS : Option Addr) (cN cS n m : Nat) (N S : List UInt8) (hn : N.length = n) (hm : S.length = m) (hN : Bs w.heap.size w aN cN N) (hS : Bs w.heap.size w aS cS S)
    (hnb : n ≤ 140737488355328) (hmb : m ≤ 140737488355328) (hsum : 18 + n + m ≤ 281474976710656) :
    Calls Try.prog 40 #[.slice aN n cN, .slice aS m cS] w fun e w' => ∃ b ib, e = .returned (.pointer (some ⟨b, 0, none⟩)) ∧ w.heap.size ≤ b ∧
      Has w' b 71 (cst 168 32 N S) ib ∧ IbIs w' w.heap.size ib (cib N S) ∧ (∀ a l c, ib = .slice (some a) l c → a.block ≠ b) ∧ Below w.heap.size w w' := by
  have hc := newcf128_any w aN aS cN cS n m N S hn hm hN hS hnb hmb hsum
  have HC := Lib.hid hc
  clear hc hN hS
  go_enter Try.func40, Try.ntmps40
  go_wp2_with fail
  refine HC.out.mono ?_
  rintro e w2 ⟨rfl, ib, h2, hi, m2⟩
  have hl : (cst 168 32 N S).a.length = 200 := by
    unfold cst bytepad
    split
    · exact zs200_len
    · exact (Sp.Ok.absorb ⟨zs200_len, by show 1 ≤ 168; omega, by show 168 ≤ 168; omega, Nat.zero_le _, fun _ => by show 0 < 168; omega⟩ rfl _).1.len
  obtain ⟨s, hs⟩ : ∃ s, s = cst 168 32 N S := ⟨_, rfl⟩
  rw [← hs] at h2 hl
  have hsz : (s.cells ib).size = 206 := cells_size _ _ hl
  have hb := fun W => build71 W (s.cells ib) hsz
  have hi69 : (Try.prog.info? 69).map (·.size) = some (s.cells ib).size := by rw [hsz]; kernel_rfl
  have HG : Hid (w2.heap[w.heap.size]? = some (.cells (s.cells ib) 69 (0, 0))) := h2
  have HB := Lib.hid hb
  have HI := Lib.hid hi69
  have HS := Lib.hid hs
  have h2l := h2.size
  have fin : ∀ D, D = s.cells ib → Has (w2.alloc (.cells D 71)) w2.heap.size 71 s ib := fun D hD => by rw [hD]; exact heap_alloc_new _ _
  have FIN := Lib.hid fin
  obtain ⟨D, hD⟩ : ∃ D, D = s.cells ib := ⟨_, rfl⟩
  rw [← hD] at HG HB HI
  have HD := Lib.hid hD
  clear hb hi69 hs hsz hl h2 fin hD
  go_wp2_with (first | (refine wpList_load_row rfl 69 _ rfl w.heap.size rfl 69 D (0, 0) _ HG.out Try.underlying69 rfl HI.out ?_) | (refine wpList_built rfl 71 _ rfl #[(0, .agg D)] (by simp [Act.eval, Act.put]) D (HB.out _) ?_))
  go_ret
  refine ⟨w2.heap.size, ib, rfl, by omega, ?_, ?_, ?_, m2.alloc (by omega) _⟩
  · rw [← HS.out]; exact FIN.out D HD.out
  · have hi' : IbIs w2 w.heap.size ib (cib N S) := hi.imp (fun x => x) fun ⟨g, K, e1, e2⟩ => ⟨g, K, by omega, e2⟩
    exact hi'.keep fun g _ hg => Below.heap_alloc _ _ _ hg
  · intro a l c he
    rcases hi with ⟨h, _⟩ | ⟨g, K, _, h, _, _, h5⟩
    · rw [h] at he; cases he
    · rw [h] at he
      simp only [Value.slice.injEq, Option.some.injEq] at he
      rw [← he.1]
      have := (Array.getElem?_eq_some_iff.1 h5).1
      show g ≠ w2.heap.size
      omega

set_option maxRecDepth 100000 in
set_option maxHeartbeats 1000000 in
theorem newcf256_any (w : World) (aN aS : Option Addr) (cN cS n m : Nat) (N S : List UInt8) (hn : N.length = n) (hm : S.length = m) (hN : Bs w.heap.size w aN cN N) (hS : Bs w.heap.size w aS cS S)
    (hnb : n ≤ 140737488355328) (hmb : m ≤ 140737488355328) (hsum : 18 + n + m ≤ 281474976710656) :
    Calls Try.prog 51 #[.slice aN n cN, .slice aS m cS] w fun e w' => e = .returned (.pointer (some ⟨w.heap.size, 0, none⟩)) ∧
      ∃ ib, Has w' w.heap.size 69 (cst 136 64 N S) ib ∧ IbIs w' (w.heap.size + 1) ib (cib N S) ∧ Below w.heap.size w w' := by
  obtain ⟨D, hD⟩ : ∃ D, D = (dig0 (.int .i64 0) (BV 0) (.int .i64 0)).push nilS := ⟨_, rfl⟩
  have hb0 : ∀ W, (Instr.build 69 #[]).run Try.prog W = .ok (.agg D) W := fun W => by rw [hD]; exact build69' W
  have h1 := spZ_has_alloc w D hD 69
  have m1 : Mod w.heap.size w (w.alloc (.cells D 69)) := (Mod.refl _ _).alloc _
  have bl : Below w.heap.size w (w.alloc (.cells D 69)) := m1.below (Nat.le_refl _) (Nat.le_refl _)
  have sz1 : (w.alloc (.cells D 69)).heap.size = w.heap.size + 1 := by simp
  have hN1 := (hN.keep bl).arg (b := w.heap.size) (Nat.le_refl _)
  have hS1 := (hS.keep bl).arg (b := w.heap.size) (Nat.le_refl _)
  have hc := newc256_any (w.alloc (.cells D 69)) w.heap.size h1 aN aS cN cS n m N S hn hm hN1 hS1 hnb hmb hsum
  rw [sz1] at hc
  have HC := Lib.hid hc
  have HB := Lib.hid hb0
  clear hc hb0 hN1 hS1 hN hS hD sz1 h1
  go_enter Try.func51, Try.ntmps51
  go_wp2_with (refine wpList_built rfl 69 _ rfl #[] (by simp) D (HB.out _) ?_)
  refine HC.out.mono ?_
  rintro e w2 ⟨rfl, ib, h2, hi, m2⟩
  go_wp2_with fail
  go_ret
  exact ⟨rfl, ib, h2, hi, (m1.trans m2).below (Nat.le_refl _) (Nat.le_refl _)⟩

set_option maxRecDepth 100000 in
set_option maxHeartbeats 1000000 in
theorem newcs256_any (w : World) (aN aS : Option Addr) (cN cS n m : Nat) (N S : List UInt8) (hn : N.length = n) (hm : S.length = m) (hN : Bs w.heap.size w aN cN N) (hS : Bs w.heap.size w aS cS S)
    (hnb : n ≤ 140737488355328) (hmb : m ≤ 140737488355328) (hsum : 18 + n + m ≤ 281474976710656) :
    Calls Try.prog 41 #[.slice aN n cN, .slice aS m cS] w fun e w' => ∃ b ib, e = .returned (.pointer (some ⟨b, 0, none⟩)) ∧ w.heap.size ≤ b ∧
      Has w' b 71 (cst 136 64 N S) ib ∧ IbIs w' w.heap.size ib (cib N S) ∧ (∀ a l c, ib = .slice (some a) l c → a.block ≠ b) ∧ Below w.heap.size w w' := by
  have hc := newcf256_any w aN aS cN cS n m N S hn hm hN hS hnb hmb hsum
  have HC := Lib.hid hc
  clear hc hN hS
  go_enter Try.func41, Try.ntmps41
  go_wp2_with fail
  refine HC.out.mono ?_
  rintro e w2 ⟨rfl, ib, h2, hi, m2⟩
  have hl : (cst 136 64 N S).a.length = 200 := by
    unfold cst bytepad
    split
    · exact zs200_len
    · exact (Sp.Ok.absorb ⟨zs200_len, by show 1 ≤ 136; omega, by show 136 ≤ 168; omega, Nat.zero_le _, fun _ => by show 0 < 136; omega⟩ rfl _).1.len
  obtain ⟨s, hs⟩ : ∃ s, s = cst 136 64 N S := ⟨_, rfl⟩
  rw [← hs] at h2 hl
  have hsz : (s.cells ib).size = 206 := cells_size _ _ hl
  have hb := fun W => build71 W (s.cells ib) hsz
  have hi69 : (Try.prog.info? 69).map (·.size) = some (s.cells ib).size := by rw [hsz]; kernel_rfl
  have HG : Hid (w2.heap[w.heap.size]? = some (.cells (s.cells ib) 69 (0, 0))) := h2
  have HB := Lib.hid hb
  have HI := Lib.hid hi69
  have HS := Lib.hid hs
  have h2l := h2.size
  have fin : ∀ D, D = s.cells ib → Has (w2.alloc (.cells D 71)) w2.heap.size 71 s ib := fun D hD => by rw [hD]; exact heap_alloc_new _ _
  have FIN := Lib.hid fin
  obtain ⟨D, hD⟩ : ∃ D, D = s.cells ib := ⟨_, rfl⟩
  rw [← hD] at HG HB HI
  have HD := Lib.hid hD
  clear hb hi69 hs hsz hl h2 fin hD
  go_wp2_with (first | (refine wpList_load_row rfl 69 _ rfl w.heap.size rfl 69 D (0, 0) _ HG.out Try.underlying69 rfl HI.out ?_) | (refine wpList_built rfl 71 _ rfl #[(0, .agg D)] (by simp [Act.eval, Act.put]) D (HB.out _) ?_))
  go_ret
  refine ⟨w2.heap.size, ib, rfl, by omega, ?_, ?_, ?_, m2.alloc (by omega) _⟩
  · rw [← HS.out]; exact FIN.out D HD.out
  · have hi' : IbIs w2 w.heap.size ib (cib N S) := hi.imp (fun x => x) fun ⟨g, K, e1, e2⟩ => ⟨g, K, by omega, e2⟩
    exact hi'.keep fun g _ hg => Below.heap_alloc _ _ _ hg
  · intro a l c he
    rcases hi with ⟨h, _⟩ | ⟨g, K, _, h, _, _, h5⟩
    · rw [h] at he; cases he
    · rw [h] at he
      simp only [Value.slice.injEq, Option.some.injEq] at he
      rw [← he.1]
      have := (Array.getElem?_eq_some_iff.1 h5).1
      show g ≠ w2.heap.size
      omega

theorem sp0_ok (rate : Nat) (ds : UInt8) (ol : Nat) (h1 : 1 ≤ rate) (h2 : rate ≤ 168) : (sp0 rate ds ol).Ok := ⟨zs200_len, h1, h2, Nat.zero_le _, fun _ => h1⟩
theorem cst_ok (rate ol : Nat) (N S : List UInt8) (h1 : 1 ≤ rate) (h2 : rate ≤ 168) : (cst rate ol N S).Ok ∧ (cst rate ol N S).sq = false ∧ (cst rate ol N S).ol = ol ∧ (cst rate ol N S).rate = rate := by
  unfold cst bytepad
  split
  · exact ⟨sp0_ok _ _ _ h1 h2, rfl, rfl, rfl⟩
  · obtain ⟨k1, k2⟩ := (sp0_ok rate 4 ol h1 h2).absorb rfl (lenc rate ++ initB N S ++ zeros (padN rate ((lenc rate).length + (initB N S).length)))
    obtain ⟨a1, _, a2, _⟩ := Sp.absorb_same (sp0 rate 4 ol) (lenc rate ++ initB N S ++ zeros (padN rate ((lenc rate).length + (initB N S).length)))
    exact ⟨k1, k2, a2, a1⟩

/-- the sponge of a kind at its start, and its first block -/
def start (kind : Int) (N S : List UInt8) : Sp :=
  if kind = 0 then sp0 168 31 32 else if kind = 1 then sp0 136 31 64 else if kind = 2 then cst 168 32 N S else if kind = 3 then cst 136 64 N S else sp0 136 31 64
def startIB (kind : Int) (N S : List UInt8) : List UInt8 := if kind = 2 ∨ kind = 3 then cib N S else []

theorem start_ok (kind : Int) (N S : List UInt8) : (start kind N S).Ok ∧ (start kind N S).sq = false ∧ 0 < (start kind N S).ol := by
  have c2 := cst_ok 168 32 N S (by omega) (by omega)
  have c3 := cst_ok 136 64 N S (by omega) (by omega)
  unfold start
  split
  · exact ⟨sp0_ok _ _ _ (by omega) (by omega), rfl, by show 0 < 32; omega⟩
  split
  · exact ⟨sp0_ok _ _ _ (by omega) (by omega), rfl, by show 0 < 64; omega⟩
  split
  · exact ⟨c2.1, c2.2.1, by rw [c2.2.2.1]; omega⟩
  split
  · exact ⟨c3.1, c3.2.1, by rw [c3.2.2.1]; omega⟩
  · exact ⟨sp0_ok _ _ _ (by omega) (by omega), rfl, by show 0 < 64; omega⟩

/-- what opening gives -/
def Opened (w : World) (s : Sp) (l : List UInt8) (e : Ending) (w' : World) : Prop :=
  ∃ b ib, e = .returned (.pointer (some ⟨b, 0, none⟩)) ∧ w.heap.size ≤ b ∧ Shk w' b s ib ∧ IbIs w' w.heap.size ib l ∧ (∀ a l c, ib = .slice (some a) l c → a.block ≠ b) ∧ Below w.heap.size w w'

theorem opened_new {w w' : World} {rate ol : Nat} {ds : UInt8} (ho : 0 < ol) (h : (w.alloc (.cells ((sp0 rate ds ol).cells nilS) 69)).alloc (.cells ((sp0 rate ds ol).cells nilS) 71) = w') :
    Opened w (sp0 rate ds ol) [] (.returned (.pointer (some ⟨w.heap.size + 1, 0, none⟩))) w' := by
  subst h
  refine ⟨_, nilS, rfl, by omega, .inl ⟨heap_alloc2_new _ _ _, ho⟩, .inl ⟨rfl, rfl⟩, (fun a l c e => by cases e), ?_⟩
  exact ((Below.refl _ _).alloc (Nat.le_refl _) _).alloc (by simp) _

set_option maxRecDepth 100000 in
set_option maxHeartbeats 1000000 in
theorem open_any (w : World) (kind : Int) (aN aS : Option Addr) (cN cS n m : Nat) (N S : List UInt8) (hn : N.length = n) (hm : S.length = m) (hN : Bs w.heap.size w aN cN N) (hS : Bs w.heap.size w aS cS S)
    (hnb : n ≤ 140737488355328) (hmb : m ≤ 140737488355328) (hsum : 18 + n + m ≤ 281474976710656) :
    Calls Try.prog 32 #[.int .i64 kind, .slice aN n cN, .slice aS m cS] w (Opened w (start kind N S) (startIB kind N S)) := by
  by_cases k0 : kind = 0
  · subst k0
    have e1 : start 0 N S = sp0 168 31 32 := rfl
    have e2 : startIB 0 N S = [] := rfl
    rw [e1, e2]
    have HC := Lib.hid (new128_any w)
    clear hN hS
    go_enter Try.func32, Try.ntmps32
    go_wp2_with fail
    refine HC.out.mono ?_
    rintro e w' ⟨rfl, hw⟩
    have HW := Lib.hid hw
    clear hw
    go_wp2_with fail
    go_ret
    exact opened_new (by omega) HW.out
  have b0 : (kind == 0) = false := by simpa using k0
  by_cases k1 : kind = 1
  · subst k1
    have e1 : start 1 N S = sp0 136 31 64 := rfl
    have e2 : startIB 1 N S = [] := rfl
    rw [e1, e2]
    have HC := Lib.hid (new256_any w)
    clear hN hS k0
    go_enter Try.func32, Try.ntmps32
    go_wp2_with fail
    refine HC.out.mono ?_
    rintro e w' ⟨rfl, hw⟩
    have HW := Lib.hid hw
    clear hw
    go_wp2_with fail
    go_ret
    exact opened_new (by omega) HW.out
  have b1 : (kind == 1) = false := by simpa using k1
  by_cases k2 : kind = 2
  · subst k2
    have e1 : start 2 N S = cst 168 32 N S := rfl
    have e2 : startIB 2 N S = cib N S := rfl
    rw [e1, e2]
    have HC := Lib.hid (newcs128_any w aN aS cN cS n m N S hn hm hN hS hnb hmb hsum)
    clear hN hS k0 k1
    go_enter Try.func32, Try.ntmps32
    go_wp2_with fail
    refine HC.out.mono ?_
    rintro e w' ⟨b, ib, rfl, h1, h2, h3, h4, h5⟩
    have H4 := Lib.hid h4
    clear h4
    go_wp2_with fail
    go_ret
    exact ⟨b, ib, rfl, h1, .inl ⟨h2, by rw [(cst_ok 168 32 N S (by omega) (by omega)).2.2.1]; omega⟩, h3, H4.out, h5⟩
  have b2 : (kind == 2) = false := by simpa using k2
  by_cases k3 : kind = 3
  · subst k3
    have e1 : start 3 N S = cst 136 64 N S := rfl
    have e2 : startIB 3 N S = cib N S := rfl
    rw [e1, e2]
    have HC := Lib.hid (newcs256_any w aN aS cN cS n m N S hn hm hN hS hnb hmb hsum)
    clear hN hS k0 k1 k2
    go_enter Try.func32, Try.ntmps32
    go_wp2_with fail
    refine HC.out.mono ?_
    rintro e w' ⟨b, ib, rfl, h1, h2, h3, h4, h5⟩
    have H4 := Lib.hid h4
    clear h4
    go_wp2_with fail
    go_ret
    exact ⟨b, ib, rfl, h1, .inl ⟨h2, by rw [(cst_ok 136 64 N S (by omega) (by omega)).2.2.1]; omega⟩, h3, H4.out, h5⟩
  have b3 : (kind == 3) = false := by simpa using k3
  have e1 : start kind N S = sp0 136 31 64 := by unfold start; rw [if_neg k0, if_neg k1, if_neg k2, if_neg k3]
  have e2 : startIB kind N S = [] := by unfold startIB; rw [if_neg (by omega)]
  rw [e1, e2]
  obtain ⟨D, hD⟩ : ∃ D, D = (dig0 (.int .i64 0) (BV 0) (.int .i64 0)).push nilS := ⟨_, rfl⟩
  have hb0 : ∀ W, (Instr.build 71 #[]).run Try.prog W = .ok (.agg D) W := fun W => by rw [hD]; exact build71' W
  have h1 := spZ_has_alloc w D hD 71
  have HB := Lib.hid hb0
  clear hN hS k0 k1 k2 k3 hb0 hD e1 e2
  go_enter Try.func32, Try.ntmps32
  go_wp2_with (refine wpList_built rfl 71 _ rfl #[] (by simp) D (HB.out _) ?_)
  go_ret
  exact ⟨_, nilS, rfl, Nat.le_refl _, .inr ⟨h1, rfl, rfl⟩, .inl ⟨rfl, rfl⟩, (fun a l c e => by cases e), (Below.refl _ _).alloc (Nat.le_refl _) _⟩

end Go.Proofs.Ythemhpefcfdcaaa
