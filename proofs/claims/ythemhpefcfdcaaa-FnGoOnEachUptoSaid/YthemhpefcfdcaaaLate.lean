/- A write behind a read panics; impl.GoOn answers it. -/
import Derived.Test.YthemhpefcfdcaaaGoOn
namespace Go.Proofs.Ythemhpefcfdcaaa
open Go.RowKit
set_option linter.unusedVariables false

/-- the panic of a write behind a read -/
def late : List PanicEntry := [{ v := .iface 9 (.string ⟨#[115, 104, 97, 51, 58, 32, 87, 114, 105, 116, 101, 32, 97, 102, 116, 101, 114, 32, 82, 101, 97, 100]⟩), recovered := false }]

set_option maxRecDepth 100000 in
theorem late_write (w : World) (b : Nat) (t : TypeId) (s : Sp) (ib : Value) (h : Has w b t s ib) (hl : s.a.length = 200) (hq : s.sq = true) (a : Option Addr) (cap n : Nat) :
    Calls Try.prog 67 #[.pointer (some ⟨b, 0, none⟩), .slice a n cap] w fun e w' => e = .panicked late ∧ w = w' := by
  have c4 := (h.fields hl).2.2.2.2.1
  rw [hq, if_pos rfl] at c4
  clear h hq
  unfold late
  go_enter Try.func67, Try.ntmps67
  go_wp2
  exact ⟨rfl, rfl, rfl⟩

set_option maxRecDepth 100000 in
theorem late_62 (w : World) (b : Nat) (t : TypeId) (s : Sp) (ib : Value) (h : Has w b t s ib) (hl : s.a.length = 200) (hq : s.sq = true) (a : Option Addr) (cap n : Nat) :
    Calls Try.prog 62 #[.pointer (some ⟨b, 0, none⟩), .slice a n cap] w fun e w' => e = .panicked late ∧ w = w' := by
  have HC := Lib.hid (late_write w b t s ib h hl hq a cap n)
  clear h hq
  go_enter Try.func62, Try.ntmps62
  go_wp2_with fail
  refine HC.out.mono ?_
  rintro e w' ⟨rfl, rfl⟩
  exact ⟨rfl, rfl, rfl⟩

set_option maxRecDepth 100000 in
theorem late_53 (w : World) (b : Nat) (t : TypeId) (s : Sp) (ib : Value) (h : Has w b t s ib) (hl : s.a.length = 200) (hq : s.sq = true) (a : Option Addr) (cap n : Nat) :
    Calls Try.prog 53 #[.pointer (some ⟨b, 0, none⟩), .slice a n cap] w fun e w' => e = .panicked late ∧ w = w' := by
  have HC := Lib.hid (late_62 w b t s ib h hl hq a cap n)
  clear h hq
  go_enter Try.func53, Try.ntmps53
  go_wp2_with fail
  refine HC.out.mono ?_
  rintro e w' ⟨rfl, rfl⟩
  exact ⟨rfl, rfl, rfl⟩

set_option maxRecDepth 100000 in
theorem late_44 (w : World) (b : Nat) (t : TypeId) (s : Sp) (ib : Value) (h : Has w b t s ib) (hl : s.a.length = 200) (hq : s.sq = true) (a : Option Addr) (cap n : Nat) :
    Calls Try.prog 44 #[.pointer (some ⟨b, 0, none⟩), .slice a n cap] w fun e w' => e = .panicked late ∧ w = w' := by
  have HC := Lib.hid (late_53 w b t s ib h hl hq a cap n)
  clear h hq
  go_enter Try.func44, Try.ntmps44
  go_wp2_with fail
  refine HC.out.mono ?_
  rintro e w' ⟨rfl, rfl⟩
  exact ⟨rfl, rfl, rfl⟩

set_option maxRecDepth 100000 in
theorem late_33 (w : World) (b : Nat) (s : Sp) (ib : Value) (h : Shk w b s ib) (ok : s.Ok) (hq : s.sq = true) (a : Option Addr) (cap n : Nat) :
    Calls Try.prog 33 #[.pointer (some ⟨b, 0, none⟩), .slice a n cap] w fun e w' => e = .panicked late ∧ Mod b w w' := by
  have HC := Lib.hid (init_any w b s ib h ok)
  clear h
  go_enter Try.func33, Try.ntmps33
  go_wp2_with fail
  refine HC.out.mono ?_
  rintro e w1 ⟨rfl, h1, hm⟩
  have H2 := Lib.hid (late_44 w1 b 71 s ib h1 ok.len hq a cap n)
  clear HC
  go_wp2_with fail
  refine H2.out.mono ?_
  rintro e w' ⟨rfl, rfl⟩
  exact ⟨rfl, rfl, hm⟩

set_option maxRecDepth 100000 in
set_option maxHeartbeats 2000000 in
theorem goon_late (w : World) (kind : Int) (aN aS aT aW aR : Option Addr) (cN cS cT cW cR n m q r : Nat) (N S l d : List UInt8) (s : Sp)
    (hn : N.length = n) (hm : S.length = m) (hq : l.length = q) (hN : Bs w.heap.size w aN cN N) (hS : Bs w.heap.size w aS cS S) (hT : Bs w.heap.size w aT cT (marsh s ++ l)) (hW : Rows2 w.heap.size w aW cW [d])
    (ok : s.Ok) (e1 : (start kind N S).rate = s.rate) (e2 : (start kind N S).ds = s.ds) (e3 : (start kind N S).ol = s.ol) (hsq : s.sq = true)
    (hnb : n ≤ 140737488355328) (hmb : m ≤ 140737488355328) (hsum : 18 + n + m ≤ 281474976710656) (hqb : q ≤ 281474976710656) :
    Calls Try.prog 31 #[.int .i64 kind, .slice aN n cN, .slice aS m cS, .slice aT (207 + q) cT, .slice aW 1 cW, .slice aR r cR] w fun e w' =>
      e = .returned (.tuple #[.slice none 0 0, .int .i64 2]) ∧ Below w.heap.size w w' := by
  have hmf : ∀ (fn : Fn) (first cap : Array Value) (w : World), (Instr.makeFunc fn first cap).run Try.prog w = .ok (.func fn first cap) w := fun _ _ _ _ => rfl
  have hds : s.ds = 31 ∨ s.ds = 4 := by rw [← e2]; exact start_ds kind N S
  obtain ⟨ok0, sq0, ol0⟩ := start_ok kind N S
  have ol1 : 0 < s.ol := by rw [← e3]; exact ol0
  have hml := marsh_len s ok.len
  obtain ⟨hc1, hc2, hc3⟩ := hT
  rw [List.length_append, hml, hq] at hc1
  rcases hc3 with h0 | ⟨pb, po, rfl, hpb, hlies⟩
  · have := congrArg List.length h0
    rw [List.length_append, hml] at this
    simp at this
  obtain ⟨w1, hw1⟩ : ∃ w1, w1 = w.alloc (.cells #[.slice none 0 0] 23) := ⟨_, rfl⟩
  obtain ⟨w2, hw2⟩ : ∃ w2, w2 = w1.alloc (.cells #[.int .i64 0] 3) := ⟨_, rfl⟩
  have sz1 : w1.heap.size = w.heap.size + 1 := by rw [hw1]; simp
  have sz2 : w2.heap.size = w.heap.size + 2 := by rw [hw2]; simp [sz1]
  have bl1 : Below w.heap.size w w1 := by rw [hw1]; exact (Below.refl _ _).alloc (Nat.le_refl _) _
  have bl2 : Below w.heap.size w w2 := by rw [hw2]; exact bl1.alloc bl1.size _
  have s2 := bl2.size
  have hO2 : w2.heap[w.heap.size]? = some (.cells #[.slice none 0 0] 23 (0, 0)) := by
    rw [hw2, Below.heap_alloc _ _ _ (by omega), hw1]; exact heap_alloc_new _ _
  have hC2 : w2.heap[w.heap.size + 1]? = some (.cells #[.int .i64 0] 3 (0, 0)) := by
    rw [← sz1, hw2]; exact heap_alloc_new _ _
  have HC := Lib.hid (open_any w2 kind aN aS cN cS n m N S hn hm ((hN.keep bl2).mono s2) ((hS.keep bl2).mono s2) hnb hmb hsum)
  obtain ⟨s0, hs0⟩ : ∃ s0, s0 = start kind N S := ⟨_, rfl⟩
  rw [← hs0] at HC e1 e2 e3 ok0
  have HW1 := Lib.hid hw1
  have HW2 := Lib.hid hw2
  have HSZ2 := Lib.hid sz2
  have HO2 := Lib.hid hO2
  have HC2 := Lib.hid hC2
  have HSQ := Lib.hid hsq
  clear hw1 hw2 sz1 hO2 hC2 hn hm hs0 ol0 sq0 hml hN hS hsq
  go_enter_defers Try.func31, Try.ntmps31
  go_wp2_with fail
  rw [← HW1.out, ← HW2.out]
  refine HC.out.mono ?_
  rintro e w3 ⟨b, ib, rfl, hb, h3, _, _, bl3⟩
  have hbb : w.heap.size + 2 ≤ b := by have := HSZ2.out; omega
  have bl3' : Below w.heap.size w w3 := bl2.trans (bl3.mono s2)
  have s3 := bl3'.size
  have s23 := bl3.size
  have hO3 : w3.heap[w.heap.size]? = some (.cells #[.slice none 0 0] 23 (0, 0)) := by rw [bl3.block _ (by omega)]; exact HO2.out
  have hC3 : w3.heap[w.heap.size + 1]? = some (.cells #[.int .i64 0] 3 (0, 0)) := by rw [bl3.block _ (by omega)]; exact HC2.out
  have HL := Lib.hid (load_any w3 b pb po cT q s0 s ib l h3 ok0 ok hds e1 e2 e3 (hlies.below bl3' hpb) hq (by omega) (by omega) hc1 hc2 hqb)
  have HO3 := Lib.hid hO3
  have HC3 := Lib.hid hC3
  clear HC hO3 hC3 e1 e2 e3 HW1 HW2 sz2 hq
  go_wp2_with fail
  refine HL.out.mono ?_
  rintro e w4 ⟨rfl, ib', h4, m4⟩
  have hO4 : w4.heap[w.heap.size]? = some (.cells #[.slice none 0 0] 23 (0, 0)) := by rw [m4.block _ (by have := HSZ2.out; omega) (by omega)]; exact HO3.out
  have hC4 : w4.heap[w.heap.size + 1]? = some (.cells #[.int .i64 0] 3 (0, 0)) := by rw [m4.block _ (by have := HSZ2.out; omega) (by omega)]; exact HC3.out
  have bl4 : Below w.heap.size w w4 := bl3'.trans (m4.below (by omega) s3)
  have sz4 : w.heap.size + 1 < w4.heap.size := (Array.getElem?_eq_some_iff.1 hC4).1
  have HCW := Lib.hid (fun va vc => late_33 w4 b s ib' (Shk.of h4 ol1) ok HSQ.out va vc d.length)
  have HO4 := Lib.hid hO4
  have HC4 := Lib.hid hC4
  obtain ⟨pb', po', va, vc, f1, f2, c1, _⟩ := (hW.keep bl4).at (i := 0) (l := d) rfl
  subst f1
  rw [Nat.add_zero] at c1
  clear HL hO4 hC4 h4 m4 h3
  go_wp2_with fail
  go_loopw [30] (fun v wr => v = .int .i64 ((0 : Nat) : Int) ∧ wr = w4) (fun v _ => 1 - (intOf v).toNat)
  case atStart => exact ⟨rfl, rfl⟩
  case round =>
    obtain ⟨rfl, rfl⟩ := hrel
    go_wp2_with fail
    refine (HCW.out _ _).mono ?_
    rintro e w6 ⟨rfl, m6⟩
    have hO6 : w6.heap[w.heap.size]? = some (.cells #[.slice none 0 0] 23 (0, 0)) := by rw [m6.block _ (by omega) (by omega)]; exact HO4.out
    have hC6 : w6.heap[w.heap.size + 1]? = some (.cells #[.int .i64 0] 3 (0, 0)) := by rw [m6.block _ (by omega) (by omega)]; exact HC4.out
    have bl6 : Below w.heap.size w w6 := bl4.trans (m6.below (by omega) bl4.size)
    have blE : Below w.heap.size w ((w6.setCell ⟨w.heap.size, 0, none⟩ (.slice none 0 0)).setCell ⟨w.heap.size + 1, 0, none⟩ (.int .i64 2)) := (bl6.setCell (Nat.le_refl _) _).setCell (by simp) _
    obtain ⟨cO, fO⟩ := cell_of_block hO6
    obtain ⟨cC, fC⟩ := cell_of_block hC6
    have hC7 : ((w6.setCell ⟨w.heap.size, 0, none⟩ (.slice none 0 0)).setCell ⟨w.heap.size + 1, 0, none⟩ (.int .i64 2)).heap[w.heap.size + 1]? = some (.cells #[.int .i64 2] 3 (0, 0)) := by
      have h1 : (w6.setRow w.heap.size #[.slice none 0 0]).heap[w.heap.size + 1]? = some (.cells #[.int .i64 0] 3 (0, 0)) := by rw [setRow_other _ _ _ _ (by omega)]; exact hC6
      rw [setCell_of_block hO6, setCell_of_block h1]
      exact setRow_heap _ _ _ _ 3 _ h1
    have hO7 : ((w6.setCell ⟨w.heap.size, 0, none⟩ (.slice none 0 0)).setCell ⟨w.heap.size + 1, 0, none⟩ (.int .i64 2)).heap[w.heap.size]? = some (.cells #[.slice none 0 0] 23 (0, 0)) := by
      have h1 : (w6.setRow w.heap.size #[.slice none 0 0]).heap[w.heap.size + 1]? = some (.cells #[.int .i64 0] 3 (0, 0)) := by rw [setRow_other _ _ _ _ (by omega)]; exact hC6
      rw [setCell_of_block hO6, setCell_of_block h1, setRow_other _ _ _ _ (by omega)]
      exact setRow_heap _ _ _ _ 23 _ hO6
    obtain ⟨cE1, _⟩ := cell_of_block hO7
    obtain ⟨cE2, _⟩ := cell_of_block hC7
    refine leaves_cons (f := 36) (args := #[.pointer (some ⟨w.heap.size, 0, none⟩), .pointer (some ⟨w.heap.size + 1, 0, none⟩)]) (by simp) (by simp [go_sem]) ?_
    refine (catch_panicking ⟨w.heap.size, 0, none⟩ ⟨w.heap.size + 1, 0, none⟩ (.slice none 0 0) (.int .i64 0) 9 _ [] w6 cO fO cC fC (by simp)).mono ?_
    rintro e u' w'' ⟨rfl, rfl, rfl⟩
    generalize (w6.setCell ⟨w.heap.size, 0, none⟩ (.slice none 0 0)).setCell ⟨w.heap.size + 1, 0, none⟩ (.int .i64 2) = wE at *
    have HB := Lib.hid blE
    clear blE hO7 hC7
    simp [Leaves, settle, results, Try.results31, go_sem, cE1, cE2]
    exact HB.out
end Go.Proofs.Ythemhpefcfdcaaa
