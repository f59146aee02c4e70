/- impl.GoOn where nothing panics. -/
import Derived.Test.YthemhpefcfdcaaaCatch
import Derived.Test.YthemhpefcfdcaaaSts
import Derived.Test.YthemhpefcfdcaaaLoad2
namespace Go.Proofs.Ythemhpefcfdcaaa
open Go.RowKit
set_option linter.unusedVariables false

/-- where the writes stand -/
def GoW (w : World) (b O C : Nat) (s : Sp) (ib : Value) (ls : List (List UInt8)) (v : Value) (wr : World) : Prop :=
  ∃ i : Nat, v = .int .i64 (i : Int) ∧ i ≤ ls.length ∧ Shk wr b (s.absorb (ls.take i).flatten) ib ∧ Below w.heap.size w wr ∧ wr.heap[O]? = some (.cells #[.slice none 0 0] 23 (0, 0)) ∧ wr.heap[C]? = some (.cells #[.int .i64 0] 3 (0, 0))
/-- where the reads stand -/
def GoR (w : World) (B b O C : Nat) (s : Sp) (ib : Value) (zs : List Int) (v : Value) (wr : World) : Prop :=
  ∃ (i : Nat) (x : Value) (xs : List Value), v = .int .i64 (i : Int) ∧ i ≤ zs.length ∧ Shk wr b (after (zs.take i) s) ib ∧ Below w.heap.size w wr ∧ wr.heap[O]? = some (.cells #[x] 23 (0, 0)) ∧ wr.heap[C]? = some (.cells #[.int .i64 0] 3 (0, 0)) ∧
    wr.ownsRow B 22 1 x i xs ∧ Outs B wr xs (outs (zs.take i) s)

/-- append to a row that the call owns, as one step of a region that draws -/
theorem step_append_own {P : Program} {ops : Array Oper} {o : Oper} {a : Act} {w : World} {K : Act → World → Prop} {Q : Exit → Act → World → Prop} {E : Prop} (hgd : o.guard = none) (s x : Operand) (t : TypeId)
    (ho : o.op = .call { callee := .builtin .append, args := #[s, x], argTypes := #[t, t] })
    (base : Nat) (e : TypeId) (i : TypeInfo) (z : Value) (size bytes : Nat) (ht : P.underlying t = some (.slice e)) (hi : P.info? e = some i) (hz : i.zero = some z)
    (hsize : i.size = size) (hby : i.bytes = bytes) (hzs : z.cells.size = size) (hsz : 0 < size)
    (v : Value) (n : Nat) (xs : List Value) (hs : a.eval s = v) (hown : w.ownsRow base e size v n xs)
    (ad : Addr) (m c : Nat) (news : List Value) (hx : a.eval x = .slice (some ad) m c) (hl : news.length = m * size) (hnews : ∀ j u, news[j]? = some u → w.cell? (ad.add j) = some u) (h1 : ∀ u ∈ news, u.oneCell' = true)
    (h63 : n + m ≤ maxLen) (hbytes : (n + m) * bytes ≤ 140737488355328) (hbase : base ≤ w.heap.size)
    (h : ∀ v' w', w'.ownsRow base e size v' (n + m) (xs ++ news) → w.grownBy w' v.ownBlock → K (a.put o.dst v') w') : if Region.wanted o (yielded ops a.tmps) = true then o.wp P a w K Q else E := by
  have hw : Region.wanted o (yielded ops a.tmps) = true := by simp [Region.wanted, hgd]
  rw [if_pos hw]
  exact wp_append_own w s x t ho base e i z size bytes ht hi hz hsize hby hzs hsz v n xs hs hown ad m c news hx hl hnews h1 h63 hbytes hbase fun v' w' h2 h3 _ => h v' w' h2 h3

theorem cell_of_block {w : World} {O : Nat} {x : Value} {t : TypeId} (h : w.heap[O]? = some (.cells #[x] t (0, 0))) : w.cell? ⟨O, 0, none⟩ = some x ∧ w.frozen? ⟨O, 0, none⟩ = false := by
  simp [World.cell?, World.frozen?, h]
theorem setCell_of_block {w : World} {O : Nat} {x y : Value} {t : TypeId} (h : w.heap[O]? = some (.cells #[x] t (0, 0))) : w.setCell ⟨O, 0, none⟩ y = w.setRow O #[y] := by
  rw [setCell_eq_setRow w O 0 _ t (0, 0) y h]; rfl

theorem own_setRow {w : World} {base O : Nat} {e : TypeId} {v : Value} {n : Nat} {xs : List Value} (h : w.ownsRow base e 1 v n xs) (hO : O < base) (c : Array Value) : (w.setRow O c).ownsRow base e 1 v n xs := by
  obtain ⟨h1, h2⟩ := h
  refine ⟨h1, h2.imp (fun x => x) ?_⟩
  rintro ⟨g, cap, cur, e1, e2, e3⟩
  exact ⟨g, cap, cur, e1, e2, by rw [setRow_other _ _ _ _ (by omega)]; exact e3⟩
theorem Outs.setRow {B O : Nat} {w : World} {xs : List Value} {os : List (List UInt8)} (h : Outs B w xs os) (hO : O < B) (c : Array Value) : Outs B (w.setRow O c) xs os :=
  h.keep fun g _ hg _ => setRow_other _ _ _ _ (by omega)

/-- behind a read -/
theorem goR_read {wr w9 : World} {B b O j : Nat} {sj : Sp} {ib x : Value} {xs : List Value} (hO : O < B) (hOb : B ≤ b) (hOr : wr.heap[O]? = some (.cells #[x] 23 (0, 0))) (own : wr.ownsRow B 22 1 x j xs) (sh : Shk wr b sj ib) (m9 : Mod b wr w9) :
    w9.heap[O]? = some (.cells #[x] 23 (0, 0)) ∧ w9.ownsRow B 22 1 x j xs :=
  ⟨by rw [m9.block O (Array.getElem?_eq_some_iff.1 hOr).1 (by omega)]; exact hOr, ownsRow_mod own m9 (sh.type (by decide))⟩
/-- behind the append -/
theorem goR_app {w9 w10 : World} {B O j : Nat} {x y : Value} {xs : List Value} {t : TypeId} {o : Obj} (hO : O < B) (hO9 : w9.heap[O]? = some (.cells #[y] t (0, 0))) (own : w9.ownsRow B 22 1 x j xs) (grow : (w9.alloc o).grownBy w10 x.ownBlock) :
    w10.heap[O]? = some (.cells #[y] t (0, 0)) := by
  have hlt := (Array.getElem?_eq_some_iff.1 hO9).1
  rw [grow.block O (by simp; omega) (fun e => by have := (own.lt O e.symm).1; omega), Below.heap_alloc _ _ _ hlt]
  exact hO9
/-- one read more -/
theorem goR_step {w wr w9 w10 : World} {B b O C k j : Nat} {sj t : Sp} {ib x v' : Value} {xs : List Value} {os : List (List UInt8)} {y : List UInt8} (hO : O < B) (hC : C < B) (hne : O ≠ C) (hOb : B ≤ b) (hwO : w.heap.size ≤ O) (hBr : B ≤ wr.heap.size)
    (bl : Below w.heap.size w wr) (hOr : wr.heap[O]? = some (.cells #[x] 23 (0, 0))) (hCr : wr.heap[C]? = some (.cells #[.int .i64 0] 3 (0, 0))) (own : wr.ownsRow B 22 1 x j xs) (out : Outs B wr xs os) (sh : Shk wr b sj ib)
    (h9 : Shk w9 b t ib) (hg9 : w9.heap[wr.heap.size]? = some (.cells (y.map BV).toArray 5 (0, 0))) (hy : y.length = k) (hk : k ≤ 4096) (m9 : Mod b wr w9)
    (grow : (w9.alloc (.cells #[.slice (some ⟨wr.heap.size, 0, none⟩) k k] 22)).grownBy w10 x.ownBlock) (own10 : w10.ownsRow B 22 1 v' (j + 1) (xs ++ [.slice (some ⟨wr.heap.size, 0, none⟩) k k])) :
    Shk (w10.setCell ⟨O, 0, none⟩ v') b t ib ∧ Below w.heap.size w (w10.setCell ⟨O, 0, none⟩ v') ∧ (w10.setCell ⟨O, 0, none⟩ v').heap[O]? = some (.cells #[v'] 23 (0, 0)) ∧ (w10.setCell ⟨O, 0, none⟩ v').heap[C]? = some (.cells #[.int .i64 0] 3 (0, 0)) ∧
      (w10.setCell ⟨O, 0, none⟩ v').ownsRow B 22 1 v' (j + 1) (xs ++ [.slice (some ⟨wr.heap.size, 0, none⟩) k k]) ∧ Outs B (w10.setCell ⟨O, 0, none⟩ v') (xs ++ [.slice (some ⟨wr.heap.size, 0, none⟩) k k]) (os ++ [y]) := by
  obtain ⟨hO9, own9⟩ := goR_read hO hOb hOr own sh m9
  have hC9 : w9.heap[C]? = some (.cells #[.int .i64 0] 3 (0, 0)) := by rw [m9.block C (Array.getElem?_eq_some_iff.1 hCr).1 (by omega)]; exact hCr
  have own9a := own9.alloc (Obj.cells #[.slice (some ⟨wr.heap.size, 0, none⟩) k k] 22)
  have hO10 := goR_app hO hO9 own9 grow
  have hC10 := goR_app hC hC9 own9 grow
  rw [setCell_of_block hO10]
  have bl9 : Below w.heap.size w w9 := bl.trans (m9.below (by omega) bl.size)
  have bl10 : Below w.heap.size w w10 := (bl9.alloc bl9.size _).grown grow (by have := bl9.size; simp; omega) fun k' hk' => by have := (own9.lt k' hk').1; omega
  have al : ∀ (g' : Nat) (c : Array Value), w9.heap[g']? = some (.cells c 5 (0, 0)) → (w9.alloc (Obj.cells #[.slice (some ⟨wr.heap.size, 0, none⟩) k k] 22)).heap[g']? = w9.heap[g']? := fun g' c hc => Below.heap_alloc _ _ _ (Array.getElem?_eq_some_iff.1 hc).1
  have ks : ∀ (g' : Nat) (c : Array Value), w9.heap[g']? = some (.cells c 5 (0, 0)) → w10.heap[g']? = w9.heap[g']? := fun g' c hc => by
    have := al g' c hc
    rw [grown_bytes own9a grow g' c (by rw [this]; exact hc), this]
  have out9 := out.keep (w' := w9) fun g' c _ hc => m9.block g' (Array.getElem?_eq_some_iff.1 hc).1 (fun e => sh.type (t := 5) (by decide) c (by rw [← e]; exact hc))
  have out10 := out9.keep (w' := w10) fun g' c _ hc => ks g' c hc
  have sh10 : Shk w10 b t ib := grown_shk own9a grow (h9.keep (Below.heap_alloc _ _ _ h9.size))
  refine ⟨sh10.keep (setRow_other _ _ _ _ (by omega)), ?_, setRow_heap _ _ _ _ 23 _ hO10, by rw [setRow_other _ _ _ _ (by omega)]; exact hC10, own_setRow own10 hO _, ?_⟩
  · rw [← setCell_of_block hO10]; exact bl10.setCell hwO _
  · have e := out10.snoc y (by omega) wr.heap.size hBr (by rw [ks _ _ hg9]; exact hg9)
    rw [hy] at e
    exact e.setRow hO _

set_option maxRecDepth 100000 in
set_option maxHeartbeats 2000000 in
theorem goon_any (w : World) (kind : Int) (aN aS aT aW aR : Option Addr) (cN cS cT cW cR n m q p r : Nat) (N S l : List UInt8) (s : Sp) (ls : List (List UInt8)) (zs : List Int)
    (hn : N.length = n) (hm : S.length = m) (hq : l.length = q) (hp : ls.length = p) (hr : zs.length = r) (hN : Bs w.heap.size w aN cN N) (hS : Bs w.heap.size w aS cS S) (hT : Bs w.heap.size w aT cT (marsh s ++ l)) (hW : Rows2 w.heap.size w aW cW ls) (hR : Ints w.heap.size w aR cR zs)
    (ok : s.Ok) (e1 : (start kind N S).rate = s.rate) (e2 : (start kind N S).ds = s.ds) (e3 : (start kind N S).ol = s.ol) (hsq : ls = [] ∨ s.sq = false)
    (hnb : n ≤ 140737488355328) (hmb : m ≤ 140737488355328) (hsum : 18 + n + m ≤ 281474976710656) (hqb : q ≤ 281474976710656) (hrb : r * 24 ≤ 140737488355328) :
    Calls Try.prog 31 #[.int .i64 kind, .slice aN n cN, .slice aS m cS, .slice aT (207 + q) cT, .slice aW p cW, .slice aR r cR] w fun e w' =>
      ∃ a cap, e = .returned (.tuple #[.slice a r cap, .int .i64 0]) ∧ Rows2 w'.heap.size w' a cap (outs zs (s.absorb ls.flatten)) ∧ Below w.heap.size w w' := by
  have hmf : ∀ (fn : Fn) (first cap : Array Value) (w : World), (Instr.makeFunc fn first cap).run Try.prog w = .ok (.func fn first cap) w := fun _ _ _ _ => rfl
  have hds : s.ds = 31 ∨ s.ds = 4 := by rw [← e2]; exact start_ds kind N S
  obtain ⟨ok0, sq0, ol0⟩ := start_ok kind N S
  have ol1 : 0 < s.ol := by rw [← e3]; exact ol0
  -- the state
  have hml := marsh_len s ok.len
  obtain ⟨hc1, hc2, hc3⟩ := hT
  rw [List.length_append, hml, hq] at hc1
  rcases hc3 with h0 | ⟨pb, po, rfl, hpb, hlies⟩
  · have := congrArg List.length h0
    rw [List.length_append, hml] at this
    simp at this
  -- the two named results
  obtain ⟨w1, hw1⟩ : ∃ w1, w1 = w.alloc (.cells #[.slice none 0 0] 23) := ⟨_, rfl⟩
  obtain ⟨w2, hw2⟩ : ∃ w2, w2 = w1.alloc (.cells #[.int .i64 0] 3) := ⟨_, rfl⟩
  have sz1 : w1.heap.size = w.heap.size + 1 := by rw [hw1]; simp
  have sz2 : w2.heap.size = w.heap.size + 2 := by rw [hw2]; simp [sz1]
  have bl1 : Below w.heap.size w w1 := by rw [hw1]; exact (Below.refl _ _).alloc (Nat.le_refl _) _
  have bl2 : Below w.heap.size w w2 := by rw [hw2]; exact bl1.alloc bl1.size _
  have s2 := bl2.size
  have hO2 : w2.heap[w.heap.size]? = some (.cells #[.slice none 0 0] 23 (0, 0)) := by
    rw [hw2, Below.heap_alloc _ _ _ (by omega), hw1]; exact heap_alloc_new _ _
  have hC2 : w2.heap[w.heap.size + 1]? = some (.cells #[.int .i64 0] 3 (0, 0)) := by
    rw [← sz1, hw2]; exact heap_alloc_new _ _
  have HC := Lib.hid (open_any w2 kind aN aS cN cS n m N S hn hm ((hN.keep bl2).mono s2) ((hS.keep bl2).mono s2) hnb hmb hsum)
  obtain ⟨s0, hs0⟩ : ∃ s0, s0 = start kind N S := ⟨_, rfl⟩
  rw [← hs0] at HC e1 e2 e3 ok0
  have HW1 := Lib.hid hw1
  have HW2 := Lib.hid hw2
  have HSZ2 := Lib.hid sz2
  have HO2 := Lib.hid hO2
  have HC2 := Lib.hid hC2
  have HP := Lib.hid hp
  have HR' := Lib.hid hr
  clear hw1 hw2 sz1 hO2 hC2 hp hr hn hm hs0 ol0 sq0 hml hN hS
  go_enter_defers Try.func31, Try.ntmps31
  go_wp2_with fail
  rw [← HW1.out, ← HW2.out]
  refine HC.out.mono ?_
  rintro e w3 ⟨b, ib, rfl, hb, h3, _, _, bl3⟩
  have hbb : w.heap.size + 2 ≤ b := by have := HSZ2.out; omega
  have bl3' : Below w.heap.size w w3 := bl2.trans (bl3.mono s2)
  have s3 := bl3'.size
  have s23 := bl3.size
  have hO3 : w3.heap[w.heap.size]? = some (.cells #[.slice none 0 0] 23 (0, 0)) := by rw [bl3.block _ (by omega)]; exact HO2.out
  have hC3 : w3.heap[w.heap.size + 1]? = some (.cells #[.int .i64 0] 3 (0, 0)) := by rw [bl3.block _ (by omega)]; exact HC2.out
  have HL := Lib.hid (load_any w3 b pb po cT q s0 s ib l h3 ok0 ok hds e1 e2 e3 (hlies.below bl3' hpb) hq (by omega) (by omega) hc1 hc2 hqb)
  have HO3 := Lib.hid hO3
  have HC3 := Lib.hid hC3
  clear HC hO3 hC3 e1 e2 e3 HW1 HW2 sz2 hq
  go_wp2_with fail
  refine HL.out.mono ?_
  rintro e w4 ⟨rfl, ib', h4, m4⟩
  have hO4 : w4.heap[w.heap.size]? = some (.cells #[.slice none 0 0] 23 (0, 0)) := by rw [m4.block _ (by have := HSZ2.out; omega) (by omega)]; exact HO3.out
  have hC4 : w4.heap[w.heap.size + 1]? = some (.cells #[.int .i64 0] 3 (0, 0)) := by rw [m4.block _ (by have := HSZ2.out; omega) (by omega)]; exact HC3.out
  have bl4 : Below w.heap.size w w4 := bl3'.trans (m4.below (by omega) s3)
  have st : GoW w b w.heap.size (w.heap.size + 1) s ib' ls (.int .i64 ((0 : Nat) : Int)) w4 := ⟨0, rfl, Nat.zero_le _, by simpa [Sp.absorb] using Shk.of h4 ol1, bl4, hO4, hC4⟩
  have hpb2 : p ≤ 9223372036854775807 := by have := hW.1; have := hW.2.1; have := HP.out; omega
  clear HL hO4 hC4 h4 m4 bl4 h3
  go_wp2_with fail
  go_loopw [30] (fun v wr => GoW w b w.heap.size (w.heap.size + 1) s ib' ls v wr) (fun v _ => p - (intOf v).toNat)
  case atStart => exact st
  case round =>
    obtain ⟨i, rfl, hi, h5, bl5, hO5, hC5⟩ := hrel
    have s5 := bl5.size
    by_cases hlt : i < p
    · have sqf : s.sq = false := by
        rcases hsq with h | h
        · have := HP.out; rw [h] at this; simp at this; omega
        · exact h
      obtain ⟨d, hd⟩ : ∃ d, ls[i]? = some d := ⟨ls[i]'(by rw [HP.out]; exact hlt), by simp [HP.out, hlt]⟩
      obtain ⟨pb', po', va, vc, f1, f2, c1, bs⟩ := (hW.keep bl5).at hd
      subst f1
      have ok2 := ok.absorb sqf (ls.take i).flatten
      have hcw := swrite_any wr b (s.absorb (ls.take i).flatten) ib' h5 ok2.1 ok2.2 va vc d.length d rfl (bs.arg (by omega))
      have i1 : (i : Int) < (p : Int) := by omega
      have HCW := Lib.hid hcw
      have HD := Lib.hid hd
      have HO5 := Lib.hid hO5
      have HC5 := Lib.hid hC5
      have hol : w.heap.size + 1 < wr.heap.size := (Array.getElem?_eq_some_iff.1 hC5).1
      clear hcw hd hO5 hC5 sqf
      go_wp2_with fail
      refine HCW.out.mono ?_
      rintro e w6 ⟨rfl, h6, m6⟩
      go_wp2_with fail
      go_roundw
      case rel =>
        refine ⟨i + 1, by go_num, by rw [HP.out]; omega, ?_, bl5.trans (m6.below (by omega) s5), ?_, ?_⟩
        · rw [take_flatten_succ ls i d HD.out, Sp.absorb_append]
          exact Shk.of h6 (by rw [(Sp.absorb_same _ _).2.2.1, (Sp.absorb_same _ _).2.2.1]; exact ol1)
        · rw [m6.block _ (by omega) (by omega)]; exact HO5.out
        · rw [m6.block _ (by omega) (by omega)]; exact HC5.out
      case measure => simp [intOf]; omega
    · have hip : i = p := by rw [HP.out] at hi; omega
      have hfl : (ls.take i).flatten = ls.flatten := by rw [List.take_of_length_le (by rw [HP.out]; omega)]
      rw [hfl] at h5
      obtain ⟨s1, hs1⟩ : ∃ s1, s1 = s.absorb ls.flatten := ⟨_, rfl⟩
      have ok1 : s1.Ok := by
        rw [hs1]
        rcases hsq with h | h
        · rw [h]; exact ok
        · exact (ok.absorb h _).1
      have ol2 : 0 < s1.ol := by rw [hs1, (Sp.absorb_same _ _).2.2.1]; exact ol1
      rw [← hs1] at h5
      have HS1 := Lib.hid hs1
      have HIP := Lib.hid hip
      have hol : w.heap.size + 1 < wr.heap.size := (Array.getElem?_eq_some_iff.1 hC5).1
      -- out = [][]byte{}
      obtain ⟨wa, hwa⟩ : ∃ wa, wa = wr.alloc (.cells #[] 22) := ⟨_, rfl⟩
      have hOa : wa.heap[w.heap.size]? = some (.cells #[.slice none 0 0] 23 (0, 0)) := by rw [hwa, Below.heap_alloc _ _ _ (by omega)]; exact hO5
      have hCa : wa.heap[w.heap.size + 1]? = some (.cells #[.int .i64 0] 3 (0, 0)) := by rw [hwa, Below.heap_alloc _ _ _ (by omega)]; exact hC5
      have bla : Below w.heap.size w wa := by rw [hwa]; exact bl5.alloc bl5.size _
      have sha : Shk wa b s1 ib' := by rw [hwa]; exact h5.keep (Below.heap_alloc _ _ _ h5.size)
      have owa : wa.ownsRow (w.heap.size + 2) 22 1 (.slice (some ⟨wr.heap.size, 0, none⟩) 0 0) 0 [] := by rw [hwa]; exact own_empty wr 22 _ (by omega)
      obtain ⟨w6, hw6⟩ : ∃ w6, w6 = wa.setCell ⟨w.heap.size, 0, none⟩ (.slice (some ⟨wr.heap.size, 0, none⟩) 0 0) := ⟨_, rfl⟩
      have hw6' : w6 = wa.setRow w.heap.size #[.slice (some ⟨wr.heap.size, 0, none⟩) 0 0] := by rw [hw6, setCell_of_block hOa]
      have st2 : GoR w (w.heap.size + 2) b w.heap.size (w.heap.size + 1) s1 ib' zs (.int .i64 ((0 : Nat) : Int)) w6 := by
        refine ⟨0, .slice (some ⟨wr.heap.size, 0, none⟩) 0 0, [], rfl, Nat.zero_le _, ?_, ?_, ?_, ?_, ?_, ?_⟩
        · rw [hw6']; exact sha.keep (setRow_other _ _ _ _ (by omega))
        · rw [hw6]; exact bla.setCell (Nat.le_refl _) _
        · rw [hw6']; exact setRow_heap _ _ _ _ 23 _ hOa
        · rw [hw6', setRow_other _ _ _ _ (by omega)]; exact hCa
        · rw [hw6']; exact own_setRow owa (by omega) _
        · exact Outs.nil _ _
      obtain ⟨cO, fO⟩ := cell_of_block hOa
      rw [hwa] at cO fO
      have HWA := Lib.hid hwa
      have HW6 := Lib.hid hw6
      have hrb2 : r ≤ 9223372036854775807 := by omega
      clear hs1 hip hfl hO5 hC5 h5 bl5 st hwa hw6 hw6' hOa hCa bla sha owa
      go_wp2_with fail
      rw [← HWA.out, ← HW6.out]
      clear cO fO HWA HW6
      obtain ⟨w5, rfl⟩ : ∃ w5 : World, w5 = wr := ⟨_, rfl⟩
      obtain ⟨i22, hi0, hz0, hz1, hz2⟩ := info_parts info22
      have HI0 := Lib.hid hi0
      have HZ0 := Lib.hid hz0
      have HZ1 := Lib.hid hz1
      have HZ2 := Lib.hid hz2
      clear hi0 hz0 hz1 hz2
      go_loopw [41] (fun v wr => GoR w (w.heap.size + 2) b w.heap.size (w.heap.size + 1) s1 ib' zs v wr) (fun v _ => r - (intOf v).toNat)
      case atStart => exact st2
      case round =>
        clear st2 hlt
        obtain ⟨j, x, xs, rfl, hj, h7, bl7, hO7, hC7, own7, out7⟩ := hrel
        have s7 := bl7.size
        have hol7 : w.heap.size + 1 < wr.heap.size := (Array.getElem?_eq_some_iff.1 hC7).1
        by_cases hlt2 : j < r
        · obtain ⟨z, hz⟩ : ∃ z, zs[j]? = some z := ⟨zs[j]'(by rw [HR'.out]; exact hlt2), by simp [HR'.out, hlt2]⟩
          obtain ⟨pb', po', f1, f2, c1⟩ := (hR.keep bl7).at hz
          subst f1
          obtain ⟨sj, hsj⟩ : ∃ sj, sj = after (zs.take j) s1 := ⟨_, rfl⟩
          rw [← hsj] at h7
          have okj : sj.Ok := by rw [hsj]; exact after_ok _ ok1
          have olj : 0 < sj.ol := by rw [hsj, (after_same _ _).2.2]; exact ol2
          obtain ⟨k, hk⟩ : ∃ k, k = rdLen z := ⟨_, rfl⟩
          have hk4 := rdLen_le z
          rw [← hk] at hk4
          have hcr : Calls Try.prog 34 #[.pointer (some ⟨b, 0, none⟩), .int .i64 z] wr.drew fun e w' => e = .returned (.slice (some ⟨wr.heap.size, 0, none⟩) k k) ∧ Has w' b 71 (sj.read k) ib' ∧ w'.heap[wr.heap.size]? = some (.cells ((sj.out k).map BV).toArray 5 (0, 0)) ∧ Mod b wr w' :=
            (rd_any wr.drew b sj ib' h7 okj z k hk).mono fun e w' ⟨g1, g2, g3, g4⟩ => ⟨g1, g2, g3, ((Mod.refl b wr).eqv (Eqv.drew _)).trans g4⟩
          have A9 : ∀ w9, Mod b wr w9 → (w9.cell? ⟨w.heap.size, 0, none⟩ = some x ∧ w9.frozen? ⟨w.heap.size, 0, none⟩ = false) ∧ ((w9.alloc (.cells #[.slice (some ⟨wr.heap.size, 0, none⟩) k k] 22)).cell? ⟨w.heap.size, 0, none⟩ = some x ∧ (w9.alloc (.cells #[.slice (some ⟨wr.heap.size, 0, none⟩) k k] 22)).frozen? ⟨w.heap.size, 0, none⟩ = false) ∧ w9.ownsRow (w.heap.size + 2) 22 1 x j xs ∧ w.heap.size + 2 ≤ w9.heap.size := fun w9 m9 => by
            obtain ⟨g1, g2⟩ := goR_read (by omega) hbb hO7 own7 h7 m9
            exact ⟨cell_of_block g1, cell_of_block (t := 23) (by rw [Below.heap_alloc _ _ _ (Array.getElem?_eq_some_iff.1 g1).1]; exact g1), g2, by have := m9.size; omega⟩
          have B10 : ∀ w9 w10 o, Mod b wr w9 → (w9.alloc o).grownBy w10 x.ownBlock → w10.cell? ⟨w.heap.size, 0, none⟩ = some x ∧ w10.frozen? ⟨w.heap.size, 0, none⟩ = false := fun w9 w10 o m9 gr => by
            obtain ⟨g1, g2⟩ := goR_read (by omega) hbb hO7 own7 h7 m9
            exact cell_of_block (goR_app (by omega) g1 g2 gr)
          obtain ⟨cO, fO⟩ := cell_of_block hO7
          have HO7 := Lib.hid hO7
          have HC7 := Lib.hid hC7
          have HCR := Lib.hid hcr
          have HA9 := Lib.hid A9
          have HB10 := Lib.hid B10
          have HZ := Lib.hid hz
          have HSJ := Lib.hid hsj
          have HK := Lib.hid hk
          have i1 : (j : Int) < (r : Int) := by omega
          clear hcr A9 B10 hz hsj hk hO7 hC7
          go_wp2_with fail
          first | go_region_law (first
            | (refine step_append_own (by rfl) _ _ 23 (by rfl) (w.heap.size + 2) 22 i22 (.slice none 0 0) 1 24 Try.underlying23 HI0.out HZ0.out HZ1.out HZ2.out rfl (by decide) _ _ _ (by rfl) (own9.alloc _) ⟨w9.heap.size, 0, none⟩ 1 1 [.slice (some ⟨wr.heap.size, 0, none⟩) k k] (by rfl) rfl (cell_one_new _ _ _) (by simp [Value.oneCell']) (by unfold maxLen; omega) (by omega) (by simp; omega) ?_; intro v' w10 own10 grow10; obtain ⟨cO10, fO10⟩ := HB10.out w9 w10 _ m9 grow10; obtain ⟨av, cv, rfl⟩ := own_slice own10)
            | (go_simp; go_at_call 34; (with_reducible refine HCR.out.mono ?_); rintro e w9 ⟨rfl, h9, hg9, m9⟩; obtain ⟨⟨cO9, fO9⟩, ⟨cO9a, fO9a⟩, own9, hsz9⟩ := HA9.out w9 m9; have HG9 := Lib.hid hg9; clear hg9)) | fail
          all_goals
            go_wp2_with fail
            obtain ⟨k1, k2, k3, k4, k5, k6⟩ := goR_step (y := sj.out k) (by omega) (by omega) (by omega) hbb (Nat.le_refl _) (by omega) bl7 HO7.out HC7.out own7 out7 h7 (Shk.of h9 (by rw [(Sp.read_same _ _).2.2]; exact olj)) HG9.out (Sp.out_length _ _) hk4 m9 grow10 own10
            refine ⟨⟨j + 1, _, _, by go_num, by rw [HR'.out]; omega, ?_, k2, k3, k4, k5, ?_⟩, ?_⟩
            · rw [after_snoc zs j z s1 HZ.out, ← HSJ.out, ← HK.out]; exact k1
            · rw [outs_snoc zs j z s1 HZ.out, ← HSJ.out, ← HK.out]; exact k6
            · simp [intOf]; omega
        · have hjr : j = r := by rw [HR'.out] at hj; omega
          have htk : zs.take j = zs := List.take_of_length_le (by rw [HR'.out]; omega)
          rw [htk] at out7
          have hfin : ∀ wE, wE = (wr.setCell ⟨w.heap.size, 0, none⟩ x).setCell ⟨w.heap.size + 1, 0, none⟩ (.int .i64 0) → ∃ ra rcap, x = .slice ra r rcap ∧ Rows2 wE.heap.size wE ra rcap (outs zs s1) ∧ Below w.heap.size w wE ∧ wE.cell? ⟨w.heap.size, 0, none⟩ = some x ∧ wE.cell? ⟨w.heap.size + 1, 0, none⟩ = some (.int .i64 0) := fun wE hwE => by
            have h1 := setCell_of_block (y := x) hO7
            have hCx : (wr.setRow w.heap.size #[x]).heap[w.heap.size + 1]? = some (.cells #[.int .i64 0] 3 (0, 0)) := by rw [setRow_other _ _ _ _ (by omega)]; exact hC7
            have hOx : (wr.setRow w.heap.size #[x]).heap[w.heap.size]? = some (.cells #[x] 23 (0, 0)) := setRow_heap _ _ _ _ 23 _ hO7
            have h2 := setCell_of_block (y := .int .i64 0) hCx
            have blE : Below w.heap.size w wE := by rw [hwE]; exact (bl7.setCell (Nat.le_refl _) _).setCell (by simp) _
            rw [h1, h2] at hwE
            have ownE : wE.ownsRow (w.heap.size + 2) 22 1 x j xs := by rw [hwE]; exact own_setRow (own_setRow own7 (by omega) _) (by omega) _
            have outE : Outs (w.heap.size + 2) wE xs (outs zs s1) := by rw [hwE]; exact (out7.setRow (by omega) _).setRow (by omega) _
            obtain ⟨ra, rcap, g1, g2⟩ := outE.rows2 ownE
            rw [outs_len, HR'.out] at g1
            refine ⟨ra, rcap, g1, g2, blE, ?_, ?_⟩
            · refine (cell_of_block (t := 23) ?_).1
              rw [hwE, setRow_other _ _ _ _ (by omega)]; exact hOx
            · refine (cell_of_block (t := 3) ?_).1
              rw [hwE]; exact setRow_heap _ _ _ _ 3 _ hCx
          obtain ⟨ra, rcap, ex, _⟩ := hfin _ rfl
          obtain ⟨cO, fO⟩ := cell_of_block hO7
          obtain ⟨cC, fC⟩ := cell_of_block hC7
          subst ex
          have HFIN := Lib.hid hfin
          clear hfin hjr htk hO7 hC7
          go_wp2_with fail
          refine leaves_cons (f := 36) (args := #[.pointer (some ⟨w.heap.size, 0, none⟩), .pointer (some ⟨w.heap.size + 1, 0, none⟩)]) (by simp) (by simp [go_sem]) ?_
          refine (catch_idle _ _ _).mono ?_
          rintro e u' w'' ⟨rfl, rfl, rfl⟩
          obtain ⟨ra', rcap', ex, hR2, hB, cE1, cE2⟩ := HFIN.out _ rfl
          simp only [Value.slice.injEq, true_and] at ex
          obtain ⟨rfl, rfl⟩ := ex
          rw [HS1.out] at hR2
          generalize (wr.setCell ⟨w.heap.size, 0, none⟩ (.slice ra r rcap)).setCell ⟨w.heap.size + 1, 0, none⟩ (.int .i64 0) = wE at *
          have H2 := Lib.hid hR2
          have HB := Lib.hid hB
          clear cO fO cC fC HFIN hR2 hB
          simp [Leaves, settle, results, Try.results31, go_sem, cE1, cE2]
          first
            | exact ⟨ra, rcap, ⟨rfl, rfl⟩, H2.out, HB.out⟩
            | exact ⟨ra, rcap, rfl, H2.out, HB.out⟩
            | (trace_state; fail)
end Go.Proofs.Ythemhpefcfdcaaa
