/- MarshalBinary: the saved state of a SHAKE. -/
import Derived.Test.YthemhpefcfdcaaaOpen
namespace Go.Proofs.Ythemhpefcfdcaaa
open Go.RowKit
set_option linter.unusedVariables false

def magic (ds : UInt8) : List UInt8 := [115, 104, 97, if ds = 31 then 9 else 10]
/-- the state's bytes, ahead of the first block -/
def marsh (s : Sp) : List UInt8 := magic s.ds ++ [UInt8.ofNat s.rate] ++ s.a ++ [UInt8.ofNat s.n, if s.sq then 1 else 0]
theorem marsh_len (s : Sp) (h : s.a.length = 200) : (marsh s).length = 207 := by simp [marsh, magic, h]

theorem ofNat_val (n : Nat) (h : n < 256) : Value.int .u8 (n : Int) = BV (UInt8.ofNat n) := (bv_lt n h)

/-- a string's bytes appended within the capacity -/
theorem run_append22s (w : World) (g : Nat) (t : TypeId) (cur : List UInt8) (x0 x1 x2 x3 : UInt8) (n K : Nat) (ty : TypeId) (hg : w.heap[g]? = some (.cells (cur.map BV).toArray t (0, 0))) (hK : cur.length = K) (hfit : n + 4 ≤ K) :
    (Builtin.append_ #[22, 9] ty #[.slice (some ⟨g, 0, none⟩) n K, .string { data := #[x0, x1, x2, x3] }]).run Try.prog w =
      .ok (.slice (some ⟨g, 0, none⟩) (n + 4) K) (w.setRow g ((cur.take n ++ [x0, x1, x2, x3] ++ cur.drop (n + 4)).map BV).toArray) := by
  have hu : (underlying 22).run Try.prog w = .ok (.slice 5) w := by kernel_rfl
  have hu9 : (underlying 9).run Try.prog w = .ok .string w := by kernel_rfl
  have hz : (sizeOf 5).run Try.prog w = .ok 1 w := by kernel_rfl
  have hln : (ByteArray.mk #[x0, x1, x2, x3]).size = 4 := rfl
  have hfc : (Builtin.firstCells 1 4 (.string { data := #[x0, x1, x2, x3] })).run Try.prog w = .ok (([x0, x1, x2, x3] : List UInt8).map BV).toArray w := by kernel_rfl
  have hst := run_storeCells_at Try.prog g n t (([x0, x1, x2, x3] : List UInt8).map BV) 0 (cur.map BV).toArray w hg (by simp; omega) (map_BV_one _)
  have e1 : (w.setRow g ((List.map BV cur).toArray.toList.take (n + 0) ++ ([x0, x1, x2, x3] : List UInt8).map BV ++ (List.map BV cur).toArray.toList.drop (n + 0 + (([x0, x1, x2, x3] : List UInt8).map BV).length)).toArray) = w.setRow g ((cur.take n ++ [x0, x1, x2, x3] ++ cur.drop (n + 4)).map BV).toArray := by
    simp only [Nat.add_zero, List.length_map, List.length_cons, List.length_nil, List.map_append, List.map_take, List.map_drop]
  rw [e1] at hst
  simp at hst
  simp [Builtin.append_, hu, hz, Builtin.lenOf, hfit, hfc, add_row, hln, hst]

theorem wpList_appendT {P : Program} {ops : Array Oper} {rest : List Oper} {o : Oper} {a : Act} {w : World} {Q : Exit → Act → World → Prop} (hgd : o.guard = none) (s x : Operand) (t u : TypeId)
    (ho : o.op = .call { callee := .builtin .append, args := #[s, x], argTypes := #[t, u] }) (vs vx : Value) (hs : a.eval s = vs) (hx : a.eval x = vx) (v : Value) (w' : World)
    (hrun : (Builtin.append_ #[t, u] o.type #[vs, vx]).run P w = .ok v w') (h : wpList P ops Q rest (a.put o.dst v) w') : wpList P ops Q (o :: rest) a w :=
  wpList_plain hgd fun K hK => by
    unfold Oper.wp execOp
    simp only [ho, resolve, invoke, builtin, Sem.run_bind, Sem.run_pure, Result.andThen_ok]
    simp only [List.map_toArray, List.map_cons, List.map_nil, hs, hx, hrun, Result.andThen_ok]
    exact hK _ _ h

/-- a state under way: c stands in block g; the SHAKE stands in block b -/
structure Sav (w x : World) (b g K : Nat) (t : TypeId) (s : Sp) (ib : Value) (c : List UInt8) (k : Nat) : Prop where
  ck : c.length = k
  has : Has x b t s ib
  row : x.heap[g]? = some (.cells ((c ++ zeros (K - k)).map BV).toArray 5 (0, 0))
  mod : Mod g w x
  gb : g ≠ b
  le : k ≤ K

theorem Sav.alloc {w x : World} {b g K : Nat} {t : TypeId} {s : Sp} {ib : Value} {c : List UInt8} {k : Nat} (h : Sav w x b g K t s ib c k) (o : Obj) : Sav w (x.alloc o) b g K t s ib c k :=
  ⟨h.ck, h.has.alloc o, by rw [Below.heap_alloc x _ g (Array.getElem?_eq_some_iff.1 h.row).1]; exact h.row, h.mod.alloc _, h.gb, h.le⟩
theorem Sav.drew {w x : World} {b g K : Nat} {t : TypeId} {s : Sp} {ib : Value} {c : List UInt8} {k : Nat} (h : Sav w x b g K t s ib c k) : Sav w x.drew b g K t s ib c k :=
  ⟨h.ck, h.has, h.row, h.mod.eqv (Eqv.drew _), h.gb, h.le⟩
theorem Sav.put {w x : World} {b g K : Nat} {t : TypeId} {s : Sp} {ib : Value} {c : List UInt8} {k : Nat} (h : Sav w x b g K t s ib c k) (l : List UInt8) (k' : Nat) (hk : k' = k + l.length) (hfit : k' ≤ K) :
    Sav w (x.setRow g (((c ++ zeros (K - k)).take k ++ l ++ (c ++ zeros (K - k)).drop k').map BV).toArray) b g K t s ib (c ++ l) k' := by
  have e : (c ++ zeros (K - k)).take k ++ l ++ (c ++ zeros (K - k)).drop k' = (c ++ l) ++ zeros (K - k') := by
    have := h.ck
    subst hk
    rw [List.take_append_of_le_length (by omega), List.take_of_length_le (by omega), List.drop_append, List.drop_of_length_le (by omega), this, Nat.add_sub_cancel_left]
    simp only [zeros, List.drop_replicate, List.nil_append]
    rw [Nat.sub_sub]
  rw [e]
  refine ⟨by rw [List.length_append, h.ck, hk], ?_, setRow_heap _ g _ _ 5 _ h.row, h.mod.setRow _, h.gb, hfit⟩
  unfold Has; rw [setRow_other _ _ _ _ (Ne.symm h.gb)]; exact h.has
theorem Sav.app {w x : World} {b g K : Nat} {t : TypeId} {s : Sp} {ib : Value} {c : List UInt8} {k : Nat} (h : Sav w x b g K t s ib c k) (l : List UInt8) (m cap : Nat) (a : Option Addr) (ty : TypeId) (k' : Nat) (hl : l.length = m) (hk : k' = k + m) (hfit : k' ≤ K) (ha : l = [] ∨ ∃ q, a = some q ∧ Lies x q l) :
    ∃ y, (Builtin.append_ #[22, 22] ty #[.slice (some ⟨g, 0, none⟩) k K, .slice a m cap]).run Try.prog x = .ok (.slice (some ⟨g, 0, none⟩) k' K) y ∧ Sav w y b g K t s ib (c ++ l) k' := by
  have hap := run_append22 x g 5 (c ++ zeros (K - k)) l k K m cap a ty h.row (by rw [List.length_append, zeros_len, h.ck]; have := h.le; omega) (by omega) hl ha
  have hp := h.put l k' (by omega) hfit
  rw [← hk] at hap
  exact ⟨_, hap, hp⟩
theorem Sav.appS {w x : World} {b g K : Nat} {t : TypeId} {s : Sp} {ib : Value} {c : List UInt8} {k : Nat} (h : Sav w x b g K t s ib c k) (x0 x1 x2 x3 : UInt8) (ty : TypeId) (k' : Nat) (hk : k' = k + 4) (hfit : k' ≤ K) :
    ∃ y, (Builtin.append_ #[22, 9] ty #[.slice (some ⟨g, 0, none⟩) k K, .string { data := #[x0, x1, x2, x3] }]).run Try.prog x = .ok (.slice (some ⟨g, 0, none⟩) k' K) y ∧ Sav w y b g K t s ib (c ++ [x0, x1, x2, x3]) k' := by
  have hap := run_append22s x g 5 (c ++ zeros (K - k)) x0 x1 x2 x3 k K ty h.row (by rw [List.length_append, zeros_len, h.ck]; have := h.le; omega) (by omega)
  have hp := h.put [x0, x1, x2, x3] k' (by simpa using hk) hfit
  rw [← hk] at hap
  exact ⟨_, hap, hp⟩

theorem lies_alloc (w : World) (l : List UInt8) (vs : Array Value) (hv : vs = (l.map BV).toArray) (t : TypeId) : Lies (w.alloc (.cells vs t)) ⟨w.heap.size, 0, none⟩ l := by
  have h := lies_row (l := l) (w := w.alloc (.cells vs t)) (g := w.heap.size) (t := t) (fr := (0, 0)) (by rw [hv]; exact heap_alloc_new _ _) 0
  simpa using h
theorem Has.lies {w : World} {b : Nat} {t : TypeId} {s : Sp} {ib : Value} (h : Has w b t s ib) : Lies w ⟨b, 0, none⟩ s.a := by
  intro j x hj
  have hlt := (List.getElem?_eq_some_iff.1 hj).1
  rw [add_row, Nat.zero_add, h.byte j hlt]
  simp [List.getD, hj]

set_option maxRecDepth 100000 in
set_option maxHeartbeats 1000000 in
theorem dappend_any (w : World) (b g K : Nat) (t : TypeId) (s : Sp) (ib : Value) (h : Has w b t s ib) (hs : s.Ok) (hds : s.ds = 31 ∨ s.ds = 4) (hg : w.heap[g]? = some (.cells ((zeros K).map BV).toArray 5 (0, 0))) (hgb : g ≠ b) (hK : 207 ≤ K) :
    Calls Try.prog 71 #[.pointer (some ⟨b, 0, none⟩), .slice (some ⟨g, 0, none⟩) 0 K] w fun e w' => e = .returned (.tuple #[.slice (some ⟨g, 0, none⟩) 207 K, .nilIface]) ∧ Sav w w' b g K t s ib (marsh s) 207 := by
  have S0 : Sav w w b g K t s ib [] 0 := ⟨rfl, h, by simpa using hg, Mod.refl _ _, hgb, Nat.zero_le _⟩
  have hn1 := hs.n1
  have hr2 := hs.rate2
  have hl := hs.len
  obtain ⟨mg, hmg⟩ : ∃ mg, mg = (if s.ds = 31 then (9 : UInt8) else 10) := ⟨_, rfl⟩
  obtain ⟨y1, hap1, S1⟩ := S0.appS 115 104 97 mg 22 4 rfl (by omega)
  have S1a := S1.alloc (.cells #[.int .u8 (s.rate : Int)] 5)
  obtain ⟨y2, hap2, S2⟩ := S1a.app [UInt8.ofNat s.rate] 1 1 (some ⟨y1.heap.size, 0, none⟩) 22 5 rfl rfl (by omega) (.inr ⟨_, rfl, lies_alloc _ _ _ (by simp [ofNat_val s.rate (by omega)]) 5⟩)
  obtain ⟨y3, hap3, S3⟩ := S2.app s.a 200 200 (some ⟨b, 0, none⟩) 22 205 hl rfl (by omega) (.inr ⟨_, rfl, S2.has.lies⟩)
  obtain ⟨q, hq⟩ : ∃ q : Nat, q = if s.sq then 1 else 0 := ⟨_, rfl⟩
  have hq1 : q ≤ 1 := by rw [hq]; split <;> omega
  have hqi : (if s.sq then (1 : Int) else 0) = (q : Int) := by rw [hq]; split <;> rfl
  have hq8 : UInt8.ofNat q = if s.sq then 1 else 0 := by rw [hq]; split <;> rfl
  have S3a := S3.drew.alloc (.cells #[.int .u8 (s.n : Int), .int .u8 (q : Int)] 5)
  obtain ⟨y4, hap4, S4⟩ := S3a.app [UInt8.ofNat s.n, UInt8.ofNat q] 2 2 (some ⟨y3.heap.size, 0, none⟩) 22 207 rfl rfl (by omega) (.inr ⟨_, rfl, lies_alloc y3.drew _ _ (by simp [ofNat_val s.n (by omega), ofNat_val q (by omega)]) 5⟩)
  have hfin : [] ++ [115, 104, 97, mg] ++ [UInt8.ofNat s.rate] ++ s.a ++ [UInt8.ofNat s.n, UInt8.ofNat q] = marsh s := by
    rw [hq8, hmg]; rfl
  rw [hfin] at S4
  have c2 := (h.fields hl).2.2.1
  have c1 := (S1.has.fields hl).2.1
  have d0 := (S3.has.fields hl).1
  have d4 := (S3.has.fields hl).2.2.2.2.1
  rw [hqi] at d4
  have u1 : IntKind.u8.wrap (s.rate : Int) = (s.rate : Int) := IntWalk.u8_in _ (by omega)
  have u2 : IntKind.u8.wrap (s.n : Int) = (s.n : Int) := IntWalk.u8_in _ (by omega)
  have u3 : IntKind.u8.wrap (q : Int) = (q : Int) := IntWalk.u8_in _ (by omega)
  have HAP1 := Lib.hid hap1
  have HAP2 := Lib.hid hap2
  have HAP3 := Lib.hid hap3
  have HAP4 := Lib.hid hap4
  clear hap1 hap2 hap3 hap4 S0 S1 S1a S2 S3 S3a hqi hq8 hfin hq h hs hg hgb hl
  rcases hds with e | e
  all_goals
    rw [e] at c2 hmg
    unfold BV at c2
    first
      | rw [if_pos rfl] at hmg
      | rw [if_neg (by decide)] at hmg
    subst hmg
    have HE := Lib.hid e
    clear e
    go_enter Try.func71, Try.ntmps71
    go_wp2_with (first | (refine wpList_appendT rfl _ _ _ _ rfl _ _ rfl rfl _ _ HAP1.out ?_; clear HAP1) | (refine wpList_appendR rfl _ _ _ rfl _ _ rfl rfl _ _ HAP2.out ?_; clear HAP2) | (refine wpList_appendR rfl _ _ _ rfl _ _ rfl rfl _ _ HAP3.out ?_; clear HAP3))
    apply wp_cutN
    case h1 =>
      go_region_law (first | (refine step_appendR (by rfl) _ _ _ (by rfl) _ _ (by rfl) (by rfl) _ _ HAP4.out ?_))
      all_goals exact ⟨rfl, rfl⟩
    go_wp2_with fail
    go_ret2
    exact ⟨rfl, S4⟩
end Go.Proofs.Ythemhpefcfdcaaa
