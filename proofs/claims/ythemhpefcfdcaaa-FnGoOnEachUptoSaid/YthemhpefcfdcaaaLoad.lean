/- UnmarshalBinary: a saved state is loaded. -/
import Derived.Test.YthemhpefcfdcaaaState
import Derived.Laws.IdiomStrings
namespace Go.Proofs.Ythemhpefcfdcaaa
open Go.RowKit
set_option linter.unusedVariables false

theorem Lies.get {w : World} {pb po : Nat} {l : List UInt8} (h : Lies w ⟨pb, po, none⟩ l) {j : Nat} {x : UInt8} (hj : l[j]? = some x) : w.cell? ⟨pb, po + j, none⟩ = some (.int .u8 (x.toNat : Int)) := by
  have := h j x hj
  rw [add_row] at this
  exact this
theorem marsh_magic (s : Sp) (j : Nat) (hj : j < (magic s.ds).length) : (marsh s)[j]? = some (magic s.ds)[j] := by
  have e : marsh s = magic s.ds ++ ([UInt8.ofNat s.rate] ++ s.a ++ [UInt8.ofNat s.n, if s.sq then 1 else 0]) := by simp [marsh]
  rw [e, List.getElem?_append_left hj, List.getElem?_eq_getElem hj]
theorem marsh_rate (s : Sp) : (marsh s)[4]? = some (UInt8.ofNat s.rate) := by simp [marsh, magic]
theorem marsh_a (s : Sp) (hl : s.a.length = 200) (j : Nat) (hj : j < 200) : (marsh s)[5 + j]? = s.a[j]? := by
  have e : marsh s = (magic s.ds ++ [UInt8.ofNat s.rate]) ++ (s.a ++ [UInt8.ofNat s.n, if s.sq then 1 else 0]) := by simp [marsh]
  rw [e, List.getElem?_append_right (by simp [magic])]
  rw [List.getElem?_append_left (by simp [magic, hl]; omega)]
  congr 1
  simp [magic]
theorem marsh_n (s : Sp) (hl : s.a.length = 200) : (marsh s)[205]? = some (UInt8.ofNat s.n) := by
  have e : marsh s = (magic s.ds ++ [UInt8.ofNat s.rate] ++ s.a) ++ [UInt8.ofNat s.n, if s.sq then 1 else 0] := by simp [marsh]
  rw [e, List.getElem?_append_right (by simp [magic, hl])]
  simp [magic, hl]
theorem marsh_sq (s : Sp) (hl : s.a.length = 200) : (marsh s)[206]? = some (if s.sq then 1 else 0) := by
  have e : marsh s = (magic s.ds ++ [UInt8.ofNat s.rate] ++ s.a) ++ [UInt8.ofNat s.n, if s.sq then 1 else 0] := by simp [marsh]
  rw [e, List.getElem?_append_right (by simp [magic, hl])]
  simp [magic, hl]
theorem cells_st0 (s : Sp) (ib : Value) (hl : s.a.length = 200) : (s.cells ib).setIfInBounds 204 (.int .i64 0) = { s with sq := false }.cells ib := by
  apply Array.toList_inj.1
  simp [Sp.cells, Sp.tl, hl]

set_option maxRecDepth 100000 in
set_option maxHeartbeats 1000000 in
theorem dload_any (w : World) (b pb po c : Nat) (t : TypeId) (s0 s : Sp) (ib : Value) (h : Has w b t s0 ib) (ok0 : s0.Ok) (ok : s.Ok) (hds : s.ds = 31 ∨ s.ds = 4) (e1 : s0.rate = s.rate) (e2 : s0.ds = s.ds) (e3 : s0.ol = s.ol)
    (hl : Lies w ⟨pb, po, none⟩ (marsh s)) (hne : pb ≠ b) (hc : 207 ≤ c) (hcb : c ≤ 9223372036854775807) :
    Calls Try.prog 57 #[.pointer (some ⟨b, 0, none⟩), .slice (some ⟨pb, po, none⟩) 207 c] w fun e w' => e = .returned .nilIface ∧ Eqv (w.setRow b (s.cells ib)) w' := by
  have hn1 := ok.n1
  have hr2 := ok.rate2
  have hr1 := ok.rate1
  have hla := ok.len
  have hl0 := ok0.len
  -- the bytes
  have crate := hl.get (marsh_rate s)
  have cn := hl.get (marsh_n s hla)
  have cs := hl.get (marsh_sq s hla)
  have er : ((UInt8.ofNat s.rate).toNat : Int) = (s.rate : Int) := by rw [UInt8.toNat_ofNat']; omega
  have en : ((UInt8.ofNat s.n).toNat : Int) = (s.n : Int) := by rw [UInt8.toNat_ofNat']; omega
  rw [er] at crate
  rw [en] at cn
  have hcv : (convert 22 9 (.slice (some ⟨pb, po, none⟩) 4 c)).run Try.prog w = .ok (.string ⟨(magic s.ds).toArray⟩) w :=
    run_convert_bytes_back w 22 9 5 ⟨pb, po, none⟩ c (magic s.ds) Try.underlying22 Try.underlying5 Try.underlying9 (fun j hj => by
      rw [add_row]
      exact hl.get (marsh_magic s j hj))
  have hcp : (Builtin.copy_ #[22, 22] 3 #[.slice (some ⟨b, 0, none⟩) 200 200, .slice (some ⟨pb, po + 5, none⟩) 202 (c - 5)]).run Try.prog w = .ok (.int .i64 200) (w.setRow b ({ s0 with a := s.a }.cells ib)) := by
    have e := run_copy_row Try.prog w 22 22 3 5 b 0 200 200 ⟨pb, po + 5, none⟩ 202 (c - 5) (s0.cells ib) t (s.a.map BV) Try.underlying22 (by kernel_rfl) h (by simp [hla]) (fun j v hj => by
      rw [add_row]
      rw [List.getElem?_map] at hj
      cases hx : s.a[j]? with
      | none => rw [hx] at hj; cases hj
      | some y =>
        rw [hx] at hj; simp only [Option.map_some, Option.some.injEq] at hj
        rw [← hj, Nat.add_assoc]
        exact hl.get (by rw [marsh_a s hla j (by have := (List.getElem?_eq_some_iff.1 hx).1; omega)]; exact hx)) (by simp [hla, cells_size _ _ hl0]) (map_BV_one _)
    rw [e]
    simp only [List.length_map, hla]
    congr 2
    simp [Sp.cells, hl0, Sp.tl]
  obtain ⟨s1, hs1⟩ : ∃ s1 : Sp, s1 = { s0 with a := s.a } := ⟨_, rfl⟩
  rw [← hs1] at hcp
  have hl1 : s1.a.length = 200 := by rw [hs1]; exact hla
  have H1 : Has (w.setRow b (s1.cells ib)) b t s1 ib := h.setRow _ _
  have hbk : ∀ o, (w.setRow b (s1.cells ib)).cell? ⟨pb, o, none⟩ = w.cell? ⟨pb, o, none⟩ := fun o => by
    unfold World.cell?; rw [setRow_other _ _ _ _ hne]
  have cn1 := (hbk (po + 205)).trans cn
  have cs1 := (hbk (po + 206)).trans cs
  have q1 : ∀ (k : Nat) (C : Array Value), Eqv (w.setRow b C) (((w.setRow b (s1.cells ib)).drewN k).setRow b C) := fun k C => by
    have := (Eqv.drewN (w.setRow b (s1.cells ib)) k).setRow b C
    rw [setRow_setRow] at this
    exact this
  obtain ⟨d0, d1, d2, d3, d4, d5⟩ := h.fields hl0
  obtain ⟨g0, g1, g2, g3, g4, g5⟩ := H1.fields hl1
  have er1 : s1.rate = s.rate := by rw [hs1]; exact e1
  rw [e1] at d1
  rw [er1] at g1
  rw [e2] at d2
  have f0 := H1.frozen 200
  have f4 := H1.frozen 204
  have E2 : ∀ k, ((w.setRow b (s1.cells ib)).drewN k).setCell ⟨b, 200, none⟩ (.int .i64 (s.n : Int)) = ((w.setRow b (s1.cells ib)).drewN k).setRow b ({ s1 with n := s.n }.cells ib) := fun k => by
    rw [Has.setCell (w := (w.setRow b (s1.cells ib)).drewN k) H1, cells_n _ _ hl1]
  have hfin : { { s1 with n := s.n } with sq := s.sq } = s := by
    rw [hs1]
    cases s; cases s0
    simp at e1 e2 e3 ⊢
    exact ⟨e1, e2, e3⟩
  have HQ := Lib.hid q1
  have HE2 := Lib.hid E2
  have HFIN := Lib.hid hfin
  have HS1 := Lib.hid hs1
  have bne : ((s.rate : Int) != (s.rate : Int)) = false := by simp
  have ngt : ¬ (s.rate : Int) < (s.n : Int) := by omega
  have u1 : IntKind.i64.wrap (s.n : Int) = (s.n : Int) := IntWalk.i64_in _ (by omega)
  have u2 : IntKind.i64.wrap (s.rate : Int) = (s.rate : Int) := IntWalk.i64_in _ (by omega)
  have hi1 : 4 ≤ c := by omega
  have hi2 : 5 ≤ c := by omega
  have hi3 : 205 ≤ c := by omega
  rw [show po + 5 = po + 4 + 1 by omega, show c - 5 = c - 4 - 1 by omega] at hcp
  rw [show po + 205 = po + 4 + 1 + 200 by omega] at cn1
  rw [show po + 206 = po + 4 + 1 + 200 + 1 by omega] at cs1
  generalize w.setRow b (s1.cells ib) = w1 at *
  have hok1 : Has w1 b t s1 ib := H1
  clear hs1 q1 E2 hfin hbk cn cs er en h e1 e2 e3 er1 hl d0 d3 d4 d5 g2 g3 g5 ok0 ok
  rcases hds with e | e
  all_goals
    rw [e] at d2 hcv
    unfold BV at d2
    first
      | rw [show magic 31 = [115, 104, 97, 9] from rfl] at hcv
      | rw [show magic 4 = [115, 104, 97, 10] from rfl] at hcv
    have HE := Lib.hid e
    clear e
    cases hsq : s.sq
    all_goals
      rw [hsq] at cs1
      have HSQ := Lib.hid hsq
      clear hsq
      go_enter Try.func57, Try.ntmps57
      go_wp2_with fail
      go_quiet (fail)
      go_wp2_with fail
      go_ret
      refine ⟨rfl, ?_⟩
      have H2 : Has ((w1.drewN nq).setRow b ({ s1 with n := s.n }.cells ib)) b t { s1 with n := s.n } ib := Has.setRow (w := w1.drewN nq) hok1 _ _
      rw [HE2.out, H2.setCell, setRow_setRow]
      have HF2 := HFIN.out
      rw [HSQ.out] at HF2
      first
        | rw [cells_st0 { s1 with n := s.n } ib hl1]
        | rw [cells_sq { s1 with n := s.n } ib hl1]
      rw [HF2]
      exact HQ.out _ _
end Go.Proofs.Ythemhpefcfdcaaa
