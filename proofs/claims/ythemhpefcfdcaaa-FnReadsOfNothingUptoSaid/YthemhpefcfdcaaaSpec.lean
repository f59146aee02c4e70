/- spec.Same, sameParts, Sizes, Cut, Joined, Mixed. -/
import Derived.Test.YthemhpefcfdcaaaSq
namespace Go.Proofs.Ythemhpefcfdcaaa
open Go.RowKit
set_option linter.unusedVariables false

theorem quiet_add {P : Program} {f : FuncId} {args : Array Value} {w : World} {a n : Nat} {v : Value}
    (h : Calls P f args (w.drewN (a + n)) fun e w' => e = .returned v ∧ ∃ m, w' = (w.drewN (a + n)).drewN m) :
    Calls P f args (w.drewN (a + n)) fun e w'' => e = .returned v ∧ ∃ m, w'' = w.drewN (a + m) :=
  h.mono fun _ _ ⟨he, m, hm⟩ => ⟨he, n + m, by rw [hm, World.drewN_drewN, Nat.add_assoc]⟩

/-- an element of a slice of bytes -/
theorem Bs.at {B : Nat} {w : World} {a : Option Addr} {cap : Nat} {l : List UInt8} (ha : Bs B w a cap l) {i : Nat} {x : UInt8} (hi : l[i]? = some x) :
    ∃ pb po, a = some ⟨pb, po, none⟩ ∧ pb < B ∧ w.cell? ⟨pb, po + i, none⟩ = some (.int .u8 (x.toNat : Int)) := by
  obtain ⟨_, _, h3⟩ := ha
  rcases h3 with h3 | ⟨pb, po, e, hb, hl⟩
  · rw [h3] at hi; cases hi
  · exact ⟨pb, po, e, hb, by have := hl i x hi; rw [add_row] at this; exact this⟩

set_option maxRecDepth 100000 in
set_option maxHeartbeats 1000000 in
theorem same_any (w : World) (B : Nat) (a1 a2 : Option Addr) (c1 c2 n m : Nat) (l : List UInt8) (hn : l.length = n) (hm : l.length = m) (h1 : Bs B w a1 c1 l) (h2 : Bs B w a2 c2 l) :
    Calls Try.prog 20 #[.slice a1 n c1, .slice a2 m c2] w fun e w' => e = .returned (.bool true) ∧ ∃ k, w' = w.drewN k := by
  have e : m = n := by omega
  subst e
  have hnb : m ≤ 9223372036854775807 := by have := h1.1; have := h1.2.1; omega
  have bne : ((m : Int) != (m : Int)) = false := by simp
  have HN := Lib.hid hn
  clear hn hm
  go_enter Try.func20, Try.ntmps20
  go_wp2_with fail
  go_loopw [13] (fun v wr => ∃ (i k : Nat), v = .int .i64 (i : Int) ∧ i ≤ m ∧ wr = w.drewN k) (fun v _ => m - (intOf v).toNat)
  case atStart => exact ⟨0, 0, rfl, Nat.zero_le _, rfl⟩
  case round =>
    obtain ⟨i, k, rfl, hi, rfl⟩ := hrel
    by_cases hlt : i < m
    · obtain ⟨x, hx⟩ : ∃ x, l[i]? = some x := ⟨l[i]'(by rw [HN.out]; exact hlt), by simp [HN.out, hlt]⟩
      obtain ⟨pb, po, e1, _, d1⟩ := h1.at hx
      obtain ⟨qb, qo, e2, _, d2⟩ := h2.at hx
      subst e1 e2
      have i1 : (i : Int) < (m : Int) := by omega
      have HX := Lib.hid hx
      clear hx
      go_wp2_with fail
      go_quiet (fail)
      go_wp2_with fail
      go_roundw
      case rel => exact ⟨i + 1, _, by go_num, by omega, rfl⟩
      case measure => simp [intOf]; omega
    · have hi' : i = m := by omega
      have i1 : ¬ (i : Int) < (m : Int) := by omega
      go_wp2_with fail
      go_ret
      exact ⟨rfl, k, rfl⟩

set_option maxRecDepth 100000 in
set_option maxHeartbeats 1000000 in
theorem sameParts_any (w : World) (B : Nat) (a1 a2 : Option Addr) (c1 c2 n m : Nat) (ls : List (List UInt8)) (hn : ls.length = n) (hm : ls.length = m) (h1 : Rows2 B w a1 c1 ls) (h2 : Rows2 B w a2 c2 ls) :
    Calls Try.prog 24 #[.slice a1 n c1, .slice a2 m c2] w fun e w' => e = .returned (.bool true) ∧ ∃ k, w' = w.drewN k := by
  have e : m = n := by omega
  subst e
  have hnb : m ≤ 9223372036854775807 := by have := h1.1; have := h1.2.1; omega
  have bne : ((m : Int) != (m : Int)) = false := by simp
  have HN := Lib.hid hn
  clear hn hm
  go_enter Try.func24, Try.ntmps24
  go_wp2_with fail
  go_loopw [13] (fun v wr => ∃ (i k : Nat), v = .int .i64 (i : Int) ∧ i ≤ m ∧ wr = w.drewN k) (fun v _ => m - (intOf v).toNat)
  case atStart => exact ⟨0, 0, rfl, Nat.zero_le _, rfl⟩
  case round =>
    obtain ⟨i, k, rfl, hi, rfl⟩ := hrel
    by_cases hlt : i < m
    · obtain ⟨l, hl⟩ : ∃ l, ls[i]? = some l := ⟨ls[i]'(by rw [HN.out]; exact hlt), by simp [HN.out, hlt]⟩
      obtain ⟨pb, po, va, vc, e1, _, d1, b1⟩ := h1.at hl
      obtain ⟨qb, qo, ua, uc, e2, _, d2, b2⟩ := h2.at hl
      subst e1 e2
      have i1 : (i : Int) < (m : Int) := by omega
      have HL := Lib.hid hl
      have HC := Lib.hid (fun j => same_any (w.drewN j) B va ua vc uc l.length l.length l rfl rfl b1 b2)
      clear hl
      go_wp2_with fail
      go_quiet ((with_reducible refine quiet_add (HC.out _)))
      go_wp2_with fail
      go_roundw
      case rel => exact ⟨i + 1, _, by go_num, by omega, rfl⟩
      case measure => simp [intOf]; omega
    · have hi' : i = m := by omega
      have i1 : ¬ (i : Int) < (m : Int) := by omega
      go_wp2_with fail
      go_ret
      exact ⟨rfl, k, rfl⟩

theorem info3 : (Try.prog.info? 3).map (fun i => (i.zero, i.size, i.bytes)) = some (some (.int .i64 0), 1, 8) := by kernel_rfl

/-- an owned slice is a slice -/
theorem own_slice {w : World} {base : Nat} {e : TypeId} {v : Value} {n : Nat} {xs : List Value} (h : w.ownsRow base e 1 v n xs) : ∃ a c, v = .slice a n c := by
  rcases h.2 with ⟨rfl, rfl⟩ | ⟨g, cap, cur, rfl, _⟩
  · exact ⟨none, 0, rfl⟩
  · exact ⟨_, _, rfl⟩

/-- append of a whole slice to a slice that the call owns -/
theorem app_own (w : World) (base : Nat) (t e : TypeId) (z : Value) (bytes : Nat) (ht : Try.prog.underlying t = some (.slice e)) (hinfo : (Try.prog.info? e).map (fun i => (i.zero, i.size, i.bytes)) = some (some z, 1, bytes)) (hzs : z.cells.size = 1)
    (a0 : Option Addr) (n c0 : Nat) (xs : List Value) (hown : w.ownsRow base e 1 (.slice a0 n c0) n xs) (hbase : base ≤ w.heap.size)
    (a : Option Addr) (m cap : Nat) (news : List Value) (hl : news.length = m) (hsrc : news = [] ∨ ∃ ad, a = some ad ∧ ∀ j u, news[j]? = some u → w.cell? (ad.add j) = some u) (h1 : ∀ u ∈ news, u.oneCell' = true)
    (h63 : n + m ≤ 9223372036854775807) (hbytes : (n + m) * bytes ≤ 140737488355328) (ty : TypeId) :
    ∃ a' c' w', (Builtin.append_ #[t, t] ty #[.slice a0 n c0, .slice a m cap]).run Try.prog w = .ok (.slice a' (n + m) c') w' ∧ w'.ownsRow base e 1 (.slice a' (n + m) c') (n + m) (xs ++ news) ∧ w.grownBy w' (Value.slice a0 n c0).ownBlock := by
  obtain ⟨i0, hi, hz0, hz1, hz2⟩ := info_parts hinfo
  have fin : ∃ v' w', (Builtin.append_ #[t, t] ty #[.slice a0 n c0, .slice a m cap]).run Try.prog w = .ok v' w' ∧ w'.ownsRow base e 1 v' (n + m) (xs ++ news) ∧ w.grownBy w' (Value.slice a0 n c0).ownBlock := by
    rcases hsrc with h0 | ⟨ad, rfl, hs⟩
    · subst h0
      simp only [List.length_nil] at hl
      subst hl
      cases a with
      | some ad =>
        obtain ⟨v', w', r1, r2, r3, _⟩ := run_append_own (P := Try.prog) w base t ty e i0 z 1 bytes ht hi hz0 hz1 hz2 hzs (by omega) (.slice a0 n c0) n xs hown ad 0 cap [] rfl (fun j u h => by cases h) (fun u h => by cases h) (by unfold maxLen; omega) hbytes hbase
        exact ⟨v', w', r1, r2, r3⟩
      | none =>
        have hle : n ≤ c0 := by
          rcases hown.2 with ⟨h, h0⟩ | ⟨g, cp, cur, h, _, _, hle, _⟩
          · simp only [Value.slice.injEq] at h; omega
          · simp only [Value.slice.injEq] at h; omega
        have hu : (underlying t).run Try.prog w = .ok (.slice e) w := run_underlying ht w
        have hsz : (sizeOf e).run Try.prog w = .ok 1 w := by simp [sizeOf, typeInfo, hi, hz1]
        refine ⟨.slice a0 n c0, w, ?_, by simpa using hown, ⟨rfl, rfl, rfl, Nat.le_refl _, fun _ _ _ => rfl⟩⟩
        cases a0 <;> simp [Builtin.append_, hu, hsz, Builtin.lenOf, hle, Builtin.firstCells, storeCells]
    · obtain ⟨v', w', r1, r2, r3, _⟩ := run_append_own (P := Try.prog) w base t ty e i0 z 1 bytes ht hi hz0 hz1 hz2 hzs (by omega) (.slice a0 n c0) n xs hown ad m cap news (by omega) hs h1 (by unfold maxLen; omega) hbytes hbase
      exact ⟨v', w', r1, r2, r3⟩
  obtain ⟨v', w', r1, r2, r3⟩ := fin
  obtain ⟨a', c', rfl⟩ := own_slice r2
  exact ⟨a', c', w', r1, r2, r3⟩

theorem Ints.src {B : Nat} {w : World} {a : Option Addr} {cap : Nat} {zs : List Int} (h : Ints B w a cap zs) :
    zs.map (Value.int .i64) = [] ∨ ∃ ad, a = some ad ∧ ∀ j u, (zs.map (Value.int .i64))[j]? = some u → w.cell? (ad.add j) = some u := by
  rcases h.2.2 with h0 | ⟨pb, po, e, _, hl⟩
  · exact .inl (by rw [h0]; rfl)
  · refine .inr ⟨_, e, fun j u hj => ?_⟩
    rw [List.getElem?_map] at hj
    cases hx : zs[j]? with
    | none => rw [hx] at hj; cases hj
    | some z => rw [hx] at hj; simp only [Option.map_some, Option.some.injEq] at hj; rw [← hj, add_row]; exact hl j z hx
theorem Ints.of_own {w : World} {base : Nat} {a : Option Addr} {n c : Nat} {zs : List Int} (h : w.ownsRow base 3 1 (.slice a n c) n (zs.map (Value.int .i64))) : zs.length = n ∧ Ints w.heap.size w a c zs := by
  have hn : zs.length = n := by have := h.1; simp at this; omega
  refine ⟨hn, ?_⟩
  rcases h.2 with ⟨e, h0⟩ | ⟨g, cap, cur, e, hg, hh, hle, hm, hsz, htk⟩
  · simp only [Value.slice.injEq] at e
    have : zs = [] := List.eq_nil_of_length_eq_zero (by omega)
    exact ⟨by omega, by omega, .inl this⟩
  · simp only [Value.slice.injEq] at e
    obtain ⟨rfl, _, rfl⟩ := e
    refine ⟨by omega, by unfold maxLen at hm; omega, .inr ⟨g, 0, rfl, (Array.getElem?_eq_some_iff.1 hh).1, fun i z hi => ?_⟩⟩
    have e1 : (zs.map (Value.int .i64))[i]? = some (.int .i64 z) := by rw [List.getElem?_map, hi]; rfl
    rw [← htk, List.getElem?_take] at e1
    split at e1
    · simp only [World.cell?, hh, Nat.zero_add]
      simpa using e1
    · cases e1
theorem ints_one (zs : List Int) : ∀ u ∈ zs.map (Value.int .i64), u.oneCell' = true := by
  intro u hu
  obtain ⟨x, _, rfl⟩ := List.mem_map.1 hu
  rfl
/-- the empty slice literal -/
theorem own_empty (w : World) (e : TypeId) (base : Nat) (hb : base ≤ w.heap.size) : (w.alloc (.cells #[] e)).ownsRow base e 1 (.slice (some ⟨w.heap.size, 0, none⟩) 0 0) 0 [] :=
  World.ownsRow_made w #[] 0 hb (by unfold maxLen; omega) rfl
end Go.Proofs.Ythemhpefcfdcaaa
