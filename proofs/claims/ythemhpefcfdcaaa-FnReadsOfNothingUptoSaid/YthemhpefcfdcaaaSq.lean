/- Squeeze: what is read behind what was written. -/
import Derived.Test.YthemhpefcfdcaaaOpen
namespace Go.Proofs.Ythemhpefcfdcaaa
open Go.RowKit
set_option linter.unusedVariables false

/-- a slice of slices of bytes, in blocks below B -/
def Rows2 (B : Nat) (w : World) (a : Option Addr) (cap : Nat) (ls : List (List UInt8)) : Prop :=
  ls.length ≤ cap ∧ cap ≤ 9223372036854775807 ∧ (ls = [] ∨ ∃ pb po, a = some ⟨pb, po, none⟩ ∧ pb < B ∧
    ∀ i l, ls[i]? = some l → ∃ va vc, w.cell? ⟨pb, po + i, none⟩ = some (.slice va l.length vc) ∧ Bs B w va vc l)
/-- a slice of ints, in blocks below B -/
def Ints (B : Nat) (w : World) (a : Option Addr) (cap : Nat) (zs : List Int) : Prop :=
  zs.length ≤ cap ∧ cap ≤ 9223372036854775807 ∧ (zs = [] ∨ ∃ pb po, a = some ⟨pb, po, none⟩ ∧ pb < B ∧ ∀ i z, zs[i]? = some z → w.cell? ⟨pb, po + i, none⟩ = some (.int .i64 z))

theorem Rows2.keep {B : Nat} {w w' : World} (h : Below B w w') {a : Option Addr} {cap : Nat} {ls : List (List UInt8)} (ha : Rows2 B w a cap ls) : Rows2 B w' a cap ls := by
  obtain ⟨h1, h2, h3⟩ := ha
  refine ⟨h1, h2, h3.imp (fun x => x) ?_⟩
  rintro ⟨pb, po, e, hb, hl⟩
  refine ⟨pb, po, e, hb, fun i l hi => ?_⟩
  obtain ⟨va, vc, c1, c2⟩ := hl i l hi
  exact ⟨va, vc, by rw [h.cell (p := ⟨pb, po + i, none⟩) hb]; exact c1, c2.keep h⟩
theorem Rows2.mono {B B' : Nat} (hB : B ≤ B') {w : World} {a : Option Addr} {cap : Nat} {ls : List (List UInt8)} (ha : Rows2 B w a cap ls) : Rows2 B' w a cap ls := by
  obtain ⟨h1, h2, h3⟩ := ha
  refine ⟨h1, h2, h3.imp (fun x => x) ?_⟩
  rintro ⟨pb, po, e, hb, hl⟩
  refine ⟨pb, po, e, by omega, fun i l hi => ?_⟩
  obtain ⟨va, vc, c1, c2⟩ := hl i l hi
  exact ⟨va, vc, c1, c2.mono hB⟩
theorem Ints.keep {B : Nat} {w w' : World} (h : Below B w w') {a : Option Addr} {cap : Nat} {zs : List Int} (ha : Ints B w a cap zs) : Ints B w' a cap zs := by
  obtain ⟨h1, h2, h3⟩ := ha
  refine ⟨h1, h2, h3.imp (fun x => x) ?_⟩
  rintro ⟨pb, po, e, hb, hl⟩
  exact ⟨pb, po, e, hb, fun i z hi => by rw [h.cell (p := ⟨pb, po + i, none⟩) hb]; exact hl i z hi⟩
theorem Ints.mono {B B' : Nat} (hB : B ≤ B') {w : World} {a : Option Addr} {cap : Nat} {zs : List Int} (ha : Ints B w a cap zs) : Ints B' w a cap zs := by
  obtain ⟨h1, h2, h3⟩ := ha
  refine ⟨h1, h2, h3.imp (fun x => x) ?_⟩
  rintro ⟨pb, po, e, hb, hl⟩
  exact ⟨pb, po, e, by omega, hl⟩

/-- an element of a slice of slices -/
theorem Rows2.at {B : Nat} {w : World} {a : Option Addr} {cap : Nat} {ls : List (List UInt8)} (ha : Rows2 B w a cap ls) {i : Nat} {l : List UInt8} (hi : ls[i]? = some l) :
    ∃ pb po va vc, a = some ⟨pb, po, none⟩ ∧ pb < B ∧ w.cell? ⟨pb, po + i, none⟩ = some (.slice va l.length vc) ∧ Bs B w va vc l := by
  obtain ⟨_, _, h3⟩ := ha
  rcases h3 with h3 | ⟨pb, po, e, hb, hl⟩
  · rw [h3] at hi; cases hi
  · obtain ⟨va, vc, c1, c2⟩ := hl i l hi
    exact ⟨pb, po, va, vc, e, hb, c1, c2⟩
theorem Ints.at {B : Nat} {w : World} {a : Option Addr} {cap : Nat} {zs : List Int} (ha : Ints B w a cap zs) {i : Nat} {z : Int} (hi : zs[i]? = some z) :
    ∃ pb po, a = some ⟨pb, po, none⟩ ∧ pb < B ∧ w.cell? ⟨pb, po + i, none⟩ = some (.int .i64 z) := by
  obtain ⟨_, _, h3⟩ := ha
  rcases h3 with h3 | ⟨pb, po, e, hb, hl⟩
  · rw [h3] at hi; cases hi
  · exact ⟨pb, po, e, hb, hl i z hi⟩

/-- all reads, one behind the other -/
def outs : List Int → Sp → List (List UInt8)
  | [], _ => []
  | n :: ns, s => s.out (rdLen n) :: outs ns (s.read (rdLen n))
def after : List Int → Sp → Sp
  | [], s => s
  | n :: ns, s => after ns (s.read (rdLen n))
theorem outs_len : ∀ (ns : List Int) (s : Sp), (outs ns s).length = ns.length
  | [], _ => rfl
  | n :: ns, s => by simp [outs, outs_len ns]
theorem outs_append : ∀ (a b : List Int) (s : Sp), outs (a ++ b) s = outs a s ++ outs b (after a s)
  | [], b, s => rfl
  | n :: a, b, s => by simp [outs, after, outs_append a b]
theorem after_append : ∀ (a b : List Int) (s : Sp), after (a ++ b) s = after b (after a s)
  | [], b, s => rfl
  | n :: a, b, s => by simp [after, after_append a b]
theorem after_ok : ∀ (a : List Int) {s : Sp}, s.Ok → (after a s).Ok
  | [], _, h => h
  | n :: a, _, h => after_ok a (h.read _)
theorem after_same : ∀ (a : List Int) (s : Sp), (after a s).rate = s.rate ∧ (after a s).ds = s.ds ∧ (after a s).ol = s.ol
  | [], _ => ⟨rfl, rfl, rfl⟩
  | n :: a, s => by
    obtain ⟨h1, h2, h3⟩ := after_same a (s.read (rdLen n))
    obtain ⟨g1, g2, g3⟩ := Sp.read_same (rdLen n) s
    exact ⟨h1.trans g1, h2.trans g2, h3.trans g3⟩

theorem info22 : (Try.prog.info? 22).map (fun i => (i.zero, i.size, i.bytes)) = some (some (.slice none 0 0), 1, 24) := by kernel_rfl

/-- the parts that have been read: xs are slices, each over a block of its own -/
def Outs (B : Nat) (w : World) (xs : List Value) (os : List (List UInt8)) : Prop :=
  xs.length = os.length ∧ ∀ (i : Nat) (o : List UInt8), os[i]? = some o → o.length ≤ 9223372036854775807 ∧ ∃ g : Nat, xs[i]? = some (Value.slice (some ⟨g, 0, none⟩) o.length o.length) ∧ B ≤ g ∧ w.heap[g]? = some (.cells (o.map BV).toArray 5 (0, 0))

theorem Outs.nil (B : Nat) (w : World) : Outs B w [] [] := ⟨rfl, fun i o h => by cases h⟩
/-- blocks of bytes stay -/
theorem Outs.keep {B : Nat} {w w' : World} {xs : List Value} {os : List (List UInt8)} (h : Outs B w xs os) (hk : ∀ g c, B ≤ g → w.heap[g]? = some (.cells c 5 (0, 0)) → w'.heap[g]? = w.heap[g]?) : Outs B w' xs os := by
  refine ⟨h.1, fun i o hi => ?_⟩
  obtain ⟨e0, g, e1, e2, e3⟩ := h.2 i o hi
  exact ⟨e0, g, e1, e2, by rw [hk g _ e2 e3]; exact e3⟩
theorem Outs.snoc {B : Nat} {w : World} {xs : List Value} {os : List (List UInt8)} (h : Outs B w xs os) (o : List UInt8) (ho : o.length ≤ 9223372036854775807) (g : Nat) (hg : B ≤ g) (hr : w.heap[g]? = some (.cells (o.map BV).toArray 5 (0, 0))) :
    Outs B w (xs ++ [.slice (some ⟨g, 0, none⟩) o.length o.length]) (os ++ [o]) := by
  refine ⟨by simp [h.1], fun i o' hi => ?_⟩
  by_cases hlt : i < os.length
  · rw [List.getElem?_append_left hlt] at hi
    obtain ⟨e0, g', e1, e2, e3⟩ := h.2 i o' hi
    exact ⟨e0, g', by rw [List.getElem?_append_left (by rw [h.1]; exact hlt)]; exact e1, e2, e3⟩
  · rw [List.getElem?_append_right (by omega)] at hi
    have hi0 : i - os.length = 0 := by
      have := (List.getElem?_eq_some_iff.1 hi).1
      simp at this
      omega
    rw [hi0] at hi
    simp only [List.getElem?_cons_zero, Option.some.injEq] at hi
    subst hi
    exact ⟨ho, g, by rw [List.getElem?_append_right (by rw [h.1]; omega), h.1, hi0]; rfl, hg, hr⟩

/-- a row of slices that the call owns reads as a slice of slices -/
theorem Outs.rows2 {base : Nat} {w : World} {v : Value} {n : Nat} {xs : List Value} {os : List (List UInt8)} (h : Outs base w xs os) (hown : w.ownsRow base 22 1 v n xs) :
    ∃ a cap, v = .slice a os.length cap ∧ Rows2 w.heap.size w a cap os := by
  obtain ⟨h1, h2⟩ := hown
  have hn : n = os.length := by rw [← h.1, h1]; omega
  rcases h2 with ⟨rfl, h0⟩ | ⟨g, cap, cur, rfl, hg, hh, hle, hm, hsz, htk⟩
  · have : os = [] := List.eq_nil_of_length_eq_zero (by omega)
    subst this
    exact ⟨none, 0, rfl, Nat.le_refl _, by omega, .inl rfl⟩
  · refine ⟨some ⟨g, 0, none⟩, cap, by rw [hn], by omega, by unfold maxLen at hm; omega, .inr ⟨g, 0, rfl, (Array.getElem?_eq_some_iff.1 hh).1, fun i l hi => ?_⟩⟩
    obtain ⟨e0, g', e1, e2, e3⟩ := h.2 i l hi
    refine ⟨some ⟨g', 0, none⟩, l.length, ?_, Nat.le_refl _, e0, .inr ⟨g', 0, rfl, (Array.getElem?_eq_some_iff.1 e3).1, by simpa using lies_row e3 0⟩⟩
    rw [← htk] at e1
    rw [List.getElem?_take] at e1
    split at e1
    · simp only [World.cell?, hh, Nat.zero_add]
      simpa using e1
    · cases e1

/-- where the writes stand -/
def SqW (w : World) (b g : Nat) (s : Sp) (ib : Value) (ls : List (List UInt8)) (v : Value) (wr : World) : Prop :=
  ∃ i : Nat, v = .int .i64 (i : Int) ∧ i ≤ ls.length ∧ Shk wr b (s.absorb (ls.take i).flatten) ib ∧ Below w.heap.size w wr ∧ wr.heap[g]? = some (.cells #[] 22 (0, 0))

theorem take_flatten_succ (ls : List (List UInt8)) (i : Nat) (l : List UInt8) (h : ls[i]? = some l) : (ls.take (i + 1)).flatten = (ls.take i).flatten ++ l := by
  rw [List.take_add_one, h]
  simp

/-- where the reads stand -/
def SqR (w : World) (b : Nat) (s : Sp) (ib : Value) (zs : List Int) (v o : Value) (wr : World) : Prop :=
  ∃ (i : Nat) (xs : List Value), v = .int .i64 (i : Int) ∧ i ≤ zs.length ∧ Shk wr b (after (zs.take i) s) ib ∧ Below w.heap.size w wr ∧
    wr.ownsRow w.heap.size 22 1 o i xs ∧ Outs w.heap.size wr xs (outs (zs.take i) s)

theorem ownsRow_mod {w w' : World} {b base : Nat} {e : TypeId} {size n : Nat} {v : Value} {xs : List Value} (h : w.ownsRow base e size v n xs) (hm : Mod b w w') (hb : ∀ c, w.heap[b]? ≠ some (.cells c e (0, 0))) : w'.ownsRow base e size v n xs := by
  obtain ⟨h1, h2⟩ := h
  refine ⟨h1, h2.imp (fun x => x) ?_⟩
  rintro ⟨g, cap, cur, e1, e2, e3, e4⟩
  exact ⟨g, cap, cur, e1, e2, by rw [hm.block g (Array.getElem?_eq_some_iff.1 e3).1 (fun e => hb cur (by rw [← e]; exact e3))]; exact e3, e4⟩
theorem Shk.type {w : World} {b : Nat} {s : Sp} {ib : Value} (h : Shk w b s ib) {t : TypeId} (ht : t ≠ 71) (c : Array Value) : w.heap[b]? ≠ some (.cells c t (0, 0)) := by
  intro e
  rcases h with ⟨h, _⟩ | ⟨h, _⟩ <;> (unfold Has at h; rw [h] at e; simp only [Option.some.injEq, Obj.cells.injEq] at e; exact ht e.2.1.symm)
/-- blocks of bytes stay where a row of slices grows -/
theorem grown_bytes {w w' : World} {base : Nat} {v : Value} {n : Nat} {xs : List Value} (hown : w.ownsRow base 22 1 v n xs) (hg : w.grownBy w' v.ownBlock) (g : Nat) (c : Array Value) (h : w.heap[g]? = some (.cells c 5 (0, 0))) : w'.heap[g]? = w.heap[g]? := by
  refine hg.block g (Array.getElem?_eq_some_iff.1 h).1 ?_
  rcases hown.2 with ⟨rfl, _⟩ | ⟨g', cap, cur, rfl, _, e3, _⟩
  · intro e; cases e
  · intro e
    simp only [Value.ownBlock, Option.some.injEq] at e
    rw [e, e3] at h
    simp at h
/-- and the SHAKE stays -/
theorem grown_shk {w w' : World} {base b : Nat} {v : Value} {n : Nat} {xs : List Value} {s : Sp} {ib : Value} (hown : w.ownsRow base 22 1 v n xs) (hg : w.grownBy w' v.ownBlock) (h : Shk w b s ib) : Shk w' b s ib := by
  refine h.keep (hg.block b h.size ?_)
  rcases hown.2 with ⟨rfl, _⟩ | ⟨g', cap, cur, rfl, _, e3, _⟩
  · intro e; cases e
  · intro e
    simp only [Value.ownBlock, Option.some.injEq] at e
    rw [← e] at e3
    exact h.type (by decide) _ e3

theorem outs_snoc (zs : List Int) (i : Nat) (z : Int) (s : Sp) (h : zs[i]? = some z) : outs (zs.take (i + 1)) s = outs (zs.take i) s ++ [(after (zs.take i) s).out (rdLen z)] := by
  rw [List.take_add_one, h, Option.toList_some, outs_append]
  rfl
theorem after_snoc (zs : List Int) (i : Nat) (z : Int) (s : Sp) (h : zs[i]? = some z) : after (zs.take (i + 1)) s = (after (zs.take i) s).read (rdLen z) := by
  rw [List.take_add_one, h, Option.toList_some, after_append]
  rfl

set_option maxRecDepth 100000 in
set_option maxHeartbeats 2000000 in
theorem squeeze_any (w : World) (kind : Int) (aN aS aW aR : Option Addr) (cN cS cW cR n m p r : Nat) (N S : List UInt8) (ls : List (List UInt8)) (zs : List Int)
    (hn : N.length = n) (hm : S.length = m) (hp : ls.length = p) (hr : zs.length = r) (hN : Bs w.heap.size w aN cN N) (hS : Bs w.heap.size w aS cS S) (hW : Rows2 w.heap.size w aW cW ls) (hR : Ints w.heap.size w aR cR zs)
    (hnb : n ≤ 140737488355328) (hmb : m ≤ 140737488355328) (hsum : 18 + n + m ≤ 281474976710656) (hrb : r * 24 ≤ 140737488355328) :
    Calls Try.prog 19 #[.int .i64 kind, .slice aN n cN, .slice aS m cS, .slice aW p cW, .slice aR r cR] w fun e w' =>
      ∃ a cap, e = .returned (.slice a r cap) ∧ Rows2 w'.heap.size w' a cap (outs zs ((start kind N S).absorb ls.flatten)) ∧ Below w.heap.size w w' := by
  have hc := open_any w kind aN aS cN cS n m N S hn hm hN hS hnb hmb hsum
  obtain ⟨ok0, sq0, ol0⟩ := start_ok kind N S
  obtain ⟨s, hs⟩ : ∃ s, s = start kind N S := ⟨_, rfl⟩
  rw [← hs] at hc ok0 sq0 ol0
  have HC := Lib.hid hc
  have HS := Lib.hid hs
  have HSQ := Lib.hid sq0
  have hpb : p ≤ 9223372036854775807 := by have := hW.1; have := hW.2.1; omega
  have HP := Lib.hid hp
  have HR' := Lib.hid hr
  clear hc hs sq0 hN hS hp hr hn hm
  go_enter Try.func19, Try.ntmps19
  go_wp2_with fail
  refine HC.out.mono ?_
  rintro e w1 ⟨b, ib, rfl, hb, h1, _, _, bl1⟩
  go_wp2_with fail
  obtain ⟨g, hg⟩ : ∃ g, g = w1.heap.size := ⟨_, rfl⟩
  have hb1 := h1.size
  have hgb : g ≠ b := by omega
  have hgw : w.heap.size ≤ g := by have := bl1.size; omega
  have st : SqW w b g s ib ls (.int .i64 ((0 : Nat) : Int)) (w1.alloc (.cells #[] 22)) :=
    ⟨0, rfl, Nat.zero_le _, by simpa [Sp.absorb] using h1.keep (w' := w1.alloc (.cells #[] 22)) (Below.heap_alloc _ _ _ hb1), bl1.alloc bl1.size _, by rw [hg]; exact heap_alloc_new _ _⟩
  rw [← hg]
  clear hg h1 bl1 hb1 HC
  generalize w1.alloc (.cells #[] 22) = w2 at *
  go_loopw [24] (fun v wr => SqW w b g s ib ls v wr) (fun v _ => p - (intOf v).toNat)
  case atStart => exact st
  case round =>
    obtain ⟨i, rfl, hi, h2, bl2, hrow⟩ := hrel
    by_cases hlt : i < p
    · obtain ⟨l, hl⟩ : ∃ l, ls[i]? = some l := ⟨ls[i]'(by rw [HP.out]; exact hlt), by simp [HP.out, hlt]⟩
      obtain ⟨pb, po, va, vc, e1, e2, c1, bs⟩ := (hW.keep bl2).at hl
      subst e1
      have ok2 := ok0.absorb HSQ.out (ls.take i).flatten
      have hcw := swrite_any wr b (s.absorb (ls.take i).flatten) ib h2 ok2.1 ok2.2 va vc l.length l rfl (bs.arg hb)
      have i1 : (i : Int) < (p : Int) := by omega
      have HCW := Lib.hid hcw
      have HL := Lib.hid hl
      have HROW := Lib.hid hrow
      clear hcw hl hrow
      go_wp2_with fail
      refine HCW.out.mono ?_
      rintro e w3 ⟨rfl, h3, m3⟩
      go_wp2_with fail
      go_roundw
      case rel =>
        refine ⟨i + 1, by go_num, by rw [HP.out]; omega, ?_, bl2.trans (m3.below hb bl2.size), ?_⟩
        · rw [take_flatten_succ ls i l HL.out, Sp.absorb_append]
          exact Shk.of h3 (by rw [(Sp.absorb_same _ _).2.2.1, (Sp.absorb_same _ _).2.2.1]; exact ol0)
        · rw [m3.block g (Array.getElem?_eq_some_iff.1 HROW.out).1 hgb]; exact HROW.out
      case measure => simp [intOf]; omega
    · have hip : i = p := by rw [HP.out] at hi; omega
      have hfl : (ls.take i).flatten = ls.flatten := by rw [List.take_of_length_le (by rw [HP.out]; omega)]
      rw [hfl] at h2
      obtain ⟨s1, hs1⟩ : ∃ s1, s1 = s.absorb ls.flatten := ⟨_, rfl⟩
      have ok1 : s1.Ok := by rw [hs1]; exact (ok0.absorb HSQ.out _).1
      have ol1 : 0 < s1.ol := by rw [hs1, (Sp.absorb_same _ _).2.2.1]; exact ol0
      rw [← hs1] at h2
      have HS1 := Lib.hid hs1
      have HIP := Lib.hid hip
      have HROW := Lib.hid hrow
      have st2 : SqR w b s1 ib zs (.int .i64 ((0 : Nat) : Int)) (.slice (some ⟨g, 0, none⟩) 0 0) wr :=
        ⟨0, [], rfl, Nat.zero_le _, h2, bl2, ⟨rfl, .inr ⟨g, 0, #[], rfl, hgw, hrow, Nat.le_refl _, by unfold maxLen; omega, rfl, rfl⟩⟩, Outs.nil _ _⟩
      have hrb2 : r ≤ 9223372036854775807 := by omega
      clear hs1 hip hfl hrow h2 bl2 st
      go_wp2_with fail
      obtain ⟨w3, rfl⟩ : ∃ w3 : World, w3 = wr := ⟨_, rfl⟩
      go_loopw [34, 12] (fun v o wr => SqR w b s1 ib zs v o wr) (fun v _ _ => r - (intOf v).toNat)
      case atStart => exact st2
      case round =>
        obtain ⟨j, xs, rfl, hj, h4, bl4, hown, hout⟩ := hrel
        by_cases hlt2 : j < r
        · obtain ⟨z, hz⟩ : ∃ z, zs[j]? = some z := ⟨zs[j]'(by rw [HR'.out]; exact hlt2), by simp [HR'.out, hlt2]⟩
          obtain ⟨pb, po, e1, e2, c1⟩ := (hR.keep bl4).at hz
          subst e1
          obtain ⟨sj, hsj⟩ : ∃ sj, sj = after (zs.take j) s1 := ⟨_, rfl⟩
          rw [← hsj] at h4
          have okj : sj.Ok := by rw [hsj]; exact after_ok _ ok1
          have olj : 0 < sj.ol := by rw [hsj, (after_same _ _).2.2]; exact ol1
          obtain ⟨k, hk⟩ : ∃ k, k = rdLen z := ⟨_, rfl⟩
          have hcr := rd_any wr b sj ib h4 okj z k hk
          have i1 : (j : Int) < (r : Int) := by omega
          obtain ⟨i0, hi0, hz0, hz1, hz2⟩ := info_parts info22
          have HCR := Lib.hid hcr
          have HZ := Lib.hid hz
          have HSJ := Lib.hid hsj
          have HK := Lib.hid hk
          have HI0 := Lib.hid hi0
          have HZ0 := Lib.hid hz0
          have HZ1 := Lib.hid hz1
          have HZ2 := Lib.hid hz2
          have hk4 := rdLen_le z
          rw [← hk] at hk4
          clear hcr hz hsj hk hi0 hz0 hz1 hz2
          go_wp2_with fail
          refine HCR.out.mono ?_
          rintro e w5 ⟨rfl, h5, hg5, m5⟩
          have own5 := ownsRow_mod hown m5 (h4.type (by decide))
          have out5 := hout.keep (w' := w5) fun g' c _ hc => m5.block g' (Array.getElem?_eq_some_iff.1 hc).1 (fun e => h4.type (t := 5) (by decide) c (by rw [← e]; exact hc))
          have HG5 := Lib.hid hg5
          have hs5 := m5.size
          have hs4 := bl4.size
          clear hg5
          go_wp2_with (refine wpList_append_own _ rfl _ _ 23 rfl w.heap.size 22 i0 (.slice none 0 0) 1 24 Try.underlying23 HI0.out HZ0.out HZ1.out HZ2.out rfl (by decide) _ _ _ rfl (own5.alloc _) ⟨w5.heap.size, 0, none⟩ 1 1 [.slice (some ⟨wr.heap.size, 0, none⟩) k k] rfl rfl (cell_one_new _ _ _) (by simp [Value.oneCell']) (by unfold maxLen; omega) (by omega) (by simp; omega) ?_; intro v' w6 own6 grow6 _)
          have hlk : (sj.out k).length = k := Sp.out_length _ _
          have bel5 : Below w.heap.size w w5 := bl4.trans (m5.below hb bl4.size)
          have own5a := own5.alloc (Obj.cells #[.slice (some ⟨wr.heap.size, 0, none⟩) k k] 22)
          have sh5 : Shk w5 b (sj.read k) ib := Shk.of h5 (by rw [(Sp.read_same _ _).2.2]; exact olj)
          refine ⟨⟨j + 1, xs ++ [.slice (some ⟨wr.heap.size, 0, none⟩) k k], by go_num, by rw [HR'.out]; omega, ?_, ?_, own6, ?_⟩, ?_⟩
          · rw [after_snoc zs j z s1 HZ.out, ← HSJ.out, ← HK.out]
            exact grown_shk own5a grow6 (sh5.keep (Below.heap_alloc _ _ _ sh5.size))
          · refine (bel5.alloc bel5.size _).grown grow6 (by simp; omega) fun k' hk' => ?_
            exact (own5.lt k' hk').1
          · rw [outs_snoc zs j z s1 HZ.out, ← HSJ.out, ← HK.out]
            have o6 := (out5.keep (w' := w5.alloc (Obj.cells #[.slice (some ⟨wr.heap.size, 0, none⟩) k k] 22)) fun g' c _ hc => Below.heap_alloc _ _ _ (Array.getElem?_eq_some_iff.1 hc).1).keep (w' := w6) fun g' c _ hc => grown_bytes own5a grow6 g' c hc
            have hg6 : w6.heap[wr.heap.size]? = some (.cells ((sj.out k).map BV).toArray 5 (0, 0)) := by
              have ha : (w5.alloc (Obj.cells #[.slice (some ⟨wr.heap.size, 0, none⟩) k k] 22)).heap[wr.heap.size]? = some (.cells ((sj.out k).map BV).toArray 5 (0, 0)) := by
                rw [Below.heap_alloc _ _ _ (Array.getElem?_eq_some_iff.1 HG5.out).1]; exact HG5.out
              rw [grown_bytes own5a grow6 _ _ ha]; exact ha
            have e := o6.snoc (sj.out k) (by rw [hlk]; omega) wr.heap.size hs4 hg6
            rw [hlk] at e
            exact e
          · simp [intOf]; omega
        · have hjr : j = r := by rw [HR'.out] at hj; omega
          have htk : zs.take j = zs := List.take_of_length_le (by rw [HR'.out]; omega)
          rw [htk] at hout
          obtain ⟨ra, rcap, e1, e2⟩ := hout.rows2 hown
          have fin : ∃ a cap, Value.slice ra (outs zs s1).length rcap = .slice a r cap ∧ Rows2 wr.heap.size wr a cap (outs zs ((start kind N S).absorb ls.flatten)) ∧ Below w.heap.size w wr :=
            ⟨ra, rcap, by rw [outs_len, HR'.out], by rw [← HS.out, ← HS1.out]; exact e2, bl4⟩
          subst e1
          have HF := Lib.hid fin
          clear hjr htk fin e2 hout hown h4
          go_wp2_with fail
          go_ret
          obtain ⟨a, cap, f1, f2⟩ := HF.out
          exact ⟨a, cap, congrArg Ending.returned f1, f2⟩
end Go.Proofs.Ythemhpefcfdcaaa
