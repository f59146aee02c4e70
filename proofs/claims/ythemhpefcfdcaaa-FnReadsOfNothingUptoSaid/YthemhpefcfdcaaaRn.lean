/- Slices of bools; two rows of ints that grow side by side; reads of nothing put in between. -/
import Derived.Test.YthemhpefcfdcaaaArgs
import Derived.Test.YthemhpefcfdcaaaSqd
import Derived.Deep.Grids
import Derived.Maps.AppendAt
namespace Go.Proofs.Ythemhpefcfdcaaa
open Go.RowKit Go.Deep
open Go.ChangeShapes Go.WideShapes Go.ChangeAt
set_option linter.unusedVariables false

/-- a slice of bools, in blocks below B -/
def Bools (B : Nat) (w : World) (a : Option Addr) (cap : Nat) (bs : List Bool) : Prop :=
  bs.length ≤ cap ∧ cap ≤ 9223372036854775807 ∧ (bs = [] ∨ ∃ pb po, a = some ⟨pb, po, none⟩ ∧ pb < B ∧ ∀ i z, bs[i]? = some z → w.cell? ⟨pb, po + i, none⟩ = some (.bool z))
theorem Bools.keep {B : Nat} {w w' : World} (h : Below B w w') {a : Option Addr} {cap : Nat} {zs : List Bool} (ha : Bools B w a cap zs) : Bools B w' a cap zs := by
  obtain ⟨h1, h2, h3⟩ := ha
  refine ⟨h1, h2, h3.imp (fun x => x) ?_⟩
  rintro ⟨pb, po, e, hb, hl⟩
  exact ⟨pb, po, e, hb, fun i z hi => by rw [h.cell (p := ⟨pb, po + i, none⟩) hb]; exact hl i z hi⟩
theorem Bools.at {B : Nat} {w : World} {a : Option Addr} {cap : Nat} {zs : List Bool} (ha : Bools B w a cap zs) {i : Nat} {z : Bool} (hi : zs[i]? = some z) :
    ∃ pb po, a = some ⟨pb, po, none⟩ ∧ pb < B ∧ w.cell? ⟨pb, po + i, none⟩ = some (.bool z) := by
  obtain ⟨_, _, h3⟩ := ha
  rcases h3 with h3 | ⟨pb, po, e, hb, hl⟩
  · rw [h3] at hi; cases hi
  · exact ⟨pb, po, e, hb, hl i z hi⟩

theorem openBools {H : Type} {enc : TypeId × Value → H} {W : World} {fuel : Nat} {a : Option Addr} {len cap : Nat} {d : DataW H} {p : List MemPlace} (hf : DataW.trod enc Try.prog W 0 (fun _ => true) true fuel 25 [.slice a len cap] = some (d, p)) :
    ∃ bs : List Bool, bs.length = len ∧ Bools W.heap.size W a cap bs ∧ len ≤ Rows.uptoBulk d ∧ True := by
  rcases open_bools Try.underlying25 Try.underlying4 cells4 hf with ⟨hcs, hx⟩ | ⟨x, l, c, Bf, hcs, _, hl, hm, hx, hcell⟩
  · simp only [List.cons.injEq, Value.slice.injEq, and_true] at hcs
    obtain ⟨rfl, rfl, rfl⟩ := hcs
    exact ⟨[], rfl, ⟨Nat.le_refl _, by omega, .inl rfl⟩, Nat.zero_le _, trivial⟩
  · simp only [List.cons.injEq, Value.slice.injEq, and_true] at hcs
    obtain ⟨rfl, rfl, rfl⟩ := hcs
    simp only [Prod.mk.injEq] at hx
    refine ⟨(List.range len).map Bf, by simp, ⟨by simpa using hl, by unfold maxLen at hm; omega, ?_⟩, ?_, trivial⟩
    · by_cases h0 : len = 0
      · exact .inl (by rw [h0]; rfl)
      · obtain ⟨e, hb⟩ := row_addr (hcell 0 (by omega))
        refine .inr ⟨x.block, x.off, by rw [← e], hb, fun j y hj => ?_⟩
        have hjl : j < len := by have := (List.getElem?_eq_some_iff.1 hj).1; simpa using this
        rw [← add_row, ← e, hcell j (by omega)]
        rw [List.getElem?_map, List.getElem?_range hjl] at hj
        simp only [Option.map_some, Option.some.injEq] at hj
        rw [hj]
    · rw [hx.1]
      have := bulk_slice (H := H) ((List.range len).map fun i => .lit (.bool (Bf i))) ((List.range (cap - len)).map fun j => .lit (.bool (Bf (len + j))))
      simp only [List.length_map, List.length_range] at this
      exact this

/-- two rows lie in two blocks -/
def Apart (u v : Value) : Prop := ∀ g : Nat, ¬ (u.ownBlock = some g ∧ v.ownBlock = some g)
theorem Apart.symm {u v : Value} (h : Apart u v) : Apart v u := fun g ⟨h1, h2⟩ => h g ⟨h2, h1⟩
theorem own_apart {w w' : World} {base : Nat} {e : TypeId} {u v : Value} {m : Nat} {ys : List Value} (h : w.ownsRow base e 1 u m ys) (hg : w.grownBy w' v.ownBlock) (ha : Apart u v) : w'.ownsRow base e 1 u m ys := by
  obtain ⟨h1, h2⟩ := h
  refine ⟨h1, h2.imp (fun x => x) ?_⟩
  rintro ⟨g, cap, cur, e1, e2, e3, e4⟩
  exact ⟨g, cap, cur, e1, e2, by rw [hg.block g (Array.getElem?_eq_some_iff.1 e3).1 (fun h => ha g ⟨by rw [e1]; rfl, h.symm⟩)]; exact e3, e4⟩
/-- one of two rows grows -/
theorem grow_two {w0 w w' : World} {base m n : Nat} {u v v' x : Value} {ys xs : List Value} {t : TypeId} (bl : Below w0.heap.size w0 w) (hbase : w0.heap.size ≤ base) (own2 : w.ownsRow base 3 1 u m ys) (own1 : w.ownsRow base 3 1 v n xs) (ha : Apart u v)
    (grow : (w.alloc (.cells #[x] t)).grownBy w' v.ownBlock) (hat : v'.ownBlock = v.ownBlock ∨ v'.ownBlock = some (w.alloc (.cells #[x] t)).heap.size) :
    w'.ownsRow base 3 1 u m ys ∧ Apart u v' ∧ Below w0.heap.size w0 w' := by
  refine ⟨own_apart (own2.alloc _) grow ha, fun g ⟨h1, h2⟩ => ?_, ?_⟩
  · rcases hat with h | h
    · rw [h] at h2; exact ha g ⟨h1, h2⟩
    · rw [h] at h2
      simp only [Option.some.injEq] at h2
      have := (own2.lt g h1).2
      simp at h2
      omega
  · exact (bl.alloc bl.size _).grown grow (by have := bl.size; simp; omega) fun k' hk' => by have := (own1.lt k' hk').1; omega

/-! the plain law -/
theorem out_of_pad {s t : Sp} (h : s.pad = t.pad) (k : Nat) : s.out k = t.out k ∧ s.read k = t.read k := by
  unfold Sp.out Sp.read
  rw [h]
  exact ⟨rfl, rfl⟩
/-- where the putting in stands -/
structure Pl (zs : List Int) (s : Sp) (i : Nat) (mo : List Int) (du : List Nat) : Prop where
  len : du.length = i
  le : mo.length ≤ 2 * i
  pad : (after mo s).pad = (after (zs.take i) s).pad
  each : ∀ (j k : Nat), du[j]? = some k → k < mo.length ∧ (outs mo s)[k]? = (outs zs s)[j]?
theorem Pl.nil (zs : List Int) (s : Sp) : Pl zs s 0 [] [] := ⟨rfl, Nat.zero_le _, rfl, fun j k h => by cases h⟩
/-- a read of nothing, or none -/
theorem put_none (s : Sp) (mo : List Int) (b : Bool) : (after (mo ++ if b then [0] else []) s).pad = (after mo s).pad := by
  cases b
  · simp
  · simp only [if_true]
    rw [after_append]
    show (Sp.read (rdLen 0) (after mo s)).pad = _
    have : rdLen 0 = 0 := rfl
    rw [this, Sp.read_pad]
    rfl
theorem Pl.step {zs : List Int} {s : Sp} {i : Nat} {mo : List Int} {du : List Nat} (h : Pl zs s i mo du) (b : Bool) {z : Int} (hz : zs[i]? = some z) :
    Pl zs s (i + 1) ((mo ++ if b then [0] else []) ++ [z]) (du ++ [(mo ++ if b then [0] else []).length]) := by
  obtain ⟨mo', hmo⟩ : ∃ mo', mo' = mo ++ if b then [0] else [] := ⟨_, rfl⟩
  have hp : (after mo' s).pad = (after (zs.take i) s).pad := by rw [hmo, put_none]; exact h.pad
  have hl : mo'.length ≤ mo.length + 1 ∧ mo.length ≤ mo'.length := by rw [hmo]; cases b <;> simp
  obtain ⟨o1, o2⟩ := out_of_pad hp (rdLen z)
  rw [← hmo]
  refine ⟨by simp [h.len], by have := h.le; simp; omega, ?_, fun j k hj => ?_⟩
  · rw [after_append, after_snoc zs i z s hz]
    show (Sp.read (rdLen z) (after mo' s)).pad = _
    rw [o2]
  · by_cases hlt : j < du.length
    · rw [List.getElem?_append_left hlt] at hj
      obtain ⟨e1, e2⟩ := h.each j k hj
      refine ⟨by simp; omega, ?_⟩
      rw [outs_append, List.getElem?_append_left (by rw [outs_len]; omega), hmo, outs_append, List.getElem?_append_left (by rw [outs_len]; omega)]
      exact e2
    · rw [List.getElem?_append_right (by omega)] at hj
      have hj0 : j - du.length = 0 := by
        have := (List.getElem?_eq_some_iff.1 hj).1
        simp at this
        omega
      rw [hj0] at hj
      simp only [List.getElem?_cons_zero, Option.some.injEq] at hj
      subst hj
      refine ⟨by simp, ?_⟩
      rw [outs_append, List.getElem?_append_right (by rw [outs_len]; omega), outs_len, Nat.sub_self]
      show some (Sp.out (rdLen z) (after mo' s)) = _
      have hij : j = i := by have := h.len; omega
      have e : zs = zs.take (i + 1) ++ zs.drop (i + 1) := (List.take_append_drop _ _).symm
      have hil := (List.getElem?_eq_some_iff.1 hz).1
      rw [o1, hij, e, outs_append, List.getElem?_append_left (by rw [outs_len, List.length_take]; omega), outs_snoc zs i z s hz, List.getElem?_append_right (by rw [outs_len, List.length_take]; omega), outs_len, List.length_take, Nat.min_eq_left (by omega), Nat.sub_self]
      simp
end Go.Proofs.Ythemhpefcfdcaaa
