/- What the library's body-less functions do to memory, over the program's own numbers: the permutation, the exclusive or of bytes, the look for shared memory, the indicator. -/
import Derived.Test.YthemhpefcfdcaaaSponge
import Derived.Test.YthemhpefcfdcaaaRows
import Derived.WalkKit
import Derived.WalkSpells
import Derived.WalkLawsBesides
namespace Go.Proofs.Ythemhpefcfdcaaa
open Go.RowKit

/-- a byte as a value -/
def BV (x : UInt8) : Value := .int .u8 (x.toNat : Int)
theorem BV_one (x : UInt8) : (BV x).oneCell' = true := rfl
theorem map_BV_one (l : List UInt8) : ∀ v ∈ l.map BV, v.oneCell' = true := by
  intro v hv
  obtain ⟨x, _, rfl⟩ := List.mem_map.1 hv
  rfl

theorem run_mapM_pure {P : Program} {α β : Type} (w : World) (g : α → Sem β) (h : α → β) : ∀ (l : List α), (∀ x ∈ l, (g x).run P w = .ok (h x) w) →
    (l.mapM g).run P w = .ok (l.map h) w
  | [], _ => by simp
  | x :: l, hx => by
    simp [List.mapM_cons, hx x (by simp), run_mapM_pure w g h l (fun y hy => hx y (by simp [hy]))]

theorem int_mod256 (x : Nat) : Value.int .u8 (Int.ofNat (x % 256)) = BV (UInt8.ofNat (x % 256)) := by
  unfold BV
  congr 1
  simp

theorem run_keccak {P : Program} (w : World) (g : Nat) (cur : Array Value) (t : TypeId) (a : List UInt8) (post : List Value)
    (hg : w.heap[g]? = some (.cells cur t (0, 0))) (hl : a.length = 200) (hc : cur.toList = a.map BV ++ post) :
    (Extern.Keccak.keccakF1600 #[.pointer (some ⟨g, 0, none⟩)]).run P w = .ok (.tuple #[]) (w.setRow g ((kecc a).map BV ++ post).toArray) := by
  change Sem.run P (do
    let a ← asAddr (.pointer (some ⟨g, 0, none⟩))
    let bytes ← (← loadCells a 200).mapM fun c => do pure (← asInt c).toNat
    let lanes := (Array.range 25).map fun i => (List.range 8).foldr (fun j acc => acc * 256 + bytes.getD (8 * i + j) 0) 0
    let out := Extern.Keccak.roundConstants.foldl Extern.Keccak.round lanes
    storeCells a ((List.range 200).map fun k => .int .u8 (Int.ofNat (out.getD (k / 8) 0 / 256 ^ (k % 8) % 256)))
    pure (Value.tuple #[])) w = _
  have hload : (loadCells ⟨g, 0, none⟩ 200).run P w = .ok (a.map BV).toArray w := by
    have h := run_loadCells_list (P := P) w ⟨g, 0, none⟩ (a.map BV) (fun j v hv => by
      have hadd : (⟨g, 0, none⟩ : Addr).add j = ⟨g, j, none⟩ := by unfold Addr.add; split <;> simp_all
      rw [hadd]
      have : cur[j]? = some v := by
        rw [← Array.getElem?_toList, hc, List.getElem?_append_left (by have := List.getElem?_eq_some_iff.1 hv; exact this.1)]
        exact hv
      simp [World.cell?, hg, this])
    simpa [hl] using h
  have hmap : ((a.map BV).toArray.mapM fun c => do pure (← asInt c).toNat).run P w = .ok (a.map UInt8.toNat).toArray w := by
    rw [Array.mapM_eq_mapM_toList]
    have h := run_mapM_pure (P := P) w (fun c => do pure (← asInt c).toNat) (fun v => (match v with | .int _ n => n.toNat | _ => 0)) (a.map BV) (fun x hx => by
      obtain ⟨b, _, rfl⟩ := List.mem_map.1 hx
      rfl)
    simp only [Sem.run_map, h, Result.andThen_ok, List.map_map]
    congr 2
  have hlist : ((List.range 200).map fun k => Value.int .u8 (Int.ofNat ((Extern.Keccak.roundConstants.foldl Extern.Keccak.round ((Array.range 25).map fun i => (List.range 8).foldr (fun j acc => acc * 256 + (a.map UInt8.toNat).toArray.getD (8 * i + j) 0) 0)).getD (k / 8) 0 / 256 ^ (k % 8) % 256)))
      = (kecc a).map BV := by
    unfold kecc kecNat
    simp only [List.map_map]
    exact List.map_congr_left fun k _ => int_mod256 _
  have hsz : cur.size = 200 + post.length := by
    rw [← Array.length_toList, hc]; simp [hl]
  have hst := run_storeCells_at P g 0 t ((kecc a).map BV) 0 cur w hg (by simp [kecc_length, hsz]) (map_BV_one _)
  simp only [Sem.run_bind, asAddr, Sem.run_pure, Result.andThen_ok, hload, hmap]
  rw [hlist, hst]
  simp only [Result.andThen_ok]
  congr 3
  simp [kecc_length, hc, hl]


theorem zip_xor : ∀ (xs ys : List UInt8), ((xs.map BV).zip (ys.map BV)).map
    (fun p => (match p with | (Value.int _ x, Value.int _ y) => Value.int .u8 (Int.ofNat (x.toNat ^^^ y.toNat)) | _ => .nilIface)) = (List.zipWith (· ^^^ ·) xs ys).map BV
  | [], _ => by simp
  | _ :: _, [] => by simp
  | x :: xs, y :: ys => by
    simp only [List.map_cons, List.zip_cons_cons, List.zipWith_cons_cons]
    rw [zip_xor xs ys]
    congr 1

theorem xorBytes_mapM {P : Program} (w : World) (xs ys : List UInt8) :
    (((xs.map BV).toArray.zip (ys.map BV).toArray).mapM fun (x, y) => do pure (Value.int .u8 (Int.ofNat ((← asInt x).toNat ^^^ (← asInt y).toNat)))).run P w
      = .ok ((List.zipWith (· ^^^ ·) xs ys).map BV).toArray w := by
  rw [Array.mapM_eq_mapM_toList]
  have h := run_mapM_pure (P := P) w (fun (p : Value × Value) => do pure (Value.int .u8 (Int.ofNat ((← asInt p.1).toNat ^^^ (← asInt p.2).toNat))))
    (fun p => (match p with | (.int _ x, .int _ y) => Value.int .u8 (Int.ofNat (x.toNat ^^^ y.toNat)) | _ => .nilIface)) ((xs.map BV).zip (ys.map BV)) (fun p hp => by
      obtain ⟨x, y⟩ := p
      have hx := (List.of_mem_zip hp).1
      have hy := (List.of_mem_zip hp).2
      obtain ⟨b, _, rfl⟩ := List.mem_map.1 hx
      obtain ⟨c, _, rfl⟩ := List.mem_map.1 hy
      rfl)
  simp only [Sem.run_map, Array.toList_zip, h, Result.andThen_ok]
  rw [zip_xor]

/-- an address moved on in its row -/
theorem add_row (g o j : Nat) : (⟨g, o, none⟩ : Addr).add j = ⟨g, o + j, none⟩ := by
  unfold Addr.add; split <;> simp_all

theorem run_xorBytes {P : Program} (w : World) (g o : Nat) (cur : Array Value) (t : TypeId) (xs ys : List UInt8) (q : Addr) (pre post : List Value)
    (hg : w.heap[g]? = some (.cells cur t (0, 0))) (hc : cur.toList = pre ++ xs.map BV ++ post) (ho : pre.length = o) (hl : xs.length = ys.length)
    (hy : ∀ j v, (ys.map BV)[j]? = some v → w.cell? (q.add j) = some v) :
    (Extern.CryptoHooks.xorBytes #[.pointer (some ⟨g, o, none⟩), .pointer (some ⟨g, o, none⟩), .pointer (some q), .int .i64 (ys.length : Int)]).run P w =
      .ok (.tuple #[]) (w.setRow g (pre ++ (List.zipWith (· ^^^ ·) xs ys).map BV ++ post).toArray) := by
  change Sem.run P (do
    let n := (← asInt (.int .i64 (ys.length : Int))).toNat
    let xs ← loadCells (← asAddr (.pointer (some ⟨g, o, none⟩))) n
    let ys ← loadCells (← asAddr (.pointer (some q))) n
    let out ← (xs.zip ys).mapM fun (x, y) => do pure (Value.int .u8 (Int.ofNat ((← asInt x).toNat ^^^ (← asInt y).toNat)))
    storeCells (← asAddr (.pointer (some ⟨g, o, none⟩))) out.toList
    pure (Value.tuple #[])) w = _
  have hx : (loadCells ⟨g, o, none⟩ ys.length).run P w = .ok (xs.map BV).toArray w := by
    have h := run_loadCells_list (P := P) w ⟨g, o, none⟩ (xs.map BV) (fun j v hv => by
      rw [add_row]
      have hj : j < (xs.map BV).length := (List.getElem?_eq_some_iff.1 hv).1
      have : cur[o + j]? = some v := by
        rw [← Array.getElem?_toList, hc, List.append_assoc, List.getElem?_append_right (by omega), List.getElem?_append_left (by omega)]
        rw [← hv]; congr 1; omega
      simp [World.cell?, hg, this])
    simpa [hl] using h
  have hy' : (loadCells q ys.length).run P w = .ok (ys.map BV).toArray w := by
    have h := run_loadCells_list (P := P) w q (ys.map BV) hy
    simpa using h
  have hsz : cur.size = o + xs.length + post.length := by
    rw [← Array.length_toList, hc]; simp; omega
  have hst := run_storeCells_at P g o t ((List.zipWith (· ^^^ ·) xs ys).map BV) 0 cur w hg (by simp; omega) (map_BV_one _)
  have hi : (asInt (.int .i64 (ys.length : Int))).run P w = .ok (ys.length : Int) w := rfl
  simp only [Sem.run_bind, asAddr, hi, Sem.run_pure, Result.andThen_ok, Int.toNat_natCast, hx, hy', xorBytes_mapM, hst]
  congr 3
  have e1 : cur.toList.take (o + 0) = pre := by rw [hc, List.append_assoc, List.take_append_of_le_length (by omega)]; simp [← ho]
  have e2 : cur.toList.drop (o + 0 + ((List.zipWith (· ^^^ ·) xs ys).map BV).length) = post := by
    rw [hc, List.drop_append_of_le_length (by simp; omega), List.drop_of_length_le (by simp; omega)]
    simp
  rw [e1, e2]

theorem call_keccak (w : World) (g : Nat) (cur : Array Value) (t : TypeId) (a : List UInt8) (post : List Value)
    (hg : w.heap[g]? = some (.cells cur t (0, 0))) (hl : a.length = 200) (hc : cur.toList = a.map BV ++ post) :
    (callFunc 81 #[.pointer (some ⟨g, 0, none⟩)]).run Try.prog w = .ok (.value (.tuple #[])) (w.setRow g ((kecc a).map BV ++ post).toArray) := by
  rw [run_callFunc_extern (e := Extern.Keccak.keccakF1600) Try.func81 (by kernel_rfl) (by kernel_rfl) (by kernel_rfl) (by kernel_rfl), run_keccak w g cur t a post hg hl hc]
  rfl

theorem call_xorBytes (w : World) (g o : Nat) (cur : Array Value) (t : TypeId) (xs ys : List UInt8) (q : Addr) (pre post : List Value)
    (hg : w.heap[g]? = some (.cells cur t (0, 0))) (hc : cur.toList = pre ++ xs.map BV ++ post) (ho : pre.length = o) (hl : xs.length = ys.length)
    (hy : ∀ j v, (ys.map BV)[j]? = some v → w.cell? (q.add j) = some v) :
    (callFunc 80 #[.pointer (some ⟨g, o, none⟩), .pointer (some ⟨g, o, none⟩), .pointer (some q), .int .i64 (ys.length : Int)]).run Try.prog w =
      .ok (.value (.tuple #[])) (w.setRow g (pre ++ (List.zipWith (· ^^^ ·) xs ys).map BV ++ post).toArray) := by
  rw [run_callFunc_extern (e := Extern.CryptoHooks.xorBytes) Try.func80 (by kernel_rfl) (by kernel_rfl) (by kernel_rfl) (by kernel_rfl), run_xorBytes w g o cur t xs ys q pre post hg hc ho hl hy]
  rfl

theorem cells_of_len {w : World} {q : Addr} {v : Value} (h : w.cell? q = some v) : ∃ cur t fr, w.heap[q.block]? = some (.cells cur t fr) ∧ cur.size ≠ 0 := by
  unfold World.cell? at h
  split at h
  · rename_i c t fr hc
    refine ⟨c, t, fr, hc, ?_⟩
    split at h
    · cases h
    · intro h0
      have := (Array.getElem?_eq_some_iff.1 h).1
      omega
  · cases h

theorem apart_looks (w : World) (g o : Nat) (b : Addr) (cur : Array Value) (t : TypeId) (v : Value)
    (hg : w.heap[g]? = some (.cells cur t (0, 0))) (hb : w.cell? b = some v) :
    (noView ⟨g, o, none⟩).run Try.prog w = .ok () w ∧ (noView b).run Try.prog w = .ok () w ∧ (mayBeOne ⟨g, o, none⟩ b).run Try.prog w = .ok false w := by
  obtain ⟨cur2, t2, fr2, hb2, hsz⟩ := cells_of_len hb
  have hfa : w.frozen? ⟨g, o, none⟩ = false := by simp [World.frozen?, hg]
  have hfs : w.frozen? ⟨g, cur.size, none⟩ = false := by simp [World.frozen?, hg]
  have hsa : w.shape? g = some (t, cur.size) := by simp [World.shape?, hg]
  have hsb : w.shape? b.block = some (t2, cur2.size) := by simp [World.shape?, hb2]
  have hv1 : (noView ⟨g, o, none⟩).run Try.prog w = .ok () w := by simp [noView, viewAt, hsa]
  have hv2 : (noView b).run Try.prog w = .ok () w := by simp [noView, viewAt, hsb]
  have hs1 : (stringish ⟨g, o, none⟩).run Try.prog w = .ok false w := by simp [stringish, hfa, hsa, hfs]
  refine ⟨hv1, hv2, ?_⟩
  unfold mayBeOne
  have hs2 : ∃ x, (stringish b).run Try.prog w = .ok x w := by
    unfold stringish
    cases hf : w.frozen? b <;> simp [hf, hsb]
  obtain ⟨x, hs2⟩ := hs2
  have hm0 : (match some (t2, cur2.size) with | some (_, 0) => true | _ => false) = false := by
    cases h : cur2.size with
    | zero => exact absurd h hsz
    | succ k => rfl
  simp [hs1, hs2, hsb]
  intro _
  exact hm0

theorem run_overlaps (w : World) (g o la ca : Nat) (b : Addr) (lb cb : Nat) (cur : Array Value) (t : TypeId) (v : Value)
    (hg : w.heap[g]? = some (.cells cur t (0, 0))) (hb : w.cell? b = some v) (hne : b.block ≠ g) :
    (Extern.SlicesOverlaps.overlaps #[22, 22] #[4] #[.slice (some ⟨g, o, none⟩) la ca, .slice (some b) lb cb]).run Try.prog w = .ok (.bool false) w := by
  have hne' : ¬ g = b.block := fun h => hne h.symm
  have hfa : w.frozen? ⟨g, o, none⟩ = false := by simp [World.frozen?, hg]
  obtain ⟨hv1, hv2, hm⟩ := apart_looks w g o b cur t v hg hb
  have hu : (underlying 22).run Try.prog w = .ok (.slice 5) w := by kernel_rfl
  have hz : (sizeOf 5).run Try.prog w = .ok 1 w := by kernel_rfl
  change Sem.run Try.prog (do
    let some t := (#[22, 22] : Array TypeId)[0]? | stuck "slices.overlaps: no parameter types"
    let .slice elem ← underlying t | stuck "slices.overlaps: slice type expected"
    let size ← sizeOf elem
    if la = 0 ∨ lb = 0 ∨ size = 0 then pure (Value.bool false)
    else if (⟨g, o, none⟩ : Addr).block != b.block && (← frozen ⟨g, o, none⟩) && (← frozen b) then unsupported .addressObserved
    else do
      if (⟨g, o, none⟩ : Addr).block != b.block then do
        noView ⟨g, o, none⟩; noView b
        if ← mayBeOne ⟨g, o, none⟩ b then return .bool ((← choose _) == 1)
      pure (.bool ((⟨g, o, none⟩ : Addr).block == b.block && o < b.off + lb * size && b.off < o + la * size))) w = _
  simp [hu, hz, hfa, hv1, hv2, hm, hne']

theorem call_anyOverlap (w : World) (g o la ca : Nat) (b : Addr) (lb cb : Nat) (cur : Array Value) (t : TypeId) (v : Value)
    (hg : w.heap[g]? = some (.cells cur t (0, 0))) (hb : w.cell? b = some v) (hne : b.block ≠ g) :
    (callFunc 83 #[.slice (some ⟨g, o, none⟩) la ca, .slice (some b) lb cb]).run Try.prog w = .ok (.value (.bool false)) w := by
  rw [run_callFunc_extern (e := Extern.SlicesOverlaps.overlaps #[22, 22] #[4]) Try.func83 (by kernel_rfl) (by kernel_rfl) (by kernel_rfl) (by kernel_rfl), run_overlaps w g o la ca b lb cb cur t v hg hb hne]
  rfl

theorem call_getIndicator (w : World) : (callFunc 68 #[]).run Try.prog w = .ok (.value (.int .u8 0)) w := by
  rw [run_callFunc_extern (e := fun _ => pure (.int .u8 0)) Try.func68 (by kernel_rfl) (by kernel_rfl) (by kernel_rfl) (by kernel_rfl)]
  rfl
theorem call_setIndicator (w : World) (v : Value) : (callFunc 69 #[v]).run Try.prog w = .ok (.value (.tuple #[])) w := by
  rw [run_callFunc_extern (e := Extern.CryptoHooks.nothing) Try.func69 (by kernel_rfl) (by kernel_rfl) (by kernel_rfl) (by kernel_rfl)]
  rfl
end Go.Proofs.Ythemhpefcfdcaaa
