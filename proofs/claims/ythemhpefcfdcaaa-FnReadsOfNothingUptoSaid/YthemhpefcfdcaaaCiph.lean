/- Cipher: the data exclusive-ored with the squeezed bytes of a sponge opened on the key. -/
import Derived.Test.YthemhpefcfdcaaaSpec
namespace Go.Proofs.Ythemhpefcfdcaaa
open Go.RowKit
set_option linter.unusedVariables false

theorem info5' : (Try.prog.info? 5).map (fun i => (i.zero, i.size, i.bytes)) = some (some (.int .u8 0), 1, 1) := info5

theorem Bs.src {B : Nat} {w : World} {a : Option Addr} {cap : Nat} {l : List UInt8} (h : Bs B w a cap l) : l.map BV = [] ∨ ∃ ad, a = some ad ∧ ∀ j u, (l.map BV)[j]? = some u → w.cell? (ad.add j) = some u := by
  rcases h.2.2 with h0 | ⟨pb, po, e, _, hl⟩
  · exact .inl (by rw [h0]; rfl)
  · refine .inr ⟨_, e, fun j u hj => ?_⟩
    rw [List.getElem?_map] at hj
    cases hx : l[j]? with
    | none => rw [hx] at hj; cases hj
    | some z => rw [hx] at hj; simp only [Option.map_some, Option.some.injEq] at hj; rw [← hj]; exact hl j z hx
/-- a row of bytes that the call owns -/
theorem own_bytes {w : World} {base : Nat} {a : Option Addr} {n c : Nat} {l : List UInt8} (h : w.ownsRow base 5 1 (.slice a n c) n (l.map BV)) (h0 : a ≠ none) :
    ∃ g rest, a = some ⟨g, 0, none⟩ ∧ base ≤ g ∧ l.length = n ∧ n ≤ c ∧ c ≤ 9223372036854775807 ∧ w.heap[g]? = some (.cells (l.map BV ++ rest).toArray 5 (0, 0)) := by
  have hn : l.length = n := by have := h.1; simp at this; omega
  rcases h.2 with ⟨e, _⟩ | ⟨g, cap, cur, e, hg, hh, hle, hm, hsz, htk⟩
  · simp only [Value.slice.injEq] at e; exact absurd e.1 h0
  · simp only [Value.slice.injEq] at e
    obtain ⟨rfl, _, rfl⟩ := e
    refine ⟨g, cur.toList.drop n, rfl, hg, hn, hle, by unfold maxLen at hm; omega, ?_⟩
    rw [hh, ← htk, Nat.mul_one, List.take_append_drop]
theorem own_some {w : World} {base : Nat} {e : TypeId} {n : Nat} {xs : List Value} (h : w.ownsRow base e 1 (.slice none n 0) n xs) : n = 0 := by
  rcases h.2 with ⟨_, h0⟩ | ⟨g, cap, cur, e, _⟩
  · exact h0
  · simp at e

/-- the bytes of data changed by the bytes of K, as far as there are any -/
def enc (data K : List UInt8) : List UInt8 := List.zipWith (· ^^^ ·) data K ++ data.drop K.length
theorem enc_nil (data : List UInt8) : enc data [] = data := by simp [enc]
theorem enc_len (data K : List UInt8) (h : K.length ≤ data.length) : (enc data K).length = data.length := by simp [enc]; omega
theorem enc_all (data K : List UInt8) (h : data.length ≤ K.length) : enc data K = List.zipWith (· ^^^ ·) data K := by
  unfold enc; rw [List.drop_of_length_le h, List.append_nil]
theorem enc_get (data K : List UInt8) (h : K.length < data.length) : (enc data K)[K.length]? = data[K.length]? := by
  unfold enc
  rw [List.getElem?_append_right (by simp; omega)]
  simp only [List.length_zipWith, Nat.min_eq_right (Nat.le_of_lt h), Nat.sub_self, List.getElem?_drop, Nat.add_zero]
theorem enc_snoc : ∀ (data K : List UInt8) (x d : UInt8), data[K.length]? = some d → (enc data K).set K.length (d ^^^ x) = enc data (K ++ [x])
  | [], K, x, d, h => by simp at h
  | c :: data, [], x, d, h => by
    simp at h
    subst h
    simp [enc]
  | c :: data, k :: K, x, d, h => by
    have ih := enc_snoc data K x d (by simpa using h)
    simp only [enc, List.zipWith_cons_cons, List.length_cons, List.drop_succ_cons, List.cons_append, List.set_cons_succ] at ih ⊢
    rw [ih]

/-- what Cipher gives -/
def ciph (s : Sp) (data : List UInt8) : List UInt8 := List.zipWith (· ^^^ ·) data (s.out data.length)

/-- a slice of ints without its first -/
theorem Ints.tail {B : Nat} {w : World} {a : Option Addr} {cap m : Nat} {z : Int} {zs : List Int} (h : Ints B w a cap (z :: zs)) (hm : zs.length = m) :
    ∃ A' : Option Addr, (∀ W, (Instr.sliceAt 24 (.slice a (m + 1) cap) (some (.int .i64 1)) none none).run Try.prog W = .ok (.slice A' m (cap - 1)) W) ∧ Ints B w A' (cap - 1) zs := by
  obtain ⟨h1, h2, h3⟩ := h
  rcases h3 with h3 | ⟨pb, po, e, hb, hl⟩
  · cases h3
  subst e
  simp only [List.length_cons] at h1
  refine ⟨if cap = 1 then some ⟨pb, po, none⟩ else some ⟨pb, po + 1, none⟩, fun W => ?_, by omega, by omega, ?_⟩
  · have hu : (underlying 24).run Try.prog W = .ok (.slice 3) W := by kernel_rfl
    have hb1 : (Instr.sliceBound (.int .i64 1) (m + 1) .sliceB).run Try.prog W = .ok 1 W := by
      have : (1 : Int) ≤ (m : Int) + 1 := by omega
      simp [Instr.sliceBound, asIntOf, this]
    simp [Instr.sliceAt, hu, Instr.slice, Instr.sliceBounds, hb1, add_row]
  · by_cases h0 : zs = []
    · exact .inl h0
    · have : 0 < zs.length := List.length_pos_iff.2 h0
      refine .inr ⟨pb, po + 1, by rw [if_neg (by omega)], hb, fun i y hi => ?_⟩
      rw [Nat.add_assoc, Nat.add_comm 1 i]
      exact hl (i + 1) y (by simpa using hi)

/-- the sponge behind i bytes of output -/
def At (s1 st : Sp) (i : Nat) : Prop := (st = s1 ∧ i = 0) ∨ st = s1.read i
theorem At.read {s1 st : Sp} {i : Nat} (h : At s1 st i) (k : Nat) : At s1 (st.read k) (i + k) := by
  rcases h with ⟨rfl, rfl⟩ | rfl
  · exact .inr (by rw [Nat.zero_add])
  · exact .inr (by rw [Sp.read_add])
theorem At.out {s1 st : Sp} {i : Nat} (h : At s1 st i) (k : Nat) : s1.out (i + k) = s1.out i ++ st.out k := by
  rcases h with ⟨rfl, rfl⟩ | rfl
  · rw [Nat.zero_add]; simp [Sp.out, Sp.outN]
  · rw [Sp.out_add]
theorem At.ok {s1 st : Sp} {i : Nat} (h : At s1 st i) (ho : s1.Ok) (hl : 0 < s1.ol) : st.Ok ∧ 0 < st.ol := by
  rcases h with ⟨rfl, rfl⟩ | rfl
  · exact ⟨ho, hl⟩
  · exact ⟨ho.read _, by rw [(Sp.read_same _ _).2.2]; exact hl⟩

/-- where the outer loop stands: i bytes are done, the cuts zs are left -/
def CiO (w : World) (b g : Nat) (s1 : Sp) (ib : Value) (data : List UInt8) (rest : List Value) (vi vc : Value) (wr : World) : Prop :=
  ∃ (i m cap : Nat) (a : Option Addr) (zs : List Int) (st : Sp), vi = .int .i64 (i : Int) ∧ vc = .slice a m cap ∧ i ≤ data.length ∧ zs.length = m ∧ Ints w.heap.size wr a cap zs ∧
    At s1 st i ∧ Shk wr b st ib ∧ Below w.heap.size w wr ∧ wr.heap[g]? = some (.cells ((enc data (s1.out i)).map BV ++ rest).toArray 5 (0, 0))

/-- where the inner loop stands: j bytes of the part O are done -/
def CiI (w5 : World) (g i : Nat) (data K O : List UInt8) (rest : List Value) (vj vi : Value) (wr : World) : Prop :=
  ∃ j : Nat, vj = .int .i64 (j : Int) ∧ vi = .int .i64 ((i + j : Nat) : Int) ∧ j ≤ O.length ∧ wr = w5.setRow g ((enc data (K ++ O.take j)).map BV ++ rest).toArray

set_option maxRecDepth 100000 in
set_option maxHeartbeats 4000000 in
theorem cipher_any (w : World) (kind : Int) (aN aS aK aD aC : Option Addr) (cN cS cK cD cC n m kk d r : Nat) (N S key data : List UInt8) (zs : List Int)
    (hn : N.length = n) (hm : S.length = m) (hkk : key.length = kk) (hd : data.length = d) (hr : zs.length = r) (hN : Bs w.heap.size w aN cN N) (hS : Bs w.heap.size w aS cS S) (hK : Bs w.heap.size w aK cK key) (hD : Bs w.heap.size w aD cD data) (hC : Ints w.heap.size w aC cC zs)
    (hnb : n ≤ 140737488355328) (hmb : m ≤ 140737488355328) (hsum : 18 + n + m ≤ 281474976710656) (hdb : d ≤ 140737488355328) :
    Calls Try.prog 26 #[.int .i64 kind, .slice aN n cN, .slice aS m cS, .slice aK kk cK, .slice aD d cD, .slice aC r cC] w fun e w' =>
      ∃ a cap, e = .returned (.slice a d cap) ∧ Bs w'.heap.size w' a cap (ciph ((start kind N S).absorb key) data) ∧ Below w.heap.size w w' := by
  have hc := open_any w kind aN aS cN cS n m N S hn hm hN hS hnb hmb hsum
  obtain ⟨ok0, sq0, ol0⟩ := start_ok kind N S
  obtain ⟨s, hs⟩ : ∃ s, s = start kind N S := ⟨_, rfl⟩
  rw [← hs] at hc ok0 sq0 ol0
  have HC := Lib.hid hc
  have HS := Lib.hid hs
  have HSQ := Lib.hid sq0
  have HD := Lib.hid hd
  have HR' := Lib.hid hr
  have HKK := Lib.hid hkk
  clear hc hs sq0 hN hS hn hm hd hr hkk
  go_enter Try.func26, Try.ntmps26
  go_wp2_with fail
  refine HC.out.mono ?_
  rintro e w1 ⟨b, ib, rfl, hb, h1, _, _, bl1⟩
  have s1' := bl1.size
  have hb1 := h1.size
  -- append([]byte{}, data...)
  have bl2 : Below w.heap.size w (w1.alloc (.cells #[] 5)) := bl1.alloc s1' _
  have own2 := own_empty w1 5 w1.heap.size (Nat.le_refl _)
  obtain ⟨a3, c3, w3, hap3, own3, gr3⟩ := app_own (w1.alloc (.cells #[] 5)) w1.heap.size 22 5 (.int .u8 0) 1 Try.underlying22 info5 rfl _ 0 0 [] own2 (by simp) aD d cD (data.map BV) (by rw [List.length_map]; exact HD.out) (hD.keep bl2).src (map_BV_one _) (by omega) (by omega) 22
  rw [Nat.zero_add, List.nil_append] at own3
  rw [Nat.zero_add] at hap3
  have bb3 : Below w1.heap.size w1 w3 := ((Below.refl _ _).alloc (Nat.le_refl _) _).grown gr3 (by simp) fun k hk => (own2.lt k hk).1
  have bl3 : Below w.heap.size w w3 := bl1.trans (bb3.mono s1')
  have h3 : Shk w3 b s ib := h1.keep (bb3.block b hb1)
  have HAP3 := Lib.hid hap3
  clear hap3 bl2 gr3 h1
  go_wp2_with (refine wpList_appendR rfl _ _ _ rfl _ _ rfl rfl _ _ HAP3.out ?_)
  have hcw := swrite_any w3 b s ib h3 ok0 HSQ.out aK cK kk key HKK.out ((hK.keep bl3).arg hb)
  have HCW := Lib.hid hcw
  clear hcw HAP3
  refine HCW.out.mono ?_
  rintro e w4 ⟨rfl, h4, m4⟩
  obtain ⟨s1, hs1⟩ : ∃ s1, s1 = s.absorb key := ⟨_, rfl⟩
  have ok1 : s1.Ok := by rw [hs1]; exact (ok0.absorb HSQ.out _).1
  have ol1 : 0 < s1.ol := by rw [hs1, (Sp.absorb_same _ _).2.2.1]; exact ol0
  rw [← hs1] at h4
  have sh4 : Shk w4 b s1 ib := Shk.of h4 ol1
  have own4 := ownsRow_mod own3 m4 (h3.type (by decide))
  have bl4 : Below w.heap.size w w4 := bl3.trans (m4.below hb bl3.size)
  have HS1 := Lib.hid hs1
  clear hs1 h4 h3 own3 HCW
  by_cases hd0 : d = 0
  · subst hd0
    have hdn : data = [] := List.eq_nil_of_length_eq_zero HD.out
    have hcap : c3 ≤ 9223372036854775807 := by
      rcases own4.2 with ⟨e, _⟩ | ⟨g, cap, cur, e, _, _, _, hm, _⟩
      · simp only [Value.slice.injEq] at e; omega
      · simp only [Value.slice.injEq] at e; unfold maxLen at hm; omega
    have fin : Bs w4.heap.size w4 a3 c3 (ciph ((start kind N S).absorb key) data) := ⟨by rw [hdn]; exact Nat.zero_le _, hcap, .inl (by rw [hdn]; rfl)⟩
    have FIN := Lib.hid fin
    clear fin hdn own4
    go_wp2_with fail
    refine wp_loop_once ?_
    go_wp2_with fail
    go_ret
    exact ⟨a3, c3, rfl, FIN.out, bl4⟩
  have ha3 : a3 ≠ none := by
    intro e
    rw [e] at own4
    rcases own4.2 with ⟨_, h0⟩ | ⟨g, cap, cur, e, _⟩
    · exact hd0 h0
    · simp at e
  obtain ⟨g, rest, rfl, hg, _, hdc, hcm, hrow⟩ := own_bytes own4 ha3
  have hgb : g ≠ b := by
    intro e
    rw [e] at hrow
    exact sh4.type (by decide) _ hrow
  have st : CiO w b g s1 ib data rest (.int .i64 ((0 : Nat) : Int)) (.slice aC r cC) w4 :=
    ⟨0, r, cC, aC, zs, s1, rfl, rfl, Nat.zero_le _, HR'.out, hC.keep bl4, .inl ⟨rfl, rfl⟩, sh4, bl4, by
      have e : enc data (s1.out 0) = data := by
        have : s1.out 0 = [] := rfl
        rw [this, enc_nil]
      rw [e]; exact hrow⟩
  clear hrow sh4 bl4 own4 ha3 own2
  go_wp2_with fail
  go_loopw [15, 5] (fun vi vc wr => CiO w b g s1 ib data rest vi vc wr) (fun vi vc _ => (d - (intOf vi).toNat) + lenOfV vc)
  case atStart => exact st
  case round =>
    obtain ⟨i, q, cap, ac, ys, sx, rfl, rfl, hi, hq, hI, hat, hsh, bl, hrow⟩ := hrel
    rw [HD.out] at hi
    by_cases hlt : i < d
    · obtain ⟨okx, olx⟩ := hat.ok ok1 ol1
      have hcr : ∀ X : Int, X ≤ (d : Int) - (i : Int) → Calls Try.prog 34 #[.pointer (some ⟨b, 0, none⟩), .int .i64 X] wr fun e w' => ∃ k : Nat, i + k ≤ d ∧ (0 < X → 0 < k) ∧ e = .returned (.slice (some ⟨wr.heap.size, 0, none⟩) k k) ∧
          Has w' b 71 (sx.read k) ib ∧ w'.heap[wr.heap.size]? = some (.cells ((sx.out k).map BV).toArray 5 (0, 0)) ∧ Mod b wr w' := fun X hX =>
        (rd_any wr b sx ib hsh okx X _ rfl).mono fun e w' h => ⟨rdLen X, by unfold rdLen; omega, by unfold rdLen; omega, h⟩
      have HCR := Lib.hid hcr
      clear hcr
      have i1 : (i : Int) < (d : Int) := by omega
      have HROW := Lib.hid hrow
      have HQ := Lib.hid hq
      clear hrow hq
      cases ys with
      | nil =>
        have hq0 : q = 0 := by have := HQ.out; simp at this; omega
        subst hq0
        go_wp2_with fail
        refine Calls.mono (HCR.out _ (by omega)) ?_
        rintro e w5 ⟨k, hk1, hk2, rfl, h5, hg5, m5⟩
        have bl5 : Below w.heap.size w w5 := bl.trans (m5.below hb bl.size)
        have hr5 : w5.heap[g]? = some (.cells ((enc data (s1.out i)).map BV ++ rest).toArray 5 (0, 0)) := by
          rw [m5.block g (Array.getElem?_eq_some_iff.1 HROW.out).1 hgb]; exact HROW.out
        have hlk : (sx.out k).length = k := Sp.out_length _ _
        have hgr : wr.heap.size ≠ g := by have := (Array.getElem?_eq_some_iff.1 HROW.out).1; omega
        have hKl : (s1.out i).length = i := Sp.out_length _ _
        have hout := hat.out k
        have st2 : CiI w5 g i data (s1.out i) (sx.out k) rest (.int .i64 ((0 : Nat) : Int)) (.int .i64 ((i : Nat) : Int)) w5 :=
          ⟨0, rfl, rfl, Nat.zero_le _, by
            rw [List.take_zero, List.append_nil]
            exact (setRow_self w5 g _ 5 (0, 0) hr5).symm⟩
        have HG5 := Lib.hid hg5
        have HR5 := Lib.hid hr5
        have HLK := Lib.hid hlk
        have HKL := Lib.hid hKl
        have HOUT := Lib.hid hout
        have hkm : k ≤ 9223372036854775807 := by omega
        clear hg5 hr5 hlk hKl hout
        obtain ⟨wo, rfl⟩ : ∃ wo : World, wo = wr := ⟨_, rfl⟩
        go_wp2_with fail
        go_loopw [52, 15] (fun vj vi wr => CiI w5 g i data (s1.out i) (sx.out k) rest vj vi wr) (fun vj _ _ => k - (intOf vj).toNat)
        case atStart => exact st2
        case round =>
          obtain ⟨j, rfl, rfl, hj, rfl⟩ := hrel
          rw [HLK.out] at hj
          by_cases hjk : j < k
          · obtain ⟨x, hx⟩ : ∃ x, (sx.out k)[j]? = some x := ⟨(sx.out k)[j]'(by rw [HLK.out]; exact hjk), by simp [HLK.out, hjk]⟩
            obtain ⟨dd, hdd⟩ : ∃ dd, data[i + j]? = some dd := ⟨data[i + j]'(by rw [HD.out]; omega), by simp [HD.out, show i + j < d by omega]⟩
            have hKj : (s1.out i ++ (sx.out k).take j).length = i + j := by
              rw [List.length_append, HKL.out, List.length_take, HLK.out]; omega
            have hrj : (w5.setRow g ((enc data (s1.out i ++ (sx.out k).take j)).map BV ++ rest).toArray).heap[g]? = some (.cells ((enc data (s1.out i ++ (sx.out k).take j)).map BV ++ rest).toArray 5 (0, 0)) := setRow_heap _ g _ _ 5 _ HR5.out
            have hel : (enc data (s1.out i ++ (sx.out k).take j)).length = d := by rw [enc_len _ _ (by rw [hKj, HD.out]; omega), HD.out]
            have c1 : (w5.setRow g ((enc data (s1.out i ++ (sx.out k).take j)).map BV ++ rest).toArray).cell? ⟨wo.heap.size, j, none⟩ = some (.int .u8 (x.toNat : Int)) := by
              rw [cell_setRow_other _ _ _ _ hgr]
              have := HG5.out
              simp only [World.cell?, this, List.getElem?_toArray, List.getElem?_map, hx]
              rfl
            have c2 : (w5.setRow g ((enc data (s1.out i ++ (sx.out k).take j)).map BV ++ rest).toArray).cell? ⟨g, i + j, none⟩ = some (.int .u8 (dd.toNat : Int)) := by
              have e := enc_get data (s1.out i ++ (sx.out k).take j) (by rw [hKj, HD.out]; omega)
              rw [hKj, hdd] at e
              simp only [World.cell?, hrj, List.getElem?_toArray]
              rw [List.getElem?_append_left (by rw [List.length_map, hel]; omega), List.getElem?_map, e]
              rfl
            have f2 : (w5.setRow g ((enc data (s1.out i ++ (sx.out k).take j)).map BV ++ rest).toArray).frozen? ⟨g, i + j, none⟩ = false := by simp [World.frozen?, hrj]
            have e2 : (w5.setRow g ((enc data (s1.out i ++ (sx.out k).take j)).map BV ++ rest).toArray).setCell ⟨g, i + j, none⟩ (.int .u8 (bits .xor .u8 dd.toNat x.toNat)) = w5.setRow g ((enc data (s1.out i ++ (sx.out k).take (j + 1))).map BV ++ rest).toArray := by
              rw [bits_xor, setCell_eq_setRow _ g _ _ 5 (0, 0) _ hrj, setRow_setRow]
              congr 1
              have e := enc_snoc data (s1.out i ++ (sx.out k).take j) x dd (by rw [hKj]; exact hdd)
              rw [hKj] at e
              have e' : (sx.out k).take (j + 1) = (sx.out k).take j ++ [x] := by rw [List.take_add_one, hx]; rfl
              rw [e', ← List.append_assoc, ← e]
              apply Array.toList_inj.1
              have hlt2 : i + j < (enc data (s1.out i ++ (sx.out k).take j)).length := by rw [hel]; omega
              simp [hlt2, List.map_set]
              rfl
            have E2 := Lib.hid e2
            have HX := Lib.hid hx
            have HDD := Lib.hid hdd
            have i2 : (j : Int) < (k : Int) := by omega
            have i3 : ((i : Int) + (j : Int)) < (d : Int) := by omega
            have i4 : i + j < d := by omega
            have n1 : (0 : Int) ≤ (i : Int) + (j : Int) := by omega
            clear e2 hx hdd hKj hrj hel
            obtain ⟨wj, hwj⟩ : ∃ wj, wj = w5.setRow g ((enc data (s1.out i ++ (sx.out k).take j)).map BV ++ rest).toArray := ⟨_, rfl⟩
            rw [← hwj] at c1 c2 f2 E2 ⊢
            have HWJ := Lib.hid hwj
            clear hwj
            go_wp2_with fail
            refine ⟨⟨j + 1, congrArg (Value.int .i64) (by omega), congrArg (Value.int .i64) (by omega), by rw [HLK.out]; omega, E2.out⟩, ?_⟩
            simp [intOf]; omega
          · have hjk2 : j = k := by omega
            subst hjk2
            have i2 : ¬ (j : Int) < (j : Int) := by omega
            have hrow6 : (w5.setRow g ((enc data (s1.out i ++ (sx.out j).take j)).map BV ++ rest).toArray).heap[g]? = some (.cells ((enc data (s1.out (i + j))).map BV ++ rest).toArray 5 (0, 0)) := by
              rw [setRow_heap _ g _ _ 5 _ HR5.out, List.take_of_length_le (by rw [HLK.out]; exact Nat.le_refl _), ← HOUT.out]
            have bl6 : Below w.heap.size w (w5.setRow g ((enc data (s1.out i ++ (sx.out j).take j)).map BV ++ rest).toArray) :=
              bl5.trans ⟨rfl, rfl, rfl, by rw [size_setRow]; exact Nat.le_refl _, fun k' hk' => setRow_other _ _ _ _ (by have := s1'; omega)⟩
            have sh6 : Shk (w5.setRow g ((enc data (s1.out i ++ (sx.out j).take j)).map BV ++ rest).toArray) b (sx.read j) ib :=
              (Shk.of h5 (by rw [(Sp.read_same _ _).2.2]; exact olx)).keep (setRow_other _ _ _ _ (Ne.symm hgb))
            have sz6 : wo.heap.size ≤ (w5.setRow g ((enc data (s1.out i ++ (sx.out j).take j)).map BV ++ rest).toArray).heap.size := by rw [size_setRow]; exact m5.size
            generalize w5.setRow g ((enc data (s1.out i ++ (sx.out j).take j)).map BV ++ rest).toArray = w6 at *
            have blo : Below w.heap.size wo w6 := ⟨(bl6.os).trans bl.os.symm, bl6.tape.trans bl.tape.symm, bl6.output.trans bl.output.symm, (by omega), fun k' hk' => (bl6.block k' hk').trans (bl.block k' hk').symm⟩
            have HROW6 := Lib.hid hrow6
            clear hrow6
            go_wp2_with fail
            refine ⟨⟨i + j, 0, cap, ac, [], sx.read j, congrArg (Value.int .i64) (by omega), rfl, by rw [HD.out]; exact hk1, rfl, Ints.keep blo hI, hat.read j, sh6, bl6, HROW6.out⟩, ?_⟩
            simp [intOf, lenOfV]
            have := hk2 (by omega); omega
      | cons z zt =>
        obtain ⟨qt, rfl⟩ : ∃ qt, q = qt + 1 := ⟨zt.length, by have := HQ.out; simp at this; omega⟩
        obtain ⟨A', hA1, hA2⟩ := hI.tail (m := qt) (by have := HQ.out; simp at this; omega)
        obtain ⟨pb, po, e1, e2, c1⟩ := hI.at (i := 0) (z := z) rfl
        subst e1
        rw [Nat.add_zero] at c1
        go_wp2_with fail
        clear hA1
        all_goals
          refine Calls.mono (HCR.out _ (by omega)) ?_
          rintro e w5 ⟨k, hk1, hk2, rfl, h5, hg5, m5⟩
          have bl5 : Below w.heap.size w w5 := bl.trans (m5.below hb bl.size)
          have hr5 : w5.heap[g]? = some (.cells ((enc data (s1.out i)).map BV ++ rest).toArray 5 (0, 0)) := by
            rw [m5.block g (Array.getElem?_eq_some_iff.1 HROW.out).1 hgb]; exact HROW.out
          have hlk : (sx.out k).length = k := Sp.out_length _ _
          have hgr : wr.heap.size ≠ g := by have := (Array.getElem?_eq_some_iff.1 HROW.out).1; omega
          have hKl : (s1.out i).length = i := Sp.out_length _ _
          have hout := hat.out k
          have st2 : CiI w5 g i data (s1.out i) (sx.out k) rest (.int .i64 ((0 : Nat) : Int)) (.int .i64 ((i : Nat) : Int)) w5 :=
            ⟨0, rfl, rfl, Nat.zero_le _, by
              rw [List.take_zero, List.append_nil]
              exact (setRow_self w5 g _ 5 (0, 0) hr5).symm⟩
          have HG5 := Lib.hid hg5
          have HR5 := Lib.hid hr5
          have HLK := Lib.hid hlk
          have HKL := Lib.hid hKl
          have HOUT := Lib.hid hout
          have hkm : k ≤ 9223372036854775807 := by omega
          clear hg5 hr5 hlk hKl hout
          obtain ⟨wo, rfl⟩ : ∃ wo : World, wo = wr := ⟨_, rfl⟩
          go_wp2_with fail
          go_loopw [52, 15] (fun vj vi wr => CiI w5 g i data (s1.out i) (sx.out k) rest vj vi wr) (fun vj _ _ => k - (intOf vj).toNat)
          case atStart => exact st2
          case round =>
            obtain ⟨j, rfl, rfl, hj, rfl⟩ := hrel
            rw [HLK.out] at hj
            by_cases hjk : j < k
            · obtain ⟨x, hx⟩ : ∃ x, (sx.out k)[j]? = some x := ⟨(sx.out k)[j]'(by rw [HLK.out]; exact hjk), by simp [HLK.out, hjk]⟩
              obtain ⟨dd, hdd⟩ : ∃ dd, data[i + j]? = some dd := ⟨data[i + j]'(by rw [HD.out]; omega), by simp [HD.out, show i + j < d by omega]⟩
              have hKj : (s1.out i ++ (sx.out k).take j).length = i + j := by
                rw [List.length_append, HKL.out, List.length_take, HLK.out]; omega
              have hrj : (w5.setRow g ((enc data (s1.out i ++ (sx.out k).take j)).map BV ++ rest).toArray).heap[g]? = some (.cells ((enc data (s1.out i ++ (sx.out k).take j)).map BV ++ rest).toArray 5 (0, 0)) := setRow_heap _ g _ _ 5 _ HR5.out
              have hel : (enc data (s1.out i ++ (sx.out k).take j)).length = d := by rw [enc_len _ _ (by rw [hKj, HD.out]; omega), HD.out]
              have c1 : (w5.setRow g ((enc data (s1.out i ++ (sx.out k).take j)).map BV ++ rest).toArray).cell? ⟨wo.heap.size, j, none⟩ = some (.int .u8 (x.toNat : Int)) := by
                rw [cell_setRow_other _ _ _ _ hgr]
                have := HG5.out
                simp only [World.cell?, this, List.getElem?_toArray, List.getElem?_map, hx]
                rfl
              have c2 : (w5.setRow g ((enc data (s1.out i ++ (sx.out k).take j)).map BV ++ rest).toArray).cell? ⟨g, i + j, none⟩ = some (.int .u8 (dd.toNat : Int)) := by
                have e := enc_get data (s1.out i ++ (sx.out k).take j) (by rw [hKj, HD.out]; omega)
                rw [hKj, hdd] at e
                simp only [World.cell?, hrj, List.getElem?_toArray]
                rw [List.getElem?_append_left (by rw [List.length_map, hel]; omega), List.getElem?_map, e]
                rfl
              have f2 : (w5.setRow g ((enc data (s1.out i ++ (sx.out k).take j)).map BV ++ rest).toArray).frozen? ⟨g, i + j, none⟩ = false := by simp [World.frozen?, hrj]
              have e2 : (w5.setRow g ((enc data (s1.out i ++ (sx.out k).take j)).map BV ++ rest).toArray).setCell ⟨g, i + j, none⟩ (.int .u8 (bits .xor .u8 dd.toNat x.toNat)) = w5.setRow g ((enc data (s1.out i ++ (sx.out k).take (j + 1))).map BV ++ rest).toArray := by
                rw [bits_xor, setCell_eq_setRow _ g _ _ 5 (0, 0) _ hrj, setRow_setRow]
                congr 1
                have e := enc_snoc data (s1.out i ++ (sx.out k).take j) x dd (by rw [hKj]; exact hdd)
                rw [hKj] at e
                have e' : (sx.out k).take (j + 1) = (sx.out k).take j ++ [x] := by rw [List.take_add_one, hx]; rfl
                rw [e', ← List.append_assoc, ← e]
                apply Array.toList_inj.1
                have hlt2 : i + j < (enc data (s1.out i ++ (sx.out k).take j)).length := by rw [hel]; omega
                simp [hlt2, List.map_set]
                rfl
              have E2 := Lib.hid e2
              have HX := Lib.hid hx
              have HDD := Lib.hid hdd
              have i2 : (j : Int) < (k : Int) := by omega
              have i3 : ((i : Int) + (j : Int)) < (d : Int) := by omega
              have i4 : i + j < d := by omega
              have n1 : (0 : Int) ≤ (i : Int) + (j : Int) := by omega
              clear e2 hx hdd hKj hrj hel
              obtain ⟨wj, hwj⟩ : ∃ wj, wj = w5.setRow g ((enc data (s1.out i ++ (sx.out k).take j)).map BV ++ rest).toArray := ⟨_, rfl⟩
              rw [← hwj] at c1 c2 f2 E2 ⊢
              have HWJ := Lib.hid hwj
              clear hwj
              go_wp2_with fail
              refine ⟨⟨j + 1, congrArg (Value.int .i64) (by omega), congrArg (Value.int .i64) (by omega), by rw [HLK.out]; omega, E2.out⟩, ?_⟩
              simp [intOf]; omega
            · have hjk2 : j = k := by omega
              subst hjk2
              have i2 : ¬ (j : Int) < (j : Int) := by omega
              have hrow6 : (w5.setRow g ((enc data (s1.out i ++ (sx.out j).take j)).map BV ++ rest).toArray).heap[g]? = some (.cells ((enc data (s1.out (i + j))).map BV ++ rest).toArray 5 (0, 0)) := by
                rw [setRow_heap _ g _ _ 5 _ HR5.out, List.take_of_length_le (by rw [HLK.out]; exact Nat.le_refl _), ← HOUT.out]
              have bl6 : Below w.heap.size w (w5.setRow g ((enc data (s1.out i ++ (sx.out j).take j)).map BV ++ rest).toArray) :=
                bl5.trans ⟨rfl, rfl, rfl, by rw [size_setRow]; exact Nat.le_refl _, fun k' hk' => setRow_other _ _ _ _ (by have := s1'; omega)⟩
              have sh6 : Shk (w5.setRow g ((enc data (s1.out i ++ (sx.out j).take j)).map BV ++ rest).toArray) b (sx.read j) ib :=
                (Shk.of h5 (by rw [(Sp.read_same _ _).2.2]; exact olx)).keep (setRow_other _ _ _ _ (Ne.symm hgb))
              have sz6 : wo.heap.size ≤ (w5.setRow g ((enc data (s1.out i ++ (sx.out j).take j)).map BV ++ rest).toArray).heap.size := by rw [size_setRow]; exact m5.size
              generalize w5.setRow g ((enc data (s1.out i ++ (sx.out j).take j)).map BV ++ rest).toArray = w6 at *
              have blo : Below w.heap.size wo w6 := ⟨(bl6.os).trans bl.os.symm, bl6.tape.trans bl.tape.symm, bl6.output.trans bl.output.symm, (by omega), fun k' hk' => (bl6.block k' hk').trans (bl.block k' hk').symm⟩
              have HROW6 := Lib.hid hrow6
              clear hrow6
              go_wp2_with fail
              refine ⟨⟨i + j, qt, cap - 1, A', zt, sx.read j, congrArg (Value.int .i64) (by omega), rfl, by rw [HD.out]; exact hk1, (by have := HQ.out; simp at this; omega), Ints.keep blo hA2, hat.read j, sh6, bl6, HROW6.out⟩, ?_⟩
              simp [intOf, lenOfV]
              omega
    · have hid : i = d := by omega
      have i1 : ¬ (i : Int) < (d : Int) := by omega
      have hfin : Bs wr.heap.size wr (some ⟨g, 0, none⟩) c3 (ciph ((start kind N S).absorb key) data) := by
        have hl : (ciph ((start kind N S).absorb key) data).length = d := by
          unfold ciph; rw [List.length_zipWith, Sp.out_length, HD.out, Nat.min_self]
        have e : enc data (s1.out i) = ciph ((start kind N S).absorb key) data := by
          rw [enc_all _ _ (by rw [Sp.out_length, HD.out]; omega), hid]
          unfold ciph
          rw [HD.out, HS1.out, HS.out]
        rw [e] at hrow
        refine ⟨by omega, hcm, .inr ⟨g, 0, rfl, (Array.getElem?_eq_some_iff.1 hrow).1, fun j x hj => ?_⟩⟩
        rw [add_row, Nat.zero_add]
        have : (ciph ((start kind N S).absorb key) data).map BV ++ rest = (ciph ((start kind N S).absorb key) data).map BV ++ rest := rfl
        simp only [World.cell?, hrow, List.getElem?_toArray]
        rw [List.getElem?_append_left (by rw [List.length_map]; exact (List.getElem?_eq_some_iff.1 hj).1), List.getElem?_map, hj]
        rfl
      have FIN := Lib.hid hfin
      clear hfin hrow hid hI hat
      go_wp2_with fail
      go_ret
      exact ⟨_, c3, rfl, FIN.out, bl⟩
end Go.Proofs.Ythemhpefcfdcaaa
