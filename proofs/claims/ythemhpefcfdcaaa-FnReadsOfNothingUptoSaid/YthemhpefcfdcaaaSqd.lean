/- squeezed: all that is read, one behind the other. -/
import Derived.Test.YthemhpefcfdcaaaMix
namespace Go.Proofs.Ythemhpefcfdcaaa
open Go.RowKit
set_option linter.unusedVariables false

theorem outs_get : ∀ (zs : List Int) (s : Sp) (i : Nat) (z : Int), zs[i]? = some z → ∃ o, (outs zs s)[i]? = some o ∧ o.length = rdLen z
  | [], _, _, _, h => by simp at h
  | y :: zs, s, 0, z, h => by
    simp only [List.getElem?_cons_zero, Option.some.injEq] at h
    subst h
    exact ⟨s.out (rdLen y), rfl, Sp.out_length _ _⟩
  | y :: zs, s, i + 1, z, h => by
    simp only [List.getElem?_cons_succ] at h
    obtain ⟨o, h1, h2⟩ := outs_get zs (s.read (rdLen y)) i z h
    exact ⟨o, h1, h2⟩
theorem outs_flat_le : ∀ (zs : List Int) (s : Sp), (outs zs s).flatten.length ≤ zs.length * 4096
  | [], _ => by simp [outs]
  | y :: zs, s => by
    have h1 := outs_flat_le zs (s.read (rdLen y))
    have h2 := rdLen_le y
    simp only [outs, List.flatten_cons, List.length_append, List.length_cons, Sp.out_length]
    omega

set_option maxRecDepth 100000 in
set_option maxHeartbeats 2000000 in
theorem squeezed_any (w : World) (kind : Int) (aN aS aW aR : Option Addr) (cN cS cW cR n m p r L : Nat) (N S : List UInt8) (ls : List (List UInt8)) (zs : List Int)
    (hn : N.length = n) (hm : S.length = m) (hp : ls.length = p) (hr : zs.length = r) (hL : (outs zs ((start kind N S).absorb ls.flatten)).flatten.length = L) (hN : Bs w.heap.size w aN cN N) (hS : Bs w.heap.size w aS cS S) (hW : Rows2 w.heap.size w aW cW ls) (hR : Ints w.heap.size w aR cR zs)
    (hnb : n ≤ 140737488355328) (hmb : m ≤ 140737488355328) (hsum : 18 + n + m ≤ 281474976710656) (hrb : r * 4096 ≤ 140737488355328) :
    Calls Try.prog 21 #[.int .i64 kind, .slice aN n cN, .slice aS m cS, .slice aW p cW, .slice aR r cR] w fun e w' =>
      ∃ a cap, e = .returned (.tuple #[.slice a L cap, .bool true]) ∧ Bs w'.heap.size w' a cap (outs zs ((start kind N S).absorb ls.flatten)).flatten ∧ Below w.heap.size w w' := by
  have HC := Lib.hid (squeeze_any w kind aN aS aW aR cN cS cW cR n m p r N S ls zs hn hm hp hr hN hS hW hR hnb hmb hsum (by omega))
  have HR' := Lib.hid hr
  obtain ⟨os, hos⟩ : ∃ os, os = outs zs ((start kind N S).absorb ls.flatten) := ⟨_, rfl⟩
  have hlos : os.length = r := by rw [hos, outs_len, hr]
  have hget : ∀ (i : Nat) (z : Int), zs[i]? = some z → ∃ o, os[i]? = some o ∧ o.length = rdLen z := fun i z h => by rw [hos]; exact outs_get _ _ _ _ h
  have hLb : L ≤ 140737488355328 := by
    have h1 := outs_flat_le zs ((start kind N S).absorb ls.flatten)
    rw [hL, hr] at h1
    omega
  rw [← hos] at HC hL ⊢
  have HL := Lib.hid hL
  have HG := Lib.hid hget
  have HO := Lib.hid hlos
  have hrb2 : r ≤ 9223372036854775807 := by omega
  have bne : ((r : Int) != (r : Int)) = false := by simp
  clear hos hL hget hlos hn hm hp hr hN hS hW
  go_enter Try.func21, Try.ntmps21
  go_wp2_with fail
  refine HC.out.mono ?_
  rintro e w1 ⟨f1, fc1, rfl, hf1, bl1⟩
  go_wp2_with fail
  go_loopw [28] (fun v wr => ∃ (i : Nat), v = .int .i64 (i : Int) ∧ i ≤ r ∧ wr = w1) (fun v _ => r - (intOf v).toNat)
  case atStart => exact ⟨0, rfl, Nat.zero_le _, rfl⟩
  case round =>
    obtain ⟨i, rfl, hi, rfl⟩ := hrel
    by_cases hlt : i < r
    · obtain ⟨z, hz⟩ : ∃ z, zs[i]? = some z := ⟨zs[i]'(by rw [HR'.out]; exact hlt), by simp [HR'.out, hlt]⟩
      obtain ⟨pb, po, e1, e2, c1⟩ := (hR.keep bl1).at hz
      obtain ⟨o, ho, hol⟩ := HG.out i z hz
      obtain ⟨qb, qo, va, vc, e3, e4, c2, bs⟩ := hf1.at ho
      subst e1 e3
      rw [hol] at c2
      have i1 : (i : Int) < (r : Int) := by omega
      have HZ := Lib.hid hz
      clear hz ho hol bs
      rcases rdLen_cases z with ⟨c3, e⟩ | ⟨c3, c4, e⟩ | ⟨c3, e⟩
      · rw [e] at c2
        clear e
        go_wp2_with fail
        exact ⟨⟨i + 1, by go_num, hlt, trivial⟩, by simp [intOf]; omega⟩
      · obtain ⟨k, hk⟩ : ∃ k, k = rdLen z := ⟨_, rfl⟩
        rw [← hk] at c2 e
        clear hk
        subst e
        have bk : ((k : Int) != (k : Int)) = false := by simp
        go_wp2_with fail
        exact ⟨⟨i + 1, by go_num, hlt, trivial⟩, by simp [intOf]; omega⟩
      · rw [e] at c2
        clear e
        go_wp2_with fail
        exact ⟨⟨i + 1, by go_num, hlt, trivial⟩, by simp [intOf]; omega⟩
    · have hir : i = r := by omega
      have HJ := Lib.hid (joined_any wr f1 fc1 r L os HO.out HL.out hf1 hLb)
      go_wp2_with fail
      refine HJ.out.mono ?_
      rintro e w2 ⟨f2, fc2, rfl, hf2, bl2⟩
      go_wp2_with fail
      go_ret2
      exact ⟨f2, fc2, rfl, hf2, bl1.trans (bl2.mono bl1.size)⟩

end Go.Proofs.Ythemhpefcfdcaaa
