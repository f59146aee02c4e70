/- The sponge as a plain function on bytes: absorbing and squeezing byte by byte. No program in sight; no conditions. -/
import GoSem.Extern.Keccak
namespace Go.Proofs.Ythemhpefcfdcaaa

/-- the permutation on 200 bytes, as the model's entry has it -/
def kecNat (bytes : Array Nat) : List Nat :=
  let lanes := (Array.range 25).map fun i => (List.range 8).foldr (fun j acc => acc * 256 + bytes.getD (8 * i + j) 0) 0
  let out := Extern.Keccak.roundConstants.foldl Extern.Keccak.round lanes
  (List.range 200).map fun k => out.getD (k / 8) 0 / 256 ^ (k % 8) % 256

@[irreducible] def kecc (a : List UInt8) : List UInt8 := (kecNat (a.map UInt8.toNat).toArray).map UInt8.ofNat

theorem kecc_length (a : List UInt8) : (kecc a).length = 200 := by
  unfold kecc kecNat
  simp

structure Sp where
  a : List UInt8
  n : Nat
  rate : Nat
  ds : UInt8
  ol : Nat
  sq : Bool

namespace Sp

/-- what holds of every sponge that the library makes -/
structure Ok (s : Sp) : Prop where
  len : s.a.length = 200
  rate1 : 1 ≤ s.rate
  rate2 : s.rate ≤ 168
  n1 : s.n ≤ s.rate
  n2 : s.sq = false → s.n < s.rate

def perm (s : Sp) : Sp := { s with a := kecc s.a, n := 0 }

/-- full: permute -/
def full (s : Sp) : Sp := if s.n = s.rate then s.perm else s

def ab1 (s : Sp) (x : UInt8) : Sp :=
  full { s with a := s.a.set s.n (s.a.getD s.n 0 ^^^ x), n := s.n + 1 }

def absorb (s : Sp) (l : List UInt8) : Sp := l.foldl ab1 s

def padded (s : Sp) : Sp :=
  let a1 := s.a.set s.n (s.a.getD s.n 0 ^^^ s.ds)
  let a2 := a1.set (s.rate - 1) (a1.getD (s.rate - 1) 0 ^^^ 128)
  { s with a := kecc a2, n := 0, sq := true }

def pad (s : Sp) : Sp := if s.sq then s else s.padded

def sq1 (s : Sp) : Sp := { s.full with n := s.full.n + 1 }
def out1 (s : Sp) : UInt8 := s.full.a.getD s.full.n 0

def sqN : Nat → Sp → Sp
  | 0, s => s
  | k + 1, s => sqN k s.sq1

def outN : Nat → Sp → List UInt8
  | 0, _ => []
  | k + 1, s => s.out1 :: outN k s.sq1

/-- a read of k bytes -/
def read (k : Nat) (s : Sp) : Sp := sqN k s.pad
def out (k : Nat) (s : Sp) : List UInt8 := outN k s.pad

theorem absorb_nil (s : Sp) : s.absorb [] = s := rfl
theorem absorb_append (s : Sp) (l m : List UInt8) : s.absorb (l ++ m) = (s.absorb l).absorb m := by
  simp [absorb]

theorem outN_length : ∀ (k : Nat) (s : Sp), (outN k s).length = k
  | 0, _ => rfl
  | k + 1, s => by simp [outN, outN_length k]
theorem out_length (k : Nat) (s : Sp) : (out k s).length = k := outN_length _ _

theorem sqN_add : ∀ (j k : Nat) (s : Sp), sqN (j + k) s = sqN k (sqN j s)
  | 0, k, s => by simp [sqN]
  | j + 1, k, s => by
    rw [show j + 1 + k = (j + k) + 1 from by omega]
    simp [sqN, sqN_add j k]
theorem outN_add : ∀ (j k : Nat) (s : Sp), outN (j + k) s = outN j s ++ outN k (sqN j s)
  | 0, k, s => by simp [sqN, outN]
  | j + 1, k, s => by
    rw [show j + 1 + k = (j + k) + 1 from by omega]
    simp [sqN, outN, outN_add j k]

theorem full_sq (s : Sp) : s.full.sq = s.sq := by unfold full perm; split <;> rfl
theorem full_rate (s : Sp) : s.full.rate = s.rate := by unfold full perm; split <;> rfl
theorem full_ds (s : Sp) : s.full.ds = s.ds := by unfold full perm; split <;> rfl
theorem full_ol (s : Sp) : s.full.ol = s.ol := by unfold full perm; split <;> rfl
theorem sqN_sq : ∀ (k : Nat) (s : Sp), (sqN k s).sq = s.sq
  | 0, _ => rfl
  | k + 1, s => by rw [sqN, sqN_sq k]; exact full_sq s
theorem pad_sq (s : Sp) : s.pad.sq = true := by
  unfold pad padded
  split
  · assumption
  · rfl
theorem pad_of_sq {s : Sp} (h : s.sq = true) : s.pad = s := by unfold pad; rw [if_pos h]
theorem pad_pad (s : Sp) : s.pad.pad = s.pad := pad_of_sq (pad_sq s)
theorem read_sq (k : Nat) (s : Sp) : (read k s).sq = true := by unfold read; rw [sqN_sq, pad_sq]
theorem read_pad (k : Nat) (s : Sp) : (read k s).pad = read k s := pad_of_sq (read_sq k s)

theorem read_add (j k : Nat) (s : Sp) : read (j + k) s = read k (read j s) := by
  unfold read
  rw [sqN_add, pad_of_sq (s := sqN j s.pad) (by rw [sqN_sq, pad_sq])]
theorem out_add (j k : Nat) (s : Sp) : out (j + k) s = out j s ++ out k (read j s) := by
  unfold out read
  rw [outN_add, pad_of_sq (s := sqN j s.pad) (by rw [sqN_sq, pad_sq])]

theorem Ok.perm {s : Sp} (h : s.Ok) : s.perm.Ok := ⟨kecc_length _, h.rate1, h.rate2, Nat.zero_le _, fun _ => h.rate1⟩
theorem Ok.ab1 {s : Sp} (h : s.Ok) (hq : s.sq = false) (x : UInt8) : (s.ab1 x).Ok ∧ (s.ab1 x).sq = false := by
  have h2 := h.n2 hq
  unfold Sp.ab1 full
  split
  · exact ⟨⟨kecc_length _, h.rate1, h.rate2, Nat.zero_le _, fun _ => h.rate1⟩, hq⟩
  · rename_i hne
    simp only at hne
    exact ⟨⟨by simpa using h.len, h.rate1, h.rate2, by show s.n + 1 ≤ s.rate; omega, fun _ => by show s.n + 1 < s.rate; omega⟩, hq⟩
theorem Ok.absorb {s : Sp} (h : s.Ok) (hq : s.sq = false) (l : List UInt8) : (s.absorb l).Ok ∧ (s.absorb l).sq = false := by
  induction l generalizing s with
  | nil => exact ⟨h, hq⟩
  | cons x l ih => exact ih (h.ab1 hq x).1 (h.ab1 hq x).2
theorem absorb_same (s : Sp) (l : List UInt8) : (s.absorb l).rate = s.rate ∧ (s.absorb l).ds = s.ds ∧ (s.absorb l).ol = s.ol ∧ (s.absorb l).sq = s.sq := by
  induction l generalizing s with
  | nil => exact ⟨rfl, rfl, rfl, rfl⟩
  | cons x l ih =>
    obtain ⟨h1, h2, h3, h4⟩ := ih (s.ab1 x)
    refine ⟨h1.trans ?_, h2.trans ?_, h3.trans ?_, h4.trans ?_⟩ <;> (unfold ab1 full perm; split <;> rfl)
theorem Ok.padded {s : Sp} (h : s.Ok) : s.padded.Ok := ⟨kecc_length _, h.rate1, h.rate2, Nat.zero_le _, fun _ => h.rate1⟩
theorem Ok.pad {s : Sp} (h : s.Ok) : s.pad.Ok := by
  unfold Sp.pad
  split
  · exact h
  · exact h.padded
theorem Ok.full {s : Sp} (h : s.Ok) : s.full.Ok ∧ s.full.n < s.full.rate := by
  unfold Sp.full
  split
  · exact ⟨h.perm, h.rate1⟩
  · rename_i hne
    have := h.n1
    exact ⟨h, by omega⟩
theorem Ok.sq1 {s : Sp} (h : s.Ok) (hq : s.sq = true) : s.sq1.Ok ∧ s.sq1.sq = true := by
  obtain ⟨hf, hn⟩ := h.full
  refine ⟨⟨hf.len, hf.rate1, hf.rate2, hn, fun hh => ?_⟩, (full_sq s).trans hq⟩
  have : s.full.sq = false := hh
  rw [full_sq, hq] at this
  cases this
theorem Ok.sqN : ∀ (k : Nat) {s : Sp}, s.Ok → s.sq = true → (Sp.sqN k s).Ok
  | 0, _, h, _ => h
  | k + 1, _, h, hq => Ok.sqN k (h.sq1 hq).1 (h.sq1 hq).2
theorem Ok.read {s : Sp} (h : s.Ok) (k : Nat) : (Sp.read k s).Ok := Ok.sqN k h.pad (pad_sq s)
theorem pad_same (s : Sp) : s.pad.rate = s.rate ∧ s.pad.ds = s.ds ∧ s.pad.ol = s.ol := by
  unfold pad padded
  split <;> exact ⟨rfl, rfl, rfl⟩
theorem sqN_same : ∀ (k : Nat) (s : Sp), (sqN k s).rate = s.rate ∧ (sqN k s).ds = s.ds ∧ (sqN k s).ol = s.ol
  | 0, _ => ⟨rfl, rfl, rfl⟩
  | k + 1, s => by
    obtain ⟨h1, h2, h3⟩ := sqN_same k s.sq1
    exact ⟨h1.trans (full_rate s), h2.trans (full_ds s), h3.trans (full_ol s)⟩
theorem read_same (k : Nat) (s : Sp) : (read k s).rate = s.rate ∧ (read k s).ds = s.ds ∧ (read k s).ol = s.ol := by
  obtain ⟨h1, h2, h3⟩ := sqN_same k s.pad
  obtain ⟨g1, g2, g3⟩ := pad_same s
  exact ⟨h1.trans g1, h2.trans g2, h3.trans g3⟩

/-! chunks: what the library does in one go -/

/-- the bytes k .. k + l.length - 1 of a changed by exclusive or with l -/
def xorAt (a : List UInt8) (k : Nat) (l : List UInt8) : List UInt8 :=
  a.take k ++ List.zipWith (· ^^^ ·) (a.drop k) l ++ a.drop (k + l.length)

theorem xorAt_nil (a : List UInt8) (k : Nat) : xorAt a k [] = a := by simp [xorAt]
theorem xorAt_cons (a : List UInt8) (k : Nat) (x : UInt8) (l : List UInt8) (h : k + (l.length + 1) ≤ a.length) :
    xorAt a k (x :: l) = xorAt (a.set k (a.getD k 0 ^^^ x)) (k + 1) l := by
  have hk : k < a.length := by omega
  have e1 : a.drop k = a.getD k 0 :: a.drop (k + 1) := by
    rw [List.drop_eq_getElem_cons hk]
    simp [List.getD, hk]
  have e2 : (a.set k (a.getD k 0 ^^^ x)).take (k + 1) = a.take k ++ [a.getD k 0 ^^^ x] := by
    rw [List.take_set, List.take_succ_eq_append_getElem hk, List.set_append]
    simp [Nat.min_eq_left (Nat.le_of_lt hk)]
  have e3 : (a.set k (a.getD k 0 ^^^ x)).drop (k + 1) = a.drop (k + 1) := by
    rw [List.drop_set_of_lt (by omega)]
  have e4 : (a.set k (a.getD k 0 ^^^ x)).drop (k + 1 + l.length) = a.drop (k + 1 + l.length) := by
    rw [List.drop_set_of_lt (by omega)]
  unfold xorAt
  rw [e1, e2, e3, e4]
  simp [Nat.add_assoc, Nat.add_comm 1]

/-- absorbing no more than there is room for -/
theorem absorb_chunk : ∀ (l : List UInt8) (s : Sp), s.a.length = 200 → s.rate ≤ 200 → l ≠ [] → s.n + l.length ≤ s.rate →
    s.absorb l = full { s with a := xorAt s.a s.n l, n := s.n + l.length }
  | [], _, _, _, h, _ => absurd rfl h
  | [x], s, hl, hr, _, hn => by
    show s.ab1 x = _
    unfold ab1
    have : xorAt s.a s.n [x] = s.a.set s.n (s.a.getD s.n 0 ^^^ x) := by
      rw [xorAt_cons _ _ _ _ (by simp at hn ⊢; omega), xorAt_nil]
    rw [this]
    rfl
  | x :: y :: l, s, hl, hr, _, hn => by
    simp only [List.length_cons] at hn
    have hx : s.ab1 x = { s with a := s.a.set s.n (s.a.getD s.n 0 ^^^ x), n := s.n + 1 } := by
      unfold ab1 full
      rw [if_neg]
      show ¬ (s.n + 1 = s.rate)
      omega
    have ih := absorb_chunk (y :: l) { s with a := s.a.set s.n (s.a.getD s.n 0 ^^^ x), n := s.n + 1 } (by simpa using hl) hr (by simp) (by simp only [List.length_cons]; omega)
    show (s.ab1 x).absorb (y :: l) = _
    rw [hx, ih, xorAt_cons s.a s.n x (y :: l) (by simp only [List.length_cons]; omega)]
    congr 2
    simp only [List.length_cons]
    omega

theorem xorAt_length (a : List UInt8) (k : Nat) (l : List UInt8) (h : k + l.length ≤ a.length) : (xorAt a k l).length = a.length := by
  simp [xorAt]; omega

/-- squeezing no more than there is -/
theorem sqN_chunk : ∀ (k : Nat) (s : Sp), s.n < s.rate → s.n + k ≤ s.rate → sqN k s = { s with n := s.n + k }
  | 0, _, _, _ => rfl
  | k + 1, s, h, hk => by
    have hf : s.full = s := by unfold full; rw [if_neg (by omega)]
    have h1 : s.sq1 = { s with n := s.n + 1 } := by unfold sq1; rw [hf]
    rw [sqN, h1]
    cases k with
    | zero => rfl
    | succ k =>
      rw [sqN_chunk (k + 1) { s with n := s.n + 1 } (by show s.n + 1 < s.rate; omega) (by show s.n + 1 + (k + 1) ≤ s.rate; omega)]
      congr 1
      show s.n + 1 + (k + 1) = s.n + (k + 1 + 1)
      omega
theorem outN_chunk : ∀ (k : Nat) (s : Sp), s.n < s.rate → s.n + k ≤ s.rate → s.rate ≤ s.a.length → outN k s = (s.a.drop s.n).take k
  | 0, _, _, _, _ => by simp [outN]
  | k + 1, s, h, hk, hl => by
    have hf : s.full = s := by unfold full; rw [if_neg (by omega)]
    have h1 : s.sq1 = { s with n := s.n + 1 } := by unfold sq1; rw [hf]
    have ho : s.out1 = s.a.getD s.n 0 := by unfold out1; rw [hf]
    have hlt : s.n < s.a.length := by omega
    rw [outN, h1, ho, List.drop_eq_getElem_cons hlt, List.take_succ_cons]
    congr 1
    · simp [List.getD, hlt]
    · cases k with
      | zero => simp [outN]
      | succ k => exact outN_chunk (k + 1) { s with n := s.n + 1 } (by show s.n + 1 < s.rate; omega) (by show s.n + 1 + (k + 1) ≤ s.rate; omega) hl
theorem sqN_full (k : Nat) (s : Sp) (hs : s.Ok) (h : 0 < k) : sqN k s.full = sqN k s := by
  cases k with
  | zero => omega
  | succ k =>
    have hf : s.full.full = s.full := by
      have := hs.full.2
      generalize s.full = t at *
      unfold full; rw [if_neg (by omega)]
    rw [sqN, sqN]
    congr 1
    unfold sq1
    rw [hf]
theorem outN_full (k : Nat) (s : Sp) (hs : s.Ok) (h : 0 < k) : outN k s.full = outN k s := by
  cases k with
  | zero => omega
  | succ k =>
    have hf : s.full.full = s.full := by
      have := hs.full.2
      generalize s.full = t at *
      unfold full; rw [if_neg (by omega)]
    rw [outN, outN]
    congr 1
    · unfold out1; rw [hf]
    · congr 1
      unfold sq1
      rw [hf]
end Sp
end Go.Proofs.Ythemhpefcfdcaaa
