/- THE PLAIN MATHEMATICS of the escaping of a value: no Go in sight. -/
import Derived.Lib.Bytealg
namespace Go.Proofs.Qxb6001361a.dn

/-- one of the seven specials: double quote, plus, comma, semicolon, less, greater, backslash -/
def special (c : UInt8) : Bool := decide (0 ≤ Lib.indexByte [34, 43, 44, 59, 60, 62, 92] c)
def digs : List UInt8 := [48, 49, 50, 51, 52, 53, 54, 55, 56, 57, 97, 98, 99, 100, 101, 102]
/-- is the byte at place i of n escaped by a bare backslash? -/
def slashed (n i : Nat) (c : UInt8) : Bool := ((c == 32 || c == 35) && i == 0) || (c == 32 && i + 1 == n) || special c
def outside (c : UInt8) : Bool := decide (c.toNat < 32) || decide (126 < c.toNat)
/-- what appendValue writes for the byte c at place i of n -/
def escAt (n i : Nat) (c : UInt8) : List UInt8 :=
  if slashed n i c then [92, c]
  else if outside c then [92, digs.getD (c.toNat / 16) 0, digs.getD (c.toNat % 16) 0]
  else [c]
/-- .. for the bytes l, the first at place i of n -/
def escL (n : Nat) : Nat → List UInt8 → List UInt8
  | _, [] => []
  | i, c :: l => escAt n i c ++ escL n (i + 1) l
def esc (l : List UInt8) : List UInt8 := escL l.length 0 l

theorem escL_snoc (n : Nat) (l : List UInt8) (c : UInt8) : ∀ i, escL n i (l ++ [c]) = escL n i l ++ escAt n (i + l.length) c := by
  induction l with
  | nil => intro i; simp [escL]
  | cons a l ih =>
    intro i
    simp only [List.cons_append, escL, ih (i + 1), List.append_assoc, List.length_cons]
    rw [show i + 1 + l.length = i + (l.length + 1) by omega]

theorem escAt_len (n i : Nat) (c : UInt8) : 1 ≤ (escAt n i c).length ∧ (escAt n i c).length ≤ 3 := by
  unfold escAt
  split
  · simp
  · split <;> simp

theorem escL_len (n : Nat) (l : List UInt8) : ∀ i, l.length ≤ (escL n i l).length ∧ (escL n i l).length ≤ 3 * l.length := by
  induction l with
  | nil => intro i; simp [escL]
  | cons c l ih =>
    intro i
    have h1 := escAt_len n i c
    have h2 := ih (i + 1)
    simp only [escL, List.length_append, List.length_cons]
    omega

theorem take_snoc (s : ByteArray) (k : Nat) (h : k < s.size) : s.data.toList.take (k + 1) = s.data.toList.take k ++ [s[k]] := by
  rw [List.take_succ_eq_append_getElem (by simpa using h)]; rfl

/-- the loop's step -/
theorem escL_step (s : ByteArray) (k : Nat) (h : k < s.size) : escL s.size 0 (s.data.toList.take (k + 1)) = escL s.size 0 (s.data.toList.take k) ++ escAt s.size k s[k] := by
  rw [take_snoc s k h, escL_snoc]
  have : (s.data.toList.take k).length = k := by
    rw [List.length_take, Array.length_toList]; have : k < s.data.size := h; omega
  rw [this, Nat.zero_add]

/-! ### the ways of appendValue's round, in the walk's own forms -/
theorem of_toNat {c : UInt8} {m : Nat} (h : (c.toNat : Int) = m) : c = m.toUInt8 := by
  have : c.toNat = m := by omega
  rw [← this]; simp
theorem esc_sl {n k : Nat} {c : UInt8} (h : slashed n k c = true) : escAt n k c = [92, c] := by unfold escAt; rw [if_pos h]
theorem w1 {n k : Nat} {c : UInt8} (h1 : (c.toNat : Int) = 32) (h2 : ((k : Int) == 0) = true) : escAt n k c = [92, 32] := by
  obtain rfl : c = 32 := of_toNat (m := 32) h1
  have : k = 0 := by rw [beq_iff_eq] at h2; omega
  subst this
  exact esc_sl rfl
theorem w2 {n k : Nat} {c : UInt8} (h1 : (c.toNat : Int) = 32) (h2 : ((k : Int) == (n : Int) - 1) = true) : escAt n k c = [92, 32] := by
  obtain rfl : c = 32 := of_toNat (m := 32) h1
  have : k + 1 = n := by rw [beq_iff_eq] at h2; omega
  subst this
  exact esc_sl (by simp [slashed])
theorem w3 {n k : Nat} {c : UInt8} (h1 : (c.toNat : Int) = 32) (h2 : ((k : Int) == 0) = false) (h3 : ((k : Int) == (n : Int) - 1) = false) : escAt n k c = [32] := by
  obtain rfl : c = 32 := of_toNat (m := 32) h1
  have e1 : (k == 0) = false := by rw [beq_eq_false_iff_ne] at *; omega
  have e2 : (k + 1 == n) = false := by rw [beq_eq_false_iff_ne] at *; omega
  have e3 : special 32 = false := by decide
  have e4 : outside 32 = false := by decide
  simp [escAt, slashed, e1, e2, e3, e4]
theorem w4 {n k : Nat} {c : UInt8} (h1 : (c.toNat : Int) = 35) (h2 : ((k : Int) == 0) = true) : escAt n k c = [92, 35] := by
  obtain rfl : c = 35 := of_toNat (m := 35) h1
  have : k = 0 := by rw [beq_iff_eq] at h2; omega
  subst this
  exact esc_sl rfl
theorem w5 {n k : Nat} {c : UInt8} (h1 : (c.toNat : Int) = 35) (h2 : ((k : Int) == 0) = false) : escAt n k c = [35] := by
  obtain rfl : c = 35 := of_toNat (m := 35) h1
  have e1 : (k == 0) = false := by rw [beq_eq_false_iff_ne] at *; omega
  have e3 : special 35 = false := by decide
  have e4 : outside 35 = false := by decide
  simp [escAt, slashed, e1, e3, e4]
theorem w6 {n k : Nat} {c : UInt8} (h : 0 ≤ Lib.indexByte [34, 43, 44, 59, 60, 62, 92] c) : escAt n k c = [92, c] :=
  esc_sl (by simp [slashed, special, h])
theorem not_sl {n k : Nat} {c : UInt8} (h1 : ¬ (c.toNat : Int) = 32) (h2 : ¬ (c.toNat : Int) = 35) (h3 : Lib.indexByte [34, 43, 44, 59, 60, 62, 92] c < 0) : slashed n k c = false := by
  have e1 : (c == 32) = false := by rw [beq_eq_false_iff_ne]; rintro rfl; exact h1 rfl
  have e2 : (c == 35) = false := by rw [beq_eq_false_iff_ne]; rintro rfl; exact h2 rfl
  have e3 : special c = false := by unfold special; simp; omega
  simp [slashed, e1, e2, e3]
theorem dig_at : ∀ i (h : i < 16), (⟨#[48, 49, 50, 51, 52, 53, 54, 55, 56, 57, 97, 98, 99, 100, 101, 102]⟩ : ByteArray)[i]'h = digs.getD i 0 := by decide
theorem w7 {n k : Nat} {c : UInt8} (h1 : ¬ (c.toNat : Int) = 32) (h2 : ¬ (c.toNat : Int) = 35) (h3 : Lib.indexByte [34, 43, 44, 59, 60, 62, 92] c < 0) (h4 : (c.toNat : Int) < 32 ∨ 126 < (c.toNat : Int)) :
    escAt n k c = [92, digs.getD (c.toNat / 16) 0, digs.getD (c.toNat % 16) 0] := by
  have e : outside c = true := by unfold outside; simp; omega
  unfold escAt; rw [not_sl h1 h2 h3, e]; rfl
theorem w8 {n k : Nat} {c : UInt8} (h1 : ¬ (c.toNat : Int) = 32) (h2 : ¬ (c.toNat : Int) = 35) (h3 : Lib.indexByte [34, 43, 44, 59, 60, 62, 92] c < 0) (h4 : 32 ≤ (c.toNat : Int) ∧ (c.toNat : Int) ≤ 126) : escAt n k c = [c] := by
  have e : outside c = false := by unfold outside; simp; omega
  unfold escAt; rw [not_sl h1 h2 h3, e]; rfl

end Go.Proofs.Qxb6001361a.dn
