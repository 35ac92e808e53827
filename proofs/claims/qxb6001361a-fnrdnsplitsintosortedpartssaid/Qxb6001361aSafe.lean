/- zzB1isSpecial, zzB1isLowerHex, zzB1escapedValueIsSafe: the escaped text of any value is safe. -/
import Derived.Test.Qxb6001361aPlain2
import Derived.Test.Qxb6001361aZav
namespace Go.Proofs.Qxb6001361a.dn
open Go.RowKit

/-- the number is that of a special -/
def Spec (n : Int) : Prop := n = 34 ∨ n = 43 ∨ n = 44 ∨ n = 59 ∨ n = 60 ∨ n = 62 ∨ n = 92
theorem sp_yes (n : Int) (h : Spec n) (w : World) :
    Calls Try.prog 34 #[.int .u8 n] w fun e w' => e = .returned (.bool true) ∧ w' = w := by
  rcases h with rfl | rfl | rfl | rfl | rfl | rfl | rfl
  all_goals
    go_enter Try.func34, Try.ntmps34
    go_wp2
    go_ret
    exact ⟨rfl, rfl⟩
theorem sp_no (n : Int) (h : ¬ Spec n) (w : World) :
    Calls Try.prog 34 #[.int .u8 n] w fun e w' => e = .returned (.bool false) ∧ w' = w := by
  have a1 : (n == 34) = false := by rw [beq_eq_false_iff_ne]; intro e; exact h (by unfold Spec; omega)
  have a2 : (n == 43) = false := by rw [beq_eq_false_iff_ne]; intro e; exact h (by unfold Spec; omega)
  have a3 : (n == 44) = false := by rw [beq_eq_false_iff_ne]; intro e; exact h (by unfold Spec; omega)
  have a4 : (n == 59) = false := by rw [beq_eq_false_iff_ne]; intro e; exact h (by unfold Spec; omega)
  have a5 : (n == 60) = false := by rw [beq_eq_false_iff_ne]; intro e; exact h (by unfold Spec; omega)
  have a6 : (n == 62) = false := by rw [beq_eq_false_iff_ne]; intro e; exact h (by unfold Spec; omega)
  have a7 : (n == 92) = false := by rw [beq_eq_false_iff_ne]; intro e; exact h (by unfold Spec; omega)
  clear h
  go_enter Try.func34, Try.ntmps34
  go_wp2
  go_ret
  exact ⟨rfl, rfl⟩
def LoHex (n : Int) : Prop := (48 ≤ n ∧ n ≤ 57) ∨ (97 ≤ n ∧ n ≤ 102)
theorem lh_yes (n : Int) (h : LoHex n) (w : World) :
    Calls Try.prog 35 #[.int .u8 n] w fun e w' => e = .returned (.bool true) ∧ w' = w := by
  rcases h with ⟨h1, h2⟩ | ⟨h1, h2⟩
  all_goals
    go_enter Try.func35, Try.ntmps35
    go_wp2
    go_ret
    exact ⟨rfl, rfl⟩

/-! ### plain -/
theorem spec_of {c : UInt8} : Spec c.toNat ↔ special c = true := by
  constructor
  · intro h
    rcases h with h | h | h | h | h | h | h
    · obtain rfl : c = 34 := of_toNat (m := 34) h; decide
    · obtain rfl : c = 43 := of_toNat (m := 43) h; decide
    · obtain rfl : c = 44 := of_toNat (m := 44) h; decide
    · obtain rfl : c = 59 := of_toNat (m := 59) h; decide
    · obtain rfl : c = 60 := of_toNat (m := 60) h; decide
    · obtain rfl : c = 62 := of_toNat (m := 62) h; decide
    · obtain rfl : c = 92 := of_toNat (m := 92) h; decide
  · intro h
    rcases special_cases h with rfl | rfl | rfl | rfl | rfl | rfl | rfl <;> (unfold Spec; decide)
theorem digs_lo : ∀ m, m < 16 → LoHex ((digs.getD m 0).toNat : Int) := by
  intro m hm
  have key : ∀ m, m < 16 → (48 ≤ (digs.getD m 0).toNat ∧ (digs.getD m 0).toNat ≤ 57) ∨ (97 ≤ (digs.getD m 0).toNat ∧ (digs.getD m 0).toNat ≤ 102) := by decide
  rcases key m hm with h | h
  · exact Or.inl ⟨by omega, by omega⟩
  · exact Or.inr ⟨by omega, by omega⟩
theorem lo_notspec {n : Int} (h : LoHex n) : ¬ Spec n := by unfold LoHex at h; unfold Spec; omega
/-- the three kinds, with what the reader of safety asks -/
theorem kinds2 (n k : Nat) (c : UInt8) :
    (escAt n k c = [92, c] ∧ (c = 32 ∨ c = 35 ∨ special c = true)) ∨ (escAt n k c = [92, digs.getD (c.toNat / 16) 0, digs.getD (c.toNat % 16) 0]) ∨
    (escAt n k c = [c] ∧ special c = false ∧ 32 ≤ c.toNat ∧ c.toNat ≤ 126 ∧ (k = 0 → c ≠ 32 ∧ c ≠ 35) ∧ (k + 1 = n → c ≠ 32)) := by
  cases hs : slashed n k c
  · cases ho : outside c
    · refine Or.inr (Or.inr ⟨by unfold escAt; rw [hs, ho]; rfl, ?_⟩)
      unfold outside at ho
      unfold slashed at hs
      simp only [Bool.or_eq_false_iff, Bool.and_eq_false_iff, beq_eq_false_iff_ne, decide_eq_false_iff_not] at hs ho
      obtain ⟨⟨h1, h2⟩, h3⟩ := hs
      refine ⟨h3, by omega, by omega, fun hk => ?_, fun hk => ?_⟩
      · rcases h1 with h1 | h1
        · exact h1
        · exact absurd hk h1
      · rcases h2 with h2 | h2
        · exact h2
        · exact absurd hk h2
    · exact Or.inr (Or.inl (by unfold escAt; rw [hs, ho]; rfl))
  · exact Or.inl ⟨esc_sl hs, slashed_cases hs⟩

end Go.Proofs.Qxb6001361a.dn
