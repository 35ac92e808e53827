/- THE PLAIN ORDER of strings and of pairs. -/
import Derived.Test.Qxb6001361aRdnI
import Derived.Lib.Strings
namespace Go.Proofs.Qxb6001361a.dn

theorem bl_irrefl : ∀ x : List UInt8, Op.bytesLess x x = false
  | [] => rfl
  | a :: x => by rw [Op.bytesLess, bl_irrefl x]; simp
theorem bl_tri : ∀ x y : List UInt8, Op.bytesLess x y = true ∨ x = y ∨ Op.bytesLess y x = true
  | [], [] => Or.inr (Or.inl rfl)
  | [], _ :: _ => Or.inl rfl
  | _ :: _, [] => Or.inr (Or.inr rfl)
  | a :: x, b :: y => by
    rw [Op.bytesLess, Op.bytesLess]
    by_cases h1 : a < b
    · exact Or.inl (by simp [h1])
    · by_cases h2 : b < a
      · exact Or.inr (Or.inr (by simp [h2]))
      · have e : a = b := by
          rw [UInt8.lt_iff_toNat_lt] at h1 h2
          exact UInt8.toNat_inj.1 (by omega)
        subst e
        rcases bl_tri x y with h | h | h
        · exact Or.inl (by simp [h])
        · exact Or.inr (Or.inl (by rw [h]))
        · exact Or.inr (Or.inr (by simp [h]))
theorem bl_trans : ∀ x y z : List UInt8, Op.bytesLess x y = true → Op.bytesLess y z = true → Op.bytesLess x z = true
  | _, [], _, h, _ => by simp [Op.bytesLess] at h
  | _, _ :: _, [], _, h => by simp [Op.bytesLess] at h
  | [], _ :: _, _ :: _, _, _ => rfl
  | a :: x, b :: y, c :: z, h1, h2 => by
    rw [Op.bytesLess, Bool.or_eq_true, Bool.and_eq_true, decide_eq_true_iff, beq_iff_eq] at h1 h2 ⊢
    rcases h1 with h1 | ⟨rfl, h1⟩
    · rcases h2 with h2 | ⟨rfl, h2⟩
      · left
        rw [UInt8.lt_iff_toNat_lt] at *
        omega
      · exact Or.inl h1
    · rcases h2 with h2 | ⟨rfl, h2⟩
      · exact Or.inl h2
      · exact Or.inr ⟨rfl, bl_trans x y z h1 h2⟩
theorem bl_asymm {x y : List UInt8} (h : Op.bytesLess x y = true) : Op.bytesLess y x = false := by
  cases h2 : Op.bytesLess y x
  · rfl
  · have := bl_trans x y x h h2
    rw [bl_irrefl] at this; cases this

theorem toList_inj {a b : ByteArray} (h : a.toList = b.toList) : a = b := by
  rw [Lib.toList_data, Lib.toList_data] at h
  apply ByteArray.ext
  exact Array.toList_inj.1 h

/-- p does not come behind q -/
def le (p q : ByteArray × ByteArray) : Bool := !less q p
theorem less_iff (p q : ByteArray × ByteArray) : less p q = true ↔ (p.1.toList = q.1.toList ∧ Op.bytesLess p.2.toList q.2.toList = true) ∨ Op.bytesLess p.1.toList q.1.toList = true := by
  unfold less
  by_cases h : p.1.toList = q.1.toList
  · simp [h, bl_irrefl]
  · simp [h]
theorem less_irrefl (p : ByteArray × ByteArray) : less p p = false := by
  cases h : less p p
  · rfl
  · rw [less_iff] at h
    rcases h with ⟨_, h⟩ | h <;> (rw [bl_irrefl] at h; cases h)
theorem less_trans {p q r : ByteArray × ByteArray} (h1 : less p q = true) (h2 : less q r = true) : less p r = true := by
  rw [less_iff] at *
  rcases h1 with ⟨e1, h1⟩ | h1
  · rcases h2 with ⟨e2, h2⟩ | h2
    · exact Or.inl ⟨e1.trans e2, bl_trans _ _ _ h1 h2⟩
    · exact Or.inr (by rw [e1]; exact h2)
  · rcases h2 with ⟨e2, h2⟩ | h2
    · exact Or.inr (by rw [← e2]; exact h1)
    · exact Or.inr (bl_trans _ _ _ h1 h2)
theorem less_tri (p q : ByteArray × ByteArray) : less p q = true ∨ p = q ∨ less q p = true := by
  rcases bl_tri p.1.toList q.1.toList with h | h | h
  · exact Or.inl ((less_iff p q).2 (Or.inr h))
  · rcases bl_tri p.2.toList q.2.toList with h' | h' | h'
    · exact Or.inl ((less_iff p q).2 (Or.inl ⟨h, h'⟩))
    · exact Or.inr (Or.inl (Prod.ext (toList_inj h) (toList_inj h')))
    · exact Or.inr (Or.inr ((less_iff q p).2 (Or.inl ⟨h.symm, h'⟩)))
  · exact Or.inr (Or.inr ((less_iff q p).2 (Or.inr h)))
theorem less_asymm {p q : ByteArray × ByteArray} (h : less p q = true) : less q p = false := by
  cases h2 : less q p
  · rfl
  · have := less_trans h h2
    rw [less_irrefl] at this; cases this
theorem le_total (p q : ByteArray × ByteArray) : (le p q || le q p) = true := by
  unfold le
  rcases less_tri p q with h | h | h
  · rw [less_asymm h]; rfl
  · subst h; rw [less_irrefl]; rfl
  · rw [less_asymm h]; simp
theorem le_trans' (p q r : ByteArray × ByteArray) (h1 : le p q = true) (h2 : le q r = true) : le p r = true := by
  unfold le at *
  simp only [Bool.not_eq_true'] at *
  cases h : less r p
  · rfl
  · rcases less_tri p q with a | a | a
    · have := less_trans h a
      rw [this] at h2; cases h2
    · subst a; rw [h] at h2; cases h2
    · rw [a] at h1; cases h1
theorem le_antisymm' (p q : ByteArray × ByteArray) (h1 : le p q = true) (h2 : le q p = true) : p = q := by
  unfold le at *
  simp only [Bool.not_eq_true'] at *
  rcases less_tri p q with a | a | a
  · rw [a] at h2; cases h2
  · exact a
  · rw [a] at h1; cases h1

def Sorted (l : List (ByteArray × ByteArray)) : Prop := l.Pairwise fun a b => le a b = true
theorem sorted_unique {l m : List (ByteArray × ByteArray)} (hl : Sorted l) (hm : Sorted m) (h : l.Perm m) : l = m :=
  h.eq_of_pairwise (le := fun a b => le a b = true) (fun a b _ _ h1 h2 => le_antisymm' a b h1 h2) hl hm
theorem sorted_merge (l m : List (ByteArray × ByteArray)) (hl : Sorted l) (hm : Sorted m) : Sorted (l.merge m le) := List.pairwise_merge le_trans' le_total l m hl hm

end Go.Proofs.Qxb6001361a.dn
