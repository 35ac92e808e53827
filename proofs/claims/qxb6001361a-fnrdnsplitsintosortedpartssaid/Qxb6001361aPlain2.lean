/- THE PLAIN MATHEMATICS of the reading back: where a byte's escape stands in the escaped text. -/
import Derived.Test.Qxb6001361aPlain
namespace Go.Proofs.Qxb6001361a.dn

theorem escL_app (n : Nat) (l m : List UInt8) : ∀ i, escL n i (l ++ m) = escL n i l ++ escL n (i + l.length) m := by
  induction l with
  | nil => intro i; simp [escL]
  | cons a l ih =>
    intro i
    simp only [List.cons_append, escL, ih (i + 1), List.append_assoc, List.length_cons]
    rw [show i + 1 + l.length = i + (l.length + 1) by omega]

/-- where byte k's escape begins -/
def pos (v : List UInt8) (k : Nat) : Nat := (escL v.length 0 (v.take k)).length

theorem esc_split (v : List UInt8) (k : Nat) (h : k < v.length) : ∃ r, esc v = escL v.length 0 (v.take k) ++ (escAt v.length k v[k] ++ r) := by
  refine ⟨escL v.length (k + 1) (v.drop (k + 1)), ?_⟩
  have e : v = v.take k ++ (v[k] :: v.drop (k + 1)) := by rw [← List.drop_eq_getElem_cons h, List.take_append_drop]
  have hl : (v.take k).length = k := by rw [List.length_take]; omega
  have e2 : escL v.length 0 v = escL v.length 0 (v.take k ++ (v[k] :: v.drop (k + 1))) := congrArg (escL v.length 0) e
  unfold esc
  rw [e2, escL_app, hl, Nat.zero_add]
  rfl

theorem pos_zero (v : List UInt8) : pos v 0 = 0 := by simp [pos, escL]
theorem pos_succ (v : List UInt8) (k : Nat) (h : k < v.length) : pos v (k + 1) = pos v k + (escAt v.length k v[k]).length := by
  unfold pos
  rw [List.take_succ_eq_append_getElem h, escL_snoc, List.length_append]
  have hl : (v.take k).length = k := by rw [List.length_take]; omega
  rw [hl, Nat.zero_add]
theorem pos_end (v : List UInt8) : pos v v.length = (esc v).length := by unfold pos esc; rw [List.take_length]
theorem pos_mono (v : List UInt8) (k : Nat) (h : k ≤ v.length) : k ≤ pos v k := by
  have := (escL_len v.length (v.take k) 0).1
  have hl : (v.take k).length = k := by rw [List.length_take]; omega
  unfold pos; omega

theorem pos_le (v : List UInt8) (k m : Nat) (h : k ≤ m) (hm : m ≤ v.length) : pos v k ≤ pos v m := by
  induction m with
  | zero => have : k = 0 := by omega
            subst this; exact Nat.le_refl _
  | succ m ih =>
    by_cases e : k = m + 1
    · subst e; exact Nat.le_refl _
    · have := ih (by omega) (by omega)
      rw [pos_succ v m (by omega)]; omega
/-- byte j of the escape of byte k, in a string that holds the escaped text -/
theorem at_esc (v : List UInt8) (s : ByteArray) (hs : s.data.toList = esc v) (k : Nat) (h : k < v.length) (j : Nat) (hj : j < (escAt v.length k v[k]).length) :
    ∃ h' : pos v k + j < s.size, s[pos v k + j] = (escAt v.length k v[k])[j] := by
  obtain ⟨r, hr⟩ := esc_split v k h
  have hl : s.data.toList.length = s.size := by rw [Array.length_toList]; rfl
  have hlen : pos v k + j < s.data.toList.length := by
    rw [hs, hr, List.length_append, List.length_append]; unfold pos; omega
  refine ⟨by omega, ?_⟩
  have e1 : s[pos v k + j]'(by omega) = s.data.toList[pos v k + j]'hlen := rfl
  rw [e1]
  have e2 : s.data.toList[pos v k + j]? = some ((escAt v.length k v[k])[j]) := by
    rw [hs, hr, List.getElem?_append_right (by unfold pos; omega)]
    have : pos v k + j - (escL v.length 0 (v.take k)).length = j := by unfold pos; omega
    rw [this, List.getElem?_append_left hj, List.getElem?_eq_getElem hj]
  rw [List.getElem?_eq_getElem hlen] at e2
  exact Option.some.inj e2

theorem at_list (v : List UInt8) (s : ByteArray) (hs : s.data.toList = esc v) (k : Nat) (h : k < v.length) (l : List UInt8) (he : escAt v.length k v[k] = l) (j : Nat) (hj : j < l.length) :
    ∃ h' : pos v k + j < s.size, s[pos v k + j] = l[j] := by
  subst he
  exact at_esc v s hs k h j hj
theorem at_sl (v : List UInt8) (s : ByteArray) (hs : s.data.toList = esc v) (k : Nat) (h : k < v.length) (c : UInt8) (he : escAt v.length k v[k] = [92, c]) :
    ∃ (_ : pos v k < s.size) (_ : pos v k + 1 < s.size), s[pos v k] = 92 ∧ s[pos v k + 1] = c ∧ pos v (k + 1) = pos v k + 2 := by
  obtain ⟨b0, e0⟩ := at_list v s hs k h _ he 0 (by simp)
  obtain ⟨b1, e1⟩ := at_list v s hs k h _ he 1 (by simp)
  exact ⟨b0, b1, e0, e1, by rw [pos_succ v k h, he]; rfl⟩
theorem at_out (v : List UInt8) (s : ByteArray) (hs : s.data.toList = esc v) (k : Nat) (h : k < v.length) (c d : UInt8) (he : escAt v.length k v[k] = [92, c, d]) :
    ∃ (_ : pos v k < s.size) (_ : pos v k + 1 < s.size) (_ : pos v k + 2 < s.size), s[pos v k] = 92 ∧ s[pos v k + 1] = c ∧ s[pos v k + 2] = d ∧ pos v (k + 1) = pos v k + 3 := by
  obtain ⟨b0, e0⟩ := at_list v s hs k h _ he 0 (by simp)
  obtain ⟨b1, e1⟩ := at_list v s hs k h _ he 1 (by simp)
  obtain ⟨b2, e2⟩ := at_list v s hs k h _ he 2 (by simp)
  exact ⟨b0, b1, b2, e0, e1, e2, by rw [pos_succ v k h, he]; rfl⟩
theorem at_pl (v : List UInt8) (s : ByteArray) (hs : s.data.toList = esc v) (k : Nat) (h : k < v.length) (c : UInt8) (he : escAt v.length k v[k] = [c]) :
    ∃ (_ : pos v k < s.size), s[pos v k] = c ∧ pos v (k + 1) = pos v k + 1 := by
  obtain ⟨b0, e0⟩ := at_list v s hs k h _ he 0 (by simp)
  exact ⟨b0, e0, by rw [pos_succ v k h, he]; rfl⟩

/-! ### the three kinds of an escape -/
/-- not a hexadecimal digit -/
def NoHex (c : Int) : Prop := ¬ (48 ≤ c ∧ c ≤ 57) ∧ ¬ (97 ≤ c ∧ c ≤ 102) ∧ ¬ (65 ≤ c ∧ c ≤ 70)
theorem special_cases {c : UInt8} (h : special c = true) : c = 34 ∨ c = 43 ∨ c = 44 ∨ c = 59 ∨ c = 60 ∨ c = 62 ∨ c = 92 := by
  revert h; revert c
  intro c h
  unfold special at h
  rw [decide_eq_true_iff] at h
  have key : ∀ (l : List UInt8), 0 ≤ Lib.indexByte l c → c ∈ l := by
    intro l
    induction l with
    | nil => intro h; simp [Lib.indexByte] at h
    | cons a l ih =>
      intro h
      unfold Lib.indexByte at h
      split at h
      · next e => rw [beq_iff_eq] at e; rw [e]; exact List.mem_cons_self ..
      · split at h
        · simp at h
        · next e => exact List.mem_cons_of_mem _ (ih (by have := Lib.indexByte_ge l c; have h2 : Lib.indexByte l c ≠ -1 := by simpa using e
                                                         omega))
  have := key _ h
  simpa using this
theorem slashed_cases {n k : Nat} {c : UInt8} (h : slashed n k c = true) : c = 32 ∨ c = 35 ∨ special c = true := by
  unfold slashed at h
  simp only [Bool.or_eq_true, Bool.and_eq_true, beq_iff_eq] at h
  rcases h with (⟨h | h, _⟩ | ⟨h, _⟩) | h
  · exact Or.inl h
  · exact Or.inr (Or.inl h)
  · exact Or.inl h
  · exact Or.inr (Or.inr h)
theorem slashed_nohex {n k : Nat} {c : UInt8} (h : slashed n k c = true) : NoHex c.toNat := by
  rcases slashed_cases h with rfl | rfl | h
  · unfold NoHex; decide
  · unfold NoHex; decide
  · rcases special_cases h with rfl | rfl | rfl | rfl | rfl | rfl | rfl <;> (unfold NoHex; decide)

theorem kinds (n k : Nat) (c : UInt8) :
    (escAt n k c = [92, c] ∧ NoHex c.toNat) ∨ (escAt n k c = [92, digs.getD (c.toNat / 16) 0, digs.getD (c.toNat % 16) 0]) ∨ (escAt n k c = [c] ∧ c ≠ 92) := by
  cases hs : slashed n k c
  · cases ho : outside c
    · refine Or.inr (Or.inr ⟨by unfold escAt; rw [hs, ho]; rfl, ?_⟩)
      rintro rfl
      have : slashed n k 92 = true := by have : special 92 = true := by decide
                                         simp [slashed, this]
      rw [this] at hs; cases hs
    · exact Or.inr (Or.inl (by unfold escAt; rw [hs, ho]; rfl))
  · exact Or.inl ⟨esc_sl hs, slashed_nohex hs⟩

end Go.Proofs.Qxb6001361a.dn
