/- zzB1indexByte, zzB1asciiLower. -/
import Derived.Test.Qxb6001361aPart
import Derived.Test.Qxb6001361aUnesc
namespace Go.Proofs.Qxb6001361a.dn
open Go.RowKit

theorem ibl_no (l : List UInt8) (c : UInt8) (h : ∀ x ∈ l, x ≠ c) : Lib.indexByte l c = -1 := by
  induction l with
  | nil => rfl
  | cons a l ih =>
    unfold Lib.indexByte
    have e : (a == c) = false := by rw [beq_eq_false_iff_ne]; exact h a (List.mem_cons_self ..)
    rw [e, ih (fun x hx => h x (List.mem_cons_of_mem _ hx))]; rfl
theorem ibl_at (l m : List UInt8) (c : UInt8) (h : ∀ x ∈ l, x ≠ c) : Lib.indexByte (l ++ c :: m) c = l.length := by
  induction l with
  | nil => simp [Lib.indexByte]
  | cons a l ih =>
    have e : (a == c) = false := by rw [beq_eq_false_iff_ne]; exact h a (List.mem_cons_self ..)
    have := ih (fun x hx => h x (List.mem_cons_of_mem _ hx))
    rw [List.cons_append]
    unfold Lib.indexByte
    rw [e, this]
    have e2 : (((l.length : Nat) : Int) == -1) = false := by rw [beq_eq_false_iff_ne]; omega
    rw [e2]
    simp
/-- the bytes ahead of place k are none of c -/
def Miss (s : ByteArray) (c : UInt8) (k : Nat) : Prop := ∀ x ∈ s.data.toList.take k, x ≠ c
theorem miss_succ {s : ByteArray} {c : UInt8} {k : Nat} (h : Miss s c k) (hk : k < s.size) (hne : s[k] ≠ c) : Miss s c (k + 1) := by
  unfold Miss
  rw [take_snoc s k hk]
  intro x hx
  rcases List.mem_append.1 hx with hx | hx
  · exact h x hx
  · simp at hx; rw [hx]; exact hne
theorem miss_hit {s : ByteArray} {c : UInt8} {k : Nat} (h : Miss s c k) (hk : k < s.size) (he : s[k] = c) : Lib.indexByte s.data.toList c = k := by
  have hl : k < s.data.toList.length := by rw [Array.length_toList]; exact hk
  have e : s.data.toList = s.data.toList.take k ++ (s[k] :: s.data.toList.drop (k + 1)) := by
    have : s.data.toList[k] = s[k] := rfl
    rw [← this, ← List.drop_eq_getElem_cons hl, List.take_append_drop]
  rw [e, he, ibl_at _ _ _ h, List.length_take]; omega
theorem miss_end {s : ByteArray} {c : UInt8} (h : Miss s c s.size) : Lib.indexByte s.data.toList c = -1 := by
  apply ibl_no
  intro x hx
  apply h x
  rw [List.take_of_length_le (by rw [Array.length_toList]; exact Nat.le_refl _)]; exact hx

theorem zix (s : ByteArray) (c : UInt8) (n : Int) (hn : n = c.toNat) (hs : s.size ≤ 1000000000000000) (w : World) :
    Calls Try.prog 21 #[.string s, .int .u8 n] w fun e w' => e = .returned (.int .i64 (Lib.indexByte s.data.toList c)) ∧ w' = w := by
  have HN : Hid (n = c.toNat) := hn
  clear hn
  go_enter Try.func21, Try.ntmps21
  go_wp2
  go_loop [5] (fun i => ∃ k : Nat, k ≤ s.size ∧ i = .int .i64 k ∧ Miss s c k) (fun i => s.size - (intOf i).toNat)
  case atStart => exact ⟨0, Nat.zero_le _, rfl, by intro x hx; simp at hx⟩
  case round =>
    obtain ⟨k, hk, rfl, hm⟩ := hrel
    by_cases hlt : k < s.size
    · by_cases he : s[k] = c
      · have hr : Hid (Lib.indexByte s.data.toList c = k) := miss_hit hm hlt he
        have q : ((s[k].toNat : Int) == n) = true := by rw [HN.out, he]; simp
        clear he
        go_wp2
        go_ret
        exact ⟨by rw [hr.out]; rfl, rfl⟩
      · have hm' := miss_succ hm hlt he
        have q : ((s[k].toNat : Int) == n) = false := by
          rw [beq_eq_false_iff_ne, HN.out]; intro h; exact he (UInt8.toNat_inj.1 (by omega))
        clear he
        go_wp2
        go_round
        case rel => exact ⟨k + 1, by omega, by go_num, hm'⟩
        case measure => simp [intOf]; omega
    · have hkk : k = s.size := by omega
      have hr : Hid (Lib.indexByte s.data.toList c = -1) := miss_end (by rw [← hkk]; exact hm)
      clear hkk
      go_wp2
      go_ret
      exact ⟨by rw [hr.out]; rfl, rfl⟩

end Go.Proofs.Qxb6001361a.dn
