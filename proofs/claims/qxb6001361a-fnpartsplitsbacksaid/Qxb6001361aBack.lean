/- FnPartSplitsBack: the walk. -/
import Derived.Test.Qxb6001361aLower
import Derived.Test.Qxb6001361aSafeB
import Derived.ProofKit
import Derived.Deep.RegionWith
namespace Go.Proofs.Qxb6001361a.dn
open Go.RowKit

theorem str_head (P E : List UInt8) (n : Nat) (hn : n = P.length) : (str (P ++ E)).extract 0 n = str P := by
  subst hn
  apply ByteArray.ext
  apply Array.toList_inj.1
  rw [Lib.extract_data]
  simp [str]
theorem str_tail (P E : List UInt8) (n m : Nat) (hn : n = P.length) (hm : m = P.length + E.length) : (str (P ++ E)).extract n m = str E := by
  subst hn hm
  apply ByteArray.ext
  apply Array.toList_inj.1
  rw [Lib.extract_data]
  simp [str]
theorem str_self (a : ByteArray) : str a.data.toList = a := rfl

theorem lowB_61 {c : UInt8} (h : c ≠ 61) : lowB c ≠ 61 := by
  unfold lowB
  split
  · next hc =>
    intro e
    have : (c + 32).toNat = 61 := by rw [e]; rfl
    rw [UInt8.toNat_add] at this
    have h32 : (32 : UInt8).toNat = 32 := rfl
    rw [h32] at this
    omega
  · exact h
theorem part_index (t v : List UInt8) (h : Lib.indexByte t 61 < 0) : Lib.indexByte (part t v) 61 = t.length := by
  have hne : ∀ x ∈ t, x ≠ 61 := by
    intro x hx
    have key : ∀ (l : List UInt8), Lib.indexByte l 61 < 0 → ∀ x ∈ l, x ≠ 61 := by
      intro l
      induction l with
      | nil => intro _ x hx; cases hx
      | cons a l ih =>
        intro h x hx
        unfold Lib.indexByte at h
        split at h
        · omega
        · next e =>
          have e' : a ≠ 61 := by simpa using e
          rcases List.mem_cons.1 hx with rfl | hx
          · exact e'
          · split at h
            · next e2 => exact ih (by rw [beq_iff_eq] at e2; omega) x hx
            · have := Lib.indexByte_ge l 61
              next e2 => exact ih (by have h2 : Lib.indexByte l 61 ≠ -1 := by simpa using e2
                                      omega) x hx
    exact key t h x hx
  unfold part
  rw [ibl_at _ _ _ ?_, low_len]
  intro x hx
  obtain ⟨y, hy, rfl⟩ := List.mem_map.1 hx
  exact lowB_61 (hne y hy)

set_option maxHeartbeats 2000000 in
theorem walkB (a0 : ByteArray) (a1 : ByteArray) (w0 : a0.size ≤ maxLen) (w1 : a1.size ≤ maxLen) (w : World) :
    Calls Try.prog 7 #[.string a0, .string a1] w fun e w' => e = .returned (.bool true) ∧ Below w.heap.size w w' := by
  unfold maxLen at w0 w1
  by_cases hbig : 1048576 < a0.size + a1.size
  · go_enter Try.func7, Try.ntmps7
    go_wp2
    all_goals
      go_ret
      exact ⟨rfl, Below.refl _ _⟩
  · by_cases heq : 0 ≤ Lib.indexByte a0.data.toList 61
    · go_enter Try.func7, Try.ntmps7
      go_wp2_with (go_at_call 20; go_in)
      refine (zix a0 61 61 rfl (by omega) _).mono ?_
      rintro e w' ⟨rfl, rfl⟩
      go_wp2
      go_ret
      exact ⟨rfl, Below.refl _ _⟩
    · have hp : a0.data.toList.length = a0.size := by rw [Array.length_toList]; rfl
      have hv : a1.data.toList.length = a1.size := by rw [Array.length_toList]; rfl
      have hE := (escL_len a1.data.toList.length a1.data.toList 0).2
      have hE1 : (esc a1.data.toList).length ≤ 3 * a1.size := by unfold esc; omega
      have hix := part_index a0.data.toList a1.data.toList (by omega)
      have hx1 : (str (part a0.data.toList a1.data.toList)).extract 0 a0.size = str (low a0.data.toList) := str_head _ _ _ (by rw [low_len, hp])
      have hos : (str (part a0.data.toList a1.data.toList)).size = a0.size + 1 + (esc a1.data.toList).length := by
        rw [str_size]; unfold part; rw [List.length_append, low_len, hp, List.length_cons]; omega
      have hx2 : (str (part a0.data.toList a1.data.toList)).extract (a0.size + 1) (str (part a0.data.toList a1.data.toList)).size = str (esc a1.data.toList) := by
        rw [hos]
        have : part a0.data.toList a1.data.toList = (low a0.data.toList ++ [61]) ++ esc a1.data.toList := by unfold part; simp
        rw [this]
        exact str_tail _ _ _ _ (by simp [low_len, hp]) (by simp [low_len, hp])
      rw [hp] at hix
      have C0 : Hid (∀ W : World, Calls Try.prog 17 #[.string a0, .string a1] W fun e w' => e = .returned (.string (str (part a0.data.toList a1.data.toList))) ∧ Below W.heap.size W w') := fun W => zap a0 a1 W (by omega)
      have C1 : Hid (∀ W : World, Calls Try.prog 21 #[.string (str (part a0.data.toList a1.data.toList)), .int .u8 61] W fun e w' => e = .returned (.int .i64 (a0.size : Int)) ∧ w' = W) := by
        intro W
        rw [← hix]
        exact zix (str (part a0.data.toList a1.data.toList)) 61 61 rfl (by rw [hos]; omega) W
      have C2 : Hid (∀ W : World, Calls Try.prog 19 #[.string a0] W fun e w' => e = .returned (.string (str (low a0.data.toList))) ∧ Below W.heap.size W w') := fun W => zlow a0 (by omega) W
      have C3 : Hid (∀ W : World, Calls Try.prog 14 #[.string (str (esc a1.data.toList))] W fun e w' => e = .returned (.bool true) ∧ w' = W) := fun W => safe a1.data.toList _ rfl (by rw [str_size]; omega) W
      have C4 : Hid (∀ W : World, Calls Try.prog 12 #[.string (str (esc a1.data.toList))] W fun e w' => e = .returned (.tuple #[.string a1, .bool true]) ∧ Below W.heap.size W w') := fun W => unesc a1.data.toList _ rfl (by rw [str_size]; omega) W
      have ho1 : a0.size + 1 ≤ (str (part a0.data.toList a1.data.toList)).size := by omega
      have ho2 : (str (part a0.data.toList a1.data.toList)).size ≤ 10000000 := by omega
      generalize str (part a0.data.toList a1.data.toList) = o at *
      generalize str (esc a1.data.toList) = r at *
      generalize str (low a0.data.toList) = lw at *
      clear hp hv hE hE1 hix hos
      go_enter Try.func7, Try.ntmps7
      go_wp2_with (go_at_call 20; go_in)
      refine (zix a0 61 61 rfl (by omega) _).mono ?_
      rintro e w1 ⟨rfl, rfl⟩
      go_wp2_with fail
      refine (C0.out _).mono ?_
      rintro e w2 ⟨rfl, hb2⟩
      go_wp2_with fail
      refine (C1.out _).mono ?_
      rintro e w3 ⟨rfl, rfl⟩
      go_wp2_with fail
      go_region_with (go_at_call 19; refine (C2.out _).mono ?_; rintro e w4 ⟨rfl, hb4⟩)
      all_goals
        have hb5 := hb2.drew.trans (hb4.mono (by exact hb2.size))
        clear hb4
        go_wp2_with fail
        refine (C3.out _).mono ?_
        rintro e w5 ⟨rfl, rfl⟩
        go_wp2_with fail
        refine (C4.out _).mono ?_
        rintro e w6 ⟨rfl, hb6⟩
        have hb7 := hb5.trans (hb6.mono (by exact hb5.size))
        go_wp2
        go_ret
        exact ⟨rfl, hb7⟩

end Go.Proofs.Qxb6001361a.dn
