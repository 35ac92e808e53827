/- FnValueAppendsWithinThreefold: the walk. -/
import Derived.Test.Qxb6001361aZav
import Derived.ProofKit
import Derived.Deep.RegionWith
namespace Go.Proofs.Qxb6001361a.dn
open Go.RowKit

theorem str_extract_head (P E : List UInt8) (n : Nat) (hn : n = P.length) : (str (P ++ E)).extract 0 n = str P := by
  subst hn
  apply ByteArray.ext
  apply Array.toList_inj.1
  rw [Lib.extract_data]
  simp [str]
theorem str_extract_tail (P E : List UInt8) (n m : Nat) (hn : n = P.length) (hm : m = P.length + E.length) : (str (P ++ E)).extract n m = str E := by
  subst hn hm
  apply ByteArray.ext
  apply Array.toList_inj.1
  rw [Lib.extract_data]
  simp [str]
theorem ret_bool {a b : Bool} (h : a = b) : Ending.returned (.bool a) = .returned (.bool b) := by rw [h]
theorem str_of (p : ByteArray) : str p.data.toList = p := rfl

set_option maxHeartbeats 1000000 in
theorem walk3 (a0 : ByteArray) (a1 : ByteArray) (w0 : a0.size ≤ maxLen) (w1 : a1.size ≤ maxLen) (w : World) :
    Calls Try.prog 5 #[.string a0, .string a1] w fun e w' => e = .returned (.bool true) ∧ Below w.heap.size w w' := by
  unfold maxLen at w0 w1
  by_cases hbig : 1048576 < a0.size + a1.size
  · go_enter Try.func5, Try.ntmps5
    go_wp2
    all_goals
      go_ret
      exact ⟨rfl, Below.refl _ _⟩
  · have hp : a0.data.toList.length = a0.size := by rw [Array.length_toList]; rfl
    have hv : a1.data.toList.length = a1.size := by rw [Array.length_toList]; rfl
    have hE := escL_len a1.size a1.data.toList 0
    obtain ⟨E, hEd⟩ : ∃ E, E = esc a1.data.toList := ⟨_, rfl⟩
    have hE1 : a1.size ≤ E.length ∧ E.length ≤ 3 * a1.size := by rw [hEd]; unfold esc; rw [hv]; rw [hv] at hE; exact hE
    obtain ⟨o, ho⟩ : ∃ o, o = str (a0.data.toList ++ E) := ⟨_, rfl⟩
    have hos : o.size = a0.size + E.length := by rw [ho, str_size, List.length_append, hp]
    have x1 : o.extract 0 a0.size = a0 := by rw [ho, str_extract_head _ _ _ hp.symm]; rfl
    have x2 : o.extract a0.size o.size = str E := by rw [hos, ho, str_extract_tail _ _ _ _ hp.symm (by rw [hp])]
    have HE : Hid (E = esc a1.data.toList) := hEd
    have HO : Hid (o = str (a0.data.toList ++ E)) := ho
    have HZ : Hid (o.size = a0.size + E.length) := hos
    have ho1 : a0.size + a1.size ≤ o.size := by omega
    have ho2 : o.size ≤ a0.size + 3 * a1.size := by omega
    clear hE hEd ho hos hE1 hp hv
    have C : Hid (∀ W : World, Calls Try.prog 11 #[.string ⟨#[]⟩, .string a1] W fun e w' => e = .returned (.string (str E)) ∧ Below W.heap.size W w') := by
      intro W
      refine (zav ⟨#[]⟩ a1 W (by show 0 + 3 * a1.size ≤ _; omega)).mono ?_
      rintro e w' ⟨rfl, h⟩
      rw [HE.out]
      exact ⟨rfl, h⟩
    go_enter Try.func5, Try.ntmps5
    go_wp2_with (go_at_call 15; go_in)
    refine (zav a0 a1 _ (by omega)).mono ?_
    rintro e w1 ⟨rfl, hb1⟩
    rw [← HE.out, ← HO.out]
    go_wp2_with fail
    go_region_with (go_at_call 11; refine (C.out _).mono ?_; rintro e w2 ⟨rfl, hb2⟩)
    go_wp2
    have hfin : decide ((o.size : Int) - (a0.size : Int) ≤ 3 * (a1.size : Int)) = true := by rw [decide_eq_true_iff]; omega
    have hbel : Below w.heap.size w w2 := hb1.drew.trans (hb2.mono (by exact hb1.size))
    go_ret
    exact ⟨ret_bool hfin, hbel⟩

end Go.Proofs.Qxb6001361a.dn
