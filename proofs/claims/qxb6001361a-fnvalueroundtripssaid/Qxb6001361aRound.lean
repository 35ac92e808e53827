/- FnValueRoundTrips: the walk. -/
import Derived.Test.Qxb6001361aUnesc
import Derived.ProofKit
namespace Go.Proofs.Qxb6001361a.dn
open Go.RowKit

theorem str_data_self (a : ByteArray) : str a.data.toList = a := rfl

set_option maxHeartbeats 1000000 in
theorem walkR (a0 : ByteArray) (w0 : a0.size ≤ maxLen) (w : World) :
    Calls Try.prog 3 #[.string a0] w fun e w' => e = .returned (.bool true) ∧ Below w.heap.size w w' := by
  unfold maxLen at w0
  by_cases hbig : 1048576 < a0.size
  · go_enter Try.func3, Try.ntmps3
    go_wp2
    all_goals
      go_ret
      exact ⟨rfl, Below.refl _ _⟩
  · have hv : a0.data.toList.length = a0.size := by rw [Array.length_toList]; rfl
    have hE := (escL_len a0.data.toList.length a0.data.toList 0).2
    have hs : (str (esc a0.data.toList)).size ≤ 10000000000000 := by rw [str_size]; unfold esc; omega
    have HS : Hid ((str (esc a0.data.toList)).data.toList = esc a0.data.toList) := rfl
    clear hE hv
    have C : Hid (∀ W : World, Calls Try.prog 11 #[.string ⟨#[]⟩, .string a0] W fun e w' => e = .returned (.string (str (esc a0.data.toList))) ∧ Below W.heap.size W w') := by
      intro W
      exact zav ⟨#[]⟩ a0 W (by show 0 + 3 * a0.size ≤ _; omega)
    generalize hl : str (esc a0.data.toList) = o at *
    clear hl
    go_enter Try.func3, Try.ntmps3
    go_wp2_with (go_at_call 10; go_in)
    refine (C.out _).mono ?_
    rintro e w1 ⟨rfl, hb1⟩
    go_wp2_with fail
    refine (unesc a0.data.toList o HS.out hs _).mono ?_
    rintro e w2 ⟨rfl, hb2⟩
    rw [str_data_self]
    go_wp2
    go_ret
    exact ⟨rfl, hb1.trans (hb2.mono hb1.size)⟩

end Go.Proofs.Qxb6001361a.dn
