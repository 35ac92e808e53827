/- A piece of the written RDN, read back. -/
import Derived.Test.Qxb6001361aRdnL
import Derived.Test.Qxb6001361aSafeB
import Derived.Test.Qxb6001361aLower
namespace Go.Proofs.Qxb6001361a.dn
open Go.RowKit

theorem str_headP (P E : List UInt8) (n : Nat) (hn : n = P.length) : (str (P ++ E)).extract 0 n = str P := by
  subst hn
  apply ByteArray.ext
  apply Array.toList_inj.1
  rw [Lib.extract_data]
  simp [str]
theorem str_tailP (P E : List UInt8) (n m : Nat) (hn : n = P.length) (hm : m = P.length + E.length) : (str (P ++ E)).extract n m = str E := by
  subst hn hm
  apply ByteArray.ext
  apply Array.toList_inj.1
  rw [Lib.extract_data]
  simp [str]

/-- what the reader does with the piece P of the pair q, whose escaped value is r -/
structure Piece (P r : ByteArray) (q : Pair) : Prop where
  lo : q.1.size + 1 ≤ P.size
  hi : P.size ≤ 10000000
  ix : ∀ W : World, Calls Try.prog 21 #[.string P, .int .u8 61] W fun e w' => e = .returned (.int .i64 (q.1.size : Int)) ∧ w' = W
  hd : P.extract 0 q.1.size = q.1
  tl : P.extract (q.1.size + 1) P.size = r
  sf : ∀ W : World, Calls Try.prog 14 #[.string r] W fun e w' => e = .returned (.bool true) ∧ w' = W
  un : ∀ W : World, Calls Try.prog 12 #[.string r] W fun e w' => e = .returned (.tuple #[.string q.2, .bool true]) ∧ Below W.heap.size W w'

theorem piece (q : Pair) (hno : ∀ x ∈ q.1.data.toList, x ≠ 61) (hsz : q.1.size + 3 * q.2.size ≤ 4000000) : Piece (str (encP q)) (str (esc q.2.data.toList)) q := by
  have hp : q.1.data.toList.length = q.1.size := by rw [Array.length_toList]; rfl
  have hv : q.2.data.toList.length = q.2.size := by rw [Array.length_toList]; rfl
  have hE := (escL_len q.2.data.toList.length q.2.data.toList 0).2
  have hE1 : (esc q.2.data.toList).length ≤ 3 * q.2.size := by unfold esc; omega
  have hos : (str (encP q)).size = q.1.size + 1 + (esc q.2.data.toList).length := by
    rw [str_size]; unfold encP; rw [List.length_append, hp, List.length_cons]; omega
  have hix : Lib.indexByte (encP q) 61 = (q.1.size : Int) := by unfold encP; rw [ibl_at _ _ _ hno, hp]
  refine ⟨by omega, by omega, ?_, ?_, ?_, ?_, ?_⟩
  · intro W
    have h := zix (str (encP q)) 61 61 rfl (by rw [hos]; omega) W
    rw [str_data, hix] at h
    exact h
  · unfold encP
    rw [str_headP _ _ _ hp.symm]
    rfl
  · rw [hos]
    have e : encP q = (q.1.data.toList ++ [61]) ++ esc q.2.data.toList := by unfold encP; simp
    rw [e]
    exact str_tailP _ _ _ _ (by simp [hp]) (by simp [hp])
  · intro W
    exact safe q.2.data.toList _ rfl (by rw [str_size]; omega) W
  · intro W
    exact unesc q.2.data.toList _ rfl (by rw [str_size]; omega) W

end Go.Proofs.Qxb6001361a.dn
