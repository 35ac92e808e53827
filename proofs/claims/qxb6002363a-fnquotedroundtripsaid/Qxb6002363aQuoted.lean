/- strings.IndexByte and (*Scanner).Quoted over this program. -/
import Derived.Test.Qxb6002363aRows
import Derived.WalkKit
import Derived.WalkSpells
import Derived.WalkLawsBesides
import Derived.Lib.Bytealg
import Derived.Deep.QuietTactic
import Derived.BigQuiet
namespace Go.Proofs.Qxb6002363a.sc
open Go.RowKit

theorem ib10 (s : ByteArray) (c : Int) (w : World) :
    Calls Try.prog 10 #[.string s, .int .u8 c] w fun e w' => e = .returned (.int .i64 (Lib.indexByte s.data.toList c.toNat.toUInt8)) ∧ w' = w := by
  go_enter Try.func10, Try.ntmps10
  go_wp2
  rw [run_callFunc_extern Try.func11 (by kernel_rfl) (by kernel_rfl) (by kernel_rfl) (e := Extern.BytealgIndexByte.indexByte) (by kernel_rfl), Lib.run_indexByteString]
  simp only [Result.andThen]
  rw [Oper.upon_value]
  go_wp2
  go_ret
  exact ⟨rfl, rfl⟩

theorem ib8 (s : ByteArray) (c : Int) (w : World) :
    Calls Try.prog 8 #[.string s, .int .u8 c] w fun e w' => e = .returned (.int .i64 (Lib.indexByte s.data.toList c.toNat.toUInt8)) ∧ w' = w := by
  go_enter Try.func8, Try.ntmps8
  go_wp2_with (go_at_call 10; refine (ib10 _ _ _).mono ?_; rintro e w' ⟨rfl, rfl⟩)
  go_ret
  exact ⟨rfl, rfl⟩

set_option maxHeartbeats 1000000 in
theorem quoted (b p m : Nat) (T R : ByteArray) (w : World) (h0 : w.cell? ⟨b, 0, none⟩ = some (.string T)) (h1 : w.cell? ⟨b, 1, none⟩ = some (.int .i64 p)) (hf : w.frozen? ⟨b, 1, none⟩ = false)
    (hp : p + 1 ≤ T.size) (hT : T.size ≤ 100000000) (hr : T.extract (p + 1) T.size = R) (hix : Lib.indexByte R.data.toList 34 = m) (hm : m ≤ R.size) (hR : R.size ≤ 100000000) :
    Calls Try.prog 6 #[.pointer (some ⟨b, 0, none⟩)] w fun e w' => e = .returned (.tuple #[.string (R.extract 0 m), .nilIface]) ∧ ∃ q, w' = (w.setCell ⟨b, 1, none⟩ (.int .i64 ((p : Int) + ((m : Int) + 2)))).drewN q := by
  have HX : Hid (Lib.indexByte R.data.toList 34 = m) := hix
  clear hix
  have hsl : ∀ W : World, (Instr.slice 9 (.string T) (some (.int .i64 ((p : Int) + 1))) none none).run Try.prog W = .ok (.string R) W := by
    intro W
    rw [run_slice_string_from_if (P := Try.prog) W 9 T .i64 ((p : Int) + 1) Try.underlying9, if_pos ⟨by omega, by omega⟩]
    have e : ((p : Int) + 1).toNat = p + 1 := by omega
    rw [e, hr]
  clear hr
  go_enter Try.func6, Try.ntmps6
  go_wp2_with fail
  go_quiet (fail)
  go_wp2_with fail
  refine (ib8 _ _ _).mono ?_
  rintro e w' ⟨rfl, rfl⟩
  have e34 : (Int.toNat 34).toUInt8 = (34 : UInt8) := rfl
  rw [e34, HX.out]
  clear e34
  go_wp2
  go_ret2
  exact ⟨rfl, _, rfl⟩

end Go.Proofs.Qxb6002363a.sc
