import Derived.Test.Qxb6001225aRows
import Derived.WalkKit
import Derived.WalkSpells
import Derived.WalkLawsBesides
import Derived.Lib.Bytealg
namespace Go.Proofs.Qxb6001225a.fnScanStringBounds
open Go.RowKit

/-- internal/stringslite.IndexByte -/
theorem ib49 (s : ByteArray) (c : Int) (w : World) :
    Calls Try.prog 49 #[.string s, .int .u8 c] w fun e w' => e = .returned (.int .i64 (Lib.indexByte s.data.toList c.toNat.toUInt8)) ∧ w' = w := by
  go_enter Try.func49, Try.ntmps49
  go_wp2
  rw [run_callFunc_extern Try.func51 (by kernel_rfl) (by kernel_rfl) (by kernel_rfl) (e := Extern.BytealgIndexByte.indexByte) (by kernel_rfl), Lib.run_indexByteString]
  simp only [Result.andThen]
  rw [Oper.upon_value]
  go_wp2
  go_ret
  exact ⟨rfl, rfl⟩

theorem ib45 (s : ByteArray) (c : Int) (w : World) :
    Calls Try.prog 45 #[.string s, .int .u8 c] w fun e w' => e = .returned (.int .i64 (Lib.indexByte s.data.toList c.toNat.toUInt8)) ∧ w' = w := by
  go_enter Try.func45, Try.ntmps45
  go_wp2_with (go_at_call 49; refine (ib49 _ _ _).mono ?_; rintro e w' ⟨rfl, rfl⟩)
  go_ret
  exact ⟨rfl, rfl⟩

theorem hex_ok {c : UInt8} (h : 0 ≤ Lib.indexByte [48, 49, 50, 51, 52, 53, 54, 55, 56, 57, 97, 98, 99, 100, 101, 102, 65, 66, 67, 68, 69, 70] c) : c ≠ 10 ∧ c ≠ 13 := by
  constructor <;> (rintro rfl; revert h; decide)

/-- what isHex tells: where it says yes, no byte is a line end -/
def HexPost (s : ByteArray) (e : Ending) : Prop := ∃ b : Bool, e = .returned (.bool b) ∧ (b = true → ∀ k (h : k < s.size), s[k] ≠ 10 ∧ s[k] ≠ 13)

theorem isHex_any (s : ByteArray) (hs : s.size ≤ maxLen) (w : World) :
    Calls Try.prog 46 #[.string s] w fun e w' => HexPost s e ∧ w' = w := by
  unfold maxLen at hs
  go_enter Try.func46, Try.ntmps46
  go_wp2
  go_loop [6] (fun i => ∃ k : Nat, k ≤ s.size ∧ i = .int .i64 k ∧ ∀ j (h : j < s.size), j < k → s[j] ≠ 10 ∧ s[j] ≠ 13) (fun i => s.size - (intOf i).toNat)
  case atStart => exact ⟨0, Nat.zero_le _, rfl, fun j h h0 => absurd h0 (by omega)⟩
  case round =>
    obtain ⟨k, hk, rfl, hall⟩ := hrel
    by_cases hlt : k < s.size
    · go_wp2_with (go_at_call 45; refine (ib45 _ _ _).mono ?_; rintro e w' ⟨rfl, rfl⟩)
      · go_ret
        exact ⟨⟨false, rfl, fun h => by cases h⟩, rfl⟩
      · go_round
        case rel =>
          have hx := hex_ok (c := s[k]) (by assumption)
          refine ⟨k + 1, by omega, by go_num, fun j h hj => ?_⟩
          by_cases e : j = k
          · subst e; exact hx
          · exact hall j h (by omega)
        case measure => simp [intOf]; omega
    · go_wp2
      go_ret
      exact ⟨⟨true, rfl, fun _ j h => hall j h (by omega)⟩, rfl⟩

end Go.Proofs.Qxb6001225a.fnScanStringBounds
