import Derived.Test.Qxb6001292aRows
import Derived.WalkKit
import Derived.WalkSpells
import Derived.WalkLawsBesides
import Derived.Lib.Bytealg
import Derived.Lib.AppendStr
import Derived.Laws.IdiomStrings
namespace Go.Proofs.Qxb6001292a.fnUnquote
open Go.RowKit

/-- internal/stringslite.IndexByte -/
theorem ib35 (s : ByteArray) (c : Int) (w : World) :
    Calls Try.prog 35 #[.string s, .int .u8 c] w fun e w' => e = .returned (.int .i64 (Lib.indexByte s.data.toList c.toNat.toUInt8)) ∧ w' = w := by
  go_enter Try.func35, Try.ntmps35
  go_wp2
  rw [run_callFunc_extern Try.func37 (by kernel_rfl) (by kernel_rfl) (by kernel_rfl) (e := Extern.BytealgIndexByte.indexByte) (by kernel_rfl), Lib.run_indexByteString]
  simp only [Result.andThen]
  rw [Oper.upon_value]
  go_wp2
  go_ret
  exact ⟨rfl, rfl⟩

theorem ib33 (s : ByteArray) (c : Int) (w : World) :
    Calls Try.prog 33 #[.string s, .int .u8 c] w fun e w' => e = .returned (.int .i64 (Lib.indexByte s.data.toList c.toNat.toUInt8)) ∧ w' = w := by
  go_enter Try.func33, Try.ntmps33
  go_wp2_with (go_at_call 35; refine (ib35 _ _ _).mono ?_; rintro e w' ⟨rfl, rfl⟩)
  go_ret
  exact ⟨rfl, rfl⟩

/-! ### Without escapes -/
/-- no byte among 1 .. n-1 is the first one -/
def Clear (s : ByteArray) (n : Nat) : Prop := ∀ (h0 : 0 < s.size) j (h : j < s.size), 1 ≤ j → j < n → s[j] ≠ s[0]
theorem clear_succ {s : ByteArray} {k : Nat} (hc : Clear s k) (h0 : 0 < s.size) (hlt : k < s.size) (h : s[k] ≠ s[0]) : Clear s (k + 1) := by
  intro _ j hj h1 h2
  by_cases e : j = k
  · subst e; exact h
  · exact hc h0 j hj h1 (by omega)

/-- what unquote tells where there are no escapes -/
def Post0 (s : ByteArray) (e : Ending) : Prop :=
  (e = .returned (.tuple #[.string ByteArray.empty, .int .i64 0, .bool false]) ∧ Clear s s.size) ∨
  ∃ k : Nat, e = .returned (.tuple #[.string (s.extract 1 k), .int .i64 (k + 1), .bool true]) ∧ 1 ≤ k ∧ k < s.size ∧ (∀ (h0 : 0 < s.size) (h : k < s.size), s[k] = s[0]) ∧ Clear s k

theorem byte_ne {a b : UInt8} (h : ((a.toNat : Int) == (b.toNat : Int)) = false) : a ≠ b := by
  rintro rfl; simp at h
theorem byte_eq {a b : UInt8} (h : ((a.toNat : Int) == (b.toNat : Int)) = true) : a = b := by
  rw [beq_iff_eq] at h; exact UInt8.toNat_inj.1 (by omega)

set_option maxHeartbeats 1000000 in
theorem unq0 (s esc : ByteArray) (h1 : 1 ≤ s.size) (hs : s.size ≤ 65536) (hne : ∀ c, Lib.indexByte esc.data.toList c = -1) (w : World) :
    Calls Try.prog 28 #[.string s, .string esc] w fun e w' => Post0 s e ∧ w' = w := by
  have hnil := fun (w : World) (n c : Nat) => Lib.run_eql_slice_nil (P := Try.prog) w 34 5 none n c 0 0 Try.underlying34
  go_enter Try.func28, Try.ntmps28
  go_wp2
  go_loop [8, 10] (fun v i => ∃ k : Nat, 1 ≤ k ∧ k ≤ s.size ∧ v = .slice none 0 0 ∧ i = .int .i64 k ∧ Clear s k) (fun _ i => s.size - (intOf i).toNat)
  case atStart => exact ⟨1, by omega, h1, rfl, rfl, fun _ j h h0 h1 => absurd h0 (by omega)⟩
  case round =>
    obtain ⟨k, hk1, hk, rfl, rfl, hall⟩ := hrel
    by_cases hlt : k < s.size
    · go_wp2_with (go_at_call 33; refine (ib33 _ _ _).mono ?_; rintro e w' ⟨rfl, rfl⟩)
      · have e0 : s[k] = s[0] := byte_eq (by assumption)
        go_ret3
        exact ⟨Or.inr ⟨k, rfl, hk1, hlt, fun _ _ => e0, hall⟩, rfl⟩
      all_goals
        have e0 : s[k] ≠ s[0] := byte_ne (by assumption)
        go_round
        case rel => exact ⟨k + 1, by omega, by omega, rfl, by go_num, clear_succ hall (by omega) hlt e0⟩
        case measure => simp [intOf]; omega
    · go_wp2
      go_ret3
      exact ⟨Or.inl ⟨rfl, by have : k = s.size := by omega
                             rw [← this]; exact hall⟩, rfl⟩

end Go.Proofs.Qxb6001292a.fnUnquote
