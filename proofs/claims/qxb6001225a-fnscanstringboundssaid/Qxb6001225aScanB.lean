import Derived.Test.Qxb6001225aScan
namespace Go.Proofs.Qxb6001225a.fnScanStringBounds
open Go.RowKit

/-! ### Plain facts -/
/-- no line end among the bytes 1 .. n-1 -/
def Clear (s : ByteArray) (n : Nat) : Prop := ∀ j (h : j < s.size), 1 ≤ j → j < n → s[j] ≠ 10 ∧ s[j] ≠ 13
def BadIn (b : Int) (k : Int) : Prop := b = -1 ∨ (1 ≤ b ∧ b < k)

theorem quo_lt {c : UInt8} (h : Lib.indexByte [34, 10, 13] c < 0) : c ≠ 10 ∧ c ≠ 13 := by
  constructor <;> (rintro rfl; revert h; decide)
theorem quo_ge {c : UInt8} (h : 0 ≤ Lib.indexByte [34, 10, 13] c) : c = 34 ∨ c = 10 ∨ c = 13 := by
  by_cases h1 : c = 34
  · exact Or.inl h1
  · by_cases h2 : c = 10
    · exact Or.inr (Or.inl h2)
    · by_cases h3 : c = 13
      · exact Or.inr (Or.inr h3)
      · exfalso
        have e1 : ((34 : UInt8) == c) = false := by simpa using fun e => h1 e.symm
        have e2 : ((10 : UInt8) == c) = false := by simpa using fun e => h2 e.symm
        have e3 : ((13 : UInt8) == c) = false := by simpa using fun e => h3 e.symm
        simp [Lib.indexByte, e1, e2, e3] at h
theorem eq34 {c : UInt8} (h : ((c.toNat : Int) == 34) = true) : c = 34 := by
  rw [beq_iff_eq] at h
  exact UInt8.toNat_inj.1 (by simpa using (by omega : c.toNat = 34))
theorem quo_end {c : UInt8} (h : 0 ≤ Lib.indexByte [34, 10, 13] c) (h' : ((c.toNat : Int) == 34) = false) : c = 10 ∨ c = 13 := by
  rcases quo_ge h with rfl | h | h
  · exact absurd h' (by decide)
  · exact Or.inl h
  · exact Or.inr h
theorem esc_ge {c : UInt8} (h : 0 ≤ Lib.indexByte [34, 92, 47, 98, 102, 110, 114, 116] c) : c ≠ 10 ∧ c ≠ 13 := by
  constructor <;> (rintro rfl; revert h; decide)
theorem u_ok {c : UInt8} (h : (c.toNat : Int) = 117) : c ≠ 10 ∧ c ≠ 13 := by
  constructor <;> (rintro rfl; revert h; decide)

theorem clear_succ {s : ByteArray} {k : Nat} (hc : Clear s k) (hlt : k < s.size) (h : s[k] ≠ 10 ∧ s[k] ≠ 13) : Clear s (k + 1) := by
  intro j hj h1 h2
  by_cases e : j = k
  · subst e; exact h
  · exact hc j hj h1 (by omega)
theorem bad_mono {b k k' : Int} (h : BadIn b k) (hk : k ≤ k') : BadIn b k' := by
  unfold BadIn at *; omega

theorem step2 {s : ByteArray} {k : Nat} (hc : Clear s k) (h2 : k + 1 < s.size) (h0 : Lib.indexByte [34, 10, 13] s[k] < 0) (h1 : 0 ≤ Lib.indexByte [34, 92, 47, 98, 102, 110, 114, 116] s[k + 1]) : Clear s (k + 2) :=
  clear_succ (clear_succ hc (by omega) (quo_lt h0)) h2 (esc_ge h1)
theorem step6 {s : ByteArray} {k : Nat} (hc : Clear s k) (h2 : k + 5 < s.size) (h0 : Lib.indexByte [34, 10, 13] s[k] < 0) (h1 : ((s[k + 1]'(by omega)).toNat : Int) = 117)
    (hx : ∀ j (h : j < (s.extract (k + 2) (k + 6)).size), (s.extract (k + 2) (k + 6))[j] ≠ 10 ∧ (s.extract (k + 2) (k + 6))[j] ≠ 13) : Clear s (k + 6) := by
  intro j hj g1 g2
  by_cases a : j < k + 2
  · exact clear_succ (clear_succ hc (by omega) (quo_lt h0)) (by omega) (u_ok h1) j hj g1 a
  · have := hx (j - (k + 2)) (by rw [ByteArray.size_extract]; omega)
    rw [ByteArray.getElem_extract] at this
    have e : k + 2 + (j - (k + 2)) = j := by omega
    simpa only [e] using this

/-- what scanString tells of the text -/
def ScanIs (s : ByteArray) (n : Nat) (bad : Int) (op : Bool) : Prop := 1 ≤ n ∧ n ≤ s.size ∧
  (op = true → 1 ≤ bad ∧ bad ≤ n ∧ (∀ h : n < s.size, s[n] = 10 ∨ s[n] = 13) ∧ Clear s n) ∧
  (op = false → 2 ≤ n ∧ (∀ h : n - 1 < s.size, s[n - 1] = 34) ∧ BadIn bad (n - 1) ∧ Clear s (n - 1))
def ScanPost (s : ByteArray) (e : Ending) : Prop := ∃ (n : Nat) (bad : Int) (op : Bool),
  e = .returned (.tuple #[.int .i64 n, .int .i64 bad, .bool op]) ∧ ScanIs s n bad op

theorem is_open {s : ByteArray} {k : Nat} {b : Int} (h1 : 1 ≤ k) (h2 : k ≤ s.size) (hb : 1 ≤ b ∧ b ≤ k) (he : ∀ h : k < s.size, s[k] = 10 ∨ s[k] = 13) (hc : Clear s k) : ScanIs s k b true :=
  ⟨h1, h2, fun _ => ⟨hb.1, hb.2, he, hc⟩, fun h => by cases h⟩
theorem is_shut {s : ByteArray} {k : Nat} {b : Int} (h1 : 1 ≤ k) (h2 : k < s.size) (hb : BadIn b k) (he : s[k] = 34) (hc : Clear s k) : ScanIs s (k + 1) b false :=
  ⟨by omega, by omega, (fun h => by cases h), fun _ => ⟨by omega, fun _ => he, bad_mono hb (by omega), hc⟩⟩

set_option maxRecDepth 100000 in
set_option maxHeartbeats 1000000 in
theorem scan_any (s : ByteArray) (h1 : 1 ≤ s.size) (hs : s.size ≤ 1048576) (w : World) :
    Calls Try.prog 40 #[.string s] w fun e w' => ScanPost s e ∧ w' = w := by
  have hsl : ∀ a b, (s.extract a b).size ≤ maxLen := by intro a b; unfold maxLen; rw [ByteArray.size_extract]; omega
  go_enter Try.func40, Try.ntmps40
  go_wp2
  go_loop [3, 5] (fun bad i => ∃ (b : Int) (k : Nat), 1 ≤ k ∧ k ≤ s.size ∧ bad = .int .i64 b ∧ i = .int .i64 k ∧ BadIn b k ∧ Clear s k) (fun _ i => s.size - (intOf i).toNat)
  case atStart => exact ⟨-1, 1, by omega, h1, rfl, rfl, Or.inl rfl, fun j h h0 h1 => absurd h0 (by omega)⟩
  case round =>
    obtain ⟨b, k, hk1, hk, rfl, rfl, hb, hall⟩ := hrel
    have hbl : -1 ≤ b := by unfold BadIn at hb; omega
    have hbk : b < k := by unfold BadIn at hb; omega
    by_cases hlt : k < s.size
    · go_wp2_with (first | (go_at_call 45; refine (ib45 _ _ _).mono ?_; rintro e w' ⟨rfl, rfl⟩) | (go_at_call 46; refine (isHex_any _ (hsl _ _) _).mono ?_; rintro e w' ⟨⟨hbb, rfl, hhex⟩, rfl⟩))
      · go_round
        case rel => exact ⟨_, k + 2, by omega, by omega, rfl, by go_num, bad_mono hb (by omega), step2 hall (by omega) (by assumption) (by assumption)⟩
        case measure => simp [intOf]; omega
      · go_round
        case rel => exact ⟨_, k + 6, by omega, by omega, rfl, by go_num, bad_mono hb (by omega), step6 hall (by omega) (by assumption) (by assumption) (hhex (by assumption))⟩
        case measure => simp [intOf]; omega
      iterate 11
        · go_round
          case rel => exact ⟨_, k + 1, by omega, by omega, rfl, by go_num, (by first | exact bad_mono hb (by omega) | exact Or.inr ⟨by omega, by omega⟩), clear_succ hall hlt (quo_lt (by assumption))⟩
          case measure => simp [intOf]; omega
      · have e34 : s[k] = 34 := eq34 (by assumption)
        go_ret3
        exact ⟨⟨k + 1, b, false, rfl, is_shut hk1 hlt hb e34 hall⟩, rfl⟩
      · have en := quo_end (c := s[k]) (by assumption) (by assumption)
        go_ret3
        exact ⟨⟨k, k, true, rfl, is_open hk1 hk ⟨by omega, by omega⟩ (fun _ => en) hall⟩, rfl⟩
      · have en := quo_end (c := s[k]) (by assumption) (by assumption)
        go_ret3
        exact ⟨⟨k, b, true, rfl, is_open hk1 hk ⟨by unfold BadIn at hb; omega, by omega⟩ (fun _ => en) hall⟩, rfl⟩
    · by_cases hb0 : b < 0
      · go_wp2
        go_ret3
        exact ⟨⟨k, k, true, rfl, is_open hk1 hk ⟨by omega, by omega⟩ (fun h => absurd h hlt) hall⟩, rfl⟩
      · go_wp2
        go_ret3
        exact ⟨⟨k, b, true, rfl, is_open hk1 hk ⟨by unfold BadIn at hb; omega, by omega⟩ (fun h => absurd h hlt) hall⟩, rfl⟩

end Go.Proofs.Qxb6001225a.fnScanStringBounds
