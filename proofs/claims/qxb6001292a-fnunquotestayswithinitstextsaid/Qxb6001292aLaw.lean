import Derived.Test.Qxb6001292aUnqE
import Derived.ProofKit
import Derived.Deep.QuietTactic
import Derived.BigQuiet
namespace Go.Proofs.Qxb6001292a.fnUnquote
open Go.RowKit

theorem zz0 (s esc : ByteArray) (h1 : 1 ≤ s.size) (hs : s.size ≤ 65536) (hne : ∀ c, Lib.indexByte esc.data.toList c = -1) (w : World) :
    Calls Try.prog 16 #[.string s, .string esc] w fun e w' => Post0 s e ∧ w' = w := by
  go_enter Try.func16, Try.ntmps16
  go_wp2_with fail
  refine (unq0 s esc h1 hs hne _).mono ?_
  rintro e w' ⟨⟨rfl, h⟩ | ⟨k, rfl, h⟩, rfl⟩
  · go_wp2
    go_ret3
    exact ⟨Or.inl ⟨rfl, h⟩, rfl⟩
  · go_wp2
    go_ret3
    exact ⟨Or.inr ⟨k, rfl, h⟩, rfl⟩

theorem zzE (s esc : ByteArray) (h1 : 1 ≤ s.size) (hs : s.size ≤ 65536) (w : World) :
    Calls Try.prog 16 #[.string s, .string esc] w fun e w' => PostE s e ∧ Below w.heap.size w w' := by
  go_enter Try.func16, Try.ntmps16
  go_wp2_with fail
  refine (unqE s esc h1 hs _).mono ?_
  rintro e w' ⟨rfl | ⟨k, v, rfl, h⟩, hb⟩
  · go_wp2
    go_ret3
    exact ⟨Or.inl rfl, hb⟩
  · go_wp2
    go_ret3
    exact ⟨Or.inr ⟨k, v, rfl, h⟩, hb⟩

theorem ix_any (s : ByteArray) (m : Nat) (hm : 1 ≤ m) (hms : m ≤ s.size) (h0 : 0 < s.size) (hs : s.size ≤ 65536) (hc : Clear s m) (hq : ∀ h : m < s.size, s[m] = s[0]) (w : World) :
    Calls Try.prog 19 #[.string s, .int .i64 1, .int .u8 (s[0].toNat : Int)] w fun e w' => e = .returned (.int .i64 (if m < s.size then (m : Int) else -1)) ∧ w' = w := by
  have HC : Hid (Clear s m) := hc
  have HQ : Hid (∀ h : m < s.size, s[m] = s[0]) := hq
  clear hc hq
  go_enter Try.func19, Try.ntmps19
  go_wp2
  go_loop [7] (fun i => ∃ k : Nat, 1 ≤ k ∧ k ≤ m ∧ i = .int .i64 k) (fun i => s.size - (intOf i).toNat)
  case atStart => exact ⟨1, by omega, hm, rfl⟩
  case round =>
    obtain ⟨k, hk1, hk, rfl⟩ := hrel
    by_cases hlt : k < s.size
    · by_cases hkm : k = m
      · subst hkm
        have hq' : ((s[k].toNat : Int) == (s[0].toNat : Int)) = true := by rw [HQ.out hlt]; simp
        go_wp2
        go_ret
        exact ⟨rfl, rfl⟩
      · have hq' : ((s[k].toNat : Int) == (s[0].toNat : Int)) = false := by
          rw [beq_eq_false_iff_ne]; intro h; exact HC.out h0 k hlt hk1 (by omega) (UInt8.toNat_inj.1 (by omega))
        go_wp2
        go_round
        case rel => exact ⟨k + 1, by omega, by omega, by go_num⟩
        case measure => simp [intOf]; omega
    · go_wp2
      go_ret
      exact ⟨rfl, rfl⟩

theorem idx (s : ByteArray) (k : Nat) (h : k < s.size) (i : Int) (hi : i = k) (w : World) : (Instr.index 9 (.string s) (.int .i64 i)).run Try.prog w = .ok (.int .u8 (s[k].toNat : Int)) w := by
  subst hi
  rw [run_index_string w 9 s .i64 k Try.underlying9, dif_pos ⟨by omega, by omega⟩]
  simp only [Int.toNat_natCast]

theorem ib_nil {esc : ByteArray} (h : esc.size = 0) : ∀ c, Lib.indexByte esc.data.toList c = -1 := by
  intro c
  have : esc.data.toList = [] := by
    apply List.eq_nil_of_length_eq_zero
    rw [Array.length_toList]; exact h
  rw [this]; rfl

set_option maxHeartbeats 1000000 in
theorem walk (a0 : ByteArray) (a1 : ByteArray) (w0 : a0.size ≤ maxLen) (w1 : a1.size ≤ maxLen) (w : World) :
    Calls Try.prog 7 #[.string a0, .string a1] w fun e w' => e = .returned (.bool true) ∧ Below w.heap.size w w' := by
  unfold maxLen at w0 w1
  by_cases hbig : 65536 < a0.size
  · by_cases hb2 : a0.size + a1.size ≤ 1048576
    · go_enter Try.func7, Try.ntmps7
      go_wp2
      go_ret
      exact ⟨rfl, Below.refl _ _⟩
    · go_enter Try.func7, Try.ntmps7
      go_wp2
      all_goals
        go_ret
        exact ⟨rfl, Below.refl _ _⟩
  · by_cases hbig1 : 65536 < a1.size
    · by_cases hb2 : a0.size + a1.size ≤ 1048576
      · go_enter Try.func7, Try.ntmps7
        go_wp2
        go_ret
        exact ⟨rfl, Below.refl _ _⟩
      · go_enter Try.func7, Try.ntmps7
        go_wp2
        all_goals
          go_ret
          exact ⟨rfl, Below.refl _ _⟩
    · by_cases h0 : a0.size = 0
      · have h0' : ((a0.size : Int) == 0) = true := by simp [h0]
        go_enter Try.func7, Try.ntmps7
        go_wp2
        go_ret
        exact ⟨rfl, Below.refl _ _⟩
      · have h0' : ((a0.size : Int) == 0) = false := by rw [beq_eq_false_iff_ne]; omega
        by_cases he : a1.size = 0
        · have he' : ((a1.size : Int) == 0) = true := by simp [he]
          have hne := ib_nil he
          clear he
          go_enter Try.func7, Try.ntmps7
          go_wp2_with (go_at_call 18; go_in)
          refine (zz0 a0 a1 (by omega) (by omega) hne _).mono ?_
          clear hne
          rintro e w' ⟨⟨rfl, h⟩ | ⟨k, rfl, hk1, hk2, h3, h4⟩, rfl⟩
          · go_wp2_with (go_at_call 19; refine (ix_any a0 a0.size (by omega) (by omega) (by omega) (by omega) h (fun h => absurd h (by omega)) _).mono ?_; rintro e w' ⟨rfl, rfl⟩)
            go_ret
            exact ⟨rfl, Below.refl _ _⟩
          · have hz : (((a0[k]'hk2).toNat : Int) != ((a0[0]'(by omega)).toNat : Int)) = false := by rw [h3 (by omega) hk2]; simp
            have d1 : decide ((k : Int) + 1 < 2) = false := by simp; omega
            have d2 : decide ((a0.size : Int) < (k : Int) + 1) = false := by simp; omega
            have x0 := idx a0 0 (by omega) 0 rfl
            have x1 := idx a0 k hk2 k rfl
            have x2 := idx a0 k hk2 (k + 1 - 1) (by omega)
            go_wp2_with fail
            go_quiet (fail)
            go_wp2_with (go_at_call 19; refine (ix_any a0 k hk1 (by omega) (by omega) (by omega) h4 (fun h => h3 (by omega) h) _).mono ?_; rintro e w' ⟨rfl, rfl⟩)
            go_ret
            exact ⟨rfl, by first | exact Below.refl _ _ | exact below_drewN (Below.refl _ _) _⟩
        · have he' : ((a1.size : Int) == 0) = false := by rw [beq_eq_false_iff_ne]; omega
          go_enter Try.func7, Try.ntmps7
          go_wp2_with (go_at_call 18; go_in)
          refine (zzE a0 a1 (by omega) (by omega) _).mono ?_
          rintro e w' ⟨rfl | ⟨k, v, rfl, hk1, hk2, h3, h4⟩, hb⟩
          · go_wp2
            go_ret
            exact ⟨rfl, hb⟩
          · have hz : (((a0[k]'hk2).toNat : Int) != ((a0[0]'(by omega)).toNat : Int)) = false := by rw [h3 (by omega) hk2]; simp
            clear h3
            have d1 : decide ((k : Int) + 1 < 2) = false := by simp; omega
            have d2 : decide ((a0.size : Int) < (k : Int) + 1) = false := by simp; omega
            have x0 := idx a0 0 (by omega) 0 rfl
            have x1 := idx a0 k hk2 k rfl
            have x2 := idx a0 k hk2 (k + 1 - 1) (by omega)
            go_wp2_with fail
            go_quiet (fail)
            go_wp2
            go_ret
            exact ⟨rfl, by first | exact hb | exact below_drewN hb _⟩

end Go.Proofs.Qxb6001292a.fnUnquote
