import Derived.Test.Qxb6001225aScanB
import Derived.ProofKit
namespace Go.Proofs.Qxb6001225a.fnScanStringBounds
open Go.RowKit
theorem zz_any (s : ByteArray) (h1 : 1 ≤ s.size) (hs : s.size ≤ 1048576) (w : World) :
    Calls Try.prog 33 #[.string s] w fun e w' => ScanPost s e ∧ w' = w := by
  go_enter Try.func33, Try.ntmps33
  go_wp2_with (go_at_call 40; refine (scan_any _ h1 hs _).mono ?_; rintro e w' ⟨⟨n, bad, op, rfl, hI⟩, rfl⟩)
  go_ret3
  exact ⟨⟨n, bad, op, rfl, hI⟩, rfl⟩

theorem bne_of {c : UInt8} {k : Nat} (h : c ≠ (OfNat.ofNat k : UInt8)) (hk : k < 256) : ((c.toNat : Int) == (k : Int)) = false := by
  rw [beq_eq_false_iff_ne]
  intro e
  apply h
  apply UInt8.toNat_inj.1
  have : c.toNat = k := by omega
  rw [this]
  exact (Nat.mod_eq_of_lt hk).symm

set_option maxHeartbeats 1000000 in
theorem walk (a0 : ByteArray) (w0 : a0.size ≤ maxLen) (w : World) :
    Calls Try.prog 10 #[.string a0] w fun e w' => e = .returned (.bool true) ∧ Grown w w' := by
  unfold maxLen at w0
  by_cases hbig : 1048576 < a0.size
  · go_enter Try.func10, Try.ntmps10
    go_wp2
    go_ret
    exact ⟨rfl, Grown.refl _⟩
  · by_cases h0 : a0.size = 0
    · have h0' : ((a0.size : Int) == 0) = true := by simp [h0]
      go_enter Try.func10, Try.ntmps10
      go_wp2
      go_ret
      exact ⟨rfl, Grown.refl _⟩
    · have h0' : ((a0.size : Int) == 0) = false := by rw [beq_eq_false_iff_ne]; omega
      go_enter Try.func10, Try.ntmps10
      go_wp2_with (go_at_call 36; go_in)
      refine (zz_any a0 (by omega) (by omega) _).mono ?_
      rintro e w' ⟨⟨n, bad, op, rfl, hI⟩, rfl⟩
      obtain ⟨hn1, hn2, ho, hc⟩ := hI
      cases op
      · clear ho
        obtain ⟨g1, g2, g3, g4⟩ := hc rfl
        clear hc
        have g2' : (((a0[n - 1]'(by omega)).toNat : Int) != 34) = false := by rw [g2 (by omega)]; decide
        clear g2
        rcases g3 with g3 | ⟨g3, g5⟩
        · subst g3
          go_wp2
          go_loop [7] (fun i => ∃ k : Nat, 1 ≤ k ∧ k ≤ a0.size ∧ i = .int .i64 k) (fun i => a0.size - (intOf i).toNat)
          case atStart => exact ⟨1, by omega, by omega, rfl⟩
          case round =>
            obtain ⟨k, hk1, hk2, rfl⟩ := hrel
            by_cases hlt : (k : Int) < (n : Int) - 1
            · have hks : k < a0.size := by omega
              obtain ⟨q1, q2⟩ := g4 k hks hk1 (by omega)
              have q3 : ((a0[k].toNat : Int) == 10) = false := bne_of (k := 10) q1 (by decide)
              have q4 : ((a0[k].toNat : Int) == 13) = false := bne_of (k := 13) q2 (by decide)
              clear q1 q2
              go_wp2
              go_round
              case rel => exact ⟨k + 1, by omega, by omega, by go_num⟩
              case measure => simp [intOf]; omega
            · go_wp2
              go_ret
              exact ⟨rfl, Grown.refl _⟩
        · have g6 : (bad != -1) = true := by rw [bne_iff_ne]; omega
          go_wp2
          go_loop [7] (fun i => ∃ k : Nat, 1 ≤ k ∧ k ≤ a0.size ∧ i = .int .i64 k) (fun i => a0.size - (intOf i).toNat)
          case atStart => exact ⟨1, by omega, by omega, rfl⟩
          case round =>
            obtain ⟨k, hk1, hk2, rfl⟩ := hrel
            by_cases hlt : (k : Int) < (n : Int) - 1
            · have hks : k < a0.size := by omega
              obtain ⟨q1, q2⟩ := g4 k hks hk1 (by omega)
              have q3 : ((a0[k].toNat : Int) == 10) = false := bne_of (k := 10) q1 (by decide)
              have q4 : ((a0[k].toNat : Int) == 13) = false := bne_of (k := 13) q2 (by decide)
              clear q1 q2
              go_wp2
              go_round
              case rel => exact ⟨k + 1, by omega, by omega, by go_num⟩
              case measure => simp [intOf]; omega
            · go_wp2
              go_ret
              exact ⟨rfl, Grown.refl _⟩
      · clear hc
        obtain ⟨g1, g2, g3, g4⟩ := ho rfl
        clear ho
        by_cases hns : n = a0.size
        · have g6 : ((n : Int) != a0.size) = false := by rw [bne_eq_false_iff_eq]; omega
          clear g3
          go_wp2
          go_loop [7] (fun i => ∃ k : Nat, 1 ≤ k ∧ k ≤ a0.size ∧ i = .int .i64 k) (fun i => a0.size - (intOf i).toNat)
          case atStart => exact ⟨1, by omega, by omega, rfl⟩
          case round =>
            obtain ⟨k, hk1, hk2, rfl⟩ := hrel
            by_cases hlt : (k : Int) < (n : Int)
            · have hks : k < a0.size := by omega
              obtain ⟨q1, q2⟩ := g4 k hks hk1 (by omega)
              have q3 : ((a0[k].toNat : Int) == 10) = false := bne_of (k := 10) q1 (by decide)
              have q4 : ((a0[k].toNat : Int) == 13) = false := bne_of (k := 13) q2 (by decide)
              clear q1 q2
              go_wp2
              go_round
              case rel => exact ⟨k + 1, by omega, by omega, by go_num⟩
              case measure => simp [intOf]; omega
            · go_wp2
              go_ret
              exact ⟨rfl, Grown.refl _⟩
        · have g6 : ((n : Int) != a0.size) = true := by rw [bne_iff_ne]; omega
          have hn3 : n < a0.size := by omega
          rcases g3 hn3 with g3 | g3
          · have g7 : ((a0[n].toNat : Int) != 10) = false := by rw [g3]; decide
            go_wp2
            go_loop [7] (fun i => ∃ k : Nat, 1 ≤ k ∧ k ≤ a0.size ∧ i = .int .i64 k) (fun i => a0.size - (intOf i).toNat)
            case atStart => exact ⟨1, by omega, by omega, rfl⟩
            case round =>
              obtain ⟨k, hk1, hk2, rfl⟩ := hrel
              by_cases hlt : (k : Int) < (n : Int)
              · have hks : k < a0.size := by omega
                obtain ⟨q1, q2⟩ := g4 k hks hk1 (by omega)
                have q3 : ((a0[k].toNat : Int) == 10) = false := bne_of (k := 10) q1 (by decide)
                have q4 : ((a0[k].toNat : Int) == 13) = false := bne_of (k := 13) q2 (by decide)
                clear q1 q2
                go_wp2
                go_round
                case rel => exact ⟨k + 1, by omega, by omega, by go_num⟩
                case measure => simp [intOf]; omega
              · go_wp2
                go_ret
                exact ⟨rfl, Grown.refl _⟩
          · have g7 : ((a0[n].toNat : Int) != 10) = true := by rw [g3]; decide
            have g8 : ((a0[n].toNat : Int) != 13) = false := by rw [g3]; decide
            go_wp2
            go_loop [7] (fun i => ∃ k : Nat, 1 ≤ k ∧ k ≤ a0.size ∧ i = .int .i64 k) (fun i => a0.size - (intOf i).toNat)
            case atStart => exact ⟨1, by omega, by omega, rfl⟩
            case round =>
              obtain ⟨k, hk1, hk2, rfl⟩ := hrel
              by_cases hlt : (k : Int) < (n : Int)
              · have hks : k < a0.size := by omega
                obtain ⟨q1, q2⟩ := g4 k hks hk1 (by omega)
                have q3 : ((a0[k].toNat : Int) == 10) = false := bne_of (k := 10) q1 (by decide)
                have q4 : ((a0[k].toNat : Int) == 13) = false := bne_of (k := 13) q2 (by decide)
                clear q1 q2
                go_wp2
                go_round
                case rel => exact ⟨k + 1, by omega, by omega, by go_num⟩
                case measure => simp [intOf]; omega
              · go_wp2
                go_ret
                exact ⟨rfl, Grown.refl _⟩
end Go.Proofs.Qxb6001225a.fnScanStringBounds
