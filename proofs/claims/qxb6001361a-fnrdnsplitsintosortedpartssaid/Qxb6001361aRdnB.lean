/- zzB1rdnBytes: it hands back some int; zzB1cloneStrings: the same strings in memory of its own. -/
import Derived.Test.Qxb6001361aRdnA
namespace Go.Proofs.Qxb6001361a.dn
open Go.RowKit

def IPost (e : Ending) : Prop := ∃ r : Int, e = .returned (.int .i64 r)
theorem tot_le (ss : List ByteArray) (k : Nat) : tot (ss.take k) ≤ tot ss := by
  have : tot ss = tot (ss.take k) + tot (ss.drop k) := by
    unfold tot
    conv => lhs; rw [← List.take_append_drop k ss]
    rw [List.map_append, List.sum_append]
  omega

set_option maxHeartbeats 1000000 in
theorem zz23 (a0 a1 : Option Addr) (c0 c1 : Nat) (ss0 ss1 : List ByteArray) (w : World) (h0 : Strs w a0 ss0) (h1 : Strs w a1 ss1) (hN : ss0.length + tot ss0 + ss1.length + tot ss1 ≤ 1048576) :
    Calls Try.prog 23 #[.slice a0 ss0.length c0, .slice a1 ss1.length c1] w fun e w' => IPost e ∧ w' = w := by
  go_enter Try.func23, Try.ntmps23
  go_wp2
  go_loop [5, 6] (fun z i => ∃ (k : Nat) (Z : Int), k ≤ ss0.length ∧ i = .int .i64 k ∧ z = .int .i64 Z ∧ 0 ≤ Z ∧ Z ≤ 33554432 + tot (ss0.take k)) (fun _ i => ss0.length - (intOf i).toNat)
  case atStart => exact ⟨0, _, Nat.zero_le _, rfl, rfl, by omega, by simp [tot]; omega⟩
  case round =>
    obtain ⟨k, Z, hk, rfl, rfl, hz0, hz1⟩ := hrel
    have htl := tot_le ss0 k
    by_cases hlt : k < ss0.length
    · obtain ⟨b, off, rfl, q0⟩ := h0.cell hlt
      have htl2 := tot_le ss0 (k + 1)
      have hts := tot_succ ss0 k hlt
      have hz2 : Z + ss0[k].size ≤ 33554432 + tot (ss0.take (k + 1)) := by rw [hts]; omega
      have hz3 : Z + ss0[k].size ≤ 100000000 := by omega
      clear hts htl2
      generalize ss0[k] = s at *
      clear h0 h1
      by_cases c1 : 1048576 < Z + s.size
      · go_wp2
        go_ret
        exact ⟨⟨_, rfl⟩, rfl⟩
      · go_wp2
        go_round
        case rel => exact ⟨k + 1, _, by omega, by go_num, rfl, by omega, by omega⟩
        case measure => simp [intOf]; omega
    · have hz4 : Z ≤ 67108864 := by omega
      clear hz1
      go_wp2
      go_loop [5, 7] (fun z i => ∃ (k : Nat) (Z : Int), k ≤ ss1.length ∧ i = .int .i64 k ∧ z = .int .i64 Z ∧ 0 ≤ Z ∧ Z ≤ 67108864 + tot (ss1.take k)) (fun _ i => ss1.length - (intOf i).toNat)
      case atStart => exact ⟨0, _, Nat.zero_le _, rfl, rfl, by omega, by simp [tot]; omega⟩
      case round =>
        obtain ⟨k2, Z2, hk2, rfl, rfl, hy0, hy1⟩ := hrel
        have htl2 := tot_le ss1 k2
        by_cases hlt2 : k2 < ss1.length
        · obtain ⟨b, off, rfl, q0⟩ := h1.cell hlt2
          have htl3 := tot_le ss1 (k2 + 1)
          have hts := tot_succ ss1 k2 hlt2
          have hy2 : Z2 + ss1[k2].size ≤ 67108864 + tot (ss1.take (k2 + 1)) := by rw [hts]; omega
          have hy3 : Z2 + ss1[k2].size ≤ 100000000 := by omega
          clear hts htl3
          generalize ss1[k2] = s at *
          clear h0 h1
          by_cases c1 : 1048576 < Z2 + s.size
          · go_wp2
            go_ret
            exact ⟨⟨_, rfl⟩, rfl⟩
          · go_wp2
            go_round
            case rel => exact ⟨k2 + 1, _, by omega, by go_num, rfl, by omega, by omega⟩
            case measure => simp [intOf]; omega
        · go_wp2
          go_ret
          exact ⟨⟨_, rfl⟩, rfl⟩

end Go.Proofs.Qxb6001361a.dn
