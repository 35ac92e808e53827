/- Slices of strings that came in, read: zzBytes_FnRDNSplitsIntoSortedParts, zzB1rdnBytes. -/
import Derived.Test.Qxb6001361aRows
import Derived.WalkKit
import Derived.WalkSpells
import Derived.WalkLawsBesides
namespace Go.Proofs.Qxb6001361a.dn
open Go.RowKit

/-- the slice at address ao reads as the strings ss -/
def Strs (w : World) (ao : Option Addr) (ss : List ByteArray) : Prop :=
  ss = [] ∨ ∃ b off, ao = some ⟨b, off, none⟩ ∧ ∀ i (h : i < ss.length), w.cell? ⟨b, off + i, none⟩ = some (.string ss[i])
theorem Strs.at {w : World} {ao : Option Addr} {ss : List ByteArray} (h : Strs w ao ss) {i : Nat} (hi : i < ss.length) :
    ∃ b off, ao = some ⟨b, off, none⟩ ∧ ∀ i (h : i < ss.length), w.cell? ⟨b, off + i, none⟩ = some (.string ss[i]) := by
  rcases h with rfl | h
  · simp at hi
  · exact h
theorem Strs.cell {w : World} {ao : Option Addr} {ss : List ByteArray} (h : Strs w ao ss) {i : Nat} (hi : i < ss.length) :
    ∃ b off, ao = some ⟨b, off, none⟩ ∧ w.cell? ⟨b, off + i, none⟩ = some (.string ss[i]) := by
  obtain ⟨b, off, e, hc⟩ := h.at hi
  exact ⟨b, off, e, hc i hi⟩
/-- the bytes of all together -/
def tot (ss : List ByteArray) : Nat := (ss.map (·.size)).sum
theorem tot_succ (ss : List ByteArray) (k : Nat) (h : k < ss.length) : tot (ss.take (k + 1)) = tot (ss.take k) + ss[k].size := by
  unfold tot
  rw [List.take_succ_eq_append_getElem h, List.map_append, List.sum_append]
  simp only [List.map_cons, List.map_nil, List.sum_cons, List.sum_nil, Nat.add_zero]
theorem tot_all (ss : List ByteArray) : tot (ss.take ss.length) = tot ss := by rw [List.take_length]

def ZPost (N : Nat) (e : Ending) : Prop := ∃ r : Bool, e = .returned (.bool r) ∧ (r = true → N ≤ 1048576)
theorem zpost_no (N : Nat) : ZPost N (.returned (.bool false)) := ⟨false, rfl, fun h => by cases h⟩
theorem zpost_yes (N : Nat) (h : N ≤ 1048576) : ZPost N (.returned (.bool true)) := ⟨true, rfl, fun _ => h⟩

set_option maxHeartbeats 1000000 in
theorem zz27 (a0 a1 : Option Addr) (c0 c1 : Nat) (ss0 ss1 : List ByteArray) (w : World) (h0 : Strs w a0 ss0) (h1 : Strs w a1 ss1) :
    Calls Try.prog 27 #[.slice a0 ss0.length c0, .slice a1 ss1.length c1] w fun e w' => ZPost (ss0.length + tot ss0 + ss1.length + tot ss1) e ∧ w' = w := by
  by_cases hb0 : 1048576 < ss0.length
  · go_enter Try.func27, Try.ntmps27
    go_wp2
    go_ret
    exact ⟨zpost_no _, rfl⟩
  · go_enter Try.func27, Try.ntmps27
    go_wp2
    go_loop [5, 6] (fun z i => ∃ k : Nat, k ≤ ss0.length ∧ i = .int .i64 k ∧ z = .int .i64 ((ss0.length + tot (ss0.take k) : Nat) : Int) ∧ ss0.length + tot (ss0.take k) ≤ 1048576) (fun _ i => ss0.length - (intOf i).toNat)
    case atStart => exact ⟨0, Nat.zero_le _, rfl, by simp [tot], by simp [tot]; omega⟩
    case round =>
      obtain ⟨k, hk, rfl, rfl, hz⟩ := hrel
      by_cases hlt : k < ss0.length
      · obtain ⟨b, off, rfl, q0⟩ := h0.cell hlt
        have hts : Hid (tot (ss0.take (k + 1)) = tot (ss0.take k) + ss0[k].size) := tot_succ ss0 k hlt
        generalize tot (ss0.take k) = T at *
        generalize ss0[k] = s at *
        clear h0 h1
        by_cases c1 : 1048576 < s.size
        · go_wp2
          go_ret
          exact ⟨zpost_no _, rfl⟩
        · by_cases c2 : 1048576 < ss0.length + T + s.size
          · go_wp2
            go_ret
            exact ⟨zpost_no _, rfl⟩
          · go_wp2
            go_round
            case rel => exact ⟨k + 1, by omega, by go_num, by rw [hts.out]; go_num, by rw [hts.out]; omega⟩
            case measure => simp [intOf]; omega
      · have hkk : k = ss0.length := by omega
        rw [hkk, tot_all] at hz
        rw [hkk, tot_all]
        clear hkk hk hlt
        obtain ⟨N0, hN0⟩ : ∃ N0, ss0.length + tot ss0 = N0 := ⟨_, rfl⟩
        have HN : Hid (ss0.length + tot ss0 = N0) := hN0
        rw [hN0] at hz
        rw [hN0]
        clear hN0
        by_cases hb1 : 1048576 < ss1.length
        · go_wp2
          go_ret
          exact ⟨zpost_no _, rfl⟩
        · by_cases hb2 : 1048576 < N0 + ss1.length
          · go_wp2
            go_ret
            exact ⟨zpost_no _, rfl⟩
          · go_wp2
            go_loop [5, 7] (fun z i => ∃ k : Nat, k ≤ ss1.length ∧ i = .int .i64 k ∧ z = .int .i64 ((N0 + ss1.length + tot (ss1.take k) : Nat) : Int) ∧ N0 + ss1.length + tot (ss1.take k) ≤ 1048576) (fun _ i => ss1.length - (intOf i).toNat)
            case atStart => exact ⟨0, Nat.zero_le _, rfl, by simp [tot], by simp [tot]; omega⟩
            case round =>
              obtain ⟨k2, hk2, rfl, rfl, hz2⟩ := hrel
              by_cases hlt2 : k2 < ss1.length
              · obtain ⟨b, off, rfl, q0⟩ := h1.cell hlt2
                have hts : Hid (tot (ss1.take (k2 + 1)) = tot (ss1.take k2) + ss1[k2].size) := tot_succ ss1 k2 hlt2
                generalize tot (ss1.take k2) = T at *
                generalize ss1[k2] = s at *
                clear h0 h1
                by_cases c1 : 1048576 < s.size
                · go_wp2
                  go_ret
                  exact ⟨zpost_no _, rfl⟩
                · by_cases c2 : 1048576 < N0 + ss1.length + T + s.size
                  · go_wp2
                    go_ret
                    exact ⟨zpost_no _, rfl⟩
                  · go_wp2
                    go_round
                    case rel => exact ⟨k2 + 1, by omega, by go_num, by rw [hts.out]; go_num, by rw [hts.out]; omega⟩
                    case measure => simp [intOf]; omega
              · have hkk2 : k2 = ss1.length := by omega
                rw [hkk2, tot_all] at hz2
                go_wp2
                go_ret
                exact ⟨zpost_yes _ (by rw [HN.out]; exact hz2), rfl⟩

end Go.Proofs.Qxb6001361a.dn
