/- zzB1buildRDN: the walk. -/
import Derived.Test.Qxb6001361aRdnD
namespace Go.Proofs.Qxb6001361a.dn
open Go.RowKit

def BPost (ps : List (ByteArray × ByteArray)) (w : World) (e : Ending) (w' : World) : Prop := ∃ (ao : Option Addr) (c : Nat), e = .returned (.slice ao ps.length c) ∧ Prs w' ao ps ∧ Below w.heap.size w w' ∧ ps.length ≤ c

set_option maxHeartbeats 1000000 in
theorem zz26 (a0 a1 : Option Addr) (c0 c1 : Nat) (ss0 ss1 : List ByteArray) (ps : List (ByteArray × ByteArray)) (w : World) (h0 : Strs w a0 ss0) (h1 : Strs w a1 ss1)
    (hl0 : ps.length ≤ ss0.length) (hl1 : ps.length ≤ ss1.length) (hp : ∀ i (h : i < ps.length), ps[i] = (ss0[i]'(by omega), ss1[i]'(by omega))) (hN : ps.length ≤ 1048576) :
    Calls Try.prog 26 #[.slice a0 ss0.length c0, .slice a1 ss1.length c1, .int .i64 (ps.length : Int), .int .i64 0, .bool false] w fun e w' => BPost ps w e w' := by
  obtain ⟨i0, hi, hz0, hz1, hz2⟩ := info_parts info59
  go_enter Try.func26, Try.ntmps26
  go_wp2_with (at_make; refine wpList_make_full _ rfl _ _ 35 rfl w.heap.size 59 i0 (.agg #[.string ⟨#[]⟩, .string ⟨#[]⟩]) 2 Try.underlying35 hi hz0 hz1 .i64 .i64 _ _ ps.length rfl rfl rfl rfl (by rw [hz2]; omega) (by unfold maxLen; omega) (Nat.le_refl _) ?_; intro w1 hown1 hgrow1)
  have hb1 : Below w.heap.size w w1 := (Below.refl _ _).grown hgrow1 (Nat.le_refl _) (fun k hk => by cases hk)
  have hI : w1.ownsRow w.heap.size 59 2 (.slice (some ⟨w.heap.size, 0, none⟩) ps.length ps.length) ps.length (pb ps 0) := by
    rw [pb_zero, ← made2]; exact hown1
  clear hgrow1 hown1
  go_loopw [12] (fun i wr => ∃ k : Nat, k ≤ ps.length ∧ i = .int .i64 k ∧ wr.ownsRow w.heap.size 59 2 (.slice (some ⟨w.heap.size, 0, none⟩) ps.length ps.length) ps.length (pb ps k) ∧ Below w.heap.size w wr) (fun i _ => ps.length - (intOf i).toNat)
  case atStart => exact ⟨0, Nat.zero_le _, rfl, hI, hb1⟩
  case round =>
    obtain ⟨k, hk, rfl, hown, hbel⟩ := hrel
    clear hI hb1
    by_cases hlt : k < ps.length
    · obtain ⟨b0, f0, rfl, q0⟩ := (h0.keep hbel).cell (i := k) (by omega)
      obtain ⟨b1, f1, rfl, q1⟩ := (h1.keep hbel).cell (i := k) (by omega)
      have hpk := hp k hlt
      obtain ⟨p1, p2⟩ := pb_at ps k hlt
      have q2 : wr.cell? ⟨w.heap.size, k * 2, none⟩ = some (.string ⟨#[]⟩) := by rw [hown.cellAt (k * 2) (by omega)]; exact p1
      have q3 : wr.cell? ⟨w.heap.size, k * 2 + 1, none⟩ = some (.string ⟨#[]⟩) := by rw [hown.cellAt (k * 2 + 1) (by omega)]; exact p2
      have q4 : wr.frozen? ⟨w.heap.size, k * 2, none⟩ = false := hown.frozenAt (k * 2)
      have q5 : wr.frozen? ⟨w.heap.size, k * 2 + 1, none⟩ = false := hown.frozenAt (k * 2 + 1)
      have st := ((hown.stored (k * 2) (.string ps[k].1)).1.stored (k * 2 + 1) (.string ps[k].2)).1
      rw [pb_set ps k hlt, hpk] at st
      have R2 : Below w.heap.size w ((wr.setCell ⟨w.heap.size, k * 2, none⟩ (.string ps[k].1)).setCell ⟨w.heap.size, k * 2 + 1, none⟩ (.string ps[k].2)) := (hbel.setCell (p := ⟨w.heap.size, k * 2, none⟩) (Nat.le_refl _) _).setCell (p := ⟨w.heap.size, k * 2 + 1, none⟩) (Nat.le_refl _) _
      rw [hpk] at R2
      clear hp hpk h0 h1 p1 p2
      generalize ss0[k]'(by omega) = s at *
      generalize ss1[k]'(by omega) = t at *
      have hmod : (k : Int) % (ps.length : Int) = k := Int.emod_eq_of_lt (by omega) (by omega)
      go_wp2
      go_region
      go_wp2
      go_roundw
      case rel => exact ⟨k + 1, by omega, by go_num, st.drew, R2.drew⟩
      case measure => simp [intOf]; omega
    · have hkk : k = ps.length := by omega
      rw [hkk, pb_end] at hown
      have R := prs_own hown
      clear hkk
      go_wp2
      go_ret
      exact ⟨_, _, rfl, R, hbel, Nat.le_refl _⟩

end Go.Proofs.Qxb6001361a.dn
