/- (*strings.Builder).Grow at a fresh builder, with the frame that reaches above it. -/
import Derived.Test.Qxb6001361aGrow
import Derived.Deep.QuietTactic
import Derived.BigQuiet
namespace Go.Proofs.Qxb6001361a.dn
open Go.RowKit

set_option maxHeartbeats 2000000 in
theorem growF (B b n : Nat) (w : World) (hB : B ≤ b) (hbk : w.heap[b]? = some (.cells #[.pointer none, .slice none 0 0] 46 (0, 0))) (hBw : B ≤ w.heap.size) (hn : n ≤ 281474976710656) :
    Calls Try.prog 42 #[.pointer (some ⟨b, 0, none⟩), .int .i64 n] w fun e w' => e = .returned (.tuple #[]) ∧ (Lib.BuilderAt 46 5 B b (.pointer (some ⟨b, 0, none⟩)) [] w' ∧ Below B w w' ∧ Lib.OthersKept 5 (some b) w w') := by
  have hbk1 : (w.setCell ⟨b, 0, none⟩ (.pointer (some ⟨b, 0, none⟩))).heap[b]? = some (.cells #[.pointer (some ⟨b, 0, none⟩), .slice none 0 0] 46 (0, 0)) := by
    simp [World.setCell, Array.getElem?_modify, hbk]
  have c1 : (w.setCell ⟨b, 0, none⟩ (.pointer (some ⟨b, 0, none⟩))).cell? ⟨b, 1, none⟩ = some (.slice none 0 0) := by rw [Lib.cell_of_heap hbk1]; rfl
  have hb1 : Below B w (w.setCell ⟨b, 0, none⟩ (.pointer (some ⟨b, 0, none⟩))) := (Below.refl B w).setCell (p := ⟨b, 0, none⟩) hB _
  have hk1 : Lib.OthersKept 5 (some b) w (w.setCell ⟨b, 0, none⟩ (.pointer (some ⟨b, 0, none⟩))) := (Lib.OthersKept.refl _ _ w).setCell ⟨b, 0, none⟩ rfl _
  have hBw1 : B ≤ (w.setCell ⟨b, 0, none⟩ (.pointer (some ⟨b, 0, none⟩))).heap.size := by have := hb1.size; omega
  go_enter Try.func42, Try.ntmps42
  go_wp2_with (go_at_call 39; refine (cc_fresh b w (by rw [Lib.cell_of_heap hbk]; rfl) (by simp [World.shape?, hbk]) (Lib.frozen_of_heap hbk 0)).mono ?_)
  rintro e w1 ⟨rfl, hw1⟩
  rw [hw1]
  clear hw1
  generalize w.setCell ⟨b, 0, none⟩ (.pointer (some ⟨b, 0, none⟩)) = w1 at *
  go_wp2_with fail
  go_quiet (fail)
  go_wp2_with fail
  · refine (growf B b n _ hB (by exact hbk1) (by exact hBw1) hn).mono ?_
    rintro e w2 ⟨rfl, h1, h2, h3⟩
    have hb2 : Below B w w2 := (below_drewN hb1 _).trans h2
    have hk2 : Lib.OthersKept 5 (some b) w w2 := Lib.OthersKept.trans (fun k o hk hb ho => hk1 k o hk hb ho) h3
    go_wp2
    go_end0
    exact ⟨rfl, h1, hb2, hk2⟩
  · go_end0
    exact ⟨rfl, ⟨hB, .slice none 0 0, hbk1, World.ownsRow_nil _ _ _ _, by simp [Value.ownBlock]⟩, below_drewN hb1 _, fun k o hk hb ho => hk1 k o hk hb ho⟩

end Go.Proofs.Qxb6001361a.dn
