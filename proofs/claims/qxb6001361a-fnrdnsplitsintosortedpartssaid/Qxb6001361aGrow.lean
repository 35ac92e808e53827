/- (*strings.Builder).grow and Grow at a fresh builder, with the frame that reaches above it. -/
import Derived.Test.Qxb6001361aKeep
import Derived.Shelf.RegionOpenPlain
import Derived.Lib.Slices
import Derived.Lib.Strings
import Derived.Laws.IdiomCopy
namespace Go.Proofs.Qxb6001361a.dn
open Go.RowKit Go.Shelf

set_option maxHeartbeats 2000000 in
set_option maxRecDepth 1000000 in
theorem growf (B b n : Nat) (w : World) (hB : B ≤ b) (hbk : w.heap[b]? = some (.cells #[.pointer (some ⟨b, 0, none⟩), .slice none 0 0] 46 (0, 0))) (hBw : B ≤ w.heap.size) (hn : n ≤ 281474976710656) :
    Calls Try.prog 47 #[.pointer (some ⟨b, 0, none⟩), .int .i64 n] w fun e w' => e = .returned (.tuple #[]) ∧ (Lib.BuilderAt 46 5 B b (.pointer (some ⟨b, 0, none⟩)) [] w' ∧ Below B w w' ∧ Lib.OthersKept 5 (some b) w w') := by
  obtain ⟨cs, hrun, hle, hmax⟩ := Lib.run_makeNoZero (P := Try.prog) w.drew #[3] 44 5 Try.underlying44 n hn
  have hw : IntKind.i64.wrap (IntKind.i64.wrap 0 + (n : Int)) = n := by
    rw [IntKind.wrap_i64, IntKind.wrap_i64]
    omega
  have hcall : (callFunc 51 #[.int .i64 (IntKind.i64.wrap (IntKind.i64.wrap 0 + (n : Int)))]).run Try.prog w.drew = .ok (.value (.slice (some ⟨w.drew.heap.size, 0, none⟩) n cs.size)) (w.drew.drew.drew.alloc (.cells cs 5)) := by
    rw [hw, run_callFunc_extern Try.func51 (by kernel_rfl) (by kernel_rfl) (by kernel_rfl) (e := Extern.BytealgMakeNoZero.makeNoZero #[3] #[44]) (by kernel_rfl), hrun]
    rfl
  have c1 : w.drew.cell? ⟨b, 1, none⟩ = some (.slice none 0 0) := by
    have : w.drew.heap[b]? = _ := hbk
    rw [Lib.cell_of_heap this]; rfl
  have hlt := lt_of_heap hbk
  have c2 : (w.alloc (.cells cs 5)).cell? ⟨b, 1, none⟩ = some (.slice none 0 0) := by
    have : (w.alloc (.cells cs 5)).heap[b]? = _ := (Lib.alloc_old w _ b hlt).trans hbk
    rw [Lib.cell_of_heap this]; rfl
  have f2 : (w.alloc (.cells cs 5)).frozen? ⟨b, 1, none⟩ = false := Lib.frozen_of_heap ((Lib.alloc_old w _ b hlt).trans hbk) 1
  have hcopy : ∀ W : World, (Builtin.copy_ #[44, 44] 3 #[.slice (some ⟨w.heap.size, 0, none⟩) 0 cs.size, .slice none 0 0]).run Try.prog W = .ok (goInt 0) W :=
    fun W => run_copy_none W 44 44 3 5 _ _ 0 cs.size 0 0 Try.underlying44 extra169.sizeByte rfl
  clear hw
  go_enter Try.func47, Try.ntmps47
  go_wp2
  have hfin := Lib.grown_fresh (T := 46) (e := 5) (cs := cs) hB hbk hBw (hmax (by unfold maxLen; omega)) (by decide)
  have hfin2 : Lib.OthersKept 5 (some b) w ((w.alloc (.cells cs 5)).setCell ⟨b, 1, none⟩ (.slice (some ⟨w.heap.size, 0, none⟩) 0 cs.size)).drew.drew.drew := ((((Lib.OthersKept.refl _ _ w).alloc _).setCell ⟨b, 1, none⟩ rfl _).drew).drew.drew
  rw [World.setCell_alloc_past _ _ _ _ hlt] at hfin hfin2
  go_region
  all_goals (go_wp2; go_end0; exact ⟨rfl, hfin.1, hfin.2, hfin2⟩)

end Go.Proofs.Qxb6001361a.dn
