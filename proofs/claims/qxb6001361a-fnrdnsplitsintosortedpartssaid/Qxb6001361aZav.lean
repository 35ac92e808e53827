/- ZZAppendValue: the prefix, then the escaped value. -/
import Derived.Test.Qxb6001361aValue
namespace Go.Proofs.Qxb6001361a.dn
open Go.RowKit

theorem fresh_bd (w : World) : Bd w.heap.size w.heap.size [] w (w.alloc (.cells #[.pointer none, .slice none 0 0] 46)) := by
  refine ⟨Or.inl ⟨Nat.le_refl _, .slice none 0 0, heap_alloc_new _ _, World.ownsRow_nil _ _ _ _, by simp [Value.ownBlock]⟩, (Below.refl _ _).alloc (Nat.le_refl _) _, Nat.le_refl _⟩

theorem wsI (B b : Nat) (l : List UInt8) (s : ByteArray) (w0 w : World) (h : Bd B b l w0 w) (hlen : l.length + s.size ≤ 140737488355328) :
    Calls Try.prog 30 #[.pointer (some ⟨b, 0, none⟩), .string s] w fun e w' => e = .returned (.tuple #[.int .i64 s.size, .nilIface]) ∧ Bd B b (l ++ s.data.toList) w0 w' := by
  obtain ⟨hb, hbel, hB⟩ := h
  refine (ws B b _ s w hb (by rw [Lib.byteCells_length]; exact hlen) (by have := hbel.size; omega)).mono ?_
  rintro e w' ⟨rfl, h2, h3⟩
  refine ⟨rfl, Or.inr ?_, hbel.trans h3, hB⟩
  have : Lib.byteCells (l ++ s.data.toList) = Lib.byteCells l ++ Lib.strCells s := by simp [Lib.byteCells, Lib.strCells]
  rw [this]; exact h2

theorem strI (B b : Nat) (l : List UInt8) (w0 w : World) (h : Bd B b l w0 w) :
    Calls Try.prog 32 #[.pointer (some ⟨b, 0, none⟩)] w fun e w' => e = .returned (.string ⟨l.toArray⟩) ∧ Below B w0 w' := by
  obtain ⟨hb, hbel, hB⟩ := h
  refine (b_string B b l w hb (by have := hbel.size; omega)).mono ?_
  rintro e w' ⟨rfl, h2⟩
  exact ⟨rfl, hbel.trans h2⟩

/-- bytes as a string -/
def str (l : List UInt8) : ByteArray := ⟨l.toArray⟩
theorem str_data (l : List UInt8) : (str l).data.toList = l := rfl
theorem str_size (l : List UInt8) : (str l).size = l.length := rfl

set_option maxHeartbeats 1000000 in
theorem zav (p v : ByteArray) (w : World) (hlen : p.size + 3 * v.size ≤ 100000000000000) :
    Calls Try.prog 11 #[.string p, .string v] w fun e w' => e = .returned (.string (str (p.data.toList ++ esc v.data.toList))) ∧ Below w.heap.size w w' := by
  have hp : p.data.toList.length = p.size := by rw [Array.length_toList]; rfl
  have f0 := fresh_bd w
  go_enter Try.func11, Try.ntmps11
  go_wp2_with fail
  refine (wsI w.heap.size w.heap.size [] p w _ f0 (by simp; omega)).mono ?_
  rintro e w1 ⟨rfl, h1⟩
  rw [List.nil_append] at h1
  clear f0
  go_wp2_with fail
  refine (av w.heap.size w.heap.size _ v w _ h1 (by rw [hp]; omega)).mono ?_
  rintro e w2 ⟨rfl, h2⟩
  clear h1
  go_wp2_with fail
  refine (strI w.heap.size w.heap.size _ w _ h2).mono ?_
  rintro e w3 ⟨rfl, h3⟩
  go_wp2
  go_ret
  exact ⟨rfl, h3⟩

end Go.Proofs.Qxb6001361a.dn
