/- zzB1cloneStrings: the same strings in memory of its own. -/
import Derived.Test.Qxb6001361aRdnB
namespace Go.Proofs.Qxb6001361a.dn
open Go.RowKit

/-! ### a row that is filled from its head -/
def gb {α : Type} (f : α → Value) (z : Value) (l : List α) (k : Nat) : List Value := (l.take k).map f ++ List.replicate (l.length - k) z
section
variable {α : Type} (f : α → Value) (z : Value) (l : List α)
theorem gb_zero : gb f z l 0 = List.replicate l.length z := by simp [gb]
theorem gb_end : gb f z l l.length = l.map f := by simp [gb]
theorem gb_at (k : Nat) (h : k < l.length) : (gb f z l k)[k]? = some z := by
  unfold gb
  have e : ((l.take k).map f).length = k := by rw [List.length_map, List.length_take]; omega
  rw [List.getElem?_append_right (by omega), e, Nat.sub_self, List.getElem?_replicate, if_pos (by omega)]
theorem gb_set (k : Nat) (h : k < l.length) : (gb f z l k).set k (f l[k]) = gb f z l (k + 1) := by
  unfold gb
  have e : ((l.take k).map f).length = k := by rw [List.length_map, List.length_take]; omega
  rw [List.set_append, if_neg (by omega), e, Nat.sub_self]
  have e2 : l.length - k = (l.length - (k + 1)) + 1 := by omega
  rw [e2, List.replicate_succ, List.set_cons_zero, List.take_succ_eq_append_getElem h]
  simp only [List.map_append, List.map_cons, List.map_nil, List.append_assoc, List.cons_append, List.nil_append]
end

theorem info9 : (Try.prog.info? 9).map (fun i => (i.zero, i.size, i.bytes)) = some (some (.string ⟨#[]⟩), 1, 16) := by kernel_rfl

theorem Strs.keep {w w' : World} {ao : Option Addr} {ss : List ByteArray} (h : Strs w ao ss) (hb : Below w.heap.size w w') : Strs w' ao ss := by
  rcases h with h | ⟨b, off, e, hc⟩
  · exact Or.inl h
  · refine Or.inr ⟨b, off, e, fun i hi => ?_⟩
    have := hc i hi
    rw [hb.cell (p := ⟨b, off + i, none⟩) (World.block_lt_of_cell? w _ this)]
    exact this
/-- an owned row of strings, read -/
theorem strs_own {w : World} {B g cap : Nat} {ss : List ByteArray} (h : w.ownsRow B 9 1 (.slice (some ⟨g, 0, none⟩) ss.length cap) ss.length (ss.map Value.string)) : Strs w (some ⟨g, 0, none⟩) ss := by
  refine Or.inr ⟨g, 0, rfl, fun i hi => ?_⟩
  rw [Nat.zero_add, h.cellAt i (by omega)]
  simp [hi]

def CPost (ss : List ByteArray) (w : World) (e : Ending) (w' : World) : Prop := ∃ (ao : Option Addr) (c : Nat), e = .returned (.slice ao ss.length c) ∧ Strs w' ao ss ∧ Below w.heap.size w w'

set_option maxHeartbeats 1000000 in
theorem zz24 (ao : Option Addr) (c : Nat) (ss : List ByteArray) (w : World) (h0 : Strs w ao ss) (hN : ss.length ≤ 1048576) :
    Calls Try.prog 24 #[.slice ao ss.length c] w fun e w' => CPost ss w e w' := by
  have hnil := fun (w : World) (a : Option Addr) (n c : Nat) => Lib.run_eql_slice_nil (P := Try.prog) w 29 9 a n c 0 0 Try.underlying29
  obtain ⟨i0, hi, hz0, hz1, hz2⟩ := info_parts info9
  cases ao with
  | none =>
    have hs : ss = [] := by
      rcases h0 with h | ⟨_, _, e, _⟩
      · exact h
      · cases e
    subst hs
    go_enter Try.func24, Try.ntmps24
    go_wp2
    go_ret
    exact ⟨none, 0, rfl, Or.inl rfl, Below.refl _ _⟩
  | some a =>
    go_enter Try.func24, Try.ntmps24
    go_wp2_with (at_make; refine wpList_make_full _ rfl _ _ 29 rfl w.heap.size 9 i0 (.string ⟨#[]⟩) 1 Try.underlying29 hi hz0 hz1 .i64 .i64 _ _ ss.length rfl rfl rfl rfl (by rw [hz2]; omega) (by unfold maxLen; omega) (Nat.le_refl _) ?_; intro w1 hown1 hgrow1)
    have hb1 : Below w.heap.size w w1 := (Below.refl _ _).grown hgrow1 (Nat.le_refl _) (fun k hk => by cases hk)
    have hI : w1.ownsRow w.heap.size 9 1 (.slice (some ⟨w.heap.size, 0, none⟩) ss.length ss.length) ss.length (gb Value.string (.string ⟨#[]⟩) ss 0) := by
      rw [gb_zero, ← toList_madeCells_one]; rw [Nat.mul_one] at hown1; exact hown1
    clear hgrow1 hown1
    go_loopw [4] (fun i wr => ∃ k : Nat, k ≤ ss.length ∧ i = .int .i64 k ∧ wr.ownsRow w.heap.size 9 1 (.slice (some ⟨w.heap.size, 0, none⟩) ss.length ss.length) ss.length (gb Value.string (.string ⟨#[]⟩) ss k) ∧ Below w.heap.size w wr) (fun i _ => ss.length - (intOf i).toNat)
    case atStart => exact ⟨0, Nat.zero_le _, rfl, hI, hb1⟩
    case round =>
      obtain ⟨k, hk, rfl, hown, hbel⟩ := hrel
      clear hI hb1
      by_cases hlt : k < ss.length
      · obtain ⟨b, off, he, q0⟩ := (h0.keep hbel).cell hlt
        cases he
        have q1 : wr.cell? ⟨w.heap.size, k, none⟩ = some (.string ⟨#[]⟩) := by rw [hown.cellAt k (by omega)]; exact gb_at _ _ _ _ hlt
        have q2 : wr.frozen? ⟨w.heap.size, k, none⟩ = false := hown.frozenAt k
        have st := hown.stored k (.string ss[k])
        rw [gb_set _ _ _ _ hlt] at st
        have R1 := st.1
        have R2 : Below w.heap.size w (wr.setCell ⟨w.heap.size, k, none⟩ (.string ss[k])) := hbel.setCell (p := ⟨w.heap.size, k, none⟩) (Nat.le_refl _) _
        clear st h0
        generalize ss[k] = s at *
        go_wp2
        go_roundw
        case rel => exact ⟨k + 1, by omega, by go_num, R1, R2⟩
        case measure => simp [intOf]; omega
      · have hkk : k = ss.length := by omega
        rw [hkk, gb_end] at hown
        have R := strs_own hown
        clear hkk
        go_wp2
        go_ret
        exact ⟨_, _, rfl, R, hbel⟩

end Go.Proofs.Qxb6001361a.dn
