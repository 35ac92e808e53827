/- zzB1buildRDN: the pairs in memory of its own. -/
import Derived.Test.Qxb6001361aRdnC
namespace Go.Proofs.Qxb6001361a.dn
open Go.RowKit

/-- a pair's two cells -/
def pc (p : ByteArray × ByteArray) : List Value := [.string p.1, .string p.2]
def pcs (l : List (ByteArray × ByteArray)) : List Value := l.flatMap pc
theorem pcs_app (l m : List (ByteArray × ByteArray)) : pcs (l ++ m) = pcs l ++ pcs m := by simp [pcs]
theorem pcs_len (l : List (ByteArray × ByteArray)) : (pcs l).length = l.length * 2 := by
  induction l with
  | nil => rfl
  | cons a l ih =>
    have e : pcs (a :: l) = pc a ++ pcs l := rfl
    rw [e, List.length_append, ih]
    simp [pc]; omega
theorem pcs_at (l : List (ByteArray × ByteArray)) : ∀ k (h : k < l.length), (pcs l)[k * 2]? = some (.string l[k].1) ∧ (pcs l)[k * 2 + 1]? = some (.string l[k].2) := by
  induction l with
  | nil => intro k h; simp at h
  | cons a l ih =>
    intro k h
    have e : pcs (a :: l) = .string a.1 :: .string a.2 :: pcs l := rfl
    rw [e]
    cases k with
    | zero => exact ⟨rfl, rfl⟩
    | succ k =>
      have := ih k (by simpa using h)
      have e1 : (k + 1) * 2 = k * 2 + 1 + 1 := by omega
      rw [e1]
      simpa using this
/-- a row of pairs, filled from its head -/
def pb (l : List (ByteArray × ByteArray)) (k : Nat) : List Value := pcs (l.take k) ++ List.replicate ((l.length - k) * 2) (.string ⟨#[]⟩)
theorem pb_zero (l : List (ByteArray × ByteArray)) : pb l 0 = List.replicate (l.length * 2) (.string ⟨#[]⟩) := by simp [pb, pcs]
theorem pb_end (l : List (ByteArray × ByteArray)) : pb l l.length = pcs l := by simp [pb]
theorem pb_head (l : List (ByteArray × ByteArray)) (k : Nat) (h : k ≤ l.length) : (pcs (l.take k)).length = k * 2 := by rw [pcs_len, List.length_take]; omega
theorem pb_at (l : List (ByteArray × ByteArray)) (k : Nat) (h : k < l.length) : (pb l k)[k * 2]? = some (.string ⟨#[]⟩) ∧ (pb l k)[k * 2 + 1]? = some (.string ⟨#[]⟩) := by
  have e := pb_head l k (by omega)
  unfold pb
  constructor
  · rw [List.getElem?_append_right (by omega), e, List.getElem?_replicate, if_pos (by omega)]
  · rw [List.getElem?_append_right (by omega), e, List.getElem?_replicate, if_pos (by omega)]
theorem pb_set (l : List (ByteArray × ByteArray)) (k : Nat) (h : k < l.length) : ((pb l k).set (k * 2) (.string l[k].1)).set (k * 2 + 1) (.string l[k].2) = pb l (k + 1) := by
  have e := pb_head l k (by omega)
  unfold pb
  rw [List.set_append, if_neg (by omega), e, Nat.sub_self]
  have e2 : (l.length - k) * 2 = (l.length - (k + 1)) * 2 + 1 + 1 := by omega
  rw [e2, List.replicate_succ, List.replicate_succ, List.set_cons_zero, List.set_append, if_neg (by omega), e]
  have e3 : k * 2 + 1 - k * 2 = 1 := by omega
  rw [e3, List.take_succ_eq_append_getElem h, pcs_app]
  simp [pcs, pc]

/-- the slice at ao, elements of two cells, reads as the pairs ps -/
def Prs (w : World) (ao : Option Addr) (ps : List (ByteArray × ByteArray)) : Prop :=
  ps = [] ∨ ∃ b off, ao = some ⟨b, off, none⟩ ∧ ∀ i (h : i < ps.length), w.cell? ⟨b, off + i * 2, none⟩ = some (.string ps[i].1) ∧ w.cell? ⟨b, off + i * 2 + 1, none⟩ = some (.string ps[i].2)
theorem prs_own {w : World} {B e g cap : Nat} {ps : List (ByteArray × ByteArray)} (h : w.ownsRow B e 2 (.slice (some ⟨g, 0, none⟩) ps.length cap) ps.length (pcs ps)) : Prs w (some ⟨g, 0, none⟩) ps := by
  refine Or.inr ⟨g, 0, rfl, fun i hi => ?_⟩
  obtain ⟨h1, h2⟩ := pcs_at ps i hi
  rw [Nat.zero_add, h.cellAt (i * 2) (by omega), h.cellAt (i * 2 + 1) (by omega)]
  exact ⟨h1, h2⟩
theorem Prs.keep {w w' : World} {ao : Option Addr} {ps : List (ByteArray × ByteArray)} (h : Prs w ao ps) (hb : Below w.heap.size w w') : Prs w' ao ps := by
  rcases h with h | ⟨b, off, e, hc⟩
  · exact Or.inl h
  · refine Or.inr ⟨b, off, e, fun i hi => ?_⟩
    obtain ⟨h1, h2⟩ := hc i hi
    rw [hb.cell (p := ⟨b, off + i * 2, none⟩) (World.block_lt_of_cell? w _ h1), hb.cell (p := ⟨b, off + i * 2 + 1, none⟩) (World.block_lt_of_cell? w _ h2)]
    exact ⟨h1, h2⟩
theorem Prs.cell {w : World} {ao : Option Addr} {ps : List (ByteArray × ByteArray)} (h : Prs w ao ps) {i : Nat} (hi : i < ps.length) :
    ∃ b off, ao = some ⟨b, off, none⟩ ∧ w.cell? ⟨b, off + i * 2, none⟩ = some (.string ps[i].1) ∧ w.cell? ⟨b, off + i * 2 + 1, none⟩ = some (.string ps[i].2) := by
  rcases h with rfl | ⟨b, off, e, hc⟩
  · simp at hi
  · exact ⟨b, off, e, hc i hi⟩

theorem info59 : (Try.prog.info? 59).map (fun i => (i.zero, i.size, i.bytes)) = some (some (.agg #[.string ⟨#[]⟩, .string ⟨#[]⟩]), 2, 32) := by kernel_rfl
theorem made2 (n : Nat) : (madeCells #[.string ⟨#[]⟩, .string ⟨#[]⟩] (n * 2)).toList = List.replicate (n * 2) (.string ⟨#[]⟩) := by
  apply List.ext_getElem?
  intro j
  by_cases hj : j < n * 2
  · have : j % 2 = 0 ∨ j % 2 = 1 := by omega
    rcases this with h | h <;> simp [madeCells, hj, h]
  · simp [madeCells, hj]

end Go.Proofs.Qxb6001361a.dn
