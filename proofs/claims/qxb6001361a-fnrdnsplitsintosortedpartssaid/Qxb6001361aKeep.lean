/- The builder's writers once more, with the frame that reaches above the builder ('Lib.OthersKept': every block that is not the builder's and is no row of bytes stands). -/
import Derived.Test.Qxb6001361aZav
import Derived.Lib.OthersKept
import Derived.Lib.MakeNoZero
namespace Go.Proofs.Qxb6001361a.dn
open Go.RowKit

theorem kind_of {w : World} {B : Nat} {v : Value} {n : Nat} {xs : List Value} (h : w.ownsRow B 5 1 v n xs) : ∀ g, v.ownBlock = some g → ∃ c fz, w.heap[g]? = some (.cells c 5 fz) := by
  intro g hg
  rcases h.2 with ⟨rfl, _⟩ | ⟨g', cap, cur, rfl, _, hgg, _⟩
  · simp [Value.ownBlock] at hg
  · simp [Value.ownBlock] at hg
    subst hg
    exact ⟨cur, _, hgg⟩

theorem cck (B b : Nat) (bs : List Value) (w : World) (h : Lib.IsBuilder 46 5 B b bs w) :
    Calls Try.prog 39 #[.pointer (some ⟨b, 0, none⟩)] w fun e w' => e = .returned (.tuple #[]) ∧ (Lib.BuilderAt 46 5 B b (.pointer (some ⟨b, 0, none⟩)) bs w' ∧ Below B w w' ∧ Lib.OthersKept 5 (some b) w w') := by
  rcases h with h | h
  · refine (cc_fresh b w h.cell0 h.shape h.frozen0).mono ?_
    rintro e w' ⟨rfl, rfl⟩
    exact ⟨rfl, h.used _, (Below.refl B w).setCell (p := ⟨b, 0, none⟩) h.1 _, (Lib.OthersKept.refl _ _ _).setCell ⟨b, 0, none⟩ rfl _⟩
  · refine (cc_used b w h.cell0).mono ?_
    rintro e w' ⟨rfl, rfl⟩
    exact ⟨rfl, h, Below.refl B _, Lib.OthersKept.refl _ _ _⟩

set_option maxHeartbeats 1000000 in
theorem wbk (B b : Nat) (bs : List Value) (c : Int) (w : World) (h : Lib.IsBuilder 46 5 B b bs w) (hlen : bs.length + 1 ≤ 140737488355328) (hBw : B ≤ w.heap.size) :
    Calls Try.prog 41 #[.pointer (some ⟨b, 0, none⟩), .int .u8 c] w fun e w' => e = .returned .nilIface ∧ (Lib.BuilderAt 46 5 B b (.pointer (some ⟨b, 0, none⟩)) (bs ++ [.int .u8 c]) w' ∧ Below B w w' ∧ Lib.OthersKept 5 (some b) w w') := by
  obtain ⟨i0, hi, hz0, hz1, hz2⟩ := info_parts info5
  go_enter Try.func41, Try.ntmps41
  go_wp2_with (go_at_call 39; refine (cck B b bs _ h).mono ?_)
  rintro e w1 ⟨rfl, h1, hb1, hk1⟩
  obtain ⟨hB, v, hbk, hown, hne⟩ := h1
  have c0 : w1.cell? ⟨b, 0, none⟩ = some (.pointer (some ⟨b, 0, none⟩)) := by rw [Lib.cell_of_heap hbk]; rfl
  have c1 : w1.cell? ⟨b, 1, none⟩ = some v := by rw [Lib.cell_of_heap hbk]; rfl
  go_wp2_with (at_builtin; refine wpList_append_own _ rfl _ _ 44 rfl B 5 i0 (.int .u8 0) 1 1 Try.underlying44 hi hz0 hz1 hz2 rfl (by decide) _ _ _ rfl (hown.alloc _) ⟨w1.heap.size, 0, none⟩ 1 1 [.int .u8 c] rfl rfl ?c1 ?c2 ?c3 ?c4 ?c5 ?_)
  case c1 => exact cell_one_new _ _ _
  case c2 => intro u hu; simp at hu; subst hu; rfl
  case c3 => unfold maxLen; omega
  case c4 => omega
  case c5 => have := hb1.size; simp; omega
  intro v' w2 hown' hgrow _
  have hlt := lt_of_heap hbk
  have hb2 : w2.heap[b]? = some (.cells #[.pointer (some ⟨b, 0, none⟩), v] 46 (0, 0)) := by
    rw [hgrow.block b (by simp; omega) (fun e => hne e.symm), Lib.alloc_old w1 _ b hlt]
    exact hbk
  have d0 : w2.cell? ⟨b, 0, none⟩ = some (.pointer (some ⟨b, 0, none⟩)) := by rw [Lib.cell_of_heap hb2]; rfl
  have d1 : w2.cell? ⟨b, 1, none⟩ = some v := by rw [Lib.cell_of_heap hb2]; rfl
  have f1 : w2.frozen? ⟨b, 1, none⟩ = false := Lib.frozen_of_heap hb2 1
  obtain ⟨g, cap, rfl⟩ : ∃ g cap, v' = .slice (some ⟨g, 0, none⟩) (bs.length + 1) cap := by
    rcases hown'.2 with ⟨_, h0⟩ | ⟨g, cap, cur, hv, _⟩
    · omega
    · exact ⟨g, cap, hv⟩
  go_wp2
  go_ret
  refine ⟨rfl, ?_, ?_, ?_⟩
  · exact Lib.BuilderAt.put (T := 46) (e := 5) hB hb2 (bs' := bs ++ [.int .u8 c]) (by simpa using hown') (by decide)
  · exact ((hb1.alloc (by have := hb1.size; omega) _).grown hgrow (by have := hb1.size; simp; omega) (fun k hk => (hown.lt k hk).1)).setCell (p := ⟨b, 1, none⟩) hB _
  · exact ((hk1.alloc _).grown hgrow (kind_of (hown.alloc _))).setCell ⟨b, 1, none⟩ rfl _

/-- the builder in block b holds the bytes l; below B nothing has turned since w0; nor any block that is neither b nor a row of bytes -/
def BdK (B b : Nat) (l : List UInt8) (w0 w : World) : Prop := Lib.IsBuilder 46 5 B b (Lib.byteCells l) w ∧ Below B w0 w ∧ B ≤ w0.heap.size ∧ Lib.OthersKept 5 (some b) w0 w
theorem BdK.bd {B b : Nat} {l : List UInt8} {w0 w : World} (h : BdK B b l w0 w) : Bd B b l w0 w := ⟨h.1, h.2.1, h.2.2.1⟩

theorem wbkI (B b : Nat) (l : List UInt8) (c : Int) (w0 w : World) (h : BdK B b l w0 w) (h0 : 0 ≤ c) (h1 : c ≤ 255) (hlen : l.length + 1 ≤ 140737488355328) :
    Calls Try.prog 41 #[.pointer (some ⟨b, 0, none⟩), .int .u8 c] w fun e w' => e = .returned .nilIface ∧ BdK B b (l ++ [c.toNat.toUInt8]) w0 w' := by
  obtain ⟨hb, hbel, hB, hk⟩ := h
  refine (wbk B b _ c w hb (by rw [Lib.byteCells_length]; exact hlen) (by have := hbel.size; omega)).mono ?_
  rintro e w' ⟨rfl, h2, h3, h4⟩
  refine ⟨rfl, Or.inr ?_, hbel.trans h3, hB, hk.trans h4⟩
  rw [bc_snoc l c h0 h1]; exact h2

set_option maxRecDepth 100000 in
set_option maxHeartbeats 1000000 in
theorem avk (B b : Nat) (l : List UInt8) (v : ByteArray) (w0 w : World) (h : BdK B b l w0 w) (hlen : l.length + 3 * v.size ≤ 100000000000000) :
    Calls Try.prog 31 #[.pointer (some ⟨b, 0, none⟩), .string v] w fun e w' => e = .returned (.tuple #[]) ∧ BdK B b (l ++ esc v.data.toList) w0 w' := by
  go_enter Try.func31, Try.ntmps31
  go_wp2
  go_loopw [4] (fun i wr => ∃ k : Nat, k ≤ v.size ∧ i = .int .i64 k ∧ BdK B b (l ++ escL v.size 0 (v.data.toList.take k)) w0 wr) (fun i _ => v.size - (intOf i).toNat)
  case atStart => exact ⟨0, Nat.zero_le _, rfl, by simpa [escL] using h⟩
  case round =>
    obtain ⟨k, hk, rfl, hb⟩ := hrel
    clear h
    by_cases hlt : k < v.size
    · have hll : (l ++ escL v.size 0 (v.data.toList.take k)).length + 3 ≤ 140737488355328 := by
        have := (escL_len v.size (v.data.toList.take k) 0).2
        have h2 : (v.data.toList.take k).length ≤ k := List.length_take_le _ _
        rw [List.length_append]; omega
      have HS := escL_step v k hlt
      have HS' : Hid (l ++ escL v.size 0 (v.data.toList.take (k + 1)) = (l ++ escL v.size 0 (v.data.toList.take k)) ++ escAt v.size k v[k]) := by
        unfold Hid; rw [HS, List.append_assoc]
      clear HS
      generalize l ++ escL v.size 0 (v.data.toList.take k) = L at *
      have hc : (v[k].toNat : Int) ≤ 255 := by have := v[k].toNat_lt; omega
      go_wp2_with (first | (go_at_call 40; refine (ib40 _ _ _).mono ?_; rintro e w' ⟨rfl, rfl⟩) | (go_at_call 41; refine (wbkI B b _ _ w0 _ (by assumption) (by omega) (by first | omega | exact byte_le _) (by first | omega | (simp only [List.length_append, List.length_cons, List.length_nil]; omega))).mono ?_; first | rintro e w' ⟨rfl, hb'⟩ | rintro e w' rfl hb'))
      all_goals
        go_roundw
        case measure => simp [intOf]; omega
        case rel =>
          refine ⟨k + 1, by omega, by go_num, ?_⟩
          rw [HS'.out]
          clear HS'
          go_light
          first
            | (rw [w1 (by assumption) (by assumption)]; simpa using hb')
            | (rw [w2 (by assumption) (by assumption)]; simpa using hb')
            | (rw [w3 (by assumption) (by assumption) (by assumption)]; simpa using hb')
            | (rw [w4 (by assumption) (by assumption)]; simpa using hb')
            | (rw [w5 (by assumption) (by assumption)]; simpa using hb')
            | (rw [w6 (by assumption)]; simpa using hb')
            | (rw [w7 (by assumption) (by assumption) (by assumption) (by omega)]; simp at hb'; rw [dig_at, dig_at] at hb'; exact hb')
            | (rw [w8 (by assumption) (by assumption) (by assumption) (by omega)]; simpa using hb')
    · go_wp2
      go_end0
      have e : k = v.size := by omega
      subst e
      refine ⟨rfl, ?_⟩
      have e2 : v.data.toList.take v.size = v.data.toList := List.take_of_length_le (by rw [Array.length_toList]; exact Nat.le_refl _)
      rw [e2] at hb
      have e3 : v.data.toList.length = v.size := by rw [Array.length_toList]; rfl
      unfold esc; rw [e3]; exact hb


end Go.Proofs.Qxb6001361a.dn
