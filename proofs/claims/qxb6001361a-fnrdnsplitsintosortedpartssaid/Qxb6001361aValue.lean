/- appendValue and ZZAppendValue over this program: what they write is 'esc'. -/
import Derived.Test.Qxb6001361aBuild
import Derived.Test.Qxb6001361aPlain
import Derived.Deep.Light
namespace Go.Proofs.Qxb6001361a.dn
open Go.RowKit

/-- the builder in block b holds the bytes l; below B nothing has turned since w0 -/
def Bd (B b : Nat) (l : List UInt8) (w0 w : World) : Prop := Lib.IsBuilder 46 5 B b (Lib.byteCells l) w ∧ Below B w0 w ∧ B ≤ w0.heap.size

theorem bc_snoc (l : List UInt8) (c : Int) (h0 : 0 ≤ c) (h1 : c ≤ 255) : Lib.byteCells (l ++ [c.toNat.toUInt8]) = Lib.byteCells l ++ [.int .u8 c] := by
  simp only [Lib.byteCells, List.map_append, List.map_cons, List.map_nil]
  congr 2
  congr 1
  have : c.toNat.toUInt8.toNat = c.toNat := by
    rw [Nat.toUInt8, UInt8.toNat_ofNat']
    omega
  rw [this]; omega

theorem byte_le (c : UInt8) : (c.toNat : Int) ≤ 255 := by have := c.toNat_lt; omega
theorem back (c : UInt8) : ((c.toNat : Int).toNat.toUInt8) = c := by simp

theorem wbI (B b : Nat) (l : List UInt8) (c : Int) (w0 w : World) (h : Bd B b l w0 w) (h0 : 0 ≤ c) (h1 : c ≤ 255) (hlen : l.length + 1 ≤ 140737488355328) :
    Calls Try.prog 41 #[.pointer (some ⟨b, 0, none⟩), .int .u8 c] w fun e w' => e = .returned .nilIface ∧ Bd B b (l ++ [c.toNat.toUInt8]) w0 w' := by
  obtain ⟨hb, hbel, hB⟩ := h
  refine (wb B b _ c w hb (by rw [Lib.byteCells_length]; exact hlen) (by have := hbel.size; omega)).mono ?_
  rintro e w' ⟨rfl, h2, h3⟩
  refine ⟨rfl, Or.inr ?_, hbel.trans h3, hB⟩
  rw [bc_snoc l c h0 h1]; exact h2

set_option maxRecDepth 100000 in
set_option maxHeartbeats 1000000 in
theorem av (B b : Nat) (l : List UInt8) (v : ByteArray) (w0 w : World) (h : Bd B b l w0 w) (hlen : l.length + 3 * v.size ≤ 100000000000000) :
    Calls Try.prog 31 #[.pointer (some ⟨b, 0, none⟩), .string v] w fun e w' => e = .returned (.tuple #[]) ∧ Bd B b (l ++ esc v.data.toList) w0 w' := by
  go_enter Try.func31, Try.ntmps31
  go_wp2
  go_loopw [4] (fun i wr => ∃ k : Nat, k ≤ v.size ∧ i = .int .i64 k ∧ Bd B b (l ++ escL v.size 0 (v.data.toList.take k)) w0 wr) (fun i _ => v.size - (intOf i).toNat)
  case atStart => exact ⟨0, Nat.zero_le _, rfl, by simpa [escL] using h⟩
  case round =>
    obtain ⟨k, hk, rfl, hb⟩ := hrel
    clear h
    by_cases hlt : k < v.size
    · have hll : (l ++ escL v.size 0 (v.data.toList.take k)).length + 3 ≤ 140737488355328 := by
        have := (escL_len v.size (v.data.toList.take k) 0).2
        have h2 : (v.data.toList.take k).length ≤ k := List.length_take_le _ _
        rw [List.length_append]; omega
      have HS := escL_step v k hlt
      have HS' : Hid (l ++ escL v.size 0 (v.data.toList.take (k + 1)) = (l ++ escL v.size 0 (v.data.toList.take k)) ++ escAt v.size k v[k]) := by
        unfold Hid; rw [HS, List.append_assoc]
      clear HS
      generalize l ++ escL v.size 0 (v.data.toList.take k) = L at *
      have hc : (v[k].toNat : Int) ≤ 255 := by have := v[k].toNat_lt; omega
      go_wp2_with (first | (go_at_call 40; refine (ib40 _ _ _).mono ?_; rintro e w' ⟨rfl, rfl⟩) | (go_at_call 41; refine (wbI B b _ _ w0 _ (by assumption) (by omega) (by first | omega | exact byte_le _) (by first | omega | (simp only [List.length_append, List.length_cons, List.length_nil]; omega))).mono ?_; first | rintro e w' ⟨rfl, hb'⟩ | rintro e w' rfl hb'))
      all_goals
        go_roundw
        case measure => simp [intOf]; omega
        case rel =>
          refine ⟨k + 1, by omega, by go_num, ?_⟩
          rw [HS'.out]
          clear HS'
          go_light
          first
            | (rw [w1 (by assumption) (by assumption)]; simpa using hb')
            | (rw [w2 (by assumption) (by assumption)]; simpa using hb')
            | (rw [w3 (by assumption) (by assumption) (by assumption)]; simpa using hb')
            | (rw [w4 (by assumption) (by assumption)]; simpa using hb')
            | (rw [w5 (by assumption) (by assumption)]; simpa using hb')
            | (rw [w6 (by assumption)]; simpa using hb')
            | (rw [w7 (by assumption) (by assumption) (by assumption) (by omega)]; simp at hb'; rw [dig_at, dig_at] at hb'; exact hb')
            | (rw [w8 (by assumption) (by assumption) (by assumption) (by omega)]; simpa using hb')
    · go_wp2
      go_end0
      have e : k = v.size := by omega
      subst e
      refine ⟨rfl, ?_⟩
      have e2 : v.data.toList.take v.size = v.data.toList := List.take_of_length_le (by rw [Array.length_toList]; exact Nat.le_refl _)
      rw [e2] at hb
      have e3 : v.data.toList.length = v.size := by rw [Array.length_toList]; rfl
      unfold esc; rw [e3]; exact hb

end Go.Proofs.Qxb6001361a.dn
