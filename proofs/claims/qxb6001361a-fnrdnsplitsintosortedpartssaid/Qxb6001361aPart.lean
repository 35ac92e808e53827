/- appendPart and ZZAppendPart: the lower-cased type, an equals sign, the escaped value. -/
import Derived.Test.Qxb6001361aGrowB
namespace Go.Proofs.Qxb6001361a.dn
open Go.RowKit

def lowB (c : UInt8) : UInt8 := if 65 ≤ c.toNat ∧ c.toNat ≤ 90 then c + 32 else c
def low (l : List UInt8) : List UInt8 := l.map lowB
def part (t v : List UInt8) : List UInt8 := low t ++ (61 :: esc v)

theorem low_step (s : ByteArray) (k : Nat) (h : k < s.size) : low (s.data.toList.take (k + 1)) = low (s.data.toList.take k) ++ [lowB s[k]] := by
  rw [take_snoc s k h]; simp [low]
theorem low_len (l : List UInt8) : (low l).length = l.length := by simp [low]
theorem lowB_up {c : UInt8} (h1 : 65 ≤ (c.toNat : Int)) (h2 : (c.toNat : Int) ≤ 90) : ((c.toNat : Int) + 32).toNat.toUInt8 = lowB c := by
  unfold lowB
  rw [if_pos ⟨by omega, by omega⟩]
  apply UInt8.toNat_inj.1
  rw [UInt8.toNat_add]
  show _ = (c.toNat + 32) % 256
  have e : ((c.toNat : Int) + 32).toNat = c.toNat + 32 := by omega
  rw [e, Nat.toUInt8, UInt8.toNat_ofNat']
theorem lowB_not {c : UInt8} (h : ¬ (65 ≤ (c.toNat : Int) ∧ (c.toNat : Int) ≤ 90)) : lowB c = c := by
  unfold lowB
  rw [if_neg (by omega)]

theorem box_cells {X b : Nat} {t v : ByteArray} {wx w' : World} (h : Lib.OthersKept 5 (some b) wx w') (hx : wx.heap[X]? = some (.cells #[.string t, .string v] 59 (0, 0))) (hne : X ≠ b) :
    w'.cell? ⟨X, 0, none⟩ = some (.string t) ∧ w'.cell? ⟨X, 1, none⟩ = some (.string v) := by
  have h1 := h X _ hx (by intro e; exact hne (Option.some.inj e)) (by intro c fz e; cases e)
  constructor <;> (rw [Lib.cell_of_heap h1]; rfl)

set_option maxRecDepth 100000 in
set_option maxHeartbeats 2000000 in
theorem ap (B b : Nat) (t v : ByteArray) (w : World) (hB : B ≤ b) (hbk : w.heap[b]? = some (.cells #[.pointer none, .slice none 0 0] 46 (0, 0))) (hBw : B ≤ w.heap.size) (hlen : t.size + 3 * v.size ≤ 10000000000000) :
    Calls Try.prog 36 #[.pointer (some ⟨b, 0, none⟩), .agg #[.string t, .string v]] w fun e w' => e = .returned (.tuple #[]) ∧ BdK B b (part t.data.toList v.data.toList) w w' := by
  have hlt := lt_of_heap hbk
  have hne : w.heap.size ≠ b := by omega
  have hbx : (w.alloc (.cells #[.string t, .string v] 59)).heap[b]? = some (.cells #[.pointer none, .slice none 0 0] 46 (0, 0)) := (Lib.alloc_old w _ b hlt).trans hbk
  have hxx : (w.alloc (.cells #[.string t, .string v] 59)).heap[w.heap.size]? = some (.cells #[.string t, .string v] 59 (0, 0)) := heap_alloc_new _ _
  have hBx : B ≤ (w.alloc (.cells #[.string t, .string v] 59)).heap.size := by simp; omega
  have hb0 : Below B w (w.alloc (.cells #[.string t, .string v] 59)) := (Below.refl _ _).alloc hBw _
  have hk0 : Lib.OthersKept 5 (some b) w (w.alloc (.cells #[.string t, .string v] 59)) := (Lib.OthersKept.refl _ _ _).alloc _
  go_enter Try.func36, Try.ntmps36
  go_wp2_with fail
  have en : ((t.size : Int) + 1 + (v.size : Int)) = ((t.size + 1 + v.size : Nat) : Int) := by omega
  rw [en]
  clear en
  generalize w.alloc (.cells #[.string t, .string v] 59) = wx at *
  refine (growF B b _ _ hB hbx hBx (by omega)).mono ?_
  rintro e w1 ⟨rfl, h1, h2, h3⟩
  have hB1 : BdK B b (low (t.data.toList.take 0)) wx w1 := ⟨Or.inr (by simpa [low, Lib.byteCells] using h1), h2, hBx, h3⟩
  obtain ⟨q0, q1⟩ := box_cells h3 hxx hne
  clear h1 h2 h3
  go_wp2
  clear q0 q1
  go_loopw [19] (fun i wr => ∃ k : Nat, k ≤ t.size ∧ i = .int .i64 k ∧ BdK B b (low (t.data.toList.take k)) wx wr) (fun i _ => t.size - (intOf i).toNat)
  case atStart => exact ⟨0, Nat.zero_le _, rfl, hB1⟩
  case round =>
    obtain ⟨k, hk, rfl, hb⟩ := hrel
    clear hB1
    obtain ⟨q0, q1⟩ := box_cells hb.2.2.2 hxx hne
    by_cases hkt : k < t.size
    · have hll : (low (t.data.toList.take k)).length + 1 ≤ 140737488355328 := by
        have h2 : (t.data.toList.take k).length ≤ k := List.length_take_le _ _
        rw [low_len]; omega
      have HS : Hid (low (t.data.toList.take (k + 1)) = low (t.data.toList.take k) ++ [lowB t[k]]) := low_step t k hkt
      generalize low (t.data.toList.take k) = L at *
      go_wp2_with (go_at_call 41; refine (wbkI B b _ _ wx _ (by assumption) (by omega) (by first | omega | exact byte_le _) (by omega)).mono ?_; first | rintro e w' ⟨rfl, hb'⟩ | rintro e w' rfl hb')
      all_goals
        go_roundw
        case measure => simp [intOf]; omega
        case rel =>
          refine ⟨k + 1, by omega, by go_num, ?_⟩
          rw [HS.out]
          first
            | (rw [lowB_up (by assumption) (by assumption)] at hb'; exact hb')
            | (rw [back] at hb'; rw [lowB_not (by omega)]; exact hb')
    · have hkk : k = t.size := by omega
      have htk : t.data.toList.take k = t.data.toList := List.take_of_length_le (by rw [Array.length_toList, hkk]; exact Nat.le_refl _)
      rw [htk] at hb
      clear htk
      have hll : (low t.data.toList).length = t.size := by rw [low_len, Array.length_toList]; rfl
      go_wp2_with fail
      refine (wbkI B b _ 61 wx _ hb (by omega) (by omega) (by rw [hll]; omega)).mono ?_
      rintro e w2 ⟨rfl, hb2⟩
      obtain ⟨p0, p1⟩ := box_cells hb2.2.2.2 hxx hne
      clear q0 q1 hb
      go_wp2_with fail
      refine (avk B b _ v wx _ hb2 (by rw [List.length_append, hll]; simp; omega)).mono ?_
      rintro e w3 ⟨rfl, hb3⟩
      have hfin : BdK B b (part t.data.toList v.data.toList) w w3 := by
        have e : low t.data.toList ++ [Int.toNat 61 |>.toUInt8] ++ esc v.data.toList = part t.data.toList v.data.toList := by
          unfold part; rw [List.append_assoc]; rfl
        rw [e] at hb3
        exact ⟨hb3.1, hb0.trans hb3.2.1, hBw, hk0.trans hb3.2.2.2⟩
      go_wp2
      go_end0
      exact ⟨rfl, hfin⟩

theorem fresh_heap (w : World) : (w.alloc (.cells #[.pointer none, .slice none 0 0] 46)).heap[w.heap.size]? = some (.cells #[.pointer none, .slice none 0 0] 46 (0, 0)) := heap_alloc_new _ _

set_option maxHeartbeats 1000000 in
theorem zap (t v : ByteArray) (w : World) (hlen : t.size + 3 * v.size ≤ 10000000000000) :
    Calls Try.prog 17 #[.string t, .string v] w fun e w' => e = .returned (.string (str (part t.data.toList v.data.toList))) ∧ Below w.heap.size w w' := by
  have f0 := fresh_heap w
  go_enter Try.func17, Try.ntmps17
  go_wp2_with fail
  refine (ap w.heap.size w.heap.size t v _ (Nat.le_refl _) f0 (by simp) hlen).mono ?_
  rintro e w1 ⟨rfl, h1⟩
  clear f0
  go_wp2_with fail
  refine (strI w.heap.size w.heap.size _ _ _ h1.bd).mono ?_
  rintro e w2 ⟨rfl, h2⟩
  have hb : Below w.heap.size w w2 := ((Below.refl _ _).alloc (Nat.le_refl _) _).trans h2
  go_wp2
  go_ret
  exact ⟨rfl, hb⟩

end Go.Proofs.Qxb6001361a.dn
