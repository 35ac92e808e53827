/- zzB1asciiLower: a string's bytes, each lower-cased. -/
import Derived.Test.Qxb6001361aIndex
namespace Go.Proofs.Qxb6001361a.dn
open Go.RowKit

/-- the buffer after k rounds -/
def buf (l : List UInt8) (k : Nat) : List Value := Lib.byteCells (low (l.take k)) ++ List.replicate (l.length - k) (.int .u8 0)
theorem buf_zero (l : List UInt8) : buf l 0 = List.replicate l.length (.int .u8 0) := by simp [buf, low, Lib.byteCells]
theorem buf_end (l : List UInt8) : buf l l.length = Lib.byteCells (low l) := by simp [buf]
theorem buf_len (l : List UInt8) (k : Nat) (h : k ≤ l.length) : (buf l k).length = l.length := by
  unfold buf; rw [List.length_append, Lib.byteCells_length, low_len, List.length_take, List.length_replicate]; omega
theorem buf_at (l : List UInt8) (k : Nat) (h : k < l.length) : (buf l k)[k]? = some (.int .u8 0) := by
  unfold buf
  have e : (Lib.byteCells (low (l.take k))).length = k := by rw [Lib.byteCells_length, low_len, List.length_take]; omega
  rw [List.getElem?_append_right (by omega), e, Nat.sub_self, List.getElem?_replicate, if_pos (by omega)]
theorem buf_set (l : List UInt8) (k : Nat) (h : k < l.length) : (buf l k).set k (.int .u8 ((lowB l[k]).toNat : Int)) = buf l (k + 1) := by
  unfold buf
  have e : (Lib.byteCells (low (l.take k))).length = k := by rw [Lib.byteCells_length, low_len, List.length_take]; omega
  rw [List.set_append, if_neg (by omega), e, Nat.sub_self]
  have e2 : l.length - k = (l.length - (k + 1)) + 1 := by omega
  rw [e2, List.replicate_succ, List.set_cons_zero, List.take_succ_eq_append_getElem h]
  simp only [low, Lib.byteCells, List.map_append, List.map_cons, List.map_nil, List.append_assoc, List.cons_append, List.nil_append]

theorem lowB_up' {c : UInt8} (h1 : 65 ≤ (c.toNat : Int)) (h2 : (c.toNat : Int) ≤ 90) : (c.toNat : Int) + 32 = ((lowB c).toNat : Int) := by
  rw [← lowB_up h1 h2, Nat.toUInt8, UInt8.toNat_ofNat']
  omega

set_option maxHeartbeats 1000000 in
theorem zlow (s : ByteArray) (hs : s.size ≤ 10000000000000) (w : World) :
    Calls Try.prog 19 #[.string s] w fun e w' => e = .returned (.string (str (low s.data.toList))) ∧ Below w.heap.size w w' := by
  have hl : s.data.toList.length = s.size := by rw [Array.length_toList]; rfl
  have hgs : ∀ k (h : k < s.size), s.data.toList[k]'(by omega) = s[k] := fun k h => rfl
  obtain ⟨i0, hi, hz0, hz1, hz2⟩ := info_parts info5
  have HL : Hid (s.data.toList.length = s.size) := hl
  have HG : Hid (∀ k (h : k < s.size), s.data.toList[k]'(by omega) = s[k]) := hgs
  clear hgs
  go_enter Try.func19, Try.ntmps19
  go_wp2_with (at_make; refine wpList_make_full _ rfl _ _ 44 rfl w.heap.size 5 i0 (.int .u8 0) 1 Try.underlying44 hi hz0 hz1 .i64 .i64 _ _ s.size rfl rfl rfl rfl (by rw [hz2]; omega) (by unfold maxLen; omega) (Nat.le_refl _) ?_; intro w1 hown1 hgrow1)
  have hb1 : Below w.heap.size w w1 := (Below.refl _ _).grown hgrow1 (Nat.le_refl _) (fun k hk => by cases hk)
  have h0 : w1.ownsRow w.heap.size 5 1 (.slice (some ⟨w.heap.size, 0, none⟩) s.size s.size) s.size (buf s.data.toList 0) := by
    rw [buf_zero, HL.out, ← toList_madeCells_one]; rw [Nat.mul_one] at hown1; exact hown1
  clear hgrow1 hown1
  go_loopw [4] (fun i wr => ∃ k : Nat, k ≤ s.size ∧ i = .int .i64 k ∧ wr.ownsRow w.heap.size 5 1 (.slice (some ⟨w.heap.size, 0, none⟩) s.size s.size) s.size (buf s.data.toList k) ∧ Below w.heap.size w wr) (fun i _ => s.size - (intOf i).toNat)
  case atStart => exact ⟨0, Nat.zero_le _, rfl, h0, hb1⟩
  case round =>
    obtain ⟨k, hk, rfl, hown, hbel⟩ := hrel
    clear h0 hb1
    by_cases hlt : k < s.size
    · have q0 : wr.cell? ⟨w.heap.size, k, none⟩ = some (.int .u8 0) := by rw [hown.cellAt k (by omega)]; exact buf_at _ _ (by rw [HL.out]; exact hlt)
      have q1 : wr.frozen? ⟨w.heap.size, k, none⟩ = false := hown.frozenAt k
      have R : ∀ x : Int, x = ((lowB s[k]).toNat : Int) → (wr.setCell ⟨w.heap.size, k, none⟩ (.int .u8 x)).ownsRow w.heap.size 5 1 (.slice (some ⟨w.heap.size, 0, none⟩) s.size s.size) s.size (buf s.data.toList (k + 1)) ∧ Below w.heap.size w (wr.setCell ⟨w.heap.size, k, none⟩ (.int .u8 x)) := by
        intro x hx
        have st := hown.stored k (.int .u8 x)
        refine ⟨?_, hbel.setCell (p := ⟨w.heap.size, k, none⟩) (Nat.le_refl _) _⟩
        rw [← buf_set _ k (by rw [HL.out]; exact hlt), HG.out k hlt, ← hx]
        exact st.1
      have HR : Hid (∀ x : Int, x = ((lowB s[k]).toNat : Int) → (wr.setCell ⟨w.heap.size, k, none⟩ (.int .u8 x)).ownsRow w.heap.size 5 1 (.slice (some ⟨w.heap.size, 0, none⟩) s.size s.size) s.size (buf s.data.toList (k + 1)) ∧ Below w.heap.size w (wr.setCell ⟨w.heap.size, k, none⟩ (.int .u8 x))) := R
      clear R
      go_wp2
      · have r := HR.out _ (lowB_up' (c := s[k]) (by assumption) (by assumption))
        go_roundw
        case rel => exact ⟨k + 1, by omega, by go_num, r.1, r.2⟩
        case measure => simp [intOf]; omega
      all_goals
        have r := HR.out (s[k].toNat : Int) (by rw [lowB_not (by omega)])
        go_roundw
        case rel => exact ⟨k + 1, by omega, by go_num, r.1, r.2⟩
        case measure => simp [intOf]; omega
    · have hkk : k = s.data.toList.length := by rw [HL.out]; omega
      rw [hkk, buf_end] at hown
      obtain ⟨g, cap, hv, hconv⟩ := conv_own hown (by intro h; cases h)
      cases hv
      clear hkk
      go_wp2
      go_ret
      exact ⟨rfl, hbel⟩

end Go.Proofs.Qxb6001361a.dn
