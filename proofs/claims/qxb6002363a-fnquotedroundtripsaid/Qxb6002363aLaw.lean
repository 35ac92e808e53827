/- FnQuotedRoundTrip: the walk. -/
import Derived.Test.Qxb6002363aQuoted
import Derived.ProofKit
namespace Go.Proofs.Qxb6002363a.sc
open Go.RowKit

theorem ibl_at (l m : List UInt8) (c : UInt8) (h : ∀ x ∈ l, x ≠ c) : Lib.indexByte (l ++ c :: m) c = l.length := by
  induction l with
  | nil => simp [Lib.indexByte]
  | cons a l ih =>
    have e : (a == c) = false := by rw [beq_eq_false_iff_ne]; exact h a (List.mem_cons_self ..)
    have := ih (fun x hx => h x (List.mem_cons_of_mem _ hx))
    rw [List.cons_append]
    unfold Lib.indexByte
    rw [e, this]
    have e2 : (((l.length : Nat) : Int) == -1) = false := by rw [beq_eq_false_iff_ne]; omega
    rw [e2]
    simp
def NoQ (s : ByteArray) (k : Nat) : Prop := ∀ j (h : j < s.size), j < k → s[j] ≠ 34
theorem noq_succ {s : ByteArray} {k : Nat} (h : NoQ s k) (hk : k < s.size) (hn : s[k] ≠ 34) : NoQ s (k + 1) := by
  intro j hj hjk
  by_cases e : j = k
  · subst e; exact hn
  · exact h j hj (by omega)
theorem noq_mem {s : ByteArray} (h : NoQ s s.size) : ∀ x ∈ s.data.toList, x ≠ 34 := by
  intro x hx
  obtain ⟨j, hj, rfl⟩ := List.mem_iff_getElem.1 hx
  have hl : s.data.toList.length = s.size := by rw [Array.length_toList]; rfl
  exact h j (by omega) (by omega)

theorem text_facts (a0 a1 a2 : ByteArray) (hq : NoQ a1 a1.size) :
    ∃ R : ByteArray, (a0 ++ { data := #[34] } ++ a1 ++ { data := #[34] } ++ a2).extract (a0.size + 1) (a0 ++ { data := #[34] } ++ a1 ++ { data := #[34] } ++ a2).size = R ∧
      Lib.indexByte R.data.toList 34 = (a1.size : Nat) ∧ a1.size ≤ R.size ∧ R.extract 0 a1.size = a1 ∧ R.size = a1.size + 1 + a2.size ∧
      (a0 ++ { data := #[34] } ++ a1 ++ { data := #[34] } ++ a2).size = a0.size + 1 + a1.size + 1 + a2.size := by
  have hl : a1.data.toList.length = a1.size := by rw [Array.length_toList]; rfl
  have hl0 : a0.data.toList.length = a0.size := by rw [Array.length_toList]; rfl
  have hl2 : a2.data.toList.length = a2.size := by rw [Array.length_toList]; rfl
  have hT : (a0 ++ { data := #[34] } ++ a1 ++ { data := #[34] } ++ a2).data.toList = a0.data.toList ++ [34] ++ a1.data.toList ++ [34] ++ a2.data.toList := by
    simp [ByteArray.data_append]
  have hTs : (a0 ++ { data := #[34] } ++ a1 ++ { data := #[34] } ++ a2).size = a0.size + 1 + a1.size + 1 + a2.size := by
    have : (a0 ++ { data := #[34] } ++ a1 ++ { data := #[34] } ++ a2).data.toList.length = (a0 ++ { data := #[34] } ++ a1 ++ { data := #[34] } ++ a2).size := by rw [Array.length_toList]; rfl
    rw [← this, hT]
    simp only [List.length_append, List.length_cons, List.length_nil, hl, hl0, hl2]
  have hRl : (a1.data.toList ++ 34 :: a2.data.toList).length = a1.size + 1 + a2.size := by
    simp only [List.length_append, List.length_cons, hl, hl2]; omega
  refine ⟨⟨(a1.data.toList ++ 34 :: a2.data.toList).toArray⟩, ?_, ?_, ?_, ?_, ?_, hTs⟩
  · apply ByteArray.ext
    apply Array.toList_inj.1
    rw [Lib.extract_data, hT, hTs]
    have e1 : (a0.data.toList ++ [34] ++ a1.data.toList ++ [34] ++ a2.data.toList) = (a0.data.toList ++ [34]) ++ (a1.data.toList ++ 34 :: a2.data.toList) := by simp
    have e2 : (a0.data.toList ++ [34]).length = a0.size + 1 := by simp [hl0]
    rw [e1, ← e2, List.drop_left, e2, List.take_of_length_le (by omega)]
  · show Lib.indexByte (a1.data.toList ++ 34 :: a2.data.toList) 34 = _
    rw [ibl_at _ _ _ (noq_mem hq), hl]
  · show _ ≤ (a1.data.toList ++ 34 :: a2.data.toList).length
    omega
  · apply ByteArray.ext
    apply Array.toList_inj.1
    rw [Lib.extract_data]
    show ((a1.data.toList ++ 34 :: a2.data.toList).drop 0).take (a1.size - 0) = _
    rw [List.drop_zero, Nat.sub_zero, ← hl, List.take_left]
  · exact hRl

set_option maxHeartbeats 1000000 in
theorem walk (a0 a1 a2 : ByteArray) (w0 : a0.size ≤ maxLen) (w1 : a1.size ≤ maxLen) (w2 : a2.size ≤ maxLen) (w : World) :
    Calls Try.prog 3 #[.string a0, .string a1, .string a2] w fun e w' => e = .returned (.bool true) ∧ Below w.heap.size w w' := by
  unfold maxLen at w0 w1 w2
  by_cases hbig : 1048576 < a0.size + a1.size + a2.size
  · go_enter Try.func3, Try.ntmps3
    go_wp2
    all_goals
      go_ret
      exact ⟨rfl, Below.refl _ _⟩
  · go_enter Try.func3, Try.ntmps3
    go_wp2
    go_loop [7] (fun i => ∃ k : Nat, k ≤ a1.size ∧ i = .int .i64 k ∧ NoQ a1 k) (fun i => a1.size - (intOf i).toNat)
    case atStart => exact ⟨0, Nat.zero_le _, rfl, fun j h h0 => absurd h0 (by omega)⟩
    case round =>
      obtain ⟨k, hk, rfl, hq⟩ := hrel
      by_cases hlt : k < a1.size
      · by_cases hc : a1[k] = 34
        · have q : ((a1[k].toNat : Int) == 34) = true := by rw [hc]; rfl
          clear hc
          go_wp2
          go_ret
          exact ⟨rfl, Below.refl _ _⟩
        · have q : ((a1[k].toNat : Int) == 34) = false := by
            rw [beq_eq_false_iff_ne]; intro e; exact hc (UInt8.toNat_inj.1 (by show _ = 34; omega))
          have hq' := noq_succ hq hlt hc
          clear hc
          go_wp2
          go_round
          case rel => exact ⟨k + 1, by omega, by go_num, hq'⟩
          case measure => simp [intOf]; omega
      · have hkk : k = a1.size := by omega
        subst hkk
        obtain ⟨R, r1, r2, r3, r4, r5, r6⟩ := text_facts a0 a1 a2 hq
        go_wp2_with fail
        generalize a0 ++ { data := #[34] } ++ a1 ++ { data := #[34] } ++ a2 = T at *
        have c0 : (w.alloc (.cells #[.string T, .int .i64 (a0.size : Int)] 24)).cell? ⟨w.heap.size, 0, none⟩ = some (.string T) := by simp
        have c1 : (w.alloc (.cells #[.string T, .int .i64 (a0.size : Int)] 24)).cell? ⟨w.heap.size, 1, none⟩ = some (.int .i64 (a0.size : Int)) := by simp
        have cf : (w.alloc (.cells #[.string T, .int .i64 (a0.size : Int)] 24)).frozen? ⟨w.heap.size, 1, none⟩ = false := by simp
        refine (quoted w.heap.size a0.size a1.size T R _ c0 c1 cf (by omega) (by omega) r1 r2 r3 (by omega)).mono ?_
        rintro e w3 ⟨rfl, q, hw3⟩
        rw [r4]
        have c3 : w3.cell? ⟨w.heap.size, 1, none⟩ = some (.int .i64 ((a0.size : Int) + ((a1.size : Int) + 2))) := by
          have e3 : w3.cell? ⟨w.heap.size, 1, none⟩ = ((w.alloc (.cells #[.string T, .int .i64 (a0.size : Int)] 24)).setCell ⟨w.heap.size, 1, none⟩ (.int .i64 ((a0.size : Int) + ((a1.size : Int) + 2)))).cell? ⟨w.heap.size, 1, none⟩ := by rw [hw3]; rfl
          rw [e3, World.setCell_alloc_at _ _ _ _ _ rfl]; simp
        have hb : Below w.heap.size w w3 := by
          rw [hw3]
          exact below_drewN (((Below.refl _ _).alloc (Nat.le_refl _) _).setCell (p := ⟨w.heap.size, 1, none⟩) (Nat.le_refl _) _) _
        have hsum : ((a0.size : Int) + ((a1.size : Int) + 2) == (a0.size : Int) + (a1.size : Int) + 2) = true := by rw [beq_iff_eq]; omega
        clear hw3 c0 c1 cf r1 r2 r3 r4 r5 r6
        go_wp2
        go_ret
        exact ⟨rfl, hb⟩

end Go.Proofs.Qxb6002363a.sc
