/- appendRDN, ZZAppendRDN: the parts, sorted, with a plus sign between each two. -/
import Derived.Test.Qxb6001361aRdnE
import Derived.Test.Qxb6001361aPart
import Derived.Test.Qxb6001361aShelfB
import Derived.Sort.OwnSorted
namespace Go.Proofs.Qxb6001361a.dn
open Go.RowKit

abbrev Pair := ByteArray × ByteArray
/-- what is written for a pair -/
def pt (p : Pair) : List UInt8 := part p.1.data.toList p.2.data.toList
def sorted (ps : List Pair) : List (List UInt8) := (ps.map pt).mergeSort fun x y => decide (x ≤ y)
def outp (ps : List Pair) : List UInt8 := Lib.join (sorted ps) [43]

theorem own_keep {w w' : World} {B e size : Nat} {v : Value} {n : Nat} {xs : List Value} (h : w.ownsRow B e size v n xs) (hb : Below w.heap.size w w') : w'.ownsRow B e size v n xs := by
  refine ⟨h.1, ?_⟩
  rcases h.2 with h2 | ⟨g, cap, cur, hv, hg, hh, r⟩
  · exact Or.inl h2
  · exact Or.inr ⟨g, cap, cur, hv, hg, by rw [hb.block g (lt_of_heap hh)]; exact hh, r⟩

theorem sorted_one (p : Pair) : outp [p] = pt p := by
  simp [outp, sorted, Lib.join]

set_option maxRecDepth 100000 in
set_option maxHeartbeats 2000000 in
theorem ard1 (B bb : Nat) (ao : Option Addr) (c : Nat) (p : Pair) (w : World) (hB : B ≤ bb) (hbk : w.heap[bb]? = some (.cells #[.pointer none, .slice none 0 0] 46 (0, 0))) (hBw : B ≤ w.heap.size)
    (hp : Prs w ao [p]) (hlen : p.1.size + 3 * p.2.size ≤ 10000000000000) :
    Calls Try.prog 37 #[.pointer (some ⟨bb, 0, none⟩), .slice ao 1 c] w fun e w' => e = .returned (.tuple #[]) ∧ Bd B bb (outp [p]) w w' := by
  obtain ⟨b, off, rfl, q0, q1⟩ := hp.cell (i := 0) (by simp)
  simp only [Nat.zero_mul, Nat.add_zero, List.getElem_cons_zero] at q0 q1
  go_enter Try.func37, Try.ntmps37
  go_wp2_with fail
  refine (ap B bb p.1 p.2 w hB hbk hBw hlen).mono ?_
  rintro e w1 ⟨rfl, h1⟩
  have hfin : Bd B bb (outp [p]) w w1 := by rw [sorted_one]; exact h1.bd
  go_wp2
  refine bodyPost_ret (results_none rfl _ _ _) rfl ?_
  exact ⟨rfl, hfin⟩

theorem join_c (ps : List Pair) (w : World) (B : Nat) (S : List (List UInt8)) (hS : S.length = ps.length) (hSe : S = sorted ps)
    (hown : w.ownsRow B 9 1 (.slice (some ⟨B, 0, none⟩) ps.length ps.length) ps.length (S.map encStr)) (hout : (outp ps).length ≤ 10000000000000) (hn : ps.length ≤ 1048576) :
    Calls Try.prog 44 #[.slice (some ⟨B, 0, none⟩) ps.length ps.length, .string ⟨#[43]⟩] w fun e w' => e = .returned (.string (str (outp ps))) ∧ Below w.heap.size w w' := by
  have hm : (S.map str).map (·.data.toList) = S := by
    rw [List.map_map]
    conv => rhs; rw [← List.map_id S]
    apply List.map_congr_left
    intro x _; rfl
  have hl : (S.map str).length = ps.length := by simp [hS]
  have hlt : B < w.heap.size := by
    have := hown.lt B rfl
    exact this.2
  have hc : ∀ (j : Nat) x, (S.map str)[j]? = some x → w.cell? ⟨B, 0 + j, none⟩ = some (.string x) := by
    intro j x hx
    have hj : j < ps.length := by
      have := (List.getElem?_eq_some_iff.1 hx).1
      rw [hl] at this; exact this
    rw [Nat.zero_add, hown.cellAt j (by omega)]
    rw [List.getElem?_map] at hx ⊢
    cases hs : S[j]? with
    | none => rw [hs] at hx; cases hx
    | some y => rw [hs] at hx; simp at hx; subst hx; rfl
  have h := Try.strings_Join B 0 ps.length (S.map str) ⟨#[43]⟩ w hc hlt (by rw [hl]; omega) (by rw [hl]; exact Nat.le_refl _) (by rw [hm, hSe]; show (outp ps).length ≤ _; omega)
  rw [hl, hm, hSe] at h
  exact h

set_option maxRecDepth 100000 in
set_option maxHeartbeats 4000000 in
theorem ard (B bb : Nat) (ao : Option Addr) (c : Nat) (ps : List Pair) (w : World) (hB : B ≤ bb) (hbk : w.heap[bb]? = some (.cells #[.pointer none, .slice none 0 0] 46 (0, 0))) (hBw : B ≤ w.heap.size)
    (hp : Prs w ao ps) (hlen : ∀ p ∈ ps, p.1.size + 3 * p.2.size ≤ 10000000000000) (hn : ps.length ≤ 1048576) (hn1 : ps.length ≠ 1) (hout : (outp ps).length ≤ 10000000000000) :
    Calls Try.prog 37 #[.pointer (some ⟨bb, 0, none⟩), .slice ao ps.length c] w fun e w' => e = .returned (.tuple #[]) ∧ Bd B bb (outp ps) w w' := by
  obtain ⟨i0, hi, hz0, hz1, hz2⟩ := info_parts info9
  have hne1 : ((ps.length : Int) == 1) = false := by rw [beq_eq_false_iff_ne]; omega
  have hL : (ps.map pt).length = ps.length := by simp
  have HL : Hid ((ps.map pt).length = ps.length) := hL
  clear hL
  go_enter Try.func37, Try.ntmps37
  go_wp2_with (at_make; refine wpList_make_full _ rfl _ _ 29 rfl w.heap.size 9 i0 (.string ⟨#[]⟩) 1 Try.underlying29 hi hz0 hz1 .i64 .i64 _ _ ps.length rfl rfl rfl rfl (by rw [hz2]; omega) (by unfold maxLen; omega) (Nat.le_refl _) ?_; intro w1 hown1 hgrow1)
  have hb1 : Below w.heap.size w w1 := (Below.refl _ _).grown hgrow1 (Nat.le_refl _) (fun k hk => by cases hk)
  have hI : w1.ownsRow w.heap.size 9 1 (.slice (some ⟨w.heap.size, 0, none⟩) ps.length ps.length) ps.length (gb encStr (.string ⟨#[]⟩) (ps.map pt) 0) := by
    rw [gb_zero, HL.out, ← toList_madeCells_one]; rw [Nat.mul_one] at hown1; exact hown1
  clear hgrow1 hown1
  go_loopw [21] (fun i wr => ∃ k : Nat, k ≤ ps.length ∧ i = .int .i64 k ∧ wr.ownsRow w.heap.size 9 1 (.slice (some ⟨w.heap.size, 0, none⟩) ps.length ps.length) ps.length (gb encStr (.string ⟨#[]⟩) (ps.map pt) k) ∧ Below w.heap.size w wr) (fun i _ => ps.length - (intOf i).toNat)
  case atStart => exact ⟨0, Nat.zero_le _, rfl, hI, hb1⟩
  case round =>
    obtain ⟨k, hk, rfl, hown, hbel⟩ := hrel
    clear hI hb1
    by_cases hlt : k < ps.length
    · obtain ⟨b, off, rfl, q0, q1⟩ := (hp.keep hbel).cell hlt
      have hlk := hlen ps[k] (List.getElem_mem hlt)
      have hpk : Hid ((ps.map pt)[k]'(by rw [HL.out]; exact hlt) = pt ps[k]) := by unfold Hid; simp
      have hX : ((wr.alloc (.cells #[.string ps[k].1, .string ps[k].2] 59)).alloc (.cells #[.pointer none, .slice none 0 0] 46)).heap[wr.heap.size + 1]? = some (.cells #[.pointer none, .slice none 0 0] 46 (0, 0)) := by
        have := heap_alloc_new (wr.alloc (.cells #[.string ps[k].1, .string ps[k].2] 59)) (.cells #[.pointer none, .slice none 0 0] 46)
        simpa using this
      have hbX : Below wr.heap.size wr ((wr.alloc (.cells #[.string ps[k].1, .string ps[k].2] 59)).alloc (.cells #[.pointer none, .slice none 0 0] 46)) := ((Below.refl _ _).alloc (Nat.le_refl _) _).alloc (by simp) _
      go_wp2_with fail
      generalize ps[k] = p at *
      generalize (wr.alloc (.cells #[.string p.1, .string p.2] 59)).alloc (.cells #[.pointer none, .slice none 0 0] 46) = X at *
      refine (ap wr.heap.size (wr.heap.size + 1) p.1 p.2 X (by omega) hX hbX.size hlk).mono ?_
      rintro e w2 ⟨rfl, h2⟩
      clear hX q0 q1
      go_wp2_with fail
      refine (strI wr.heap.size (wr.heap.size + 1) _ X w2 h2.bd).mono ?_
      rintro e w3 ⟨rfl, h3⟩
      have hb3 : Below wr.heap.size wr w3 := hbX.trans h3
      clear h2 h3 hbX
      have hown3 := own_keep hown hb3
      have hbel3 : Below w.heap.size w w3 := hbel.trans (hb3.mono hbel.size)
      have q2 : w3.cell? ⟨w.heap.size, k, none⟩ = some (.string ⟨#[]⟩) := by rw [hown3.cellAt k (by omega)]; exact gb_at _ _ _ _ (by rw [HL.out]; exact hlt)
      have q3 : w3.frozen? ⟨w.heap.size, k, none⟩ = false := hown3.frozenAt k
      have st := (hown3.stored k (encStr (pt p))).1
      rw [← hpk.out, gb_set _ _ _ _ (by rw [HL.out]; exact hlt), hpk.out] at st
      have R2 : Below w.heap.size w (w3.setCell ⟨w.heap.size, k, none⟩ (encStr (pt p))) := hbel3.setCell (p := ⟨w.heap.size, k, none⟩) (Nat.le_refl _) _
      clear hown3 hown hbel hbel3 hb3
      go_wp2
      go_roundw
      case rel => exact ⟨k + 1, by omega, by go_num, st, R2⟩
      case measure => simp [intOf]; omega
    · have hkk : k = (ps.map pt).length := by rw [HL.out]; omega
      rw [hkk, gb_end] at hown
      clear hkk
      rcases hown.2 with ⟨hv, _⟩ | ⟨g, cap, cur, hv, hbase, hb, h1, h2, h3, h4⟩
      · cases hv
      · cases hv
        have hH : Sort.Holds encStr wr w.heap.size 0 (ps.map pt).toArray := holds_of_block hb (by rw [HL.out]; simpa using h4)
        have hgl : w.heap.size < wr.heap.size := lt_of_heap hb
        have C := Try.slices_Sort_string w.heap.size 0 ps.length (ps.map pt) wr hH hgl (by rw [HL.out]; omega)
        rw [HL.out] at C
        go_wp2_with fail
        refine C.mono ?_
        rintro e w2 ⟨rfl, nn, os, hw2⟩
        have hSl : (sorted ps).length = (ps.map pt).length := by unfold sorted; simp
        have hown2 := ownsRow_sorted (w := wr) (n := nn) (os := os) (ss := ps.map pt) (ts := sorted ps) hSl hbase hb (by rw [HL.out]; exact h1) h2 h3
        have hbel2 := hbel.grown (grownBy_sorted (w := wr) (g := w.heap.size) (n := nn) (os := os) (sorted ps).toArray) hbel.size (fun j hj => by cases hj; exact Nat.le_refl _)
        have hw2' : w2 = Sort.grow (Sort.putRow encStr (Sort.ahead wr nn) w.heap.size 0 (sorted ps).toArray) os := hw2
        rw [← hw2', HL.out] at hown2
        rw [← hw2'] at hbel2
        clear hw2 hw2' hH C hb hown h1 h2 h3 h4 hbase hbel
        rw [HL.out] at hSl
        have CJ := join_c ps w2 w.heap.size (sorted ps) hSl rfl hown2 hout hn
        have HJ : Hid (Calls Try.prog 44 #[.slice (some ⟨w.heap.size, 0, none⟩) ps.length ps.length, .string ⟨#[43]⟩] w2 fun e w' => e = .returned (.string (str (outp ps))) ∧ Below w2.heap.size w2 w') := CJ
        clear CJ hSl
        go_wp2_with fail
        refine HJ.out.mono ?_
        rintro e w3 ⟨rfl, hb3⟩
        have hbel3 : Below w.heap.size w w3 := hbel2.trans (hb3.mono hbel2.size)
        have hBd : Bd B bb [] w w3 := ⟨Or.inl ⟨hB, .slice none 0 0, by rw [hbel3.block bb (lt_of_heap hbk)]; exact hbk, World.ownsRow_nil _ _ _ _, by simp [Value.ownBlock]⟩, hbel3.mono hBw, hBw⟩
        clear HJ hown2 hbel2 hb3 hbel3
        go_wp2_with fail
        refine (wsI B bb [] (str (outp ps)) w w3 hBd (by rw [str_size]; simp; omega)).mono ?_
        rintro e w4 ⟨rfl, h4⟩
        have hfin : Bd B bb (outp ps) w w4 := h4
        go_wp2
        go_end0
        exact ⟨rfl, hfin⟩

theorem ard_any (B bb : Nat) (ao : Option Addr) (c : Nat) (ps : List Pair) (w : World) (hB : B ≤ bb) (hbk : w.heap[bb]? = some (.cells #[.pointer none, .slice none 0 0] 46 (0, 0))) (hBw : B ≤ w.heap.size)
    (hp : Prs w ao ps) (hlen : ∀ p ∈ ps, p.1.size + 3 * p.2.size ≤ 10000000000000) (hn : ps.length ≤ 1048576) (hout : (outp ps).length ≤ 10000000000000) :
    Calls Try.prog 37 #[.pointer (some ⟨bb, 0, none⟩), .slice ao ps.length c] w fun e w' => e = .returned (.tuple #[]) ∧ Bd B bb (outp ps) w w' := by
  by_cases h1 : ps.length = 1
  · match ps, h1 with
    | [p], _ => exact ard1 B bb ao c p w hB hbk hBw hp (hlen p (by simp))
  · exact ard B bb ao c ps w hB hbk hBw hp hlen hn h1 hout

set_option maxHeartbeats 1000000 in
theorem zar (ao : Option Addr) (c : Nat) (ps : List Pair) (w : World)
    (hp : Prs w ao ps) (hlen : ∀ p ∈ ps, p.1.size + 3 * p.2.size ≤ 10000000000000) (hn : ps.length ≤ 1048576) (hout : (outp ps).length ≤ 10000000000000) :
    Calls Try.prog 25 #[.slice ao ps.length c] w fun e w' => e = .returned (.string (str (outp ps))) ∧ Below w.heap.size w w' := by
  have f0 := fresh_heap w
  have hb0 : Below w.heap.size w (w.alloc (.cells #[.pointer none, .slice none 0 0] 46)) := (Below.refl _ _).alloc (Nat.le_refl _) _
  have C := ard_any w.heap.size w.heap.size ao c ps _ (Nat.le_refl _) f0 hb0.size (hp.keep hb0) hlen hn hout
  have HC : Hid (Calls Try.prog 37 #[.pointer (some ⟨w.heap.size, 0, none⟩), .slice ao ps.length c] (w.alloc (.cells #[.pointer none, .slice none 0 0] 46)) fun e w' => e = .returned (.tuple #[]) ∧ Bd w.heap.size w.heap.size (outp ps) (w.alloc (.cells #[.pointer none, .slice none 0 0] 46)) w') := C
  clear C f0 hp hlen
  go_enter Try.func25, Try.ntmps25
  go_wp2_with fail
  refine HC.out.mono ?_
  rintro e w1 ⟨rfl, h1⟩
  clear HC
  go_wp2_with fail
  refine (strI w.heap.size w.heap.size _ _ _ h1).mono ?_
  rintro e w2 ⟨rfl, h2⟩
  have hb : Below w.heap.size w w2 := hb0.trans h2
  go_wp2
  go_ret
  exact ⟨rfl, hb⟩

end Go.Proofs.Qxb6001361a.dn
