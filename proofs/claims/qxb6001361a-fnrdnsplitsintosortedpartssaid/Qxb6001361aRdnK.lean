/- zzB1sortPairs: a sorted permutation, in memory of its own or handed through. -/
import Derived.Test.Qxb6001361aRdnJ
import Derived.Deep.RegionWith
namespace Go.Proofs.Qxb6001361a.dn
open Go.RowKit

def MPost (ps : List (ByteArray × ByteArray)) (w : World) (e : Ending) (w' : World) : Prop :=
  ∃ (ao : Option Addr) (c : Nat) (r : List (ByteArray × ByteArray)), e = .returned (.slice ao r.length c) ∧ Prs w' ao r ∧ r.length ≤ c ∧ r.Perm ps ∧ Sorted r ∧ Below w.heap.size w w'

theorem prs_take {w : World} {b off : Nat} {ps : List (ByteArray × ByteArray)} (h : Prs w (some ⟨b, off, none⟩) ps) (m : Nat) : Prs w (some ⟨b, off, none⟩) (ps.take m) := by
  rcases h with rfl | ⟨b', off', e, hc⟩
  · exact Or.inl (by simp)
  · cases e
    refine Or.inr ⟨b, off, rfl, fun i hi => ?_⟩
    have hi' : i < ps.length := by rw [List.length_take] at hi; omega
    have := hc i hi'
    simpa using this
theorem prs_drop {w : World} {b off : Nat} {ps : List (ByteArray × ByteArray)} (h : Prs w (some ⟨b, off, none⟩) ps) (m : Nat) : Prs w (some ⟨b, off + m * 2, none⟩) (ps.drop m) := by
  rcases h with rfl | ⟨b', off', e, hc⟩
  · exact Or.inl (by simp)
  · cases e
    refine Or.inr ⟨b, off + m * 2, rfl, fun i hi => ?_⟩
    have hi' : m + i < ps.length := by rw [List.length_drop] at hi; omega
    have := hc (m + i) hi'
    have e1 : off + (m + i) * 2 = off + m * 2 + i * 2 := by omega
    rw [e1] at this
    simpa using this

theorem own_keepK {w w' : World} {B e size : Nat} {v : Value} {n : Nat} {xs : List Value} (h : w.ownsRow B e size v n xs) (hb : Below w.heap.size w w') : w'.ownsRow B e size v n xs := by
  refine ⟨h.1, ?_⟩
  rcases h.2 with h2 | ⟨g, cap, cur, hv, hg, hh, r⟩
  · exact Or.inl h2
  · exact Or.inr ⟨g, cap, cur, hv, hg, by rw [hb.block g (Array.getElem?_eq_some_iff.1 hh).1]; exact hh, r⟩
theorem pair_one (a b : ByteArray) : ∀ u ∈ [Value.string a, Value.string b], u.oneCell' = true := by
  intro u hu
  simp at hu
  rcases hu with rfl | rfl <;> rfl
theorem mg_left {A Bs O R : List (ByteArray × ByteArray)} {i j : Nat} (hi : i < A.length) (hj : j < Bs.length) (h : less Bs[j] A[i] = false) (hR : O ++ (A.drop i).merge (Bs.drop j) le = R) :
    (O ++ [A[i]]) ++ (A.drop (i + 1)).merge (Bs.drop j) le = R := by
  rw [← hR, List.drop_eq_getElem_cons hi, List.drop_eq_getElem_cons hj, List.cons_merge_cons, if_pos (by unfold le; rw [h]; rfl), List.append_assoc]; rfl
theorem mg_right {A Bs O R : List (ByteArray × ByteArray)} {i j : Nat} (hi : i < A.length) (hj : j < Bs.length) (h : less Bs[j] A[i] = true) (hR : O ++ (A.drop i).merge (Bs.drop j) le = R) :
    (O ++ [Bs[j]]) ++ (A.drop i).merge (Bs.drop (j + 1)) le = R := by
  rw [← hR, List.drop_eq_getElem_cons hi, List.drop_eq_getElem_cons hj, List.cons_merge_cons, if_neg (by unfold le; rw [h]; exact Bool.false_ne_true), List.append_assoc]; rfl

theorem mg_rest {A Bs O R : List (ByteArray × ByteArray)} {i j : Nat} (hi : i < A.length) (hj : j = Bs.length) (hR : O ++ (A.drop i).merge (Bs.drop j) le = R) :
    (O ++ [A[i]]) ++ (A.drop (i + 1)).merge (Bs.drop j) le = R := by
  have e : Bs.drop j = [] := List.drop_of_length_le (by omega)
  rw [e, List.merge_right] at hR
  rw [e, List.merge_right, ← hR, List.drop_eq_getElem_cons hi, List.append_assoc]; rfl
theorem mg_tail {A Bs O R : List (ByteArray × ByteArray)} {i j : Nat} (hi : i = A.length) (hR : O ++ (A.drop i).merge (Bs.drop j) le = R) : O ++ Bs.drop j = R := by
  have e : A.drop i = [] := List.drop_of_length_le (by omega)
  rw [e, List.nil_merge] at hR
  exact hR
theorem mg_one {Bs O R : List (ByteArray × ByteArray)} {j : Nat} (hj : j < Bs.length) (hR : O ++ Bs.drop j = R) : (O ++ [Bs[j]]) ++ Bs.drop (j + 1) = R := by
  rw [← hR, List.drop_eq_getElem_cons hj, List.append_assoc]; rfl
theorem mpost_own {ps O R : List (ByteArray × ByteArray)} {w w2 wr : World} {v : Value} (hRO : O = R) (h0 : 0 < O.length) (sR : Sorted R) (pR : R.Perm ps) (hown : wr.ownsRow w2.heap.size 41 2 v O.length (pcs O)) (hb12 : Below w.heap.size w w2) (hbel : Below w2.heap.size w2 wr) : MPost ps w (.returned v) wr := by
  subst hRO
  rcases hown.2 with ⟨_, hz⟩ | ⟨g, cap, cur, rfl, _, _, hcap, _⟩
  · omega
  · exact ⟨_, cap, O, rfl, prs_own hown, hcap, pR, sR, hb12.trans (hbel.mono hb12.size)⟩

theorem way_out (i j a b : Nat) (_hi : i ≤ a) (_hj : j ≤ b) (h : i = a ∨ j = b) : (i < a ∧ decide (j < b) = false ∧ decide ((j : Int) < (b : Int)) = false) ∨ (¬ i < a ∧ decide (i < a) = false ∧ decide ((i : Int) < (a : Int)) = false) := by
  by_cases h1 : i < a
  · exact Or.inl ⟨h1, by simp; omega, by simp; omega⟩
  · exact Or.inr ⟨h1, by simp; omega, by simp; omega⟩

theorem info41 : (Try.prog.info? 41).map (fun i => (i.zero, i.size, i.bytes)) = some (some (.agg #[.string ⟨#[]⟩, .string ⟨#[]⟩]), 2, 32) := by kernel_rfl

theorem short_sorted (ps : List (ByteArray × ByteArray)) (h : ps.length ≤ 1) : Sorted ps := by
  match ps, h with
  | [], _ => exact List.Pairwise.nil
  | [p], _ => exact List.pairwise_singleton _ _

theorem sort_short (ps : List (ByteArray × ByteArray)) (h : ps.length ≤ 1) (ao : Option Addr) (c : Nat) (w : World) (hp : Prs w ao ps) (hc : ps.length ≤ c) :
    Calls Try.prog 29 #[.slice ao ps.length c] w fun e w' => MPost ps w e w' := by
  have hS := short_sorted ps h
  go_enter Try.func29, Try.ntmps29
  go_wp2
  go_ret
  exact ⟨ao, c, ps, rfl, hp, hc, List.Perm.refl _, hS, Below.refl _ _⟩

set_option maxRecDepth 100000 in
set_option maxHeartbeats 4000000 in
theorem sort_step (n : Nat) (ih : ∀ (ps : List (ByteArray × ByteArray)) (_ : ps.length ≤ n) (ao : Option Addr) (c : Nat) (w : World) (_ : Prs w ao ps) (_ : ps.length ≤ c) (_ : ps.length ≤ 1048576), Calls Try.prog 29 #[.slice ao ps.length c] w fun e w' => MPost ps w e w')
    (ps : List (ByteArray × ByteArray)) (h1 : ¬ ps.length ≤ 1) (hn : ps.length ≤ n + 1) (ao : Option Addr) (c : Nat) (w : World) (hp : Prs w ao ps) (hc : ps.length ≤ c) (hN : ps.length ≤ 1048576) :
    Calls Try.prog 29 #[.slice ao ps.length c] w fun e w' => MPost ps w e w' := by
  have IH : Hid (∀ (ps : List (ByteArray × ByteArray)) (_ : ps.length ≤ n) (ao : Option Addr) (c : Nat) (w : World) (_ : Prs w ao ps) (_ : ps.length ≤ c) (_ : ps.length ≤ 1048576), Calls Try.prog 29 #[.slice ao ps.length c] w fun e w' => MPost ps w e w') := ih
  clear ih
  obtain ⟨b, off, rfl, _⟩ := hp.cell (i := 0) (by omega)
  have hl1 : (ps.take (ps.length / 2)).length = ps.length / 2 := by rw [List.length_take]; omega
  have hl2 : (ps.drop (ps.length / 2)).length = ps.length - ps.length / 2 := by rw [List.length_drop]
  have C1 : Hid (Calls Try.prog 29 #[.slice (some ⟨b, off, none⟩) (ps.length / 2) c] w fun e w' => MPost (ps.take (ps.length / 2)) w e w') := by
    have := IH.out (ps.take (ps.length / 2)) (by rw [hl1]; omega) (some ⟨b, off, none⟩) c w (prs_take hp _) (by rw [hl1]; omega) (by rw [hl1]; omega)
    rw [hl1] at this
    exact this
  have C2 : Hid (∀ W : World, Below w.heap.size w W → Calls Try.prog 29 #[.slice (some ⟨b, off + ps.length / 2 * 2, none⟩) (ps.length - ps.length / 2) (c - ps.length / 2)] W fun e w' => MPost (ps.drop (ps.length / 2)) W e w') := by
    intro W hW
    have := IH.out (ps.drop (ps.length / 2)) (by rw [hl2]; omega) (some ⟨b, off + ps.length / 2 * 2, none⟩) (c - ps.length / 2) W (prs_drop (hp.keep hW) _) (by rw [hl2]; omega) (by rw [hl2]; omega)
    rw [hl2] at this
    exact this
  have HP : Hid (ps.take (ps.length / 2) ++ ps.drop (ps.length / 2) = ps) := List.take_append_drop _ _
  have HL1 : Hid ((ps.take (ps.length / 2)).length = ps.length / 2) := hl1
  have HL2 : Hid ((ps.drop (ps.length / 2)).length = ps.length - ps.length / 2) := hl2
  clear hl1 hl2 IH hp
  go_enter Try.func29, Try.ntmps29
  go_wp2_with fail
  refine C1.out.mono ?_
  rintro e w1 ⟨a1, c1, A, rfl, pA, hcA, permA, sA, hb1⟩
  go_wp2_with fail
  refine (C2.out _ hb1).mono ?_
  rintro e w2 ⟨a2, c2, Bs, rfl, pB, hcB, permB, sB, hb2⟩
  clear C1 C2
  obtain ⟨i0, hi, hz0, hz1, hz2⟩ := info_parts info41
  have pA2 := pA.keep hb2
  have hb12 : Below w.heap.size w w2 := hb1.trans (hb2.mono hb1.size)
  have lA := permA.length_eq
  have lB := permB.length_eq
  rw [HL1.out] at lA
  rw [HL2.out] at lB
  have hAB : A.length + Bs.length = ps.length := by omega
  obtain ⟨R, hR⟩ : ∃ R, A.merge Bs le = R := ⟨_, rfl⟩
  have sR : Sorted R := by rw [← hR]; exact sorted_merge A Bs sA sB
  have pR : R.Perm ps := by
    rw [← hR]
    refine (List.merge_perm_append le).trans ?_
    have := permA.append permB
    rw [HP.out] at this
    exact this
  have HR : Hid (A.merge Bs le = R) := hR
  have lR : R.length = ps.length := pR.length_eq
  clear hR pA hb1 hb2 permA permB sA sB lA lB HL1 HL2 HP
  go_wp2_with (at_make; refine wpList_make_own _ rfl _ _ 39 rfl w2.heap.size 41 i0 (.agg #[.string ⟨#[]⟩, .string ⟨#[]⟩]) 2 Try.underlying39 hi hz0 hz1 .i64 .i64 _ ps.length rfl rfl rfl (by rw [hz2]; omega) (by unfold maxLen; omega) (Nat.le_refl _) ?_; intro w3 hown3 hgrow3)
  have hb3 : Below w2.heap.size w2 w3 := (Below.refl _ _).grown hgrow3 (Nat.le_refl _) (fun k hk => by cases hk)
  clear hgrow3
  go_loopw [6, 7, 8] (fun ov iv jv wr => ∃ (i j : Nat) (O : List (ByteArray × ByteArray)), i ≤ A.length ∧ j ≤ Bs.length ∧ iv = .int .i64 i ∧ jv = .int .i64 j ∧ O.length = i + j ∧ O ++ (A.drop i).merge (Bs.drop j) le = R ∧ wr.ownsRow w2.heap.size 41 2 ov O.length (pcs O) ∧ Below w2.heap.size w2 wr) (fun _ iv jv _ => A.length + Bs.length - (intOf iv).toNat - (intOf jv).toNat)
  case atStart => exact ⟨0, 0, [], by omega, by omega, rfl, rfl, rfl, by simpa using HR.out, hown3, hb3⟩
  case round =>
    obtain ⟨i, j, O, hiA, hjB, rfl, rfl, hO, hRel, hown, hbel⟩ := hrel
    clear hown3 hb3
    have HRel : Hid (O ++ (A.drop i).merge (Bs.drop j) le = R) := hRel
    clear hRel
    by_cases hboth : i < A.length ∧ j < Bs.length
    · obtain ⟨hiA2, hjB2⟩ := hboth
      obtain ⟨ba, fa, rfl, qa1, qa2⟩ := (pA2.keep hbel).cell hiA2
      obtain ⟨bB, fB, rfl, qb1, qb2⟩ := (pB.keep hbel).cell hjB2
      cases hless : less Bs[j] A[i]
      · have CL : Hid (∀ W : World, Calls Try.prog 38 #[.agg #[.string Bs[j].1, .string Bs[j].2], .agg #[.string A[i].1, .string A[i].2]] W fun e w' => e = .returned (.bool false) ∧ Below W.heap.size W w') := by
          intro W
          rw [← hless]
          exact zz38 Bs[j] A[i] W
        have HRel2 : Hid ((O ++ [A[i]]) ++ (A.drop (i + 1)).merge (Bs.drop (j)) le = R) := mg_left hiA2 hjB2 hless HRel.out
        go_wp2_with fail
        go_region_with (go_at_call 38; refine (CL.out _).mono ?_; rintro e w4 ⟨rfl, hb4⟩)
        all_goals
          have hb4' : Below wr.heap.size wr w4 := ⟨hb4.os, hb4.tape, hb4.output, hb4.size, hb4.block⟩
          have hown4 := own_keepK hown hb4'
          have hbel4 : Below w2.heap.size w2 w4 := hbel.trans (hb4'.mono hbel.size)
          have q1' := (hb4'.cell (World.block_lt_of_cell? wr _ qa1)).trans qa1
          have q2' := (hb4'.cell (World.block_lt_of_cell? wr _ qa2)).trans qa2
          have hsz4 := hbel4.size
          clear hb4 hb4' qa1 qa2 qb1 qb2 hown hbel CL
          go_wp2_with (at_builtin; refine wpList_append_own _ rfl (.tmp 55) (.tmp 60) 39 rfl w2.heap.size 41 i0 (.agg #[.string ⟨#[]⟩, .string ⟨#[]⟩]) 2 32 Try.underlying39 hi hz0 hz1 hz2 rfl (by decide) _ _ _ rfl (hown4.alloc _) ⟨w4.heap.size, 0, none⟩ 1 1 [.string A[i].1, .string A[i].2] rfl rfl (cell_two_new _ _ _ _) (pair_one _ _) (by unfold maxLen; omega) (by omega) (by simp; omega) ?_; intro v5 w5 hown5 hgrow5 _)
          have hbel5 := (hbel4.alloc (by omega) _).grown hgrow5 (by simp; omega) (fun b hb => (hown4.lt b hb).1)
          have EO : (O ++ [A[i]]).length = O.length + 1 := by simp
          have EC : pcs (O ++ [A[i]]) = pcs O ++ [.string A[i].1, .string A[i].2] := by rw [pcs_app]; rfl
          rw [← EO, ← EC] at hown5
          have EO2 : (O ++ [A[i]]).length = i + 1 + (j) := by rw [EO]; omega
          clear EO EC hgrow5
          go_wp2
          go_roundw
          case rel => exact ⟨i + 1, j, O ++ [A[i]], by omega, by omega, by go_num, by go_num, EO2, HRel2.out, hown5, hbel5⟩
          case measure => simp [intOf]; omega
      · have CL : Hid (∀ W : World, Calls Try.prog 38 #[.agg #[.string Bs[j].1, .string Bs[j].2], .agg #[.string A[i].1, .string A[i].2]] W fun e w' => e = .returned (.bool true) ∧ Below W.heap.size W w') := by
          intro W
          rw [← hless]
          exact zz38 Bs[j] A[i] W
        have HRel2 : Hid ((O ++ [Bs[j]]) ++ (A.drop (i)).merge (Bs.drop (j + 1)) le = R) := mg_right hiA2 hjB2 hless HRel.out
        go_wp2_with fail
        go_region_with (go_at_call 38; refine (CL.out _).mono ?_; rintro e w4 ⟨rfl, hb4⟩)
        all_goals
          have hb4' : Below wr.heap.size wr w4 := ⟨hb4.os, hb4.tape, hb4.output, hb4.size, hb4.block⟩
          have hown4 := own_keepK hown hb4'
          have hbel4 : Below w2.heap.size w2 w4 := hbel.trans (hb4'.mono hbel.size)
          have q1' := (hb4'.cell (World.block_lt_of_cell? wr _ qb1)).trans qb1
          have q2' := (hb4'.cell (World.block_lt_of_cell? wr _ qb2)).trans qb2
          have hsz4 := hbel4.size
          clear hb4 hb4' qa1 qa2 qb1 qb2 hown hbel CL
          go_wp2_with (at_builtin; refine wpList_append_own _ rfl (.tmp 46) (.tmp 51) 39 rfl w2.heap.size 41 i0 (.agg #[.string ⟨#[]⟩, .string ⟨#[]⟩]) 2 32 Try.underlying39 hi hz0 hz1 hz2 rfl (by decide) _ _ _ rfl (hown4.alloc _) ⟨w4.heap.size, 0, none⟩ 1 1 [.string Bs[j].1, .string Bs[j].2] rfl rfl (cell_two_new _ _ _ _) (pair_one _ _) (by unfold maxLen; omega) (by omega) (by simp; omega) ?_; intro v5 w5 hown5 hgrow5 _)
          have hbel5 := (hbel4.alloc (by omega) _).grown hgrow5 (by simp; omega) (fun b hb => (hown4.lt b hb).1)
          have EO : (O ++ [Bs[j]]).length = O.length + 1 := by simp
          have EC : pcs (O ++ [Bs[j]]) = pcs O ++ [.string Bs[j].1, .string Bs[j].2] := by rw [pcs_app]; rfl
          rw [← EO, ← EC] at hown5
          have EO2 : (O ++ [Bs[j]]).length = i + (j + 1) := by rw [EO]; omega
          clear EO EC hgrow5
          go_wp2
          go_roundw
          case rel => exact ⟨i, j + 1, O ++ [Bs[j]], by omega, by omega, by go_num, by go_num, EO2, HRel2.out, hown5, hbel5⟩
          case measure => simp [intOf]; omega
    · have hex : i = A.length ∨ j = Bs.length := by omega
      clear hboth
      rcases way_out i j A.length Bs.length hiA hjB hex with ⟨hi2, hd1, hd2⟩ | ⟨hi2, hd1, hd2⟩
      all_goals
        obtain ⟨wo, rfl⟩ : ∃ wo : World, wo = wr := ⟨_, rfl⟩
        go_wp2
        go_loopw [6, 7] (fun ov iv wr => ∃ (i2 : Nat) (O : List (ByteArray × ByteArray)), i2 ≤ A.length ∧ iv = .int .i64 i2 ∧ O.length = i2 + j ∧ (i2 = A.length ∨ j = Bs.length) ∧ O ++ (A.drop i2).merge (Bs.drop j) le = R ∧ wr.ownsRow w2.heap.size 41 2 ov O.length (pcs O) ∧ Below w2.heap.size w2 wr) (fun _ iv _ => A.length - (intOf iv).toNat)
        case atStart => exact ⟨i, O, hiA, rfl, hO, hex, HRel.out, hown, hbel⟩
        case round =>
          obtain ⟨i2, O2, hi2A, rfl, hO2, hex2, hRel2, hown2, hbel2⟩ := hrel
          clear hown hbel HRel hO hex
          have HRel2 : Hid (O2 ++ (A.drop i2).merge (Bs.drop j) le = R) := hRel2
          clear hRel2
          have hsz2 := hbel2.size
          by_cases hlt2 : i2 < A.length
          · obtain ⟨ba, fa, rfl, q1', q2'⟩ := (pA2.keep hbel2).cell hlt2
            have hjE : j = Bs.length := by omega
            have HRel5 : Hid ((O2 ++ [A[i2]]) ++ (A.drop (i2 + 1)).merge (Bs.drop j) le = R) := mg_rest hlt2 hjE HRel2.out
            have HJ : Hid (j = Bs.length) := hjE
            clear hjE hex2
            go_wp2_with (at_builtin; refine wpList_append_own _ rfl (.tmp 68) (.tmp 73) 39 rfl w2.heap.size 41 i0 (.agg #[.string ⟨#[]⟩, .string ⟨#[]⟩]) 2 32 Try.underlying39 hi hz0 hz1 hz2 rfl (by decide) _ _ _ rfl (hown2.alloc _) ⟨wr.heap.size, 0, none⟩ 1 1 [.string A[i2].1, .string A[i2].2] rfl rfl (cell_two_new _ _ _ _) (pair_one _ _) (by unfold maxLen; omega) (by omega) (by simp; omega) ?_; intro v5 w5 hown5 hgrow5 _)
            have hbel5 := (hbel2.alloc (by omega) _).grown hgrow5 (by simp; omega) (fun b hb => (hown2.lt b hb).1)
            have EO : (O2 ++ [A[i2]]).length = O2.length + 1 := by simp
            have EC : pcs (O2 ++ [A[i2]]) = pcs O2 ++ [.string A[i2].1, .string A[i2].2] := by rw [pcs_app]; rfl
            rw [← EO, ← EC] at hown5
            have EO2 : (O2 ++ [A[i2]]).length = i2 + 1 + j := by rw [EO]; omega
            clear EO EC hgrow5 hown2 hbel2
            go_wp2
            go_roundw
            case rel => first | exact ⟨i2 + 1, O2 ++ [A[i2]], by omega, by go_num, EO2, Or.inr HJ.out, HRel5.out, hown5, hbel5⟩ | ((repeat apply Exists.intro); exact ⟨⟨i2 + 1, O2 ++ [A[i2]], by omega, by go_num, EO2, Or.inr HJ.out, HRel5.out, hown5, hbel5⟩, rfl⟩)
            case measure => simp [intOf]; omega
          · have hi3 : i2 = A.length := by omega
            have hOR : Hid (O2 ++ Bs.drop j = R) := mg_tail hi3 HRel2.out
            have hO3 : Hid (O2.length = A.length + j) := by unfold Hid; omega
            clear HRel2 hO2 hi3 hex2
            obtain ⟨wp, rfl⟩ : ∃ wp : World, wp = wr := ⟨_, rfl⟩
            go_wp2
            go_loopw [6, 8] (fun ov jv wr => ∃ (j2 : Nat) (O : List (ByteArray × ByteArray)), j2 ≤ Bs.length ∧ jv = .int .i64 j2 ∧ O.length = A.length + j2 ∧ O ++ Bs.drop j2 = R ∧ wr.ownsRow w2.heap.size 41 2 ov O.length (pcs O) ∧ Below w2.heap.size w2 wr) (fun _ jv _ => Bs.length - (intOf jv).toNat)
            case atStart => exact ⟨j, O2, hjB, rfl, hO3.out, hOR.out, hown2, hbel2⟩
            case round =>
              obtain ⟨j2, O, hj2, rfl, hO4, hRel4, hown4, hbel4⟩ := hrel
              clear hown2 hbel2 hOR hO3
              have HRel4 : Hid (O ++ Bs.drop j2 = R) := hRel4
              clear hRel4
              have hsz4 := hbel4.size
              by_cases hlt4 : j2 < Bs.length
              · obtain ⟨bB, fB, rfl, q1', q2'⟩ := (pB.keep hbel4).cell hlt4
                have HRel5 : Hid ((O ++ [Bs[j2]]) ++ Bs.drop (j2 + 1) = R) := mg_one hlt4 HRel4.out
                go_wp2_with (at_builtin; refine wpList_append_own _ rfl (.tmp 81) (.tmp 86) 39 rfl w2.heap.size 41 i0 (.agg #[.string ⟨#[]⟩, .string ⟨#[]⟩]) 2 32 Try.underlying39 hi hz0 hz1 hz2 rfl (by decide) _ _ _ rfl (hown4.alloc _) ⟨wr.heap.size, 0, none⟩ 1 1 [.string Bs[j2].1, .string Bs[j2].2] rfl rfl (cell_two_new _ _ _ _) (pair_one _ _) (by unfold maxLen; omega) (by omega) (by simp; omega) ?_; intro v5 w5 hown5 hgrow5 _)
                have hbel5 := (hbel4.alloc (by omega) _).grown hgrow5 (by simp; omega) (fun b hb => (hown4.lt b hb).1)
                have EO : (O ++ [Bs[j2]]).length = O.length + 1 := by simp
                have EC : pcs (O ++ [Bs[j2]]) = pcs O ++ [.string Bs[j2].1, .string Bs[j2].2] := by rw [pcs_app]; rfl
                rw [← EO, ← EC] at hown5
                have EO2 : (O ++ [Bs[j2]]).length = A.length + (j2 + 1) := by rw [EO]; omega
                clear EO EC hgrow5 hown4 hbel4
                go_wp2
                go_roundw
                case rel => first | exact ⟨j2 + 1, O ++ [Bs[j2]], by omega, by go_num, EO2, HRel5.out, hown5, hbel5⟩ | ((repeat apply Exists.intro); exact ⟨⟨j2 + 1, O ++ [Bs[j2]], by omega, by go_num, EO2, HRel5.out, hown5, hbel5⟩, rfl⟩)
                case measure => simp [intOf]; omega
              · have hj3 : j2 = Bs.length := by omega
                have hRO : O = R := by
                  have := HRel4.out
                  rw [hj3, List.drop_length, List.append_nil] at this
                  exact this
                have hfin := mpost_own (w2 := w2) (wr := wr) hRO (by omega) sR pR hown4 hb12 hbel4
                clear hj3 hRO
                go_wp2
                go_ret
                exact hfin

theorem sort_all : ∀ (n : Nat) (ps : List (ByteArray × ByteArray)) (_ : ps.length ≤ n) (ao : Option Addr) (c : Nat) (w : World) (_ : Prs w ao ps) (_ : ps.length ≤ c) (_ : ps.length ≤ 1048576), Calls Try.prog 29 #[.slice ao ps.length c] w fun e w' => MPost ps w e w' := by
  intro n
  induction n with
  | zero => intro ps h ao c w hp hc _; exact sort_short ps (by omega) ao c w hp hc
  | succ n ih =>
    intro ps h ao c w hp hc hN
    by_cases h1 : ps.length ≤ 1
    · exact sort_short ps h1 ao c w hp hc
    · exact sort_step n ih ps h1 h ao c w hp hc hN
theorem zz29 (ps : List (ByteArray × ByteArray)) (ao : Option Addr) (c : Nat) (w : World) (hp : Prs w ao ps) (hc : ps.length ≤ c) (hN : ps.length ≤ 1048576) :
    Calls Try.prog 29 #[.slice ao ps.length c] w fun e w' => MPost ps w e w' := sort_all ps.length ps (Nat.le_refl _) ao c w hp hc hN

end Go.Proofs.Qxb6001361a.dn
