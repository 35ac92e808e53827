/- zzB1splitBarePlus: the walk. -/
import Derived.Test.Qxb6001361aRdnG
namespace Go.Proofs.Qxb6001361a.dn
open Go.RowKit

def SPost (Q : List (List UInt8)) (w : World) (e : Ending) (w' : World) : Prop := ∃ (ao : Option Addr) (c : Nat), e = .returned (.slice ao Q.length c) ∧ Strs w' ao (Q.map str) ∧ Below w.heap.size w w'

theorem spost_own {Q : List (List UInt8)} {w w' : World} {v : Value} {n : Nat} (hn : n = Q.length) (hq : Q ≠ []) (hown : w'.ownsRow w.heap.size 9 1 v n (Q.map encStr)) (hb : Below w.heap.size w w') : SPost Q w (.returned v) w' := by
  subst hn
  rcases hown.2 with ⟨_, h0⟩ | ⟨g, cap, cur, rfl, r⟩
  · exact absurd (List.eq_nil_of_length_eq_zero h0) hq
  · refine ⟨_, cap, rfl, ?_, hb⟩
    have h : w'.ownsRow w.heap.size 9 1 (.slice (some ⟨g, 0, none⟩) (Q.map str).length cap) (Q.map str).length ((Q.map str).map Value.string) := by
      rw [List.length_map, List.map_map]
      exact hown
    exact strs_own h

set_option maxRecDepth 100000 in
set_option maxHeartbeats 2000000 in
theorem zz28 (s : ByteArray) (hs : s.size ≤ 8000000000000) (w : World) :
    Calls Try.prog 28 #[.string s] w fun e w' => SPost (sp s.data.toList []) w e w' := by
  have hl : s.data.toList.length = s.size := by rw [Array.length_toList]; rfl
  have HL : Hid (s.data.toList.length = s.size) := hl
  have HG : Hid (∀ k (h : k < s.size) (h' : k < s.data.toList.length), s.data.toList[k] = s[k]) := fun k h h' => rfl
  clear hl
  obtain ⟨i0, hi, hz0, hz1, hz2⟩ := info_parts info9
  go_enter Try.func28, Try.ntmps28
  go_wp2
  go_loopw [3, 4, 5] (fun ov sv i wr => ∃ (k st : Nat) (P : List (List UInt8)), st ≤ k ∧ st ≤ s.size ∧ k ≤ s.size + 1 ∧ sv = .int .i64 st ∧ i = .int .i64 k ∧ P.length ≤ st ∧ P ++ sp (s.data.toList.drop k) (cut s.data.toList st k) = sp s.data.toList [] ∧ wr.ownsRow w.heap.size 9 1 ov P.length (P.map encStr) ∧ Below w.heap.size w wr) (fun _ _ i _ => s.size + 1 - (intOf i).toNat)
  case atStart => exact ⟨0, 0, [], by omega, by omega, by omega, rfl, rfl, by simp, by simp [cut], World.ownsRow_nil _ _ _ _, Below.refl _ _⟩
  case round =>
    obtain ⟨k, st, P, hst, hss, hk, rfl, rfl, hP, hR, hown, hbel⟩ := hrel
    have HR : Hid (P ++ sp (s.data.toList.drop k) (cut s.data.toList st k) = sp s.data.toList []) := hR
    clear hR
    have hsz1 := hbel.size
    by_cases hlt : k < s.size
    · have hkl : k < s.data.toList.length := by rw [HL.out]; exact hlt
      by_cases h92 : s[k] = 92
      · have q0 : ((s[k].toNat : Int) == 92) = true := by rw [h92]; rfl
        have R' : Hid (P ++ sp (s.data.toList.drop (k + 2)) (cut s.data.toList st (k + 2)) = sp s.data.toList []) := sp_step_slash _ st k P _ hst hkl (by rw [HG.out k hlt hkl]; exact h92) HR.out
        clear h92
        go_wp2
        go_roundw
        case rel => exact ⟨k + 2, st, P, by omega, hss, by omega, rfl, by go_num, hP, R'.out, hown, hbel⟩
        case measure => simp [intOf]; omega
      · have q0 : ((s[k].toNat : Int) == 92) = false := by rw [beq_eq_false_iff_ne]; intro e; exact h92 (UInt8.toNat_inj.1 (by show _ = 92; omega))
        by_cases h43 : s[k] = 43
        · have q1 : ((s[k].toNat : Int) == 43) = true := by rw [h43]; rfl
          have R' : Hid ((P ++ [cut s.data.toList st k]) ++ sp (s.data.toList.drop (k + 1)) (cut s.data.toList (k + 1) (k + 1)) = sp s.data.toList []) := sp_step_plus _ st k P _ hkl (by rw [HG.out k hlt hkl]; exact h43) HR.out
          have E : Hid ((P ++ [cut s.data.toList st k]).map encStr = P.map encStr ++ [.string (s.extract st k)]) := by unfold Hid; rw [List.map_append, str_cut]; rfl
          clear h92 h43
          go_wp2_with (at_builtin; refine wpList_append_own _ rfl (.tmp 20) (.tmp 25) 29 rfl w.heap.size 9 i0 (.string ⟨#[]⟩) 1 16 Try.underlying29 hi hz0 hz1 hz2 rfl (by decide) _ _ _ rfl (hown.alloc _) ⟨wr.heap.size, 0, none⟩ 1 1 [.string (s.extract st k)] rfl rfl ?d1 ?d2 ?d3 ?d4 ?d5 ?d6)
          case d1 => exact cell_one_new _ _ _
          case d2 => intro u hu; simp at hu; subst hu; rfl
          case d3 => unfold maxLen; omega
          case d4 => omega
          case d5 => simp; omega
          case d6 =>
            intro v' w' hown' hgrow' _
            have hbel' := (hbel.alloc hsz1 _).grown hgrow' (by simp; omega) (fun b hb => (hown.lt b hb).1)
            rw [← E.out] at hown'
            have hP' : (P ++ [cut s.data.toList st k]).length = P.length + 1 := by simp
            rw [← hP'] at hown'
            have hP2 : (P ++ [cut s.data.toList st k]).length ≤ k + 1 := by omega
            clear hgrow' hown hbel hP'
            go_wp2
            go_roundw
            case rel => exact ⟨k + 1, k + 1, P ++ [cut s.data.toList st k], by omega, by omega, by omega, by go_num, by go_num, hP2, R'.out, hown', hbel'⟩
            case measure => simp [intOf]; omega
        · have q1 : ((s[k].toNat : Int) == 43) = false := by rw [beq_eq_false_iff_ne]; intro e; exact h43 (UInt8.toNat_inj.1 (by show _ = 43; omega))
          have R' : Hid (P ++ sp (s.data.toList.drop (k + 1)) (cut s.data.toList st (k + 1)) = sp s.data.toList []) := sp_step_other _ st k P _ hst hkl (by rw [HG.out k hlt hkl]; exact h92) (by rw [HG.out k hlt hkl]; exact h43) HR.out
          clear h92 h43
          go_wp2
          go_roundw
          case rel => exact ⟨k + 1, st, P, by omega, hss, by omega, rfl, by go_num, hP, R'.out, hown, hbel⟩
          case measure => simp [intOf]; omega
    · have R' : Hid (P ++ [cut s.data.toList st s.data.toList.length] = sp s.data.toList []) := sp_step_end _ st k P _ (by rw [HL.out]; omega) HR.out
      have E : Hid ((sp s.data.toList []).map encStr = P.map encStr ++ [.string (s.extract st s.size)]) := by unfold Hid; rw [← R'.out, List.map_append, str_cut, HL.out]; rfl
      have EL : Hid (P.length + 1 = (sp s.data.toList []).length) := by unfold Hid; rw [← R'.out]; simp
      have EN : Hid (sp s.data.toList [] ≠ []) := by unfold Hid; rw [← R'.out]; simp
      go_wp2_with (at_builtin; refine wpList_append_own _ rfl (.tmp 37) (.tmp 41) 29 rfl w.heap.size 9 i0 (.string ⟨#[]⟩) 1 16 Try.underlying29 hi hz0 hz1 hz2 rfl (by decide) _ _ _ rfl (hown.alloc _) ⟨wr.heap.size, 0, none⟩ 1 1 [.string (s.extract st s.size)] rfl rfl ?e1 ?e2 ?e3 ?e4 ?e5 ?e6)
      case e1 => exact cell_one_new _ _ _
      case e2 => intro u hu; simp at hu; subst hu; rfl
      case e3 => unfold maxLen; omega
      case e4 => omega
      case e5 => simp; omega
      case e6 =>
        intro v' w' hown' hgrow' _
        have hbel' := (hbel.alloc hsz1 _).grown hgrow' (by simp; omega) (fun b hb => (hown.lt b hb).1)
        rw [← E.out] at hown'
        have hfin := spost_own EL.out EN.out hown' hbel'
        clear hgrow' hown hbel hown'
        go_wp2
        go_ret
        exact hfin

end Go.Proofs.Qxb6001361a.dn
