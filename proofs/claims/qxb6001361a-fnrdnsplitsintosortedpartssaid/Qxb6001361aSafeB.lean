/- zzB1escapedValueIsSafe on the escaped text of a value. -/
import Derived.Test.Qxb6001361aSafe
namespace Go.Proofs.Qxb6001361a.dn
open Go.RowKit

theorem byte_ne {a b : UInt8} {m : Int} (h : a ≠ b) (hm : m = b.toNat) : ((a.toNat : Int) == m) = false := by
  rw [beq_eq_false_iff_ne, hm]; intro e; exact h (UInt8.toNat_inj.1 (by omega))

set_option maxRecDepth 100000 in
set_option maxHeartbeats 2000000 in
theorem safe (v : List UInt8) (s : ByteArray) (hs : s.data.toList = esc v) (hbd : s.size ≤ 10000000000000) (w : World) :
    Calls Try.prog 14 #[.string s] w fun e w' => e = .returned (.bool true) ∧ w' = w := by
  have hsz : s.size = (esc v).length := by rw [← hs, Array.length_toList]; rfl
  have HS : Hid (s.data.toList = esc v) := hs
  have HZ : Hid (s.size = (esc v).length) := hsz
  clear hs hsz
  go_enter Try.func14, Try.ntmps14
  go_wp2
  go_loop [4, 5] (fun b i => ∃ (k : Nat) (bb : Bool), k ≤ v.length ∧ b = .bool bb ∧ i = .int .i64 (pos v k) ∧ pos v k ≤ s.size ∧ (k = v.length → bb = false)) (fun _ i => s.size - (intOf i).toNat)
  case atStart => exact ⟨0, false, Nat.zero_le _, rfl, by rw [pos_zero]; rfl, by rw [pos_zero]; omega, fun _ => rfl⟩
  case round =>
    obtain ⟨k, bb, hk, rfl, rfl, hps, hend⟩ := hrel
    by_cases hlt : k < v.length
    · have hps2 : pos v (k + 1) ≤ s.size := by
        rw [HZ.out, ← pos_end]
        exact pos_le v (k + 1) v.length (by omega) (Nat.le_refl _)
      have hk0 : k ≤ pos v k := pos_mono v k hk
      clear hend
      rcases kinds2 v.length k v[k] with ⟨he, hn⟩ | he | ⟨he, hn1, hn2, hn3, hn4, hn5⟩
      · obtain ⟨b0, b1, e0, e1, e2⟩ := at_sl v s HS.out k hlt _ he
        rw [← e1] at hn
        rw [e2] at hps2
        have E2 : Hid (pos v (k + 1) = pos v k + 2) := e2
        have q0 : (s[pos v k].toNat : Int) = 92 := by rw [e0]; rfl
        clear he e0 e1 e2 HS HZ
        generalize hp : pos v k = p at *
        clear hp
        rcases hn with hn | hn | hn
        · have r : (s[p + 1].toNat : Int) = 32 := by rw [hn]; rfl
          clear hn
          go_wp2_with fail
          refine (sp_no 32 (by unfold Spec; omega) _).mono ?_
          rintro e w' ⟨rfl, rfl⟩
          go_wp2
          go_round
          case rel => exact ⟨k + 1, false, by omega, rfl, by rw [E2.out]; go_num, by rw [E2.out]; omega, fun _ => rfl⟩
          case measure => simp [intOf]; omega
        · have r : (s[p + 1].toNat : Int) = 35 := by rw [hn]; rfl
          clear hn
          go_wp2_with fail
          refine (sp_no 35 (by unfold Spec; omega) _).mono ?_
          rintro e w' ⟨rfl, rfl⟩
          go_wp2
          go_round
          case rel => exact ⟨k + 1, false, by omega, rfl, by rw [E2.out]; go_num, by rw [E2.out]; omega, fun _ => rfl⟩
          case measure => simp [intOf]; omega
        · have r := spec_of.2 hn
          clear hn
          go_wp2_with fail
          refine (sp_yes _ r _).mono ?_
          rintro e w' ⟨rfl, rfl⟩
          go_wp2
          go_round
          case rel => exact ⟨k + 1, false, by omega, rfl, by rw [E2.out]; go_num, by rw [E2.out]; omega, fun _ => rfl⟩
          case measure => simp [intOf]; omega
      · obtain ⟨b0, b1, b2, e0, e1, e2, e3⟩ := at_out v s HS.out k hlt _ _ he
        rw [e3] at hps2
        have E2 : Hid (pos v (k + 1) = pos v k + 3) := e3
        have q0 : (s[pos v k].toNat : Int) = 92 := by rw [e0]; rfl
        have c1 : v[k].toNat / 16 < 16 := by have := v[k].toNat_lt; omega
        have c2 : v[k].toNat % 16 < 16 := by omega
        have H1 : LoHex (s[pos v k + 1].toNat : Int) := by rw [e1]; exact digs_lo _ c1
        have H2 : LoHex (s[pos v k + 2].toNat : Int) := by rw [e2]; exact digs_lo _ c2
        clear he e0 e1 e2 e3 HS HZ c1 c2
        generalize hp : pos v k = p at *
        clear hp
        have H3 := lo_notspec H1
        have r1 : ((s[p + 1].toNat : Int) == 32) = false := by rw [beq_eq_false_iff_ne]; intro e; unfold LoHex at H1; omega
        have r2 : ((s[p + 1].toNat : Int) == 35) = false := by rw [beq_eq_false_iff_ne]; intro e; unfold LoHex at H1; omega
        go_wp2_with fail
        refine (sp_no _ H3 _).mono ?_
        rintro e w1 ⟨rfl, rfl⟩
        go_wp2_with fail
        refine (lh_yes _ H1 _).mono ?_
        rintro e w2 ⟨rfl, rfl⟩
        go_wp2_with fail
        refine (lh_yes _ H2 _).mono ?_
        rintro e w3 ⟨rfl, rfl⟩
        go_wp2
        go_round
        case rel => exact ⟨k + 1, false, by omega, rfl, by rw [E2.out]; go_num, by rw [E2.out]; omega, fun _ => rfl⟩
        case measure => simp [intOf]; omega
      · obtain ⟨b0, e0, e2⟩ := at_pl v s HS.out k hlt _ he
        rw [e2] at hps2
        have E2 : Hid (pos v (k + 1) = pos v k + 1) := e2
        have hn1' : ¬ Spec (s[pos v k].toNat : Int) := by rw [e0, spec_of, hn1]; exact Bool.false_ne_true
        have hn2' : 32 ≤ (s[pos v k].toNat : Int) := by rw [e0]; omega
        have hn3' : (s[pos v k].toNat : Int) ≤ 126 := by rw [e0]; omega
        have hn6 : ((s[pos v k].toNat : Int) == 92) = false := by rw [beq_eq_false_iff_ne]; intro e; exact hn1' (by unfold Spec; omega)
        rw [← e0] at hn4 hn5
        clear he e0 e2 HS HZ hn1 hn2 hn3
        have hn7 : k + 1 = v.length → ((s[pos v k].toNat : Int) == 32) = false := fun h => byte_ne (hn5 h) rfl
        have HN7 : Hid (k + 1 = v.length → ((s[pos v k].toNat : Int) == 32) = false) := hn7
        clear hn5 hn7
        by_cases hk00 : k = 0
        · obtain ⟨n1, n2⟩ := hn4 hk00
          have hp0 : pos v k = 0 := by rw [hk00, pos_zero]
          have n1' : ((s[pos v k].toNat : Int) == 32) = false := byte_ne n1 rfl
          have n2' : ((s[pos v k].toNat : Int) == 35) = false := byte_ne n2 rfl
          have hp1 : ((pos v k : Int) == 0) = true := by rw [hp0]; rfl
          clear n1 n2 hn4 hp0 hk00 HN7
          generalize hp : pos v k = p at *
          clear hp
          go_wp2_with fail
          refine (sp_no _ hn1' _).mono ?_
          rintro e w1 ⟨rfl, rfl⟩
          go_wp2
          go_round
          case rel => exact ⟨k + 1, false, by omega, rfl, by rw [E2.out]; go_num, by rw [E2.out]; omega, fun _ => rfl⟩
          case measure => simp [intOf]; omega
        · have hp1 : ((pos v k : Int) == 0) = false := by rw [beq_eq_false_iff_ne]; omega
          clear hn4
          generalize hp : pos v k = p at *
          clear hp
          go_wp2_with fail
          refine (sp_no _ hn1' _).mono ?_
          rintro e w1 ⟨rfl, rfl⟩
          go_wp2
          go_round
          case rel => exact ⟨k + 1, ((s[p].toNat : Int) == 32), by omega, rfl, by rw [E2.out]; go_num, by rw [E2.out]; omega, HN7.out⟩
          case measure => simp [intOf]; omega
    · have hkv : k = v.length := by omega
      have hbb := hend hkv
      subst hbb
      have hp : pos v k = s.size := by rw [hkv, pos_end, HZ.out]
      rw [hp]
      clear hp hkv hps hend
      go_wp2
      go_ret
      exact ⟨rfl, rfl⟩

end Go.Proofs.Qxb6001361a.dn
