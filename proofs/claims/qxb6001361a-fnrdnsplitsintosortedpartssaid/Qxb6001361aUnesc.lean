/- zzB1hexVal, zzB1unescapeValue: the escaped text of v reads back as v. -/
import Derived.Test.Qxb6001361aZav
import Derived.Test.Qxb6001361aPlain2
namespace Go.Proofs.Qxb6001361a.dn
open Go.RowKit

theorem hv_no (c : Int) (h : NoHex c) (h0 : 0 ≤ c) (h1 : c ≤ 255) (w : World) :
    Calls Try.prog 33 #[.int .u8 c] w fun e w' => e = .returned (.tuple #[.int .u8 0, .bool false]) ∧ w' = w := by
  obtain ⟨a, b, d⟩ := h
  go_enter Try.func33, Try.ntmps33
  go_wp2
  all_goals
    go_ret2
    exact ⟨rfl, rfl⟩

theorem hv_lo (c : Int) (h0 : 48 ≤ c) (h1 : c ≤ 57) (w : World) :
    Calls Try.prog 33 #[.int .u8 c] w fun e w' => e = .returned (.tuple #[.int .u8 (c - 48), .bool true]) ∧ w' = w := by
  go_enter Try.func33, Try.ntmps33
  go_wp2
  go_ret2
  exact ⟨rfl, rfl⟩
theorem hv_hi (c : Int) (h0 : 97 ≤ c) (h1 : c ≤ 102) (w : World) :
    Calls Try.prog 33 #[.int .u8 c] w fun e w' => e = .returned (.tuple #[.int .u8 (c - 97 + 10), .bool true]) ∧ w' = w := by
  go_enter Try.func33, Try.ntmps33
  go_wp2
  go_ret2
  exact ⟨rfl, rfl⟩

theorem digs_cases : ∀ m, m < 16 → ((digs.getD m 0).toNat = 48 + m ∧ m < 10) ∨ ((digs.getD m 0).toNat = 87 + m ∧ 10 ≤ m) := by decide
theorem hv_dig (m : Nat) (hm : m < 16) (c : Int) (hc : c = (digs.getD m 0).toNat) (w : World) :
    Calls Try.prog 33 #[.int .u8 c] w fun e w' => e = .returned (.tuple #[.int .u8 (m : Int), .bool true]) ∧ w' = w := by
  rcases digs_cases m hm with ⟨h, h2⟩ | ⟨h, h2⟩
  · rw [h] at hc
    have e : c - 48 = (m : Int) := by omega
    rw [← e]
    exact hv_lo c (by omega) (by omega) w
  · rw [h] at hc
    have e : c - 97 + 10 = (m : Int) := by omega
    rw [← e]
    exact hv_hi c (by omega) (by omega) w

theorem or_nib : ∀ n : Nat, n < 256 → bits BinOp.or IntKind.u8 ((n : Int) / 16 * 16) ((n : Int) % 16) = n := by decide +kernel

/-- an owned row of bytes that is not nil, read as a string -/
theorem conv_own {w : World} {B : Nat} {ov : Value} {n : Nat} {l : List UInt8} (hown : w.ownsRow B 5 1 ov n (Lib.byteCells l)) (hne : ov ≠ .slice none 0 0) :
    ∃ g cap, ov = .slice (some ⟨g, 0, none⟩) n cap ∧ (convert 44 9 (.slice (some ⟨g, 0, none⟩) n cap)).run Try.prog w = .ok (.string (str l)) w := by
  have hl : n = l.length := by have := hown.1; rw [Lib.byteCells_length] at this; omega
  rcases hown.2 with ⟨h, _⟩ | ⟨g, cap, cur, rfl, r⟩
  · exact absurd h hne
  · refine ⟨g, cap, rfl, ?_⟩
    subst hl
    refine run_convert_bytes_back (P := Try.prog) w 44 9 5 ⟨g, 0, none⟩ cap l Try.underlying44 Try.underlying5 Try.underlying9 (fun j hj => ?_)
    exact hown.cells (g := g) rfl j (.int .u8 (l[j].toNat : Int)) (by simp [Lib.byteCells, hj])

set_option maxRecDepth 100000 in
set_option maxHeartbeats 2000000 in
theorem unesc (v : List UInt8) (s : ByteArray) (hs : s.data.toList = esc v) (hbd : s.size ≤ 10000000000000) (w : World) :
    Calls Try.prog 12 #[.string s] w fun e w' => e = .returned (.tuple #[.string (str v), .bool true]) ∧ Below w.heap.size w w' := by
  have hsz : s.size = (esc v).length := by rw [← hs, Array.length_toList]; rfl
  have hvs : v.length ≤ s.size := by rw [hsz]; exact (escL_len v.length v 0).1
  have HS : Hid (s.data.toList = esc v) := hs
  have HZ : Hid (s.size = (esc v).length) := hsz
  clear hs hsz
  obtain ⟨i0, hi, hz0, hz1, hz2⟩ := info_parts info5
  go_enter Try.func12, Try.ntmps12
  go_wp2_with (at_make; refine wpList_make_own _ rfl _ _ 44 rfl w.heap.size 5 i0 (.int .u8 0) 1 Try.underlying44 hi hz0 hz1 .i64 .i64 _ s.size rfl rfl rfl (by rw [hz2]; omega) (by unfold maxLen; omega) (Nat.le_refl _) ?_; intro w1 hown1 hgrow1)
  have hb1 : Below w.heap.size w w1 := (Below.refl _ _).grown hgrow1 (Nat.le_refl _) (fun k hk => by cases hk)
  clear hgrow1
  go_loopw [4, 5] (fun ov i wr => ∃ k : Nat, k ≤ v.length ∧ i = .int .i64 (pos v k) ∧ pos v k ≤ s.size ∧ ov ≠ .slice none 0 0 ∧ wr.ownsRow w.heap.size 5 1 ov k (Lib.byteCells (v.take k)) ∧ Below w.heap.size w wr) (fun _ i _ => s.size - (intOf i).toNat)
  case atStart => exact ⟨0, Nat.zero_le _, by rw [pos_zero]; rfl, by rw [pos_zero]; omega, (fun h => by cases h), hown1, hb1⟩
  case round =>
    obtain ⟨k, hk, rfl, hps, hne, hown, hbel⟩ := hrel
    clear hown1 hb1
    by_cases hlt : k < v.length
    · have hps2 : pos v (k + 1) ≤ s.size := by
        rw [HZ.out, ← pos_end]
        exact pos_le v (k + 1) v.length (by omega) (Nat.le_refl _)
      have hrow : Hid (Lib.byteCells (v.take (k + 1)) = Lib.byteCells (v.take k) ++ [.int .u8 (v[k].toNat : Int)]) := by
        unfold Hid; rw [List.take_succ_eq_append_getElem hlt]; simp only [Lib.byteCells, List.map_append, List.map_cons, List.map_nil]
      have hkb : k ≤ s.size := by omega
      have hsz1 := hbel.size
      rcases kinds v.length k v[k] with ⟨he, hn⟩ | he | ⟨he, hn⟩
      · obtain ⟨b0, b1, e0, e1, e2⟩ := at_sl v s HS.out k hlt _ he
        rw [← e1] at hn hrow
        rw [e2] at hps2
        have E2 : Hid (pos v (k + 1) = pos v k + 2) := e2
        have q0 : ((s[pos v k].toNat : Int) != 92) = false := by rw [e0]; decide
        clear he e0 e1 e2 HS HZ
        generalize hp : pos v k = p at *
        clear hp
        go_wp2_with fail
        refine (hv_no _ hn (by omega) (byte_le _) _).mono ?_
        rintro e w2 ⟨rfl, rfl⟩
        go_wp2_with (at_builtin; refine wpList_append_own _ rfl (.tmp 69) (.tmp 71) 44 rfl w.heap.size 5 i0 (.int .u8 0) 1 1 Try.underlying44 hi hz0 hz1 hz2 rfl (by decide) _ _ _ rfl (hown.alloc _) ⟨w2.heap.size, 0, none⟩ 1 1 [.int .u8 (s[p + 1].toNat : Int)] rfl rfl ?d1 ?d2 ?d3 ?d4 ?d5 ?d6)
        case d1 => exact cell_one_new _ _ _
        case d2 => intro u hu; simp at hu; subst hu; rfl
        case d3 => unfold maxLen; omega
        case d4 => omega
        case d5 => simp; omega
        case d6 =>
          intro v' w' hown' hgrow' hne'
          have hbel' := (hbel.alloc hsz1 _).grown hgrow' (by simp; omega) (fun b hb => (hown.lt b hb).1)
          rw [← hrow.out] at hown'
          clear hgrow' hown hbel hrow hne
          go_wp2
          go_roundw
          case rel => exact ⟨k + 1, by omega, by rw [E2.out]; go_num, by rw [E2.out]; omega, by simpa using hne', hown', hbel'⟩
          case measure => simp [intOf]; omega
      · obtain ⟨b0, b1, b2, e0, e1, e2, e3⟩ := at_out v s HS.out k hlt _ _ he
        rw [e3] at hps2
        have E2 : Hid (pos v (k + 1) = pos v k + 3) := e3
        have q0 : ((s[pos v k].toNat : Int) != 92) = false := by rw [e0]; decide
        have c1 : v[k].toNat / 16 < 16 := by have := v[k].toNat_lt; omega
        have c2 : v[k].toNat % 16 < 16 := by omega
        have H1 : Hid (((s[pos v k + 1].toNat : Nat) : Int) = (digs.getD (v[k].toNat / 16) 0).toNat) := by unfold Hid; rw [e1]
        have H2 : Hid (((s[pos v k + 2].toNat : Nat) : Int) = (digs.getD (v[k].toNat % 16) 0).toNat) := by unfold Hid; rw [e2]
        clear he e0 e1 e2 e3 HS HZ
        generalize hp : pos v k = p at *
        clear hp
        go_wp2_with fail
        refine (hv_dig _ c1 _ H1.out _).mono ?_
        rintro e w2 ⟨rfl, rfl⟩
        go_wp2_with fail
        refine (hv_dig _ c2 _ H2.out _).mono ?_
        rintro e w3 ⟨rfl, rfl⟩
        have hor := or_nib v[k].toNat (by have := v[k].toNat_lt; omega)
        go_wp2_with (at_builtin; refine wpList_append_own _ rfl (.tmp 60) (.tmp 65) 44 rfl w.heap.size 5 i0 (.int .u8 0) 1 1 Try.underlying44 hi hz0 hz1 hz2 rfl (by decide) _ _ _ rfl (hown.alloc _) ⟨w3.heap.size, 0, none⟩ 1 1 [.int .u8 (v[k].toNat : Int)] rfl rfl ?d1 ?d2 ?d3 ?d4 ?d5 ?d6)
        case d1 => exact cell_one_new _ _ _
        case d2 => intro u hu; simp at hu; subst hu; rfl
        case d3 => unfold maxLen; omega
        case d4 => omega
        case d5 => simp; omega
        case d6 =>
          intro v' w' hown' hgrow' hne'
          have hbel' := (hbel.alloc hsz1 _).grown hgrow' (by simp; omega) (fun b hb => (hown.lt b hb).1)
          rw [← hrow.out] at hown'
          clear hgrow' hown hbel hrow hne
          go_wp2
          go_roundw
          case rel => exact ⟨k + 1, by omega, by rw [E2.out]; go_num, by rw [E2.out]; omega, by simpa using hne', hown', hbel'⟩
          case measure => simp [intOf]; omega
      · obtain ⟨b0, e0, e2⟩ := at_pl v s HS.out k hlt _ he
        rw [← e0] at hrow hn
        rw [e2] at hps2
        have E2 : Hid (pos v (k + 1) = pos v k + 1) := e2
        have q0 : ((s[pos v k].toNat : Int) != 92) = true := by
          rw [bne_iff_ne]; intro h; exact hn (UInt8.toNat_inj.1 (by show _ = 92; omega))
        clear he e0 e2 HS HZ hn
        generalize hp : pos v k = p at *
        clear hp
        go_wp2_with (at_builtin; refine wpList_append_own _ rfl (.tmp 24) (.tmp 26) 44 rfl w.heap.size 5 i0 (.int .u8 0) 1 1 Try.underlying44 hi hz0 hz1 hz2 rfl (by decide) _ _ _ rfl (hown.alloc _) ⟨wr.heap.size, 0, none⟩ 1 1 [.int .u8 (s[p].toNat : Int)] rfl rfl ?d1 ?d2 ?d3 ?d4 ?d5 ?d6)
        case d1 => exact cell_one_new _ _ _
        case d2 => intro u hu; simp at hu; subst hu; rfl
        case d3 => unfold maxLen; omega
        case d4 => omega
        case d5 => simp; omega
        case d6 =>
          intro v' w' hown' hgrow' hne'
          have hbel' := (hbel.alloc hsz1 _).grown hgrow' (by simp; omega) (fun b hb => (hown.lt b hb).1)
          rw [← hrow.out] at hown'
          clear hgrow' hown hbel hrow hne
          go_wp2
          go_roundw
          case rel => exact ⟨k + 1, by omega, by rw [E2.out]; go_num, by rw [E2.out]; omega, by simpa using hne', hown', hbel'⟩
          case measure => simp [intOf]; omega
    · have hkv : k = v.length := by omega
      have hp : pos v k = s.size := by rw [hkv, pos_end, HZ.out]
      have htk : v.take k = v := by rw [hkv, List.take_length]
      rw [htk] at hown
      rw [hp]
      clear htk hp hkv hps
      obtain ⟨g, cap, hv, hconv⟩ := conv_own hown hne
      rw [hv]
      go_wp2
      go_ret2
      exact ⟨rfl, hbel⟩

end Go.Proofs.Qxb6001361a.dn
