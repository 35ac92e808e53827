/- FnRDNSplitsIntoSortedParts: the walk. -/
import Derived.Test.Qxb6001361aRdnP
import Derived.Test.Qxb6001361aSafeB
import Derived.Test.Qxb6001361aLower
import Derived.Deep.DeepCutAuto
import Derived.Deep.RegionWith
import Derived.BigQuiet
namespace Go.Proofs.Qxb6001361a.dn
open Go.RowKit

theorem zip_len (ss0 ss1 : List ByteArray) : (ss0.zip ss1).length = min ss0.length ss1.length := List.length_zip
theorem zip_at (ss0 ss1 : List ByteArray) (i : Nat) (h : i < (ss0.zip ss1).length) : (ss0.zip ss1)[i] = (ss0[i]'(by rw [zip_len] at h; omega), ss1[i]'(by rw [zip_len] at h; omega)) := by simp

theorem tot_at (ss : List ByteArray) (k : Nat) (h : k < ss.length) : ss[k].size ≤ tot ss := by
  have h1 := tot_succ ss k h
  have h2 := tot_le ss (k + 1)
  omega
theorem ib_neg (l : List UInt8) (c : UInt8) : Lib.indexByte l c < 0 → ∀ x ∈ l, x ≠ c := by
  induction l with
  | nil => intro _ x hx; cases hx
  | cons a l ih =>
    intro h x hx
    unfold Lib.indexByte at h
    split at h
    · omega
    · next e =>
      have e' : a ≠ c := by simpa using e
      rcases List.mem_cons.1 hx with rfl | hx
      · exact e'
      · split at h
        · next e2 => exact ih (by rw [beq_iff_eq] at e2; omega) x hx
        · have := Lib.indexByte_ge l c
          next e2 => exact ih (by have h2 : Lib.indexByte l c ≠ -1 := by simpa using e2
                                  omega) x hx

set_option maxRecDepth 100000 in
set_option maxHeartbeats 8000000 in
theorem walkN (a0 a1 : Option Addr) (c0 c1 : Nat) (ss0 ss1 : List ByteArray) (w : World) (h0 : Strs w a0 ss0) (h1 : Strs w a1 ss1) :
    Calls Try.prog 9 #[.slice a0 ss0.length c0, .slice a1 ss1.length c1] w fun e w' => e = .returned (.bool true) ∧ Below w.heap.size w w' := by
  go_enter Try.func9, Try.ntmps9
  go_wp2_with fail
  refine (zz27 a0 a1 c0 c1 ss0 ss1 w h0 h1).mono ?_
  rintro e w' ⟨⟨r, rfl, hr⟩, rfl⟩
  cases r
  · clear hr
    go_wp2
    go_ret
    exact ⟨rfl, Below.refl _ _⟩
  · have hN := hr rfl
    clear hr
    by_cases hb0 : 65536 < ss0.length
    · go_wp2
      go_ret
      exact ⟨rfl, Below.refl _ _⟩
    · by_cases hb1 : 65536 < ss1.length
      · go_wp2
        go_ret
        exact ⟨rfl, Below.refl _ _⟩
      · go_wp2_with fail
        refine (zz23 a0 a1 c0 c1 ss0 ss1 _ h0 h1 hN).mono ?_
        rintro e w' ⟨⟨r, rfl⟩, rfl⟩
        by_cases hr : 1048576 < r
        · go_wp2
          go_ret
          exact ⟨rfl, Below.refl _ _⟩
        · obtain ⟨ps, hps⟩ : ∃ ps, ps = ss0.zip ss1 := ⟨_, rfl⟩
          have hpl : ps.length = min ss0.length ss1.length := by rw [hps, zip_len]
          have HPA : Hid (∀ i (h : i < ps.length) (h0 : i < ss0.length) (h1 : i < ss1.length), ps[i] = (ss0[i], ss1[i])) := by
            intro i h h0 h1
            subst hps
            exact zip_at ss0 ss1 i h
          have HPL : Hid (ps.length = min ss0.length ss1.length) := hpl
          have hp0 : ps.length ≤ ss0.length := by omega
          have hp1 : ps.length ≤ ss1.length := by omega
          clear hps
          go_upto_if 40 with (fail)
          go_cut [5] (fun s5 wx => s5 = .int .i64 (ps.length : Int) ∧ wx = w')
          case first =>
            by_cases hlt : ss1.length < ss0.length
            · have e : Hid (ps.length = ss1.length) := by unfold Hid; omega
              clear hpl
              go_wp2
              go_meet
              case rel => exact ⟨by rw [e.out], rfl⟩
            · have e : Hid (ps.length = ss0.length) := by unfold Hid; omega
              clear hpl
              go_wp2
              go_meet
              case rel => exact ⟨by rw [e.out], rfl⟩
          case rest =>
            clear hpl
            obtain ⟨rfl, rfl⟩ := hcut
            go_wp2
            go_loop [6] (fun i => ∃ k : Nat, k ≤ ps.length ∧ i = .int .i64 k ∧ ∀ i (h : i < ps.length), i < k → Clean ps[i].1.data.toList) (fun i => ps.length - (intOf i).toNat)
            case atStart => exact ⟨0, Nat.zero_le _, rfl, fun i h hk => absurd hk (by omega)⟩
            case round =>
              obtain ⟨k, hk, rfl, hcl⟩ := hrel
              have HCL : Hid (∀ i (h : i < ps.length), i < k → Clean ps[i].1.data.toList) := hcl
              clear hcl
              by_cases hlt : k < ps.length
              · obtain ⟨b, off, rfl, q0⟩ := h0.cell (i := k) (by omega)
                have hpk : Hid (ps[k].1 = ss0[k]'(by omega)) := by unfold Hid; rw [HPA.out k hlt (by omega) (by omega)]
                have hts := tot_at ss0 k (by omega)
                have hsz : (ss0[k]'(by omega)).size ≤ 1048576 := by omega
                generalize ss0[k]'(by omega) = t at *
                clear h0 h1 hts
                by_cases i43 : 0 ≤ Lib.indexByte t.data.toList 43
                · go_wp2_with fail
                  refine (zix t 43 43 rfl (by omega) _).mono ?_
                  rintro e w2 ⟨rfl, rfl⟩
                  go_wp2
                  go_ret
                  exact ⟨rfl, Below.refl _ _⟩
                · by_cases i92 : 0 ≤ Lib.indexByte t.data.toList 92
                  · go_wp2_with fail
                    refine (zix t 43 43 rfl (by omega) _).mono ?_
                    rintro e w2 ⟨rfl, rfl⟩
                    go_wp2_with fail
                    refine (zix t 92 92 rfl (by omega) _).mono ?_
                    rintro e w2 ⟨rfl, rfl⟩
                    go_wp2
                    go_ret
                    exact ⟨rfl, Below.refl _ _⟩
                  · by_cases i61 : 0 ≤ Lib.indexByte t.data.toList 61
                    · go_wp2_with fail
                      refine (zix t 43 43 rfl (by omega) _).mono ?_
                      rintro e w2 ⟨rfl, rfl⟩
                      go_wp2_with fail
                      refine (zix t 92 92 rfl (by omega) _).mono ?_
                      rintro e w2 ⟨rfl, rfl⟩
                      go_wp2_with fail
                      refine (zix t 61 61 rfl (by omega) _).mono ?_
                      rintro e w2 ⟨rfl, rfl⟩
                      go_wp2
                      go_ret
                      exact ⟨rfl, Below.refl _ _⟩
                    · have hc : Clean t.data.toList := fun x hx => ⟨ib_neg _ _ (by omega) x hx, ib_neg _ _ (by omega) x hx, ib_neg _ _ (by omega) x hx⟩
                      have HCL2 : Hid (∀ i (h : i < ps.length), i < k + 1 → Clean ps[i].1.data.toList) := by
                        intro i h hik
                        by_cases e : i = k
                        · subst e; rw [hpk.out]; exact hc
                        · exact HCL.out i h (by omega)
                      go_wp2_with fail
                      refine (zix t 43 43 rfl (by omega) _).mono ?_
                      rintro e w2 ⟨rfl, rfl⟩
                      go_wp2_with fail
                      refine (zix t 92 92 rfl (by omega) _).mono ?_
                      rintro e w2 ⟨rfl, rfl⟩
                      go_wp2_with fail
                      refine (zix t 61 61 rfl (by omega) _).mono ?_
                      rintro e w2 ⟨rfl, rfl⟩
                      go_wp2
                      go_round
                      case rel => exact ⟨k + 1, by omega, by go_num, HCL2.out⟩
                      case measure => simp [intOf]; omega
              · have HC : Hid (∀ p ∈ ps, Clean p.1.data.toList) := by
                  intro p hp
                  obtain ⟨i, hi, rfl⟩ := List.mem_iff_getElem.1 hp
                  exact HCL.out i hi (by omega)
                clear HCL
                have hsz : Hid (∀ p ∈ ps, p.1.size + 3 * p.2.size ≤ 4000000) := by
                  intro p hp
                  obtain ⟨i, hi, rfl⟩ := List.mem_iff_getElem.1 hp
                  have e := HPA.out i hi (by omega) (by omega)
                  have t0 := tot_at ss0 i (by omega)
                  have t1 := tot_at ss1 i (by omega)
                  rw [e]
                  simp only
                  omega
                have hol : (outp ps).length ≤ 400000000000 := out_len ps hsz.out (by omega)
                go_wp2_with fail
                refine (zz24 a0 c0 ss0 _ h0 (by omega)).mono ?_
                rintro e w1 ⟨b0, d0, rfl, s0, hb1⟩
                go_wp2_with fail
                refine (zz24 a1 c1 ss1 _ (h1.keep hb1) (by omega)).mono ?_
                rintro e w2 ⟨b1, d1, rfl, s1, hb2⟩
                have s0' := s0.keep hb2
                have hb12 := hb1.trans (hb2.mono hb1.size)
                clear h0 h1 s0 hb1 hb2
                go_wp2_with fail
                refine (zz26 b0 b1 d0 d1 ss0 ss1 ps _ s0' s1 hp0 hp1 (fun i h => HPA.out i h _ _) (by omega)).mono ?_
                rintro e w3 ⟨a3, c3, rfl, prs, hb3, hc3⟩
                have s0'' := s0'.keep hb3
                have s1'' := s1.keep hb3
                have hb13 := hb12.trans (hb3.mono hb12.size)
                clear s0' s1 hb12 hb3
                go_wp2_with fail
                refine (zar a3 c3 ps _ prs (fun p hp => by have := hsz.out p hp; omega) (by omega) (by omega)).mono ?_
                rintro e w4 ⟨rfl, hb4⟩
                have S0 := s0''.keep hb4
                have S1 := s1''.keep hb4
                have hb14 := hb13.trans (hb4.mono hb13.size)
                clear s0'' s1'' hb13 hb4 prs
                by_cases hz : ps.length = 0
                · have hps0 : ps = [] := List.eq_nil_of_length_eq_zero hz
                  have hz' : ((ps.length : Int) == 0) = true := by rw [hz]; rfl
                  have ho : outp ps = [] := by rw [hps0, out_nil]
                  rw [ho]
                  clear ho hps0 hz
                  have hemp : (str []).toList.isEmpty = true := by rw [Lib.toList_data]; rfl
                  go_wp2
                  go_ret
                  exact ⟨rfl, hb14⟩
                · have hz' : ((ps.length : Int) == 0) = false := by rw [beq_eq_false_iff_ne]; omega
                  have hne : ps ≠ [] := by intro e; rw [e] at hz; exact hz rfl
                  obtain ⟨g, gperm, gmap⟩ := read_back ps
                  have hgl : g.length = ps.length := by have := gperm.length_eq; rw [List.length_map] at this; exact this
                  have hSl : (sorted ps).length = ps.length := by rw [← gmap, List.length_map]; exact hgl
                  have HG : Hid (g.map encP = sorted ps) := gmap
                  have HGL : Hid (g.length = ps.length) := hgl
                  have HSL : Hid ((sorted ps).length = ps.length) := hSl
                  have HCG : Hid (∀ q ∈ g, (∀ x ∈ q.1.data.toList, x ≠ 61) ∧ q.1.size + 3 * q.2.size ≤ 4000000) := by
                    intro q hq
                    obtain ⟨p, hp, rfl⟩ := List.mem_map.1 (gperm.mem_iff.1 hq)
                    refine ⟨fun x hx => (low_clean (HC.out p hp) x hx).2.2, ?_⟩
                    have e : (wantP p).1.size = p.1.size := by
                      show (low p.1.data.toList).length = _
                      rw [low_len, Array.length_toList]; rfl
                    have := hsz.out p hp
                    rw [e]; exact this
                  have GP : Hid (g.Perm (ps.map wantP)) := gperm
                  have CS := zz28 (str (outp ps)) (by rw [str_size]; omega) w4
                  rw [str_data, split_out ps hne HC.out] at CS
                  have HCS : Hid (Calls Try.prog 28 #[.string (str (outp ps))] w4 fun e w' => SPost (sorted ps) w4 e w') := CS
                  clear CS gmap hgl hSl gperm hol HC hsz
                  go_wp2_with fail
                  refine HCS.out.mono ?_
                  rintro e w5 ⟨a5, c5, rfl, S5, hb5⟩
                  rw [HSL.out]
                  have T0 := S0.keep hb5
                  have T1 := S1.keep hb5
                  have hb15 := hb14.trans (hb5.mono hb14.size)
                  clear S0 S1 hb5 hb14 HCS
                  obtain ⟨i0, hi, hz0, hz1, hz2⟩ := info_parts info41
                  go_wp2_with (at_make; refine wpList_make_full _ rfl _ _ 39 rfl w5.heap.size 41 i0 (.agg #[.string ⟨#[]⟩, .string ⟨#[]⟩]) 2 Try.underlying39 hi hz0 hz1 .i64 .i64 _ _ ps.length rfl rfl rfl rfl (by rw [hz2]; omega) (by unfold maxLen; omega) (Nat.le_refl _) ?_; intro w6 hown6 hgrow6)
                  have hb6 : Below w5.heap.size w5 w6 := (Below.refl _ _).grown hgrow6 (Nat.le_refl _) (fun k hk => by cases hk)
                  have hI : w6.ownsRow w5.heap.size 41 2 (.slice (some ⟨w5.heap.size, 0, none⟩) ps.length ps.length) ps.length (pb g 0) := by
                    rw [pb_zero, HGL.out, ← made2]; exact hown6
                  clear hgrow6 hown6
                  go_loopw [10, 11, 12, 13, 14, 15] (fun i _ _ _ _ _ wr => ∃ k : Nat, k ≤ ps.length ∧ i = .int .i64 k ∧ wr.ownsRow w5.heap.size 41 2 (.slice (some ⟨w5.heap.size, 0, none⟩) ps.length ps.length) ps.length (pb g k) ∧ Below w5.heap.size w5 wr) (fun i _ _ _ _ _ _ => ps.length - (intOf i).toNat)
                  case atStart => exact ⟨0, Nat.zero_le _, rfl, hI, hb6⟩
                  case round =>
                    obtain ⟨k2, hk2, rfl, hown, hbel⟩ := hrel
                    clear hI hb6
                    by_cases hlt2 : k2 < ps.length
                    · have hgk : k2 < g.length := by rw [HGL.out]; exact hlt2
                      have hsk : k2 < (sorted ps).length := by rw [HSL.out]; exact hlt2
                      have hmk : k2 < ((sorted ps).map str).length := by rw [List.length_map]; exact hsk
                      obtain ⟨hno, hsz⟩ := HCG.out g[k2] (List.getElem_mem hgk)
                      have eP : ((sorted ps).map str)[k2] = str (encP g[k2]) := by
                        rw [List.getElem_map]
                        congr 1
                        simp only [← HG.out, List.getElem_map]
                      obtain ⟨b, off, rfl, hc⟩ := (S5.keep hbel).at hmk
                      have q0 := hc k2 hmk
                      obtain ⟨p1, p2⟩ := pb_at g k2 hgk
                      have hst : Hid (∀ m, k2 = m + 1 → ∃ Q, wr.cell? ⟨b, off + m, none⟩ = some (.string Q) ∧ Op.bytesLess (str (encP g[k2])).toList Q.toList = false) := by
                        rintro m rfl
                        refine ⟨_, hc m (by omega), ?_⟩
                        rw [← eP, List.getElem_map, List.getElem_map, Lib.toList_data, Lib.toList_data, str_data, str_data]
                        exact sorted_step ps m hsk
                      rw [eP] at q0
                      have HSET : Hid (((pb g k2).set (k2 * 2) (.string g[k2].1)).set (k2 * 2 + 1) (.string g[k2].2) = pb g (k2 + 1)) := pb_set g k2 hgk
                      have PC := piece g[k2] hno hsz
                      have hid : Hid (w5.heap.size < wr.heap.size ∨ True) := Or.inr trivial
                      generalize str (encP g[k2]) = P at *
                      generalize str (esc g[k2].2.data.toList) = rr at *
                      generalize g[k2] = q at *
                      obtain ⟨lo, hi2, ix, hd, tl, sf, un⟩ := PC
                      obtain ⟨q1, q2⟩ := q
                      simp only at lo hi2 ix hd tl sf un HSET hsz
                      have IX : Hid (∀ W : World, Calls Try.prog 21 #[.string P, .int .u8 61] W fun e w' => e = .returned (.int .i64 (q1.size : Int)) ∧ w' = W) := ix
                      have SF : Hid (∀ W : World, Calls Try.prog 14 #[.string rr] W fun e w' => e = .returned (.bool true) ∧ w' = W) := sf
                      have UN : Hid (∀ W : World, Calls Try.prog 12 #[.string rr] W fun e w' => e = .returned (.tuple #[.string q2, .bool true]) ∧ Below W.heap.size W w') := un
                      have HP1 : Hid ((pb g k2)[k2 * 2]? = some (.string ⟨#[]⟩)) := p1
                      have HP2 : Hid ((pb g k2)[k2 * 2 + 1]? = some (.string ⟨#[]⟩)) := p2
                      have HT0 : Hid (Strs w5 b0 ss0) := T0
                      have HT1 : Hid (Strs w5 b1 ss1) := T1
                      clear ix sf un hno hsz eP hmk hsk hgk hid p1 p2 T0 T1 S5 hc
                      rcases Nat.eq_zero_or_pos k2 with hk0 | hk0
                      · have hk0' : ¬ 0 < k2 := by omega
                        clear hk0
                        · clear hst
                          go_wp2_with fail
                          refine (IX.out _).mono ?_
                          rintro e w7 ⟨rfl, rfl⟩
                          go_wp2_with fail
                          refine (SF.out _).mono ?_
                          rintro e w7 ⟨rfl, rfl⟩
                          go_wp2_with fail
                          refine (UN.out _).mono ?_
                          rintro e w7 ⟨rfl, hb7⟩
                          have hown7 := own_keep hown hb7
                          have hbel7 := hbel.trans (hb7.mono hbel.size)
                          clear hown hbel hb7
                          have q2' : w7.cell? ⟨w5.heap.size, k2 * 2, none⟩ = some (.string ⟨#[]⟩) := by rw [hown7.cellAt (k2 * 2) (by omega)]; exact HP1
                          have q3' : w7.cell? ⟨w5.heap.size, k2 * 2 + 1, none⟩ = some (.string ⟨#[]⟩) := by rw [hown7.cellAt (k2 * 2 + 1) (by omega)]; exact HP2
                          have q4' : w7.frozen? ⟨w5.heap.size, k2 * 2, none⟩ = false := hown7.frozenAt (k2 * 2)
                          have q5' : w7.frozen? ⟨w5.heap.size, k2 * 2 + 1, none⟩ = false := hown7.frozenAt (k2 * 2 + 1)
                          have st := ((hown7.stored (k2 * 2) (.string q1)).1.stored (k2 * 2 + 1) (.string q2)).1
                          rw [HSET.out] at st
                          have R2 : Below w5.heap.size w5 ((w7.setCell ⟨w5.heap.size, k2 * 2, none⟩ (.string q1)).setCell ⟨w5.heap.size, k2 * 2 + 1, none⟩ (.string q2)) := (hbel7.setCell (p := ⟨w5.heap.size, k2 * 2, none⟩) (Nat.le_refl _) _).setCell (p := ⟨w5.heap.size, k2 * 2 + 1, none⟩) (Nat.le_refl _) _
                          go_wp2
                          go_roundw
                          case rel => exact ⟨k2 + 1, by omega, by go_num, st, R2⟩
                          case measure => simp [intOf]; omega
                      · obtain ⟨m, rfl⟩ : ∃ m, k2 = m + 1 := ⟨k2 - 1, by omega⟩
                        obtain ⟨Q, qm, hbl⟩ := hst.out m rfl
                        · clear hst
                          go_wp2_with fail
                          refine (IX.out _).mono ?_
                          rintro e w7 ⟨rfl, rfl⟩
                          go_wp2_with fail
                          refine (SF.out _).mono ?_
                          rintro e w7 ⟨rfl, rfl⟩
                          go_wp2_with fail
                          refine (UN.out _).mono ?_
                          rintro e w7 ⟨rfl, hb7⟩
                          have hown7 := own_keep hown hb7
                          have hbel7 := hbel.trans (hb7.mono hbel.size)
                          clear hown hbel hb7
                          have q2' : w7.cell? ⟨w5.heap.size, (m + 1) * 2, none⟩ = some (.string ⟨#[]⟩) := by rw [hown7.cellAt ((m + 1) * 2) (by omega)]; exact HP1
                          have q3' : w7.cell? ⟨w5.heap.size, (m + 1) * 2 + 1, none⟩ = some (.string ⟨#[]⟩) := by rw [hown7.cellAt ((m + 1) * 2 + 1) (by omega)]; exact HP2
                          have q4' : w7.frozen? ⟨w5.heap.size, (m + 1) * 2, none⟩ = false := hown7.frozenAt ((m + 1) * 2)
                          have q5' : w7.frozen? ⟨w5.heap.size, (m + 1) * 2 + 1, none⟩ = false := hown7.frozenAt ((m + 1) * 2 + 1)
                          have st := ((hown7.stored ((m + 1) * 2) (.string q1)).1.stored ((m + 1) * 2 + 1) (.string q2)).1
                          rw [HSET.out] at st
                          have R2 : Below w5.heap.size w5 ((w7.setCell ⟨w5.heap.size, (m + 1) * 2, none⟩ (.string q1)).setCell ⟨w5.heap.size, (m + 1) * 2 + 1, none⟩ (.string q2)) := (hbel7.setCell (p := ⟨w5.heap.size, (m + 1) * 2, none⟩) (Nat.le_refl _) _).setCell (p := ⟨w5.heap.size, (m + 1) * 2 + 1, none⟩) (Nat.le_refl _) _
                          go_wp2
                          go_roundw
                          case rel => exact ⟨(m + 1) + 1, by omega, by go_num, st, R2⟩
                          case measure => simp [intOf]; omega
                    · have hkk : k2 = g.length := by rw [HGL.out]; omega
                      have hownG : wr.ownsRow w5.heap.size 41 2 (.slice (some ⟨w5.heap.size, 0, none⟩) g.length ps.length) g.length (pcs g) := by
                        rw [hkk, pb_end] at hown
                        rw [HGL.out]; exact hown
                      have PG := prs_own hownG
                      have U0 := T0.keep hbel
                      have U1 := T1.keep hbel
                      have hbA := hb15.trans (hbel.mono hb15.size)
                      rename World => wA
                      clear hownG hown hkk T0 T1 S5 hbel hb15 HG HCG HSL
                      generalize w5.heap.size = gb5 at *
                      go_wp2_with (at_make; refine wpList_make_full _ rfl _ _ 39 rfl wA.heap.size 41 i0 (.agg #[.string ⟨#[]⟩, .string ⟨#[]⟩]) 2 Try.underlying39 hi hz0 hz1 .i64 .i64 _ _ ps.length rfl rfl rfl rfl (by rw [hz2]; omega) (by unfold maxLen; omega) (Nat.le_refl _) ?_; intro w8 hown8 hgrow8)
                      have hb8 : Below wA.heap.size wA w8 := (Below.refl _ _).grown hgrow8 (Nat.le_refl _) (fun k hk => by cases hk)
                      have HWL : Hid ((ps.map wantP).length = ps.length) := by unfold Hid; rw [List.length_map]
                      have hI8 : w8.ownsRow wA.heap.size 41 2 (.slice (some ⟨wA.heap.size, 0, none⟩) ps.length ps.length) ps.length (pb (ps.map wantP) 0) := by
                        rw [pb_zero, HWL.out, ← made2]; exact hown8
                      clear hgrow8 hown8
                      go_loopw [17] (fun i wr => ∃ k : Nat, k ≤ ps.length ∧ i = .int .i64 k ∧ wr.ownsRow wA.heap.size 41 2 (.slice (some ⟨wA.heap.size, 0, none⟩) ps.length ps.length) ps.length (pb (ps.map wantP) k) ∧ Below wA.heap.size wA wr) (fun i _ => ps.length - (intOf i).toNat)
                      case atStart => exact ⟨0, Nat.zero_le _, rfl, hI8, hb8⟩
                      case round =>
                        obtain ⟨k3, hk3, rfl, hown3, hbel3⟩ := hrel
                        clear hI8 hb8
                        by_cases hlt3 : k3 < ps.length
                        · obtain ⟨f0, o0, e0, qa⟩ := (U0.keep hbel3).cell (i := k3) (by omega)
                          obtain ⟨f1, o1, e1, qb⟩ := (U1.keep hbel3).cell (i := k3) (by omega)
                          subst e0 e1
                          have hwk : k3 < (ps.map wantP).length := by rw [HWL.out]; exact hlt3
                          have HSET3 : Hid (((pb (ps.map wantP) k3).set (k3 * 2) (.string (str (low (ss0[k3]'(by omega)).data.toList)))).set (k3 * 2 + 1) (.string (ss1[k3]'(by omega))) = pb (ps.map wantP) (k3 + 1)) := by
                            have h := pb_set (ps.map wantP) k3 hwk
                            rw [List.getElem_map, HPA.out k3 hlt3 (by omega) (by omega)] at h
                            exact h
                          obtain ⟨p1, p2⟩ := pb_at (ps.map wantP) k3 hwk
                          have HP1 : Hid ((pb (ps.map wantP) k3)[k3 * 2]? = some (.string ⟨#[]⟩)) := p1
                          have HP2 : Hid ((pb (ps.map wantP) k3)[k3 * 2 + 1]? = some (.string ⟨#[]⟩)) := p2
                          have hts := tot_at ss0 k3 (by omega)
                          have hss : (ss0[k3]'(by omega)).size ≤ 10000000000000 := by omega
                          generalize ss0[k3]'(by omega) = s at *
                          generalize ss1[k3]'(by omega) = v at *
                          clear U0 U1 p1 p2 hts hwk PG
                          go_wp2_with fail
                          go_region_with (go_at_call 19; refine (zlow s hss _).mono ?_; rintro e w9 ⟨rfl, hb9⟩
                                          have qb9 : w9.cell? ⟨f1, o1 + k3, none⟩ = some (.string v) := by rw [hb9.cell (p := ⟨f1, o1 + k3, none⟩) (World.block_lt_of_cell? _ _ qb)]; exact qb
                                          have hown9 := own_keep hown3.drew hb9
                                          have q2' : w9.cell? ⟨wA.heap.size, k3 * 2, none⟩ = some (.string ⟨#[]⟩) := by rw [hown9.cellAt (k3 * 2) (by omega)]; exact HP1
                                          have q3' : w9.cell? ⟨wA.heap.size, k3 * 2 + 1, none⟩ = some (.string ⟨#[]⟩) := by rw [hown9.cellAt (k3 * 2 + 1) (by omega)]; exact HP2
                                          have q4' : w9.frozen? ⟨wA.heap.size, k3 * 2, none⟩ = false := hown9.frozenAt (k3 * 2)
                                          have q5' : w9.frozen? ⟨wA.heap.size, k3 * 2 + 1, none⟩ = false := hown9.frozenAt (k3 * 2 + 1))
                          all_goals
                            have hbel9 := hbel3.drew.trans (hb9.mono (by exact hbel3.size))
                            have st := ((hown9.stored (k3 * 2) (.string (str (low s.data.toList)))).1.stored (k3 * 2 + 1) (.string v)).1
                            rw [HSET3.out] at st
                            have R2 : Below wA.heap.size wA ((w9.setCell ⟨wA.heap.size, k3 * 2, none⟩ (.string (str (low s.data.toList)))).setCell ⟨wA.heap.size, k3 * 2 + 1, none⟩ (.string v)) := (hbel9.setCell (p := ⟨wA.heap.size, k3 * 2, none⟩) (Nat.le_refl _) _).setCell (p := ⟨wA.heap.size, k3 * 2 + 1, none⟩) (Nat.le_refl _) _
                            clear hb9 hown9 hbel9
                            go_wp2
                            go_roundw
                            case rel => exact ⟨k3 + 1, by omega, by go_num, st, R2⟩
                            case measure => simp [intOf]; omega
                        · have hkk3 : k3 = (ps.map wantP).length := by rw [HWL.out]; omega
                          have hownW : wr.ownsRow wA.heap.size 41 2 (.slice (some ⟨wA.heap.size, 0, none⟩) (ps.map wantP).length ps.length) (ps.map wantP).length (pcs (ps.map wantP)) := by
                            rw [hkk3, pb_end] at hown3
                            rw [HWL.out]; exact hown3
                          have PW := prs_own hownW
                          have PG3 := PG.keep hbel3
                          have hbB := hbA.trans (hbel3.mono hbA.size)
                          rename World => wB
                          clear hownW hown3 hkk3 PG hbel3 hbA U0 U1
                          generalize wA.heap.size = gbA at *
                          have CG : Hid (∀ W : World, Prs W (some ⟨gb5, 0, none⟩) g → Calls Try.prog 29 #[.slice (some ⟨gb5, 0, none⟩) ps.length ps.length] W fun e w' => MPost g W e w') := by
                            intro W h
                            have := zz29 g _ ps.length W h (by rw [HGL.out]; exact Nat.le_refl _) (by rw [HGL.out]; omega)
                            rw [HGL.out] at this
                            exact this
                          have CW : Hid (∀ W : World, Prs W (some ⟨gbA, 0, none⟩) (ps.map wantP) → Calls Try.prog 29 #[.slice (some ⟨gbA, 0, none⟩) ps.length ps.length] W fun e w' => MPost (ps.map wantP) W e w') := by
                            intro W h
                            have := zz29 (ps.map wantP) _ ps.length W h (by rw [HWL.out]; exact Nat.le_refl _) (by rw [HWL.out]; omega)
                            rw [HWL.out] at this
                            exact this
                          go_wp2_with fail
                          refine (CG.out _ PG3).mono ?_
                          rintro e wC ⟨aG, cG, rG, rfl, PrG, hlG, permG, sortG, hbC⟩
                          have PWC := PW.keep hbC
                          have hbD := hbB.trans (hbC.mono hbB.size)
                          have hrl : rG.length = ps.length := by rw [permG.length_eq, HGL.out]
                          rw [hrl]
                          clear PW PG3 hbB hbC CG
                          go_wp2_with fail
                          refine (CW.out _ PWC).mono ?_
                          rintro e wD ⟨aW, cW, rW, rfl, PrW, hlW, permW, sortW, hbE⟩
                          have e : rG = rW := sorted_unique sortG sortW (permG.trans (GP.out.trans permW.symm))
                          subst e
                          rw [hrl]
                          have PrG' := PrG.keep hbE
                          have hbF := hbD.trans (hbE.mono hbD.size)
                          have HRL : Hid (rG.length = ps.length) := hrl
                          clear CW PWC PrG hlG hlW permG permW sortG sortW hbD hbE hrl
                          go_wp2_with fail
                          go_loopw [18] (fun i wr => ∃ k : Nat, k ≤ ps.length ∧ i = .int .i64 k ∧ Below wD.heap.size wD wr) (fun i _ => ps.length - (intOf i).toNat)
                          case atStart => exact ⟨0, Nat.zero_le _, rfl, Below.refl _ _⟩
                          case round =>
                            obtain ⟨k4, hk4, rfl, hbel4⟩ := hrel
                            by_cases hlt4 : k4 < ps.length
                            · have hrk : k4 < rG.length := by rw [HRL.out]; exact hlt4
                              obtain ⟨f0, o0, e0, q0, q1⟩ := (PrG'.keep hbel4).cell hrk
                              obtain ⟨f1, o1, e1, q2, q3⟩ := (PrW.keep hbel4).cell hrk
                              subst e0 e1
                              generalize rG[k4] = q at *
                              obtain ⟨x, y⟩ := q
                              simp only at q0 q1 q2 q3
                              clear PrG' PrW hrk
                              have n1 : (x.toList == x.toList) = true := beq_self_eq_true _
                              have n2 : (y.toList == y.toList) = true := beq_self_eq_true _
                              go_wp2_with fail
                              go_quiet (fail)
                              have hb4 : Below wD.heap.size wD (wr.drewN nq) := ⟨hbel4.os, hbel4.tape, hbel4.output, hbel4.size, hbel4.block⟩
                              go_wp2
                              go_roundw
                              case rel => exact ⟨k4 + 1, by omega, by go_num, hb4⟩
                              case measure => simp [intOf]; omega
                            · have hfin := hbF.trans (hbel4.mono hbF.size)
                              clear PrG' PrW
                              go_wp2
                              go_ret
                              exact ⟨rfl, hfin⟩

end Go.Proofs.Qxb6001361a.dn
