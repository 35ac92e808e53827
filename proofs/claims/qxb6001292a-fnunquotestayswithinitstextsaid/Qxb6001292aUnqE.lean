import Derived.Test.Qxb6001292aUnq
namespace Go.Proofs.Qxb6001292a.fnUnquote
open Go.RowKit

theorem info5 : (Try.prog.info? 5).map (fun i => (i.zero, i.size, i.bytes)) = some (some (.int .u8 0), 1, 1) := by kernel_rfl

/-- bytes as cells -/
def bc (l : List UInt8) : List Value := l.map fun b => Value.int .u8 b.toNat
theorem bc_app (l m : List UInt8) : bc (l ++ m) = bc l ++ bc m := by simp [bc]
theorem bc_len (l : List UInt8) : (bc l).length = l.length := by simp [bc]

/-- an owned row of bytes that is not nil, read as a string -/
theorem conv_own {w : World} {B : Nat} {v : Value} {n : Nat} {l : List UInt8} (hown : w.ownsRow B 5 1 v n (bc l)) (hne : v ≠ .slice none 0 0) :
    ∃ g cap, v = .slice (some ⟨g, 0, none⟩) n cap ∧ (convert 34 9 (.slice (some ⟨g, 0, none⟩) n cap)).run Try.prog w = .ok (.string ⟨l.toArray⟩) w := by
  have hl : n = l.length := by have := hown.1; rw [bc_len] at this; omega
  rcases hown.2 with ⟨h, _⟩ | ⟨g, cap, cur, rfl, r⟩
  · exact absurd h hne
  · refine ⟨g, cap, rfl, ?_⟩
    subst hl
    refine run_convert_bytes_back (P := Try.prog) w 34 9 5 ⟨g, 0, none⟩ cap l Try.underlying34 Try.underlying5 Try.underlying9 (fun j hj => ?_)
    exact hown.cells (g := g) rfl j (.int .u8 (l[j].toNat : Int)) (by simp [bc, hj])

theorem ext_len {s : ByteArray} {st k : Nat} (hsk : st ≤ k) (hk : k ≤ s.size) : (s.extract st k).data.toList.length = k - st := by
  have h : (s.extract st k).size = min k s.size - st := ByteArray.size_extract
  rw [Array.length_toList]
  show (s.extract st k).size = _
  omega
theorem row_next {s : ByteArray} {l : List UInt8} {st k : Nat} (h : k + 1 < s.size) (hsk : st ≤ k) :
    (l ++ ((s.extract st k).data.toList ++ [s[k + 1]])).length = l.length + (k - st) + 1 ∧ bc (l ++ ((s.extract st k).data.toList ++ [s[k + 1]])) = bc l ++ (Lib.strCells (s.extract st k) ++ [.int .u8 (s[k + 1].toNat : Int)]) := by
  constructor
  · have := ext_len (s := s) hsk (by omega : k ≤ s.size)
    simp only [List.length_append, this, List.length_cons, List.length_nil]; omega
  · rw [bc_app, bc_app]; rfl

/-- what unquote tells, whatever the escapes -/
def PostE (s : ByteArray) (e : Ending) : Prop :=
  e = .returned (.tuple #[.string ByteArray.empty, .int .i64 0, .bool false]) ∨
  ∃ (k : Nat) (v : ByteArray), e = .returned (.tuple #[.string v, .int .i64 (k + 1), .bool true]) ∧ 1 ≤ k ∧ k < s.size ∧ (∀ (h0 : 0 < s.size) (h : k < s.size), s[k] = s[0]) ∧ v.size + 1 ≤ k

set_option maxHeartbeats 2000000 in
theorem unqE (s esc : ByteArray) (h1 : 1 ≤ s.size) (hs : s.size ≤ 65536) (w : World) :
    Calls Try.prog 28 #[.string s, .string esc] w fun e w' => PostE s e ∧ Below w.heap.size w w' := by
  have hnil := fun (w : World) (a : Option Addr) (n c : Nat) => Lib.run_eql_slice_nil (P := Try.prog) w 34 5 a n c 0 0 Try.underlying34
  obtain ⟨i0, hi, hz0, hz1, hz2⟩ := info_parts info5
  go_enter Try.func28, Try.ntmps28
  go_wp2
  go_loopw [8, 9, 10] (fun v sv i wr => ∃ (k st : Nat) (l : List UInt8), 1 ≤ st ∧ st ≤ k ∧ k ≤ s.size ∧ sv = .int .i64 st ∧ i = .int .i64 k ∧ l.length + 1 ≤ st ∧ wr.ownsRow w.heap.size 5 1 v l.length (bc l) ∧ Below w.heap.size w wr) (fun _ _ i _ => s.size - (intOf i).toNat)
  case atStart => exact ⟨1, 1, [], by omega, by omega, h1, rfl, rfl, by simp, World.ownsRow_nil _ _ _ _, Below.refl _ _⟩
  case round =>
    rename_i v sv i
    obtain ⟨k, st, l, hst, hsk, hk, rfl, rfl, hl, hown, hbel⟩ := hrel
    by_cases hlt : k < s.size
    · by_cases hq : s[k] = s[0]
      · have hq' : ((s[k].toNat : Int) == (s[0].toNat : Int)) = true := by rw [hq]; simp
        have HQ : Hid (s[k] = s[0]) := hq
        clear hq
        rcases hown.2 with ⟨hv, _⟩ | ⟨g, cap, cur, hv, _⟩
        · rw [hv]
          go_wp2
          go_ret3
          exact ⟨Or.inr ⟨k, s.extract 1 k, rfl, by omega, hlt, fun _ _ => HQ.out, by rw [ByteArray.size_extract]; omega⟩, hbel⟩
        · rw [hv] at hown ⊢
          go_wp2_with (at_builtin; refine Lib.wpList_append_own_string _ rfl (.tmp 32) (.tmp 36) 34 9 rfl w.heap.size 5 i0 Try.underlying34 Try.underlying9 hi hz0 hz1 hz2 _ _ _ rfl hown (s.extract st k) rfl ?a1 ?a2 ?a3 ?a4)
          case a1 => rw [ByteArray.size_extract]; unfold maxLen; omega
          case a2 => rw [ByteArray.size_extract]; omega
          case a3 => exact hbel.size
          case a4 =>
            intro v1 w1 hown1 hgrow1 hne
            have hbel1 := hbel.grown hgrow1 hbel.size (fun b hb => (hown.lt b hb).1)
            have r : bc l ++ Lib.strCells (s.extract st k) = bc (l ++ (s.extract st k).data.toList) := by rw [bc_app]; rfl
            have r1 : (l ++ (s.extract st k).data.toList).length + 1 ≤ k := by
              rw [List.length_append, ext_len hsk hk]; omega
            rw [r] at hown1
            clear r hgrow1 hown hbel
            generalize l ++ (s.extract st k).data.toList = l' at *
            obtain ⟨g', cap', hv', hconv⟩ := conv_own hown1 hne
            rw [hv']
            go_wp2
            go_ret3
            exact ⟨Or.inr ⟨k, _, rfl, by omega, hlt, fun _ _ => HQ.out, by simpa [ByteArray.size] using r1⟩, hbel1⟩
      · have hq' : ((s[k].toNat : Int) == (s[0].toNat : Int)) = false := by
          rw [beq_eq_false_iff_ne]; intro h; exact hq (UInt8.toNat_inj.1 (by omega))
        go_wp2_with (first | (go_at_call 33; refine (ib33 _ _ _).mono ?_; rintro e w' ⟨rfl, rfl⟩) | (at_builtin; refine Lib.wpList_append_own_string _ rfl (.tmp 62) (.tmp 66) 34 9 rfl w.heap.size 5 i0 Try.underlying34 Try.underlying9 hi hz0 hz1 hz2 _ _ _ rfl hown (s.extract st k) rfl ?c1 ?c2 ?c3 ?c4))
        case c1 => rw [ByteArray.size_extract]; unfold maxLen; omega
        case c2 => rw [ByteArray.size_extract]; omega
        case c3 => exact hbel.size
        case c4 =>
          intro v1 w1 hown1 hgrow1 _
          have hk1 : k + 1 < s.size := by omega
          have hbel1 := hbel.grown hgrow1 hbel.size (fun b hb => (hown.lt b hb).1)
          have hsz1 := hbel1.size
          clear hown hbel hgrow1
          go_wp2_with (at_builtin; refine wpList_append_own _ rfl (.tmp 68) (.tmp 73) 34 rfl w.heap.size 5 i0 (.int .u8 0) 1 1 Try.underlying34 hi hz0 hz1 hz2 rfl (by decide) _ _ _ rfl (hown1.alloc _) ⟨w1.heap.size, 0, none⟩ 1 1 [.int .u8 (s[k + 1].toNat : Int)] rfl rfl ?d1 ?d2 ?d3 ?d4 ?d5 ?d6)
          case d1 => exact cell_one_new _ _ _
          case d2 => intro u hu; simp at hu; subst hu; rfl
          case d3 => unfold maxLen; omega
          case d4 => omega
          case d5 => simp; omega
          case d6 =>
            intro v2 w2 hown2 hgrow2 _
            have hbel2 := (hbel1.alloc hsz1 _).grown hgrow2 (by simp; omega) (fun b hb => (hown1.lt b hb).1)
            obtain ⟨r1, r2⟩ := row_next (l := l) hk1 hsk
            rw [← r1, ← r2] at hown2
            have r3 : (l ++ ((s.extract st k).data.toList ++ [s[k + 1]])).length + 1 ≤ k + 2 := by rw [r1]; omega
            clear r1 r2 hgrow2 hown1 hbel1
            generalize l ++ ((s.extract st k).data.toList ++ [s[k + 1]]) = l' at *
            go_wp2
            go_roundw
            case rel => exact ⟨k + 2, k + 2, l', by omega, by omega, by omega, by go_num, by go_num, r3, hown2, hbel2⟩
            case measure => simp [intOf]; omega
        all_goals
          go_roundw
          case rel => exact ⟨k + 1, st, l, hst, by omega, by omega, rfl, by go_num, hl, hown, hbel⟩
          case measure => simp [intOf]; omega
    · go_wp2
      go_ret3
      exact ⟨Or.inl rfl, hbel⟩

end Go.Proofs.Qxb6001292a.fnUnquote
