/- THE PLAIN LAWS of the written RDN: split, order, read-back. -/
import Derived.Test.Qxb6001361aRdnH
import Derived.Test.Qxb6001361aRdnK
import Derived.Test.Qxb6001361aIndex
namespace Go.Proofs.Qxb6001361a.dn

/-! ### a text that the splitter passes through -/
def Pass (q : List UInt8) : Prop := ∀ rest cur, sp (q ++ rest) cur = sp rest (cur ++ q)
theorem pass_nil : Pass [] := fun rest cur => by simp
theorem pass_app {a b : List UInt8} (ha : Pass a) (hb : Pass b) : Pass (a ++ b) := fun rest cur => by
  rw [List.append_assoc, ha, hb, List.append_assoc]
theorem pass_one {c : UInt8} (h1 : c ≠ 92) (h2 : c ≠ 43) : Pass [c] := fun rest cur => sp_other c rest cur h1 h2
theorem pass_slash (d : UInt8) : Pass [92, d] := fun rest cur => sp_slash d rest cur
theorem digs_pass : ∀ m, m < 16 → digs.getD m 0 ≠ 92 ∧ digs.getD m 0 ≠ 43 := by decide
theorem pass_esc (n k : Nat) (c : UInt8) : Pass (escAt n k c) := by
  cases hs : slashed n k c
  · cases ho : outside c
    · have e : escAt n k c = [c] := by unfold escAt; rw [hs, ho]; rfl
      rw [e]
      have hsp : special c = false := by
        unfold slashed at hs
        rw [Bool.or_eq_false_iff] at hs
        exact hs.2
      refine pass_one ?_ ?_
      · rintro rfl; revert hsp; decide
      · rintro rfl; revert hsp; decide
    · have e : escAt n k c = [92, digs.getD (c.toNat / 16) 0] ++ [digs.getD (c.toNat % 16) 0] := by unfold escAt; rw [hs, ho]; rfl
      rw [e]
      have h := digs_pass (c.toNat % 16) (by omega)
      exact pass_app (pass_slash _) (pass_one h.1 h.2)
  · rw [esc_sl hs]; exact pass_slash c
theorem pass_escL (n : Nat) (l : List UInt8) : ∀ i, Pass (escL n i l) := by
  induction l with
  | nil => intro i; exact pass_nil
  | cons c l ih => intro i; exact pass_app (pass_esc n i c) (ih (i + 1))
/-- a type without plus, backslash, equals sign -/
def Clean (t : List UInt8) : Prop := ∀ x ∈ t, x ≠ 43 ∧ x ≠ 92 ∧ x ≠ 61
theorem lowB_keep {c d : UInt8} (h : c ≠ d) (hd : d.toNat < 97 ∨ 122 < d.toNat) : lowB c ≠ d := by
  unfold lowB
  split
  · next hc =>
    rintro rfl
    have e : (c + 32).toNat = c.toNat + 32 := by
      rw [UInt8.toNat_add]
      have h32 : (32 : UInt8).toNat = 32 := rfl
      rw [h32]; omega
    rw [e] at hd
    omega
  · exact h
theorem low_clean {t : List UInt8} (h : Clean t) : Clean (low t) := by
  intro x hx
  obtain ⟨y, hy, rfl⟩ := List.mem_map.1 hx
  obtain ⟨h1, h2, h3⟩ := h y hy
  exact ⟨lowB_keep h1 (Or.inl (by decide)), lowB_keep h2 (Or.inl (by decide)), lowB_keep h3 (Or.inl (by decide))⟩
theorem pass_clean {t : List UInt8} (h : Clean t) : Pass t := by
  induction t with
  | nil => exact pass_nil
  | cons c t ih =>
    have hc := h c (List.mem_cons_self ..)
    exact pass_app (a := [c]) (pass_one hc.2.1 hc.1) (ih fun x hx => h x (List.mem_cons_of_mem _ hx))
theorem pass_part {t v : List UInt8} (h : Clean t) : Pass (part t v) := by
  unfold part
  have e : low t ++ (61 :: esc v) = low t ++ ([61] ++ esc v) := rfl
  rw [e]
  exact pass_app (pass_clean (low_clean h)) (pass_app (pass_one (by decide) (by decide)) (pass_escL _ _ _))

theorem join_one (x : List UInt8) : Lib.join [x] [43] = x := by simp [Lib.join, List.intercalate]
theorem join_cons (x y : List UInt8) (l : List (List UInt8)) : Lib.join (x :: y :: l) [43] = x ++ (43 :: Lib.join (y :: l) [43]) := by
  simp [Lib.join, List.intercalate]
theorem split_join : ∀ (l : List (List UInt8)) (x : List UInt8), (∀ q ∈ x :: l, Pass q) → sp (Lib.join (x :: l) [43]) [] = x :: l
  | [], x, h => by
    have := h x (List.mem_cons_self ..) [] []
    rw [List.append_nil, List.nil_append, sp_nil] at this
    rw [join_one]; exact this
  | y :: l, x, h => by
    rw [join_cons, h x (List.mem_cons_self ..), List.nil_append, sp_plus, split_join l y fun q hq => h q (List.mem_cons_of_mem _ hq)]
theorem join_len (L : List (List UInt8)) (M : Nat) (h : ∀ x ∈ L, x.length ≤ M) : (Lib.join L [43]).length ≤ L.length * (M + 1) := by
  induction L with
  | nil => simp [Lib.join, List.intercalate]
  | cons x l ih =>
    cases l with
    | nil =>
      rw [join_one]
      have := h x (List.mem_cons_self ..)
      simp; omega
    | cons y l =>
      rw [join_cons, List.length_append, List.length_cons]
      have h1 := h x (List.mem_cons_self ..)
      have h2 := ih fun q hq => h q (List.mem_cons_of_mem _ hq)
      have e : (x :: y :: l).length * (M + 1) = (y :: l).length * (M + 1) + (M + 1) := by rw [List.length_cons (a := x), Nat.succ_mul]
      rw [e]
      omega

theorem sorted_perm (ps : List Pair) : (sorted ps).Perm (ps.map pt) := List.mergeSort_perm _ _
theorem split_out (ps : List Pair) (h0 : ps ≠ []) (hc : ∀ p ∈ ps, Clean p.1.data.toList) : sp (outp ps) [] = sorted ps := by
  have hp : ∀ q ∈ sorted ps, Pass q := by
    intro q hq
    obtain ⟨p, hp, rfl⟩ := List.mem_map.1 ((sorted_perm ps).mem_iff.1 hq)
    exact pass_part (hc p hp)
  unfold outp
  cases hs : sorted ps with
  | nil =>
    have := (sorted_perm ps).length_eq
    rw [hs] at this
    simp at this
    exact absurd (List.eq_nil_of_length_eq_zero this.symm) h0
  | cons x l => exact split_join l x (by rw [← hs]; exact hp)

theorem out_nil : outp [] = [] := by simp [outp, sorted, Lib.join, List.intercalate]
theorem pt_len (p : Pair) : (pt p).length ≤ p.1.size + 1 + 3 * p.2.size := by
  have h := (escL_len p.2.data.toList.length p.2.data.toList 0).2
  have h0 : p.1.data.toList.length = p.1.size := by rw [Array.length_toList]; rfl
  have h1 : p.2.data.toList.length = p.2.size := by rw [Array.length_toList]; rfl
  unfold pt part esc
  rw [List.length_append, List.length_cons, low_len]
  omega
theorem out_len (ps : List Pair) (h : ∀ p ∈ ps, p.1.size + 3 * p.2.size ≤ 4000000) (hn : ps.length ≤ 65536) : (outp ps).length ≤ 400000000000 := by
  have hl : (sorted ps).length = ps.length := by have := (sorted_perm ps).length_eq; rw [List.length_map] at this; exact this
  have := join_len (sorted ps) 4000001 (by
    intro x hx
    obtain ⟨p, hp, rfl⟩ := List.mem_map.1 ((sorted_perm ps).mem_iff.1 hx)
    have h1 := h p hp
    have h2 := pt_len p
    omega)
  rw [hl] at this
  unfold outp
  omega

/-! ### what each piece reads back as -/
def wantP (p : Pair) : Pair := (str (low p.1.data.toList), p.2)
def encP (p : Pair) : List UInt8 := p.1.data.toList ++ (61 :: esc p.2.data.toList)
theorem pt_enc (p : Pair) : pt p = encP (wantP p) := rfl
theorem perm_map {f : Pair → List UInt8} {l' : List (List UInt8)} {q : List Pair} (h : l'.Perm (q.map f)) : ∃ g : List Pair, g.Perm q ∧ g.map f = l' := by
  generalize hm : q.map f = m at h
  induction h generalizing q with
  | nil =>
    have : q = [] := List.map_eq_nil_iff.1 hm
    exact ⟨[], by rw [this], rfl⟩
  | cons x h ih =>
    cases q with
    | nil => cases hm
    | cons a q =>
      simp only [List.map_cons, List.cons.injEq] at hm
      obtain ⟨g, hg, hgm⟩ := ih hm.2
      exact ⟨a :: g, hg.cons a, by rw [List.map_cons, hm.1, hgm]⟩
  | swap x y l =>
    match q, hm with
    | a :: b :: q, hm =>
      simp only [List.map_cons, List.cons.injEq] at hm
      refine ⟨b :: a :: q, List.Perm.swap _ _ _, ?_⟩
      simp only [List.map_cons, hm.1, hm.2.1, hm.2.2]
  | trans h1 h2 ih1 ih2 =>
    obtain ⟨g2, hg2, hm2⟩ := ih2 hm
    obtain ⟨g1, hg1, hm1⟩ := ih1 hm2
    exact ⟨g1, hg1.trans hg2, hm1⟩
theorem read_back (ps : List Pair) : ∃ g : List Pair, g.Perm (ps.map wantP) ∧ g.map encP = sorted ps := by
  apply perm_map
  rw [List.map_map]
  exact sorted_perm ps

/-! ### the order of the pieces -/
theorem bl_lt : ∀ (x y : List UInt8), (Op.bytesLess x y = true) ↔ x < y
  | [], [] => by simp [Op.bytesLess]
  | _ :: _, [] => by simp [Op.bytesLess]
  | [], _ :: _ => by simp [Op.bytesLess]
  | a :: x, b :: y => by
    rw [Op.bytesLess, Bool.or_eq_true, Bool.and_eq_true, decide_eq_true_iff, beq_iff_eq, bl_lt x y, List.cons_lt_cons_iff]
theorem dle (x y : List UInt8) : decide (x ≤ y) = !Op.bytesLess y x := by
  have h : x ≤ y ↔ ¬ y < x := Iff.rfl
  cases hb : Op.bytesLess y x
  · rw [decide_eq_true]
    · rfl
    · rw [h, ← bl_lt, hb]; exact Bool.false_ne_true
  · rw [decide_eq_false]
    · rfl
    · rw [h, ← bl_lt, hb]; simp
theorem dle_trans (x y z : List UInt8) (h1 : decide (x ≤ y) = true) (h2 : decide (y ≤ z) = true) : decide (x ≤ z) = true := by
  rw [dle] at *
  simp only [Bool.not_eq_true'] at *
  cases h : Op.bytesLess z x
  · rfl
  · rcases bl_tri x y with a | a | a
    · have := bl_trans _ _ _ h a
      rw [this] at h2; cases h2
    · subst a; rw [h] at h2; cases h2
    · rw [a] at h1; cases h1
theorem dle_total (x y : List UInt8) : (decide (x ≤ y) || decide (y ≤ x)) = true := by
  rw [dle, dle]
  rcases bl_tri x y with a | a | a
  · rw [bl_asymm a]; rfl
  · subst a; rw [bl_irrefl]; rfl
  · rw [bl_asymm a]; simp
theorem sorted_step (ps : List Pair) (i : Nat) (h : i + 1 < (sorted ps).length) : Op.bytesLess (sorted ps)[i + 1] (sorted ps)[i] = false := by
  have hp := List.pairwise_mergeSort dle_trans dle_total (ps.map pt)
  have := List.pairwise_iff_getElem.1 hp i (i + 1) (by unfold sorted at h; omega) h (by omega)
  rw [dle, Bool.not_eq_true'] at this
  exact this

end Go.Proofs.Qxb6001361a.dn
