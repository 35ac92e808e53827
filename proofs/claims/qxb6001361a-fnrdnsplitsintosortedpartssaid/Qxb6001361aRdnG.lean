/- zzB1splitBarePlus: the pieces between the bare plus signs. -/
import Derived.Test.Qxb6001361aRdnF
namespace Go.Proofs.Qxb6001361a.dn
open Go.RowKit

/-- the pieces of l, the first of them begun by cur -/
def sp : List UInt8 → List UInt8 → List (List UInt8)
  | [], cur => [cur]
  | [c], cur => if c = 92 then [cur ++ [92]] else if c = 43 then [cur, []] else [cur ++ [c]]
  | c :: d :: l, cur => if c = 92 then sp l (cur ++ [92, d]) else if c = 43 then cur :: sp (d :: l) [] else sp (d :: l) (cur ++ [c])
theorem sp_nil (cur : List UInt8) : sp [] cur = [cur] := by unfold sp; rfl
theorem sp_plus (l cur : List UInt8) : sp (43 :: l) cur = cur :: sp l [] := by
  cases l with
  | nil => simp [sp]
  | cons d l => simp [sp]
theorem sp_other (c : UInt8) (l cur : List UInt8) (h1 : c ≠ 92) (h2 : c ≠ 43) : sp (c :: l) cur = sp l (cur ++ [c]) := by
  cases l with
  | nil => simp [sp, h1, h2]
  | cons d l => simp [sp, h1, h2]
theorem sp_slash (d : UInt8) (l cur : List UInt8) : sp (92 :: d :: l) cur = sp l (cur ++ [92, d]) := by simp [sp]
theorem sp_slash_end (cur : List UInt8) : sp [92] cur = [cur ++ [92]] := by simp [sp]

/-- what stands between places a and b -/
def cut (l : List UInt8) (a b : Nat) : List UInt8 := (l.drop a).take (b - a)
theorem cut_self (l : List UInt8) (a : Nat) : cut l a a = [] := by simp [cut]
theorem cut_succ (l : List UInt8) (a k : Nat) (h : a ≤ k) (hk : k < l.length) : cut l a (k + 1) = cut l a k ++ [l[k]] := by
  unfold cut
  have e : k + 1 - a = (k - a) + 1 := by omega
  have hlt : k - a < (l.drop a).length := by rw [List.length_drop]; omega
  rw [e, List.take_succ_eq_append_getElem hlt]
  congr 1
  rw [List.getElem_drop]
  have : a + (k - a) = k := by omega
  simp only [this]
theorem cut_past (l : List UInt8) (a k : Nat) (hk : l.length ≤ k) : cut l a k = l.drop a := by
  unfold cut
  rw [List.take_of_length_le (by rw [List.length_drop]; omega)]
theorem str_cut (s : ByteArray) (a b : Nat) : s.extract a b = str (cut s.data.toList a b) := by
  apply ByteArray.ext
  apply Array.toList_inj.1
  rw [Lib.extract_data]; rfl

/-- the loop's three steps -/
theorem sp_step_other (l : List UInt8) (st k : Nat) (P : List (List UInt8)) (R : List (List UInt8)) (hst : st ≤ k) (hk : k < l.length) (h1 : l[k] ≠ 92) (h2 : l[k] ≠ 43)
    (h : P ++ sp (l.drop k) (cut l st k) = R) : P ++ sp (l.drop (k + 1)) (cut l st (k + 1)) = R := by
  rw [← h, List.drop_eq_getElem_cons hk, sp_other _ _ _ h1 h2, cut_succ l st k hst hk]
theorem sp_step_plus (l : List UInt8) (st k : Nat) (P : List (List UInt8)) (R : List (List UInt8)) (hk : k < l.length) (h1 : l[k] = 43)
    (h : P ++ sp (l.drop k) (cut l st k) = R) : (P ++ [cut l st k]) ++ sp (l.drop (k + 1)) (cut l (k + 1) (k + 1)) = R := by
  rw [← h, List.drop_eq_getElem_cons hk, h1, sp_plus, cut_self, List.append_assoc]; rfl
theorem sp_step_slash (l : List UInt8) (st k : Nat) (P : List (List UInt8)) (R : List (List UInt8)) (hst : st ≤ k) (hk : k < l.length) (h1 : l[k] = 92)
    (h : P ++ sp (l.drop k) (cut l st k) = R) : P ++ sp (l.drop (k + 2)) (cut l st (k + 2)) = R := by
  rw [← h]
  by_cases h2 : k + 1 < l.length
  · rw [List.drop_eq_getElem_cons hk, List.drop_eq_getElem_cons h2, h1, sp_slash, cut_succ l st (k + 1) (by omega) h2, cut_succ l st k hst hk, h1, List.append_assoc]; rfl
  · have e : l.drop (k + 2) = [] := List.drop_of_length_le (by omega)
    have e1 : l.drop (k + 1) = [] := List.drop_of_length_le (by omega)
    rw [List.drop_eq_getElem_cons hk, e1, h1, sp_slash_end, e, sp_nil]
    have e2 : cut l st (k + 2) = cut l st (k + 1) := by rw [cut_past l st (k + 2) (by omega), cut_past l st (k + 1) (by omega)]
    rw [e2, cut_succ l st k hst hk, h1]
theorem sp_step_end (l : List UInt8) (st k : Nat) (P : List (List UInt8)) (R : List (List UInt8)) (hk : l.length ≤ k)
    (h : P ++ sp (l.drop k) (cut l st k) = R) : P ++ [cut l st l.length] = R := by
  rw [← h, List.drop_of_length_le hk, sp_nil, cut_past l st k hk, cut_past l st l.length (Nat.le_refl _)]

end Go.Proofs.Qxb6001361a.dn
