/- zzB1pairLess. -/
import Derived.Test.Qxb6001361aRdnE
namespace Go.Proofs.Qxb6001361a.dn
open Go.RowKit

/-- the pair p comes ahead of q -/
def less (p q : ByteArray × ByteArray) : Bool := if (p.1.toList == q.1.toList) = true then Op.bytesLess p.2.toList q.2.toList else Op.bytesLess p.1.toList q.1.toList

theorem zz38 (p q : ByteArray × ByteArray) (w : World) :
    Calls Try.prog 38 #[.agg #[.string p.1, .string p.2], .agg #[.string q.1, .string q.2]] w fun e w' => e = .returned (.bool (less p q)) ∧ Below w.heap.size w w' := by
  obtain ⟨p1, p2⟩ := p
  obtain ⟨q1, q2⟩ := q
  have hb : Below w.heap.size w ((w.alloc (.cells #[.string p1, .string p2] 41)).alloc (.cells #[.string q1, .string q2] 41)) := ((Below.refl _ _).alloc (Nat.le_refl _) _).alloc (by simp) _
  cases he : (p1.toList == q1.toList)
  · have hl : less (p1, p2) (q1, q2) = Op.bytesLess p1.toList q1.toList := by unfold less; simp only [he]; rfl
    rw [hl]
    clear hl
    go_enter Try.func38, Try.ntmps38
    go_wp2
    go_ret
    exact ⟨rfl, hb⟩
  · have hl : less (p1, p2) (q1, q2) = Op.bytesLess p2.toList q2.toList := by unfold less; simp only [he]; rfl
    rw [hl]
    clear hl
    go_enter Try.func38, Try.ntmps38
    go_wp2
    go_ret
    exact ⟨rfl, hb⟩

end Go.Proofs.Qxb6001361a.dn
