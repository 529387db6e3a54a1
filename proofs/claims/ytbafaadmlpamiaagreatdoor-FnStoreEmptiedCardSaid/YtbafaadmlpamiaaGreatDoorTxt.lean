/- Texts compared. Of no program. -/
import Derived.Test.YtbafaadmlpamiaaGreatDoorA1
namespace Go.Proofs.YtbafaadmlpamiaaGreatDoor
open Go Go.Hy
theorem text_ne {a b : ByteArray} (h : ¬ a = b) : (a.toList == b.toList) = false := by
 cases e : a.toList == b.toList with
 | false => rfl
 | true => exact absurd (toList_inj (beq_iff_eq.1 e)) h
theorem text_dec (a b : ByteArray) : (a.toList == b.toList) = decide (a = b) := by
 by_cases h : a = b
 · subst h;simp
 · rw [text_ne h,decide_eq_false h]
end Go.Proofs.YtbafaadmlpamiaaGreatDoor
