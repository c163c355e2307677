/- The reference's label and DomainName. -/
import Derived.Test.YtfijncfoefbohaaGreatDoorSplit
namespace Go.Proofs.YtfijncfoefbohaaGreatDoor
open Go Go.RowKit

def hostB (n : Int) : Bool := letB n || digB n || (n == 45)
def headN (l : List UInt8) : Int := ((l.head?.getD 0).toNat : Int)
def lastN (l : List UInt8) : Int := ((l.getLast?.getD 0).toNat : Int)
def labB (l : List UInt8) : Bool := allB hostB l && (decide (1 ≤ l.length) && (decide (l.length ≤ 63) && ((headN l != 45) && (lastN l != 45))))

theorem labB_no {l : List UInt8} (h : allB hostB l = false) : labB l = false := by unfold labB; rw [h]; rfl
theorem labB_empty {s : ByteArray} (h : s.size = 0) : labB s.data.toList = false := by
  unfold labB
  rw [← Lib.size_eq, h]; simp
theorem labB_long {s : ByteArray} (h : 63 < s.size) : labB s.data.toList = false := by
  unfold labB
  rw [← Lib.size_eq, show decide (s.size ≤ 63) = false from by rw [decide_eq_false_iff_not]; omega]; simp
theorem labB_rest {s : ByteArray} (ha : allB hostB s.data.toList = true) (h1 : 0 < s.size) (h2 : s.size ≤ 63) :
    labB s.data.toList = (((s[0].toNat : Int) != 45) && ((s[s.size - 1].toNat : Int) != 45)) := by
  unfold labB headN lastN
  rw [ha, head_of s h1, last_of s (by omega), ← Lib.size_eq, show decide (s.size ≤ 63) = true from by rw [decide_eq_true_eq]; omega, show decide (1 ≤ s.size) = true from by rw [decide_eq_true_eq]; omega]
  simp

end Go.Proofs.YtfijncfoefbohaaGreatDoor
