/- The reference's Kept, Blank, Written; the package's sanitizers of values and paths. -/
import Derived.Test.YtfijncfoefbohaaGreatDoorSan
namespace Go.Proofs.YtfijncfoefbohaaGreatDoor
open Go Go.RowKit

def blankB (n : Int) : Bool := (n == 32) || (n == 44)
theorem app_data (a b : ByteArray) : (a ++ b).data.toList = a.data.toList ++ b.data.toList := by
  rw [ByteArray.data_append, Array.toList_append]
theorem quo_data (s : ByteArray) : (({ data := #[34] } : ByteArray) ++ s ++ { data := #[34] }).data.toList = 34 :: (s.data.toList ++ [34]) := by
  rw [app_data, app_data]; rfl
def writL (l : List UInt8) (q : Bool) : List UInt8 := if q || anyB blankB l then 34 :: (l ++ [34]) else l



end Go.Proofs.YtfijncfoefbohaaGreatDoor
