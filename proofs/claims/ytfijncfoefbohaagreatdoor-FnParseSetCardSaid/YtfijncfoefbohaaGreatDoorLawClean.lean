/- FnClean returns true at every input. -/
import Derived.Test.YtfijncfoefbohaaGreatDoorWorks
namespace Go.Proofs.YtfijncfoefbohaaGreatDoor
open Go Go.RowKit

theorem ba_ext {x y : ByteArray} (h : x.data.toList = y.data.toList) : x = y := by
  cases x with | mk a => cases y with | mk b => cases a; cases b; cases h; rfl

end Go.Proofs.YtfijncfoefbohaaGreatDoor
