/- The frame that every tied row of the seat shares: the table's cells, a start that the program's own variables' run leaves. -/
import Derived.Test.YtfijncfoefbohaaDoorCards
import Derived.Test.YtfijncfoefbohaaDoorTie
import Derived.Test.YtfijncfoefbohaaDoorPost
import Derived.WalkKit
import Derived.ProofKit
import Derived.LaidMore
import Derived.OpenShut
import Derived.Deep.DeepHandedRow
import Derived.Deep.DeepWitnessRowRef
import Derived.Lib.LaidTab
import Derived.Test.YtfijncfoefbohaaDoorItoa
namespace Go.Proofs.YtfijncfoefbohaaDoor
open Go Go.RowKit Go.ChangeShapes Go.WideShapes Go.ChangeAt

theorem gPow : Tryd.prog.globalNamed "internal/strconv.uint64pow10" = some 8 := by kernel_rfl
theorem gPowType : (Tryd.prog.globals[8]?).map (·.type) = some 145 := by kernel_rfl
theorem cellsPow : Tryd.prog.cellsOf 145 = 20 := by kernel_rfl
theorem cellsU64 : Tryd.prog.cellsOf 117 = 1 := by kernel_rfl

/-- WHAT A ROW's LIST GIVES: the powers of ten. -/
theorem pow_laid {l : List (String × DataW Unit)} {W : World} (hl : l.filter (fun x => x.1 == "internal/strconv.uint64pow10") = [("internal/strconv.uint64pow10", Rows.laid_internal_strconv_uint64pow10)]) (h : laidMetH Tryd.prog l W) :
    Lib.TabIs Tryd.prog W "internal/strconv.uint64pow10" .u64 Lib.pow10Tab := by
  have h2 := h.filter (fun x => x.1 == "internal/strconv.uint64pow10")
  rw [hl] at h2
  exact Lib.tabIs_of_head (rest := []) gPow gPowType Tryd.underlying145 Tryd.underlying117 cellsU64 cellsPow h2

theorem pow_later {W : World} (h : Lib.TabIs Tryd.prog W "internal/strconv.uint64pow10" .u64 Lib.pow10Tab) : ∀ w', Below W.heap.size W w' → Lib.TabIs Tryd.prog w' "internal/strconv.uint64pow10" .u64 Lib.pow10Tab := by
  intro w' hb
  unfold Lib.TabIs World.var? at h ⊢
  rw [gPow] at h ⊢
  simp only [Option.bind_some] at h ⊢
  have hlt : 8 < W.heap.size := by
    rcases Nat.lt_or_ge 8 W.heap.size with h' | h'
    · exact h'
    · rw [Array.getElem?_eq_none h'] at h
      cases h
  rw [hb.block _ hlt]
  exact h

theorem shaped (os : Os) (args : Array Value) : ((World.doorLaid Tryd.prog 400 os).forCall (fun _ _ => 0) ⟨#[], args, []⟩).variablesRefB Tryd.prog = true := by kernel_rfl
theorem settled (os : Os) (args : Array Value) : (((World.doorLaid Tryd.prog 400 os).forCall (fun _ _ => 0) ⟨#[], args, []⟩).heap.toList.drop Tryd.prog.globals.size).take ((begin Tryd.prog (fun _ _ => 0) default).world.heap.size - Tryd.prog.globals.size) =
      (begin Tryd.prog (fun _ _ => 0) default).world.heap.toList.drop Tryd.prog.globals.size := by kernel_rfl
theorem door_met3 (os : Os) (args : Array Value) : laidMet Tryd.prog Rows.fnDomainRow.laid ((World.doorLaid Tryd.prog 400 os).forCall (fun _ _ => 0) ⟨#[], args, []⟩).memory :=
  laidMet_of_run' 8 (by kernel_rfl) (by kernel_rfl)
end Go.Proofs.YtfijncfoefbohaaDoor
