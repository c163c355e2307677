/- FnBytes returns true at every byte: the walk over the contracts of the byte functions. -/
import Derived.Test.YtfijncfoefbohaaBytes
namespace Go.Proofs.Ytfijncfoefbohaa
open Go Go.RowKit
theorem fnBytes_walk (n : Int) (w : World) :
    Calls Try.prog 3 #[.int .u8 n] w fun e w' => e = .returned (.bool true) ∧ w = w' := by
  have h47 : pathB 47 = true := by decide
  go_enter Try.func3, Try.ntmps3
  go_wp2_with (first
    | (go_at_call 7; refine (i_ValidValueByte_any _ _).mono ?_; rintro e w' ⟨rfl, rfl⟩)
    | (go_at_call 8; refine (s_ValueByte_any _ _).mono ?_; rintro e w' ⟨rfl, rfl⟩)
    | (go_at_call 9; refine (i_ValidPathByte_any _ _).mono ?_; rintro e w' ⟨rfl, rfl⟩)
    | (go_at_call 10; refine (s_PathByte_any _ _).mono ?_; rintro e w' ⟨rfl, rfl⟩))
  go_ret
  exact ⟨rfl, rfl⟩
end Go.Proofs.Ytfijncfoefbohaa
