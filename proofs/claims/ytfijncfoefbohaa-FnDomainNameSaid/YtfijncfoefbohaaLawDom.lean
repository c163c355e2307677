/- FnDomainName returns true at every text. -/
import Derived.Test.YtfijncfoefbohaaIsDom
namespace Go.Proofs.Ytfijncfoefbohaa
open Go Go.RowKit

theorem zzDomainName_any (s : ByteArray) (w : World) (hs : s.size ≤ maxLen) :
    Calls Try.prog 26 #[.string s] w fun e w' => e = .returned (.bool (domB s.data.toList)) ∧ w = w' := by
  go_enter Try.func26, Try.ntmps26
  go_wp2_with (go_at_call 33; refine (isDom_any _ _ hs).mono ?_; rintro e w' ⟨rfl, rfl⟩)
  go_ret
  exact ⟨rfl, rfl⟩
theorem i_DomainName_any (s : ByteArray) (w : World) (hs : s.size ≤ maxLen) :
    Calls Try.prog 15 #[.string s] w fun e w' => e = .returned (.bool (domB s.data.toList)) ∧ w = w' := by
  go_enter Try.func15, Try.ntmps15
  go_wp2_with (go_at_call 26; refine (zzDomainName_any _ _ hs).mono ?_; rintro e w' ⟨rfl, rfl⟩)
  go_ret
  exact ⟨rfl, rfl⟩
theorem fnDomainName_walk (s : ByteArray) (w : World) (hs : s.size ≤ maxLen) :
    Calls Try.prog 6 #[.string s] w fun e w' => e = .returned (.bool true) ∧ Below w.heap.size w w' := by
  have h1 : domB [97, 46, 98] = true := by decide
  by_cases h0 : (2147483647 : Int) < (s.size : Int)
  · have hd : decide ((2147483647 : Int) < (s.size : Int)) = true := by rw [decide_eq_true_eq]; exact h0
    go_enter Try.func6, Try.ntmps6
    go_wp2
    go_ret
    exact ⟨rfl, Below.refl _ _⟩
  · have hd : decide ((2147483647 : Int) < (s.size : Int)) = false := by rw [decide_eq_false_iff_not]; exact h0
    go_enter Try.func6, Try.ntmps6
    go_wp2_with fail
    refine (i_DomainName_any _ _ hs).mono ?_; rintro e w' ⟨rfl, rfl⟩
    go_wp2_with fail
    refine (s_DomainName_any _ _ (by omega)).mono ?_; rintro e w' ⟨rfl, hb⟩
    go_wp2_with fail
    refine (i_DomainName_any _ _ (by decide)).mono ?_; rintro e w2 ⟨rfl, rfl⟩
    go_wp2
    go_ret
    exact ⟨rfl, hb⟩
end Go.Proofs.Ytfijncfoefbohaa
