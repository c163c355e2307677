/- FnDomain, FnClean return true at every input. -/
import Derived.Test.YtfijncfoefbohaaDoorWorks
namespace Go.Proofs.YtfijncfoefbohaaDoor
open Go Go.RowKit

theorem fnDomain_walk (s : ByteArray) (w : World) (hs : s.size ≤ maxLen) :
    Calls Tryd.prog 3 #[.string s] w fun e w' => e = .returned (.bool true) ∧ Below w.heap.size w w' := by
  by_cases h0 : (2147483647 : Int) < (s.size : Int)
  · have hd : decide ((2147483647 : Int) < (s.size : Int)) = true := by rw [decide_eq_true_eq]; exact h0
    go_enter Tryd.func3, Tryd.ntmps3
    go_wp2
    go_ret
    exact ⟨rfl, Below.refl _ _⟩
  · have hd : decide ((2147483647 : Int) < (s.size : Int)) = false := by rw [decide_eq_false_iff_not]; exact h0
    have hv1 : vdB [] = false := by decide
    have hv2 : vdB [49, 50, 55, 46, 48, 46, 48, 46, 49] = true := by decide
    have hv3 : domB s.data.toList = true → vdB s.data.toList = true := by intro h; unfold vdB; rw [h]; rfl
    rcases hdm : domB s.data.toList with _ | _
    · clear hv3
      go_enter Tryd.func3, Tryd.ntmps3
      go_wp2_with fail
      refine (works_any _).mono ?_; rintro e w1 ⟨rfl, hb1⟩
      go_wp2_with fail
      refine (s_DomainName_any _ _ (by omega)).mono ?_; rintro e w2 ⟨rfl, hb2⟩
      have HB := Lib.hid (hb1.trans (hb2.mono hb1.size))
      clear hb1 hb2
      go_wp2_with fail
      refine (i_ValidDomain_any _ _ (by decide)).mono ?_; rintro e w3 ⟨rfl, rfl⟩
      go_wp2_with fail
      refine (i_ValidDomain_any _ _ (by decide)).mono ?_; rintro e w3 ⟨rfl, rfl⟩
      go_wp2
      go_ret
      exact ⟨rfl, HB.out⟩
    · have hvs := hv3 hdm
      clear hv3
      go_enter Tryd.func3, Tryd.ntmps3
      go_wp2_with fail
      refine (works_any _).mono ?_; rintro e w1 ⟨rfl, hb1⟩
      go_wp2_with fail
      refine (s_DomainName_any _ _ (by omega)).mono ?_; rintro e w2 ⟨rfl, hb2⟩
      have HB := Lib.hid (hb1.trans (hb2.mono hb1.size))
      clear hb1 hb2
      go_wp2_with fail
      refine (i_ValidDomain_any _ _ (by omega)).mono ?_; rintro e w3 ⟨rfl, rfl⟩
      go_wp2_with fail
      refine (i_ValidDomain_any _ _ (by decide)).mono ?_; rintro e w3 ⟨rfl, rfl⟩
      go_wp2_with fail
      refine (i_ValidDomain_any _ _ (by decide)).mono ?_; rintro e w3 ⟨rfl, rfl⟩
      go_wp2
      go_ret
      exact ⟨rfl, HB.out⟩
end Go.Proofs.YtfijncfoefbohaaDoor
