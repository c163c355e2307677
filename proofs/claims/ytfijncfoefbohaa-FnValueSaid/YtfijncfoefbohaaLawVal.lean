/- FnName and FnValue return true at every input: the walks over the contracts. -/
import Derived.Test.YtfijncfoefbohaaVal
namespace Go.Proofs.Ytfijncfoefbohaa
open Go Go.RowKit

theorem zzToken_any (s : ByteArray) (w : World) (hs : s.size ≤ maxLen) :
    Calls Try.prog 20 #[.string s] w fun e w' => e = .returned (.bool (tokS s.data.toList)) ∧ w = w' := by
  go_enter Try.func20, Try.ntmps20
  go_wp2_with (go_at_call 31; refine (isToken_any _ _ hs).mono ?_; rintro e w' ⟨rfl, rfl⟩)
  go_ret
  exact ⟨rfl, rfl⟩
theorem i_ValidName_any (s : ByteArray) (w : World) (hs : s.size ≤ maxLen) :
    Calls Try.prog 11 #[.string s] w fun e w' => e = .returned (.bool (tokS s.data.toList)) ∧ w = w' := by
  go_enter Try.func11, Try.ntmps11
  go_wp2_with (go_at_call 20; refine (zzToken_any _ _ hs).mono ?_; rintro e w' ⟨rfl, rfl⟩)
  go_ret
  exact ⟨rfl, rfl⟩
theorem fnName_walk (s : ByteArray) (w : World) (hs : s.size ≤ maxLen) :
    Calls Try.prog 4 #[.string s] w fun e w' => e = .returned (.bool true) ∧ w = w' := by
  have hm : ([97] : List UInt8).length = 1 := rfl
  have ha : tokS [97] = true := by decide
  by_cases h0 : (2147483647 : Int) < (s.size : Int)
  · have hd : decide ((2147483647 : Int) < (s.size : Int)) = true := by rw [decide_eq_true_eq]; exact h0
    go_enter Try.func4, Try.ntmps4
    go_wp2
    go_ret
    exact ⟨rfl, rfl⟩
  · have hd : decide ((2147483647 : Int) < (s.size : Int)) = false := by rw [decide_eq_false_iff_not]; exact h0
    go_enter Try.func4, Try.ntmps4
    go_wp2_with fail
    refine (i_ValidName_any _ _ hs).mono ?_; rintro e w' ⟨rfl, rfl⟩
    go_wp2_with fail
    refine (s_Token_any _ _ hs).mono ?_; rintro e w' ⟨rfl, rfl⟩
    go_wp2_with fail
    refine (i_ValidName_any _ _ (by decide)).mono ?_; rintro e w' ⟨rfl, rfl⟩
    go_wp2
    go_ret
    exact ⟨rfl, rfl⟩
theorem fnValue_walk (s : ByteArray) (q : Bool) (w : World) (hs : s.size ≤ maxLen) :
    Calls Try.prog 5 #[.string s, .bool q] w fun e w' => e = .returned (.bool true) ∧ w = w' := by
  have h1 : allB valB (stripL [97] false) = true := by decide
  by_cases h0 : (2147483647 : Int) < (s.size : Int)
  · have hd : decide ((2147483647 : Int) < (s.size : Int)) = true := by rw [decide_eq_true_eq]; exact h0
    go_enter Try.func5, Try.ntmps5
    go_wp2
    go_ret
    exact ⟨rfl, rfl⟩
  · have hd : decide ((2147483647 : Int) < (s.size : Int)) = false := by rw [decide_eq_false_iff_not]; exact h0
    go_enter Try.func5, Try.ntmps5
    go_wp2_with fail
    refine (s_Value_any _ _ _ hs).mono ?_; rintro e w' ⟨⟨x, rfl, hx⟩, rfl⟩; have HX := Lib.hid hx; clear hx
    go_wp2_with fail
    refine (i_Value_any _ _ _ hs).mono ?_; rintro e w' ⟨⟨y, rfl, hy⟩, rfl⟩
    have hxy : (y.toList == x.toList) = true := by rw [Lib.toList_data, Lib.toList_data, hy, HX.out]; simp
    clear hy
    go_wp2_with fail
    refine (i_Value_any _ _ _ (by decide)).mono ?_; rintro e w' ⟨⟨z, rfl, hz⟩, rfl⟩; clear hz
    go_wp2
    go_ret
    exact ⟨rfl, rfl⟩
end Go.Proofs.Ytfijncfoefbohaa
