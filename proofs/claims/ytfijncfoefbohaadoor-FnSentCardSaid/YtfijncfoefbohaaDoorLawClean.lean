/- FnClean returns true at every input. -/
import Derived.Test.YtfijncfoefbohaaDoorWorks
namespace Go.Proofs.YtfijncfoefbohaaDoor
open Go Go.RowKit

theorem ba_ext {x y : ByteArray} (h : x.data.toList = y.data.toList) : x = y := by
  cases x with | mk a => cases y with | mk b => cases a; cases b; cases h; rfl

set_option maxHeartbeats 1000000 in
theorem fnClean_walk (s : ByteArray) (q : Bool) (w : World) (hs : s.size ≤ maxLen) :
    Calls Tryd.prog 5 #[.string s, .bool q] w fun e w' => e = .returned (.bool true) ∧ Below w.heap.size w w' := by
  by_cases h0 : (2147483647 : Int) < (s.size : Int)
  · have hd : decide ((2147483647 : Int) < (s.size : Int)) = true := by rw [decide_eq_true_eq]; exact h0
    go_enter Tryd.func5, Tryd.ntmps5
    go_wp2
    go_ret
    exact ⟨rfl, Below.refl _ _⟩
  · have hd : decide ((2147483647 : Int) < (s.size : Int)) = false := by rw [decide_eq_false_iff_not]; exact h0
    have hs4 : s.size ≤ 4398046511104 := by omega
    go_enter Tryd.func5, Tryd.ntmps5
    go_wp2_with fail
    refine (works_any _).mono ?_; rintro e w1 ⟨rfl, hb1⟩
    go_wp2_with fail
    refine (i_CleanValue_any s q _ hs4).mono ?_; rintro e w2 ⟨⟨x1, rfl, hx1⟩, hb2⟩
    have HB := Lib.hid (hb1.trans (hb2.mono hb1.size))
    have HX1 := Lib.hid hx1
    clear hb1 hb2 hx1
    go_wp2_with fail
    refine (s_Kept_false s _ hs4).mono ?_; rintro e w3 ⟨⟨x2, rfl, hx2⟩, hb3⟩
    have HB2 := Lib.hid (HB.out.trans (hb3.mono HB.out.size))
    have hx2s : x2.size ≤ 4398046511104 := by
      have h1 : (keepB valB s.data.toList).length ≤ s.data.toList.length := List.length_filter_le _ _
      rw [Lib.size_eq, hx2]
      rw [Lib.size_eq] at hs4
      omega
    have HX2 := Lib.hid hx2
    clear HB hb3 hx2
    go_wp2_with fail
    refine (s_Written_any x2 q _ hx2s).mono ?_; rintro e w4 ⟨⟨x3, rfl, hx3⟩, rfl⟩
    have h13 : x1 = x3 := ba_ext (by rw [hx3, HX2.out, HX1.out])
    subst h13
    clear hx3 HX1 HX2 hx2s
    go_wp2_with fail
    refine (i_CleanPath_any s _ hs4).mono ?_; rintro e w5 ⟨⟨x4, rfl, hx4⟩, hb5⟩
    have HB3 := Lib.hid (HB2.out.trans (hb5.mono HB2.out.size))
    have HX4 := Lib.hid hx4
    clear HB2 hb5 hx4
    go_wp2_with fail
    refine (s_Kept_true s _ hs4).mono ?_; rintro e w6 ⟨⟨x5, rfl, hx5⟩, hb6⟩
    have HB4 := Lib.hid (HB3.out.trans (hb6.mono HB3.out.size))
    have h45 : x4 = x5 := ba_ext (by rw [hx5, HX4.out])
    subst h45
    clear HB3 hb6 hx5 HX4
    go_wp2
    go_ret
    exact ⟨rfl, HB4.out⟩
end Go.Proofs.YtfijncfoefbohaaDoor
