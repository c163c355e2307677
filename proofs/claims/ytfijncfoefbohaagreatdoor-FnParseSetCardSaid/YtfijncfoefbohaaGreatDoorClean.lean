/- sanitizeCookieValue, sanitizeCookiePath and their exports. -/
import Derived.Test.YtfijncfoefbohaaGreatDoorAny
namespace Go.Proofs.YtfijncfoefbohaaGreatDoor
open Go Go.RowKit

theorem keep_ascii (l : List UInt8) : asciiL (keepB valB l) := by
  intro x hx
  unfold keepB at hx
  rw [List.mem_filter] at hx
  have := hx.2
  unfold valB at this
  rw [decide_eq_true_eq] at this
  omega

theorem zzContainsAny_any (s : ByteArray) (w : World) (hs : s.size ≤ 4398046511104) (ha : asciiL s.data.toList) :
    Calls Tryz.prog 55 #[.string s, .string blanks] w fun e w' => e = .returned (.bool (anyB blankB s.data.toList)) ∧ Below w.heap.size w w' := by
  go_enter Tryz.func55, Tryz.ntmps55
  go_wp2_with fail
  refine (zzIndexAny_any s w hs ha).mono ?_
  rintro e w' ⟨⟨r, rfl, hr⟩, hb⟩
  have HR := Lib.hid hr
  clear hr
  go_wp2
  go_ret
  exact ⟨ret_bool HR.out, hb⟩

set_option maxHeartbeats 400000 in
theorem sanVal_any (s : ByteArray) (q : Bool) (w : World) (hs : s.size ≤ 4398046511104) :
    Calls Tryz.prog 39 #[.string s, .bool q] w fun e w' => StrPost (writL (keepB valB s.data.toList) q) e ∧ Below w.heap.size w w' := by
  go_enter Tryz.func39, Tryz.ntmps39
  go_wp2_with fail
  refine (san_val _ s w hs).mono ?_
  rintro e w1 ⟨⟨x, rfl, hx⟩, hb1⟩
  have hxs : x.size ≤ s.size := by
    have := keepB_le valB s.data.toList
    rw [← hx, ← Lib.size_eq, ← Lib.size_eq] at this
    exact this
  have hxa : asciiL x.data.toList := by rw [hx]; exact keep_ascii _
  have h1 : ∀ y : ByteArray, y.data.toList = 34 :: (x.data.toList ++ [34]) → (q || anyB blankB x.data.toList) = true → y.data.toList = writL (keepB valB s.data.toList) q := by
    intro y hy hq; rw [hx] at hq; unfold writL; rw [if_pos hq, hy, hx]
  have h2 : (q || anyB blankB x.data.toList) = false → x.data.toList = writL (keepB valB s.data.toList) q := by
    intro hq; rw [hx] at hq ⊢; unfold writL; rw [hq]; rfl
  have H1 := Lib.hid h1
  have H2 := Lib.hid h2
  have HXA := Lib.hid hxa
  clear h1 h2 hx hxa
  go_wp2_with fail
  refine (zzContainsAny_any x w1 (by omega) HXA.out).mono ?_
  rintro e w2 ⟨rfl, hb2⟩
  have hb := hb1.trans (hb2.mono hb1.size)
  clear hb1 hb2
  generalize hc : anyB blankB x.data.toList = c at *
  have HC := Lib.hid hc
  clear hc
  cases c
  · cases q
    · go_wp2
      go_ret
      exact ⟨⟨x, rfl, H2.out rfl⟩, hb⟩
    · go_wp2
      go_ret
      exact ⟨⟨_, rfl, H1.out _ (quo_data x) rfl⟩, hb⟩
  · go_wp2
    go_ret
    exact ⟨⟨_, rfl, H1.out _ (quo_data x) (by simp)⟩, hb⟩

theorem sanPath_any (s : ByteArray) (w : World) (hs : s.size ≤ 4398046511104) :
    Calls Tryz.prog 40 #[.string s] w fun e w' => StrPost (keepB pathB s.data.toList) e ∧ Below w.heap.size w w' := by
  go_enter Tryz.func40, Tryz.ntmps40
  go_wp2_with fail
  refine (san_path _ s w hs).mono ?_
  rintro e w1 ⟨⟨x, rfl, hx⟩, hb1⟩
  have HX := Lib.hid hx
  clear hx
  go_wp2
  go_ret
  exact ⟨⟨x, rfl, HX.out⟩, hb1⟩
end Go.Proofs.YtfijncfoefbohaaGreatDoor
