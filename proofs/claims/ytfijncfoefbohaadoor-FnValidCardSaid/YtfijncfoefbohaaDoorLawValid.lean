/- FnValid returns true at every cookie. -/
import Derived.Test.YtfijncfoefbohaaDoorValid
import Derived.Test.YtfijncfoefbohaaDoorLawClean
import Derived.Test.YtfijncfoefbohaaDoorQ
import Derived.Deep.QuietTactic
import Derived.BigQuiet
namespace Go.Proofs.YtfijncfoefbohaaDoor
open Go Go.RowKit

theorem kept_eq {p : Int → Bool} {s x : ByteArray} (h : x.data.toList = keepB p s.data.toList) : (x.toList == s.toList) = allB p s.data.toList := by
  rw [Lib.toList_data, Lib.toList_data]
  rcases ha : allB p s.data.toList with _ | _
  · rw [beq_eq_false_iff_ne]
    intro e
    rw [h] at e
    unfold keepB at e
    rw [List.filter_eq_self] at e
    unfold allB at ha
    rw [List.all_eq_false] at ha
    obtain ⟨y, hy, hn⟩ := ha
    exact hn (e y hy)
  · rw [beq_iff_eq, h, keepB_all ha]

theorem ret_val {a b : Bool} (h : a = b) : Value.bool b = .bool a := by rw [h]

set_option maxHeartbeats 4000000 in
set_option maxRecDepth 100000 in
theorem fnValid_walk (c : Ck) (w : World) (h : CkOk c w) :
    Calls Tryd.prog 7 #[.agg c.cells] w fun e w' => e = .returned (.bool true) ∧ Below w.heap.size w w' := by
  have hk1 : ∀ o, CkOk c (w.alloc o) := fun o => ⟨h.name, h.value, h.path, h.domain, h.raw, h.age0, h.age1, h.site0, h.site1, by
    obtain ⟨xs, hxs⟩ := h.unp
    exact ⟨xs, hxs.below ((Below.refl _ _).alloc (Nat.le_refl _) o)⟩⟩
  have HK := Lib.hid hk1
  clear hk1
  unfold Ck.cells
  go_enter Tryd.func7, Tryd.ntmps7
  go_wp2_with fail
  obtain ⟨a1, a2, a3⟩ := alloc_at w c.cells 26
  refine (zzFits1_any c _ (HK.out _)).mono ?_
  rintro e w1 ⟨⟨r, rfl, hr⟩, hb1⟩
  have hb2 : Below w.heap.size w w1 := a2.trans (hb1.mono a2.size)
  rcases r with _ | _
  · have HB := Lib.hid hb2
    clear a1 a2 a3 hb1 hb2
    go_wp2
    go_ret
    exact ⟨rfl, HB.out⟩
  have hf := (hr rfl).1
  have hblk : w1.heap[w.heap.size]? = some (.cells c.cells 26 (0, 0)) := (hb1.block _ a3).trans a1
  have hnlt : w.heap.size < w1.heap.size := Nat.lt_of_lt_of_le a3 hb1.size
  clear hr a1 a2 a3 hb1
  have c0 : w1.cell? ⟨w.heap.size, 0, none⟩ = some (.string c.name) := by rw [Lib.cell_of_heap hblk]; rfl
  have c1 : w1.cell? ⟨w.heap.size, 1, none⟩ = some (.string c.value) := by rw [Lib.cell_of_heap hblk]; rfl
  have c3 : w1.cell? ⟨w.heap.size, 3, none⟩ = some (.string c.path) := by rw [Lib.cell_of_heap hblk]; rfl
  have c4 : w1.cell? ⟨w.heap.size, 4, none⟩ = some (.string c.domain) := by rw [Lib.cell_of_heap hblk]; rfl
  have c6 : w1.cell? ⟨w.heap.size, 6, none⟩ = some (.bool c.secure) := by rw [Lib.cell_of_heap hblk]; rfl
  have c9 : w1.cell? ⟨w.heap.size, 9, none⟩ = some (.bool c.part) := by rw [Lib.cell_of_heap hblk]; rfl
  go_upto_region 3 with fail
  obtain ⟨N, hN⟩ : ∃ N, w.heap.size = N := ⟨_, rfl⟩
  rw [hN] at c0 c1 c3 c4 c6 c9 hblk ⊢
  have HBEL := Lib.hid hb2
  have HNLT := Lib.hid hnlt
  clear hnlt
  have HBLK := Lib.hid hblk
  have HN := Lib.hid hN
  have hm1 : c.name.size ≤ maxLen := by have := hf.name; unfold maxLen; omega
  have hm2 : c.value.size ≤ maxLen := by have := hf.value; unfold maxLen; omega
  have hm3 : c.path.size ≤ 4398046511104 := by have := hf.path; omega
  have hm4 : c.domain.size ≤ 4398046511104 := by have := hf.domain; omega
  clear hb2 hblk hN
  go_cut [3] (fun v wx => v = .bool (validB c) ∧ Below w.heap.size w wx ∧ wx.heap[N]? = some (.cells c.cells 26 (0, 0)))
  case first =>
    have KQ : ∀ x : ByteArray, x.data.toList = keepB pathB c.path.data.toList → (x.toList == c.path.toList) = allB pathB c.path.data.toList := fun x hx => kept_eq hx
    obtain ⟨xk, hxk⟩ : ∃ xk : ByteArray, xk.data.toList = keepB pathB c.path.data.toList := ⟨⟨(keepB pathB c.path.data.toList).toArray⟩, rfl⟩
    have KK : Hid (∀ w, Calls Tryd.prog 23 #[.string c.path, .bool true] w fun e w' => e = .returned (.string xk) ∧ Below w.heap.size w w') := Lib.hid (fun w => (s_Kept_true c.path w hm3).mono fun e w' h => by
      obtain ⟨⟨x, rfl, hx⟩, hb⟩ := h
      exact ⟨by rw [show x = xk from ba_ext (hx.trans hxk.symm)], hb⟩)
    have hq := KQ xk hxk
    have f0 : ∀ q : OverT w1, q.w.cell? ⟨N, 0, none⟩ = some (.string c.name) := fun q => q.h.cell c0
    have f1 : ∀ q : OverT w1, q.w.cell? ⟨N, 1, none⟩ = some (.string c.value) := fun q => q.h.cell c1
    have f3 : ∀ q : OverT w1, q.w.cell? ⟨N, 3, none⟩ = some (.string c.path) := fun q => q.h.cell c3
    have f4 : ∀ q : OverT w1, q.w.cell? ⟨N, 4, none⟩ = some (.string c.domain) := fun q => q.h.cell c4
    have f6 : ∀ q : OverT w1, q.w.cell? ⟨N, 6, none⟩ = some (.bool c.secure) := fun q => q.h.cell c6
    have f9 : ∀ q : OverT w1, q.w.cell? ⟨N, 9, none⟩ = some (.bool c.part) := fun q => q.h.cell c9
    clear KQ hxk c0 c1 c3 c4 c6 c9
    rcases ht : tokS c.name.data.toList with _ | _
    · have HV : Hid (validB c = false) := Lib.hid (by unfold validB; rw [ht]; rfl)
      have TK : Hid (∀ w, Calls Tryd.prog 21 #[.string c.name] w fun e w' => e = .returned (.bool false) ∧ w' = w) := Lib.hid (fun w => by rw [← ht]; exact (s_Token_any c.name w hm1).mono fun _ _ h => ⟨h.1, h.2.symm⟩)
      clear ht
      refine wp_region_C (C := fun w' => ∃ q : OverT w1, w' = q.w) (by kernel_rfl) (by kernel_rfl) (OverT.start w1) ?_
      repeat (go_big_quiet_step ((first
        | (go_at_call 21; exact (TK.out _).mono fun e w' h => ⟨h.1, OverT.same h.2⟩))))
      refine wpQuiet_nil ?_
      rintro _ ⟨q, rfl⟩
      go_wp2
      go_meet
      case rel => exact ⟨ret_val HV.out, HBEL.out.trans (q.h.mono HBEL.out.size), (q.h.block N (HN.out ▸ HNLT.out)).trans HBLK.out⟩
    have TK : Hid (∀ w, Calls Tryd.prog 21 #[.string c.name] w fun e w' => e = .returned (.bool true) ∧ w' = w) := Lib.hid (fun w => by rw [← ht]; exact (s_Token_any c.name w hm1).mono fun _ _ h => ⟨h.1, h.2.symm⟩)
    rcases hw : allB valB c.value.data.toList with _ | _
    · have HV : Hid (validB c = false) := Lib.hid (by unfold validB; rw [ht, hw]; rfl)
      have WK : Hid (∀ w, Calls Tryd.prog 30 #[.string c.value] w fun e w' => e = .returned (.bool false) ∧ w' = w) := Lib.hid (fun w => by rw [← hw]; exact (s_Wide_any c.value w hm2).mono fun _ _ h => ⟨h.1, h.2.symm⟩)
      clear ht hw
      refine wp_region_C (C := fun w' => ∃ q : OverT w1, w' = q.w) (by kernel_rfl) (by kernel_rfl) (OverT.start w1) ?_
      repeat (go_big_quiet_step ((first
        | (go_at_call 21; exact (TK.out _).mono fun e w' h => ⟨h.1, OverT.same h.2⟩)
        | (go_at_call 30; exact (WK.out _).mono fun e w' h => ⟨h.1, OverT.same h.2⟩))))
      refine wpQuiet_nil ?_
      rintro _ ⟨q, rfl⟩
      go_wp2
      go_meet
      case rel => exact ⟨ret_val HV.out, HBEL.out.trans (q.h.mono HBEL.out.size), (q.h.block N (HN.out ▸ HNLT.out)).trans HBLK.out⟩
    have WK : Hid (∀ w, Calls Tryd.prog 30 #[.string c.value] w fun e w' => e = .returned (.bool true) ∧ w' = w) := Lib.hid (fun w => by rw [← hw]; exact (s_Wide_any c.value w hm2).mono fun _ _ h => ⟨h.1, h.2.symm⟩)
    rcases hp : allB pathB c.path.data.toList with _ | _
    · have HV : Hid (validB c = false) := Lib.hid (by unfold validB; rw [ht, hw, hp]; rfl)
      rw [hp] at hq
      clear ht hw hp
      refine wp_region_C (C := fun w' => ∃ q : OverT w1, w' = q.w) (by kernel_rfl) (by kernel_rfl) (OverT.start w1) ?_
      repeat (go_big_quiet_step ((first
        | (go_at_call 21; exact (TK.out _).mono fun e w' h => ⟨h.1, OverT.same h.2⟩)
        | (go_at_call 30; exact (WK.out _).mono fun e w' h => ⟨h.1, OverT.same h.2⟩)
        | (go_at_call 23; exact (KK.out _).mono fun e w' h => ⟨h.1, OverT.next h.2⟩))))
      refine wpQuiet_nil ?_
      rintro _ ⟨q, rfl⟩
      go_wp2
      go_meet
      case rel => exact ⟨ret_val HV.out, HBEL.out.trans (q.h.mono HBEL.out.size), (q.h.block N (HN.out ▸ HNLT.out)).trans HBLK.out⟩
    rw [hp] at hq
    have HV0 : Hid (validB c = ((decide (c.domain.size = 0) || vdB c.domain.data.toList) && (!c.part || c.secure))) := Lib.hid (by unfold validB; rw [ht, hw, hp]; rfl)
    clear ht hw hp
    rcases Nat.eq_zero_or_pos c.domain.size with hd0 | hd0
    · have e1 : c.domain.toList = [] := by rw [Lib.toList_data]; exact List.eq_nil_of_length_eq_zero (by rw [← Lib.size_eq]; exact hd0)
      have HV1 : Hid (validB c = (!c.part || c.secure)) := Lib.hid (by rw [HV0.out, hd0]; rfl)
      clear hd0
      rcases (Bool.eq_false_or_eq_true c.part).symm with hpt | hpt
      · rw [hpt] at f9
        have HV : Hid (validB c = true) := Lib.hid (by rw [HV1.out, hpt]; rfl)
        clear hpt
        refine wp_region_C (C := fun w' => ∃ q : OverT w1, w' = q.w) (by kernel_rfl) (by kernel_rfl) (OverT.start w1) ?_
        repeat (go_big_quiet_step ((first
          | (go_at_call 21; exact (TK.out _).mono fun e w' h => ⟨h.1, OverT.same h.2⟩)
          | (go_at_call 30; exact (WK.out _).mono fun e w' h => ⟨h.1, OverT.same h.2⟩)
          | (go_at_call 23; exact (KK.out _).mono fun e w' h => ⟨h.1, OverT.next h.2⟩))))
        refine wpQuiet_nil ?_
        rintro _ ⟨q, rfl⟩
        go_wp2
        go_meet
        case rel => exact ⟨ret_val HV.out, HBEL.out.trans (q.h.mono HBEL.out.size), (q.h.block N (HN.out ▸ HNLT.out)).trans HBLK.out⟩
      rcases (Bool.eq_false_or_eq_true c.secure).symm with hsec | hsec
      · rw [hpt] at f9
        rw [hsec] at f6
        have HV : Hid (validB c = false) := Lib.hid (by rw [HV1.out, hpt, hsec]; rfl)
        clear hpt hsec
        refine wp_region_C (C := fun w' => ∃ q : OverT w1, w' = q.w) (by kernel_rfl) (by kernel_rfl) (OverT.start w1) ?_
        repeat (go_big_quiet_step ((first
          | (go_at_call 21; exact (TK.out _).mono fun e w' h => ⟨h.1, OverT.same h.2⟩)
          | (go_at_call 30; exact (WK.out _).mono fun e w' h => ⟨h.1, OverT.same h.2⟩)
          | (go_at_call 23; exact (KK.out _).mono fun e w' h => ⟨h.1, OverT.next h.2⟩))))
        refine wpQuiet_nil ?_
        rintro _ ⟨q, rfl⟩
        go_wp2
        go_meet
        case rel => exact ⟨ret_val HV.out, HBEL.out.trans (q.h.mono HBEL.out.size), (q.h.block N (HN.out ▸ HNLT.out)).trans HBLK.out⟩
      · rw [hpt] at f9
        rw [hsec] at f6
        have HV : Hid (validB c = true) := Lib.hid (by rw [HV1.out, hpt, hsec]; rfl)
        clear hpt hsec
        refine wp_region_C (C := fun w' => ∃ q : OverT w1, w' = q.w) (by kernel_rfl) (by kernel_rfl) (OverT.start w1) ?_
        repeat (go_big_quiet_step ((first
          | (go_at_call 21; exact (TK.out _).mono fun e w' h => ⟨h.1, OverT.same h.2⟩)
          | (go_at_call 30; exact (WK.out _).mono fun e w' h => ⟨h.1, OverT.same h.2⟩)
          | (go_at_call 23; exact (KK.out _).mono fun e w' h => ⟨h.1, OverT.next h.2⟩))))
        refine wpQuiet_nil ?_
        rintro _ ⟨q, rfl⟩
        go_wp2
        go_meet
        case rel => exact ⟨ret_val HV.out, HBEL.out.trans (q.h.mono HBEL.out.size), (q.h.block N (HN.out ▸ HNLT.out)).trans HBLK.out⟩
    have e1 : c.domain.toList.isEmpty = false := by rw [Lib.toList_data, List.isEmpty_eq_false_iff]; intro h; exact absurd (show c.domain.size = 0 by rw [Lib.size_eq, h]; rfl) (by omega)
    have hz : decide (c.domain.size = 0) = false := by rw [decide_eq_false_iff_not]; omega
    rcases hv : vdB c.domain.data.toList with _ | _
    · have HV : Hid (validB c = false) := Lib.hid (by rw [HV0.out, hz, hv]; rfl)
      have VK : Hid (∀ w, Calls Tryd.prog 18 #[.string c.domain] w fun e w' => e = .returned (.bool false) ∧ w' = w) := Lib.hid (fun w => by rw [← hv]; exact (i_ValidDomain_any c.domain w hm4).mono fun _ _ h => ⟨h.1, h.2.symm⟩)
      clear hv hz hd0
      refine wp_region_C (C := fun w' => ∃ q : OverT w1, w' = q.w) (by kernel_rfl) (by kernel_rfl) (OverT.start w1) ?_
      repeat (go_big_quiet_step ((first
        | (go_at_call 21; exact (TK.out _).mono fun e w' h => ⟨h.1, OverT.same h.2⟩)
        | (go_at_call 30; exact (WK.out _).mono fun e w' h => ⟨h.1, OverT.same h.2⟩)
        | (go_at_call 18; exact (VK.out _).mono fun e w' h => ⟨h.1, OverT.same h.2⟩)
        | (go_at_call 23; exact (KK.out _).mono fun e w' h => ⟨h.1, OverT.next h.2⟩))))
      refine wpQuiet_nil ?_
      rintro _ ⟨q, rfl⟩
      go_wp2
      go_meet
      case rel => exact ⟨ret_val HV.out, HBEL.out.trans (q.h.mono HBEL.out.size), (q.h.block N (HN.out ▸ HNLT.out)).trans HBLK.out⟩
    have HV1 : Hid (validB c = (!c.part || c.secure)) := Lib.hid (by rw [HV0.out, hz, hv]; rfl)
    have VK : Hid (∀ w, Calls Tryd.prog 18 #[.string c.domain] w fun e w' => e = .returned (.bool true) ∧ w' = w) := Lib.hid (fun w => by rw [← hv]; exact (i_ValidDomain_any c.domain w hm4).mono fun _ _ h => ⟨h.1, h.2.symm⟩)
    clear hv hz hd0
    rcases (Bool.eq_false_or_eq_true c.part).symm with hpt | hpt
    · rw [hpt] at f9
      have HV : Hid (validB c = true) := Lib.hid (by rw [HV1.out, hpt]; rfl)
      clear hpt
      refine wp_region_C (C := fun w' => ∃ q : OverT w1, w' = q.w) (by kernel_rfl) (by kernel_rfl) (OverT.start w1) ?_
      repeat (go_big_quiet_step ((first
        | (go_at_call 21; exact (TK.out _).mono fun e w' h => ⟨h.1, OverT.same h.2⟩)
        | (go_at_call 30; exact (WK.out _).mono fun e w' h => ⟨h.1, OverT.same h.2⟩)
        | (go_at_call 18; exact (VK.out _).mono fun e w' h => ⟨h.1, OverT.same h.2⟩)
        | (go_at_call 23; exact (KK.out _).mono fun e w' h => ⟨h.1, OverT.next h.2⟩))))
      refine wpQuiet_nil ?_
      rintro _ ⟨q, rfl⟩
      go_wp2
      go_meet
      case rel => exact ⟨ret_val HV.out, HBEL.out.trans (q.h.mono HBEL.out.size), (q.h.block N (HN.out ▸ HNLT.out)).trans HBLK.out⟩
    rcases (Bool.eq_false_or_eq_true c.secure).symm with hsec | hsec
    · rw [hpt] at f9
      rw [hsec] at f6
      have HV : Hid (validB c = false) := Lib.hid (by rw [HV1.out, hpt, hsec]; rfl)
      clear hpt hsec
      refine wp_region_C (C := fun w' => ∃ q : OverT w1, w' = q.w) (by kernel_rfl) (by kernel_rfl) (OverT.start w1) ?_
      repeat (go_big_quiet_step ((first
        | (go_at_call 21; exact (TK.out _).mono fun e w' h => ⟨h.1, OverT.same h.2⟩)
        | (go_at_call 30; exact (WK.out _).mono fun e w' h => ⟨h.1, OverT.same h.2⟩)
        | (go_at_call 18; exact (VK.out _).mono fun e w' h => ⟨h.1, OverT.same h.2⟩)
        | (go_at_call 23; exact (KK.out _).mono fun e w' h => ⟨h.1, OverT.next h.2⟩))))
      refine wpQuiet_nil ?_
      rintro _ ⟨q, rfl⟩
      go_wp2
      go_meet
      case rel => exact ⟨ret_val HV.out, HBEL.out.trans (q.h.mono HBEL.out.size), (q.h.block N (HN.out ▸ HNLT.out)).trans HBLK.out⟩
    · rw [hpt] at f9
      rw [hsec] at f6
      have HV : Hid (validB c = true) := Lib.hid (by rw [HV1.out, hpt, hsec]; rfl)
      clear hpt hsec
      refine wp_region_C (C := fun w' => ∃ q : OverT w1, w' = q.w) (by kernel_rfl) (by kernel_rfl) (OverT.start w1) ?_
      repeat (go_big_quiet_step ((first
        | (go_at_call 21; exact (TK.out _).mono fun e w' h => ⟨h.1, OverT.same h.2⟩)
        | (go_at_call 30; exact (WK.out _).mono fun e w' h => ⟨h.1, OverT.same h.2⟩)
        | (go_at_call 18; exact (VK.out _).mono fun e w' h => ⟨h.1, OverT.same h.2⟩)
        | (go_at_call 23; exact (KK.out _).mono fun e w' h => ⟨h.1, OverT.next h.2⟩))))
      refine wpQuiet_nil ?_
      rintro _ ⟨q, rfl⟩
      go_wp2
      go_meet
      case rel => exact ⟨ret_val HV.out, HBEL.out.trans (q.h.mono HBEL.out.size), (q.h.block N (HN.out ▸ HNLT.out)).trans HBLK.out⟩
  case rest =>
  obtain ⟨rfl, hb3, hblk3⟩ := hcut
  have HB3 := Lib.hid hb3
  have HBLK3 := Lib.hid hblk3
  clear c0 c1 c3 c4 c6 c9 hb3 hblk3 HBLK
  go_wp2_with fail
  refine (works_any _).mono ?_; rintro e w5 ⟨rfl, hb5⟩
  have hblk5 : w5.heap[N]? = some (.cells c.cells 26 (0, 0)) := (hb5.block N (by have h1 := HN.out; have h2 := HNLT.out; have h3 := HB3.out.size; exact (Array.getElem?_eq_some_iff.1 HBLK3.out).1)).trans HBLK3.out
  have HB5 := Lib.hid (HB3.out.trans (hb5.mono HB3.out.size))
  clear hb5
  obtain ⟨k0, k1, k2, k3, k4, k5, k6, k7, k8, k9, k10, k11⟩ := ck_cells hblk5
  clear hblk5
  go_wp2_with fail
  refine (i_Valid_any c _ hf).mono ?_; rintro e w6 ⟨rfl, hb6⟩
  have HB6 := Lib.hid (HB5.out.trans (hb6.mono HB5.out.size))
  clear hb6
  go_wp2
  go_ret
  exact ⟨rfl, HB6.out⟩
end Go.Proofs.YtfijncfoefbohaaDoor
