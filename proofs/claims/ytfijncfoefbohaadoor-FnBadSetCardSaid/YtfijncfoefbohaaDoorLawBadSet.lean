/- FnBadSet returns true at every line. -/
import Derived.Test.YtfijncfoefbohaaDoorISet
import Derived.Test.YtfijncfoefbohaaDoorBlank
import Derived.Test.YtfijncfoefbohaaDoorLawClean
namespace Go.Proofs.YtfijncfoefbohaaDoor
open Go Go.RowKit

set_option maxHeartbeats 4000000 in
set_option maxRecDepth 100000 in
theorem fnBadSet_walk (s : ByteArray) (w : World) (hs : s.size ≤ maxLen) (he : ErrsS w) (hv : NumVars w) :
    Calls Tryd.prog 13 #[.string s] w fun e w' => e = .returned (.bool true) ∧ Below w.heap.size w w' := by
  by_cases h0 : (2147483647 : Int) < (s.size : Int)
  · have hd : decide ((2147483647 : Int) < (s.size : Int)) = true := by rw [decide_eq_true_eq]; exact h0
    go_enter Tryd.func13, Tryd.ntmps13
    go_wp2
    go_ret
    exact ⟨rfl, Below.refl _ _⟩
  have hd : decide ((2147483647 : Int) < (s.size : Int)) = false := by rw [decide_eq_false_iff_not]; exact h0
  have hs4 : s.size ≤ 4398046511104 := by omega
  have HE := Lib.hid he
  have HV := Lib.hid hv
  clear he hv
  go_enter Tryd.func13, Tryd.ntmps13
  go_wp2_with fail
  refine (s_Split_any s 59 59 rfl _ hs4).mono ?_
  rintro e w1 ⟨xs, ⟨g, cap, rfl, hown, hb1⟩, hxs⟩
  obtain ⟨r, hr⟩ := splitL_head 59 s.data.toList
  have hn : 0 < xs.length := by
    have h1 := congrArg List.length hxs
    rw [List.length_map, hr] at h1
    simp at h1; omega
  have hpx : PartsAt g xs w1 := PartsAt.of_own hown
  have hck := hpx.cell hn
  obtain ⟨p, hp⟩ : ∃ p, xs[0] = p := ⟨_, rfl⟩
  have hpl : p.data.toList = cutA 59 s.data.toList := by
    cases xs with
    | nil => cases hn
    | cons a m =>
      rw [hr] at hxs
      simp only [List.map_cons, List.cons.injEq] at hxs
      simp only [List.getElem_cons_zero] at hp
      rw [← hp]; exact hxs.1
  have hpz : p.size ≤ 4398046511104 := by
    have h1 := cutA_le (c := 59) (l := s.data.toList)
    rw [← hpl, ← Lib.size_eq, ← Lib.size_eq] at h1
    omega
  have hpm : p.size ≤ maxLen := by unfold maxLen; omega
  rw [hp] at hck
  have HPL := Lib.hid hpl
  have HB1 := Lib.hid hb1
  clear hpx hown hxs hr hp hpl hb1
  go_wp2_with fail
  refine (l_cut_any p _ hpm).mono ?_
  rintro e w2 ⟨⟨x, y, rfl, hx, hy⟩, hb2⟩
  have HX := Lib.hid hx
  have HY := Lib.hid hy
  have HB2 := Lib.hid (HB1.out.trans (hb2.mono HB1.out.size))
  have hxz : x.size ≤ maxLen := (cutA_size hx (by omega) hpz).1
  have hyz : y.size ≤ maxLen := (cutB_size hy hpz).1
  obtain ⟨hq, hhs⟩ : ∃ q, hasB 61 p.data.toList = q := ⟨_, rfl⟩
  rw [hhs]
  have HHS := Lib.hid hhs
  clear hx hy hb2 hhs hck
  go_wp2_with fail
  refine (s_Value_any y true _ hyz).mono ?_
  rintro e w1' ⟨⟨z, rfl, hz⟩, rfl⟩
  obtain ⟨fi, hfi⟩ : ∃ q, allB valB (stripL y.data.toList true) = q := ⟨_, rfl⟩
  rw [hfi]
  have HFI := Lib.hid hfi
  generalize qB y.data.toList true = qq
  clear hz hfi
  go_upto_region 6 with fail
  go_cut [42] (fun v wx => (∃ t : Bool, v = .bool t ∧ (t = false → setP s.data.toList = none)) ∧ Below w.heap.size w wx)
  case first =>
    go_wp2_with fail
    refine (l_blank_any p _ hpm).mono ?_; rintro e w3 ⟨rfl, hb3⟩
    have HB3 := Lib.hid (HB2.out.trans (hb3.mono HB2.out.size))
    clear hb3
    rcases hbl : blankL p.data.toList with _ | _
    case true =>
      go_wp2
      go_meet
      case rel => exact ⟨⟨_, rfl, fun h => by cases h⟩, HB3.out⟩
    have HBAD : Hid (pairOk p.data.toList = false → setP s.data.toList = none) := Lib.hid (fun h => setP_bad (by rw [← HPL.out]; exact hbl) (by rw [← HPL.out]; exact h))
    have HBL := Lib.hid hbl
    clear hbl
    rcases hq with _ | _
    · go_wp2
      go_meet
      case rel => exact ⟨⟨_, rfl, fun _ => HBAD.out (by unfold pairOk; rw [HHS.out]; rfl)⟩, HB3.out⟩
    · rcases htk : tokS (cutA 61 p.data.toList) with _ | _
      · have HTK := Lib.hid htk
        clear htk
        go_wp2_with (go_at_call 21; refine (s_Token_any x _ hxz).mono ?_; rintro e w' ⟨rfl, rfl⟩; rw [HX.out, HTK.out])
        go_meet
        case rel => exact ⟨⟨_, rfl, fun _ => HBAD.out (by unfold pairOk; rw [HTK.out]; simp)⟩, HB3.out⟩
      · have HTK := Lib.hid htk
        clear htk
        go_wp2_with (go_at_call 21; refine (s_Token_any x _ hxz).mono ?_; rintro e w' ⟨rfl, rfl⟩; rw [HX.out, HTK.out])
        go_meet
        case rel => exact ⟨⟨_, rfl, fun h => HBAD.out (by unfold pairOk; rw [← HY.out, HFI.out, h]; simp)⟩, HB3.out⟩
  case rest =>
  obtain ⟨⟨t, rfl, ht⟩, hbx⟩ := hcut
  have HBX := Lib.hid hbx
  clear hbx
  rcases t with _ | _
  case true =>
    clear ht
    go_wp2_with fail
    refine (works_any _).mono ?_; rintro e w3 ⟨rfl, hb3⟩
    have HB3 := Lib.hid (HBX.out.trans (hb3.mono HBX.out.size))
    clear hb3
    go_wp2
    go_ret
    exact ⟨rfl, HB3.out⟩
  have HN := Lib.hid (ht rfl)
  clear ht
  go_wp2_with fail
  refine (i_ParseSet_any s _ hs4 (HE.out.kept HBX.out) (HV.out.kept HBX.out)).mono ?_
  rintro e w4 ⟨⟨c, pc, rfl, hset, -, -⟩ | ⟨-, rfl⟩, hb4⟩
  · exact absurd (hset.symm.trans HN.out) (by simp)
  · have HB4 := Lib.hid (HBX.out.trans (hb4.mono HBX.out.size))
    clear hb4
    unfold Ck.cells ckZ
    go_wp2_with fail
    obtain ⟨a1, a2, a3⟩ := alloc_at w4 ckZ.cells 26
    unfold Ck.cells ckZ at a2
    refine (works_any _).mono ?_; rintro e w5 ⟨rfl, hb5⟩
    have HB5 : Hid (Below w.heap.size w w5) := Lib.hid ((HB4.out.trans (a2.mono HB4.out.size)).trans (hb5.mono (Nat.le_trans HB4.out.size a2.size)))
    clear a1 a2 a3 hb5
    go_wp2
    go_ret
    exact ⟨rfl, HB5.out⟩
end Go.Proofs.YtfijncfoefbohaaDoor
