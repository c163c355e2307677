/- FnBadPair returns true at every input. -/
import Derived.Test.YtfijncfoefbohaaDoorAll
import Derived.Test.YtfijncfoefbohaaDoorBlank
import Derived.Test.YtfijncfoefbohaaDoorWorks
namespace Go.Proofs.YtfijncfoefbohaaDoor
open Go Go.RowKit

theorem bad_line {a p b : ByteArray} {line : ByteArray} (hl : line.data.toList = a.data.toList ++ [59, 32] ++ p.data.toList ++ [59, 32] ++ b.data.toList) (hp : ∀ x ∈ p.data.toList, x ≠ 59) (hn : pairOf (32 :: p.data.toList) = none)
    {cs : List Ck} (h : ReadOk' line.data.toList cs) : False := by
  have h1 := bad_part (a := a.data.toList) (b := b.data.toList) hp
  rw [← hl] at h1
  have h2 : none ∈ (splitL 59 line.data.toList).map pairOf := List.mem_map.2 ⟨_, h1, hn⟩
  rw [h.1] at h2
  simp at h2

set_option maxHeartbeats 2000000 in
set_option maxRecDepth 100000 in
theorem fnBadPair_walk (a p b : ByteArray) (w : World) (ha : a.size ≤ maxLen) (hp : p.size ≤ maxLen) (hb : b.size ≤ maxLen) (he : ErrsAt w) :
    Calls Tryd.prog 8 #[.string a, .string p, .string b] w fun e w' => e = .returned (.bool true) ∧ Below w.heap.size w w' := by
  have HE := Lib.hid he
  clear he
  by_cases h1 : a.size ≤ 2147483647
  case neg =>
    have d1 : decide ((2147483647 : Int) < (a.size : Int)) = true := by rw [decide_eq_true_eq]; omega
    go_enter Tryd.func8, Tryd.ntmps8
    go_wp2
    go_ret
    exact ⟨rfl, Below.refl _ _⟩
  have d1 : decide ((2147483647 : Int) < (a.size : Int)) = false := by rw [decide_eq_false_iff_not]; omega
  by_cases h2 : p.size ≤ 2147483647
  case neg =>
    have d2 : decide ((2147483647 : Int) < (p.size : Int)) = true := by rw [decide_eq_true_eq]; omega
    go_enter Tryd.func8, Tryd.ntmps8
    go_wp2
    go_ret
    exact ⟨rfl, Below.refl _ _⟩
  have d2 : decide ((2147483647 : Int) < (p.size : Int)) = false := by rw [decide_eq_false_iff_not]; omega
  by_cases h3 : b.size ≤ 2147483647
  case neg =>
    have d3 : decide ((2147483647 : Int) < (b.size : Int)) = true := by rw [decide_eq_true_eq]; omega
    go_enter Tryd.func8, Tryd.ntmps8
    go_wp2
    go_ret
    exact ⟨rfl, Below.refl _ _⟩
  have d3 : decide ((2147483647 : Int) < (b.size : Int)) = false := by rw [decide_eq_false_iff_not]; omega
  go_enter Tryd.func8, Tryd.ntmps8
  go_wp2_with fail
  refine (l_cut_any p _ hp).mono ?_
  rintro e w1 ⟨⟨x, y, rfl, hx, hy⟩, hb1⟩
  have HX := Lib.hid hx
  have HY := Lib.hid hy
  have HB := Lib.hid hb1
  have hxz : x.size ≤ maxLen := (cutA_size hx (by omega) (by omega)).1
  have hyz : y.size ≤ maxLen := (cutB_size hy (by omega)).1
  obtain ⟨hs, hhs⟩ : ∃ q, hasB 61 p.data.toList = q := ⟨_, rfl⟩
  rw [hhs]
  have HHS := Lib.hid hhs
  clear hx hy hb1 hhs
  go_wp2_with fail
  refine (s_Value_any y true _ hyz).mono ?_
  rintro e w1' ⟨⟨z, rfl, hz⟩, rfl⟩
  obtain ⟨fi, hfi⟩ : ∃ q, allB valB (stripL y.data.toList true) = q := ⟨_, rfl⟩
  rw [hfi]
  have HFI := Lib.hid hfi
  generalize qB y.data.toList true = qq
  clear hz hfi
  go_wp2
  go_loop [13, 43] (fun _ i => ∃ k : Nat, k ≤ p.size ∧ i = .int .i64 k ∧ ∀ c ∈ p.data.toList.take k, c ≠ 59) (fun _ i => p.size - (intOf i).toNat)
  case atStart => exact ⟨0, Nat.zero_le _, rfl, by simp⟩
  case round =>
    obtain ⟨k, hk, rfl, ha2⟩ := hrel
    have HA := Lib.hid ha2; clear ha2
    by_cases hlt : k < p.size
    · rcases hc : ((p[k].toNat : Int) == 59) with _ | _
      · have HST : Hid (∀ x ∈ p.data.toList.take (k + 1), x ≠ 59) := Lib.hid (take_ne_succ hlt HA.out (by intro e; rw [e] at hc; revert hc; decide))
        go_wp2
        go_round
        case rel => exact ⟨k + 1, by omega, by go_num, HST.out⟩
        case measure => simp [intOf]; omega
      · go_wp2_with fail
        refine (works_any _).mono ?_; rintro e w2 ⟨rfl, hb2⟩
        have HB2 := Lib.hid (HB.out.trans (hb2.mono HB.out.size))
        clear hb2
        go_wp2
        go_ret
        exact ⟨rfl, HB2.out⟩
    · have hn : ∀ c ∈ p.data.toList, c ≠ 59 := by have := HA.out; rw [take_all p k (by omega)] at this; exact this
      have HN := Lib.hid hn
      have hd : decide ((k : Int) < (p.size : Int)) = false := by rw [decide_eq_false_iff_not]; omega
      clear hn HA
      go_upto_region 11 with fail
      go_cut [63] (fun v wx => (∃ g : Bool, v = .bool g ∧ (g = false → pairOf (32 :: p.data.toList) = none)) ∧ Below w.heap.size w wx)
      case first =>
        go_wp2_with fail
        refine (l_blank_any p _ hp).mono ?_; rintro e w2 ⟨rfl, hb2⟩
        have HB2 := Lib.hid (HB.out.trans (hb2.mono HB.out.size))
        clear hb2
        rcases hbl : blankL p.data.toList with _ | _
        case true =>
          go_wp2
          go_meet
          case rel => exact ⟨⟨_, rfl, fun h => by cases h⟩, HB2.out⟩
        have HBL := Lib.hid hbl
        clear hbl
        have HBAD : Hid (pairOk p.data.toList = false → pairOf (32 :: p.data.toList) = none) := Lib.hid (fun h => (pair_bad HBL.out h).1)
        rcases hs with _ | _
        · go_wp2
          go_meet
          case rel => exact ⟨⟨_, rfl, fun _ => HBAD.out (by unfold pairOk; rw [HHS.out]; rfl)⟩, HB2.out⟩
        · rcases htk : tokS (cutA 61 p.data.toList) with _ | _
          · have HTK := Lib.hid htk
            clear htk
            go_wp2_with (go_at_call 21; refine (s_Token_any x _ hxz).mono ?_; rintro e w' ⟨rfl, rfl⟩; rw [HX.out, HTK.out])
            go_meet
            case rel => exact ⟨⟨_, rfl, fun _ => HBAD.out (by unfold pairOk; rw [HTK.out]; simp)⟩, HB2.out⟩
          · have HTK := Lib.hid htk
            clear htk
            go_wp2_with (go_at_call 21; refine (s_Token_any x _ hxz).mono ?_; rintro e w' ⟨rfl, rfl⟩; rw [HX.out, HTK.out])
            go_meet
            case rel => exact ⟨⟨_, rfl, fun h => HBAD.out (by unfold pairOk; rw [← HY.out, HFI.out, h]; simp)⟩, HB2.out⟩
      case rest =>
      obtain ⟨⟨g, rfl, hg⟩, hbx⟩ := hcut
      have HBX := Lib.hid hbx
      clear hbx
      rcases g with _ | _
      case true =>
        clear hg
        go_wp2_with fail
        refine (works_any _).mono ?_; rintro e w2 ⟨rfl, hb2⟩
        have HB2 := Lib.hid (HBX.out.trans (hb2.mono HBX.out.size))
        clear hb2
        go_wp2
        go_ret
        exact ⟨rfl, HB2.out⟩
      have HG := Lib.hid (hg rfl)
      clear hg
      have n1 : ¬ (9223372036854775807 < a.size + 2) := by omega
      have n2 : ¬ (9223372036854775807 < a.size + 2 + p.size) := by omega
      have n3 : ¬ (9223372036854775807 < a.size + 2 + p.size + 2) := by omega
      have n4 : ¬ (9223372036854775807 < a.size + 2 + p.size + 2 + b.size) := by omega
      go_wp2_with fail
      have hln : (a ++ (⟨#[59, 32]⟩ : ByteArray) ++ p ++ ⟨#[59, 32]⟩ ++ b).data.toList = a.data.toList ++ [59, 32] ++ p.data.toList ++ [59, 32] ++ b.data.toList := by
        rw [app_data, app_data, app_data, app_data]
      have hz : a.data.toList.length + 2 + p.data.toList.length + 2 + b.data.toList.length ≤ 4398046511104 := by
        rw [← Lib.size_eq, ← Lib.size_eq, ← Lib.size_eq]; omega
      have HZ := Lib.hid hz
      have HLN := Lib.hid hln
      clear hz hln n1 n2 n3 n4 hd d1 d2 d3
      refine (i_Parse_any _ _ ?z1 ?z2).mono ?z3
      case z1 => rw [Lib.size_eq, HLN.out]; have := HZ.out; simp only [List.length_append, List.length_cons, List.length_nil]; omega
      case z2 => exact HE.out.kept HBX.out
      rintro e w3 ⟨⟨v, cs, rfl, -, hr⟩ | ⟨rfl, -⟩, hb3⟩
      · exact absurd (bad_line HLN.out HN.out HG.out hr) (fun h => h)
      · have HB3 := Lib.hid (HBX.out.trans (hb3.mono HBX.out.size))
        clear hb3
        go_wp2_with fail
        refine (works_any _).mono ?_; rintro e w4 ⟨rfl, hb4⟩
        have HB4 := Lib.hid (HB3.out.trans (hb4.mono HB3.out.size))
        clear hb4
        go_wp2
        go_ret
        exact ⟨rfl, HB4.out⟩
end Go.Proofs.YtfijncfoefbohaaDoor
