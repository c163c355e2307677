/- laws.cut, laws.blank. -/
import Derived.Test.YtfijncfoefbohaaDoorPairs
import Derived.Test.YtfijncfoefbohaaDoorVal
namespace Go.Proofs.YtfijncfoefbohaaDoor
open Go Go.RowKit

theorem cut_hit {s : ByteArray} {k : Nat} (hk : k < s.size) (h : ∀ x ∈ s.data.toList.take k, x ≠ 61) (he : s[k] = 61) :
    hasB 61 s.data.toList = true ∧ cutA 61 s.data.toList = s.data.toList.take k ∧ cutB 61 s.data.toList = s.data.toList.drop (k + 1) := by
  have hd : s.data.toList = s.data.toList.take k ++ 61 :: s.data.toList.drop (k + 1) := by
    conv => lhs; rw [← List.take_append_drop k s.data.toList]
    rw [List.drop_eq_getElem_cons (by simpa using hk), ← getElem_list s k hk, he]
  refine ⟨?_, ?_, ?_⟩
  · rw [hd]; exact hasB_eq
  · conv => lhs; rw [hd]
    exact cutA_eq h
  · conv => lhs; rw [hd]
    exact cutB_eq h
theorem hasB_none {c : UInt8} {l : List UInt8} (h : ∀ x ∈ l, x ≠ c) : hasB c l = false := by
  unfold hasB
  rw [List.contains_eq_mem, decide_eq_false_iff_not]
  intro hm
  exact h c hm rfl

set_option maxHeartbeats 1000000 in
theorem l_cut_any (s : ByteArray) (w : World) (hs : s.size ≤ maxLen) :
    Calls Tryd.prog 32 #[.string s] w fun e w' => CutPost 61 s.data.toList e ∧ Below w.heap.size w w' := by
  unfold maxLen at hs
  go_enter Tryd.func32, Tryd.ntmps32
  go_wp2
  go_loop [5, 8] (fun _ i => ∃ k : Nat, k ≤ s.size ∧ i = .int .i64 k ∧ ∀ x ∈ s.data.toList.take k, x ≠ 61) (fun _ i => s.size - (intOf i).toNat)
  case atStart => exact ⟨0, Nat.zero_le _, rfl, by simp⟩
  case round =>
    obtain ⟨k, hk, rfl, ha⟩ := hrel
    have HA := Lib.hid ha; clear ha
    by_cases hlt : k < s.size
    · have h0 : (0 : Int) ≤ (k : Int) + 1 := by omega
      have h1 : (k : Int) ≤ (s.size : Int) := by omega
      have h2 : (k : Int) + 1 ≤ (s.size : Int) := by omega
      rcases hc : ((s[k].toNat : Int) == 61) with _ | _
      · have HST : Hid (∀ x ∈ s.data.toList.take (k + 1), x ≠ 61) := Lib.hid (take_ne_succ hlt HA.out (by intro e; rw [e] at hc; revert hc; decide))
        go_wp2
        go_round
        case rel => exact ⟨k + 1, by omega, by go_num, HST.out⟩
        case measure => simp [intOf]; omega
      · obtain ⟨q1, q2, q3⟩ := cut_hit hlt HA.out (by rw [beq_iff_eq] at hc; exact UInt8.toNat_inj.1 (by show s[k].toNat = 61; omega))
        have hx : (s.extract 0 k).data.toList = cutA 61 s.data.toList := by rw [Lib.extract_data, List.drop_zero, Nat.sub_zero, q2]
        have hy : (s.extract (k + 1) s.size).data.toList = cutB 61 s.data.toList := by rw [Lib.extract_data, List.take_of_length_le (by simp), q3]
        have Q1 := Lib.hid q1
        have HX := Lib.hid hx
        have HY := Lib.hid hy
        clear q1 q2 q3 hx hy
        go_wp2
        go_quiet (fail)
        go_wp2
        go_ret3
        exact ⟨CutPost_mk Q1.out HX.out HY.out, (Below.refl _ _).trans ⟨rfl, rfl, rfl, Nat.le_refl _, fun _ _ => rfl⟩⟩
    · have hn : ∀ x ∈ s.data.toList, x ≠ 61 := by have := HA.out; rw [take_all s k (by omega)] at this; exact this
      have HH := Lib.hid (hasB_none hn)
      clear hn
      go_wp2
      go_ret3
      exact ⟨CutPost_mk HH.out (cutA_none HH.out).symm (cutB_none HH.out).symm, Below.refl _ _⟩

theorem l_white_any (n : Int) (w : World) :
    Calls Tryd.prog 60 #[.int .u8 n] w fun e w' => e = .returned (.bool (spB n)) ∧ w = w' := by
  go_enter Tryd.func60, Tryd.ntmps60
  go_wp2
  all_goals
    go_ret
    refine ⟨ret_bool ?_, rfl⟩
    unfold spB
    first
      | (rw [Bool.eq_iff_iff]; simp only [beq_iff_eq, decide_eq_true_eq]; omega)
      | (symm; simp only [decide_eq_true_eq, decide_eq_false_iff_not, beq_iff_eq, beq_eq_false_iff_ne] at *; omega)

theorem blankL_hit {l x : List UInt8} (hx : x = cutA 61 l) (b : UInt8) (hb : b ∈ x) (h : spU b = true) : blankL l = true := by
  unfold blankL
  rw [← hx, Bool.or_eq_true]
  exact .inl (List.any_eq_true.2 ⟨b, hb, h⟩)
theorem blankL_tail {l x : List UInt8} (hx : x = cutA 61 l) (h : ∀ b ∈ x, spU b = false) : blankL l = (!l.isEmpty && (spU (l.head?.getD 0) || spU (l.getLast?.getD 0))) := by
  unfold blankL
  rw [← hx, show x.any spU = false from List.any_eq_false.2 fun b hb => by rw [h b hb]; decide, Bool.false_or]

set_option maxHeartbeats 1000000 in
theorem l_blank_any (s : ByteArray) (w : World) (hs : s.size ≤ maxLen) :
    Calls Tryd.prog 34 #[.string s] w fun e w' => e = .returned (.bool (blankL s.data.toList)) ∧ Below w.heap.size w w' := by
  have hs' := hs
  unfold maxLen at hs'
  go_enter Tryd.func34, Tryd.ntmps34
  go_wp2_with fail
  refine (l_cut_any s _ hs).mono ?_
  rintro e w1 ⟨⟨x, y, rfl, hx, hy⟩, hb1⟩
  have HX := Lib.hid hx
  have HB := Lib.hid hb1
  have hxs : x.size ≤ s.size := by
    have h1 := cutA_le (c := 61) (l := s.data.toList)
    rw [← hx, ← Lib.size_eq, ← Lib.size_eq] at h1
    exact h1
  generalize hasB 61 s.data.toList = hh
  clear hx hy hb1
  go_wp2
  go_loop [7, 16] (fun _ i => ∃ k : Nat, k ≤ x.size ∧ i = .int .i64 k ∧ ∀ b ∈ x.data.toList.take k, spU b = false) (fun _ i => x.size - (intOf i).toNat)
  case atStart => exact ⟨0, Nat.zero_le _, rfl, by simp⟩
  case round =>
    obtain ⟨k, hk, rfl, ha⟩ := hrel
    have HA := Lib.hid ha; clear ha
    by_cases hlt : k < x.size
    · rcases hc : spB (x[k].toNat : Int) with _ | _
      · have HST : Hid (∀ b ∈ x.data.toList.take (k + 1), spU b = false) := Lib.hid (by
          intro b hb
          rw [take_snoc x k hlt, List.mem_append] at hb
          rcases hb with hb | hb
          · exact HA.out b hb
          · simp only [List.mem_singleton] at hb; subst hb; exact hc)
        go_wp2_with (go_at_call 60; refine (l_white_any _ _).mono ?_; rintro e w' ⟨rfl, rfl⟩)
        go_round
        case rel => exact ⟨k + 1, by omega, by go_num, HST.out⟩
        case measure => simp [intOf]; omega
      · have HR := Lib.hid (blankL_hit HX.out x[k] (by rw [getElem_list x k hlt]; exact List.getElem_mem _) hc)
        go_wp2_with (go_at_call 60; refine (l_white_any _ _).mono ?_; rintro e w' ⟨rfl, rfl⟩)
        go_ret
        exact ⟨ret_bool HR.out.symm, HB.out⟩
    · have hn : ∀ b ∈ x.data.toList, spU b = false := by have := HA.out; rw [take_all x k (by omega)] at this; exact this
      have HR := Lib.hid (blankL_tail HX.out hn)
      clear hn
      have hd : decide ((k : Int) < (x.size : Int)) = false := by rw [decide_eq_false_iff_not]; omega
      rcases Nat.eq_zero_or_pos s.size with h0 | h0
      · have he : s.data.toList = [] := List.eq_nil_of_length_eq_zero (by rw [← Lib.size_eq]; exact h0)
        have he2 : s.toList = [] := by rw [Lib.toList_data]; exact he
        have HR2 : Hid (blankL s.data.toList = false) := Lib.hid (by rw [HR.out, he]; rfl)
        clear he
        go_wp2
        go_ret
        exact ⟨ret_bool HR2.out.symm, HB.out⟩
      · have he : s.toList.isEmpty = false := by
          rw [Lib.toList_data, List.isEmpty_eq_false_iff]; intro h; exact absurd (show s.size = 0 by rw [Lib.size_eq, h]; rfl) (by omega)
        have hlast : s.size - 1 < s.size := by omega
        have h1 : 1 ≤ s.size := h0
        have HR2 : Hid (blankL s.data.toList = (spB (s[0].toNat : Int) || spB (s[s.size - 1].toNat : Int))) := Lib.hid (by
          rw [HR.out, ← Lib.toList_data, he, Lib.toList_data, head_of s h0, last_of s hlast]; rfl)
        clear HR
        rcases hc0 : spB (s[0].toNat : Int) with _ | _
        · have HR3 : Hid (blankL s.data.toList = spB (s[s.size - 1].toNat : Int)) := Lib.hid (by rw [HR2.out, hc0]; rfl)
          go_wp2_with (go_at_call 60; refine (l_white_any _ _).mono ?_; rintro e w' ⟨rfl, rfl⟩)
          go_ret
          exact ⟨ret_bool HR3.out.symm, HB.out⟩
        · have HR3 : Hid (blankL s.data.toList = true) := Lib.hid (by rw [HR2.out, hc0]; rfl)
          go_wp2_with (go_at_call 60; refine (l_white_any _ _).mono ?_; rintro e w' ⟨rfl, rfl⟩)
          go_ret
          exact ⟨ret_bool HR3.out.symm, HB.out⟩
end Go.Proofs.YtfijncfoefbohaaDoor
