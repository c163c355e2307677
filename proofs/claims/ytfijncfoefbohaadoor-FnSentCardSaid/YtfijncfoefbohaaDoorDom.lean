/- The reference's label and DomainName. -/
import Derived.Test.YtfijncfoefbohaaDoorSplit
namespace Go.Proofs.YtfijncfoefbohaaDoor
open Go Go.RowKit

def hostB (n : Int) : Bool := letB n || digB n || (n == 45)
def headN (l : List UInt8) : Int := ((l.head?.getD 0).toNat : Int)
def lastN (l : List UInt8) : Int := ((l.getLast?.getD 0).toNat : Int)
def labB (l : List UInt8) : Bool := allB hostB l && (decide (1 ≤ l.length) && (decide (l.length ≤ 63) && ((headN l != 45) && (lastN l != 45))))

theorem labB_no {l : List UInt8} (h : allB hostB l = false) : labB l = false := by unfold labB; rw [h]; rfl
theorem labB_empty {s : ByteArray} (h : s.size = 0) : labB s.data.toList = false := by
  unfold labB
  rw [← Lib.size_eq, h]; simp
theorem labB_long {s : ByteArray} (h : 63 < s.size) : labB s.data.toList = false := by
  unfold labB
  rw [← Lib.size_eq, show decide (s.size ≤ 63) = false from by rw [decide_eq_false_iff_not]; omega]; simp
theorem labB_rest {s : ByteArray} (ha : allB hostB s.data.toList = true) (h1 : 0 < s.size) (h2 : s.size ≤ 63) :
    labB s.data.toList = (((s[0].toNat : Int) != 45) && ((s[s.size - 1].toNat : Int) != 45)) := by
  unfold labB headN lastN
  rw [ha, head_of s h1, last_of s (by omega), ← Lib.size_eq, show decide (s.size ≤ 63) = true from by rw [decide_eq_true_eq]; omega, show decide (1 ≤ s.size) = true from by rw [decide_eq_true_eq]; omega]
  simp

set_option maxHeartbeats 1000000 in
theorem s_label_any (s : ByteArray) (w : World) (hs : s.size ≤ maxLen) :
    Calls Tryd.prog 45 #[.string s] w fun e w' => e = .returned (.bool (labB s.data.toList)) ∧ w = w' := by
  unfold maxLen at hs
  go_enter Tryd.func45, Tryd.ntmps45
  go_wp2
  go_loop [6] (fun i => ∃ k : Nat, k ≤ s.size ∧ i = .int .i64 k ∧ allB hostB (s.data.toList.take k) = true) (fun i => s.size - (intOf i).toNat)
  case atStart => exact ⟨0, Nat.zero_le _, rfl, rfl⟩
  case round =>
    obtain ⟨k, hk, rfl, ha⟩ := hrel
    have HA := Lib.hid ha; clear ha
    by_cases hlt : k < s.size
    · have hst := all_step hostB s k hlt HA.out
      have hsp := all_stop hostB s k hlt
      have hhp : hostB (s[k].toNat : Int) = (letB s[k].toNat || digB s[k].toNat || ((s[k].toNat : Int) == 45)) := rfl
      have HST := Lib.hid hst
      have HSP := Lib.hid hsp
      have HHP := Lib.hid hhp
      clear hst hsp hhp
      go_wp2_with (first
        | (go_at_call 46; refine (s_letter_any _ _).mono ?_; rintro e w' ⟨rfl, rfl⟩)
        | (go_at_call 50; refine (s_digit_any _ _).mono ?_; rintro e w' ⟨rfl, rfl⟩))
      all_goals first
        | (go_round
           case rel => exact ⟨k + 1, by omega, by go_num, HST.out (by rw [HHP.out]; simp_all)⟩
           case measure => simp [intOf]; omega)
        | (go_ret
           exact ⟨ret_bool (labB_no (HSP.out (by rw [HHP.out]; simp_all))).symm, rfl⟩)
    · have hall : allB hostB s.data.toList = true := by rw [← take_all s k (by omega)]; exact HA.out
      have HALL := Lib.hid hall
      clear hall
      by_cases h0 : s.size = 0
      · have hE := labB_empty h0
        have HE := Lib.hid hE
        clear hE
        have hd : decide ((1 : Int) ≤ (s.size : Int)) = false := by rw [decide_eq_false_iff_not]; omega
        clear h0
        go_wp2
        go_ret
        exact ⟨ret_bool HE.out.symm, rfl⟩
      · by_cases h63 : s.size ≤ 63
        · have hE := labB_rest HALL.out (by omega) h63
          have HE := Lib.hid hE
          have hd : decide ((1 : Int) ≤ (s.size : Int)) = true := by rw [decide_eq_true_eq]; omega
          have hd2 : decide ((s.size : Int) ≤ 63) = true := by rw [decide_eq_true_eq]; omega
          clear hE
          go_wp2
          all_goals
            go_ret
            exact ⟨ret_bool (by rw [HE.out]; simp_all), rfl⟩
        · have hE := labB_long (s := s) (by omega)
          have HE := Lib.hid hE
          have hd : decide ((1 : Int) ≤ (s.size : Int)) = true := by rw [decide_eq_true_eq]; omega
          have hd2 : decide ((s.size : Int) ≤ 63) = false := by rw [decide_eq_false_iff_not]; omega
          clear hE
          go_wp2
          all_goals
            go_ret
            exact ⟨ret_bool HE.out.symm, rfl⟩
end Go.Proofs.YtfijncfoefbohaaDoor
