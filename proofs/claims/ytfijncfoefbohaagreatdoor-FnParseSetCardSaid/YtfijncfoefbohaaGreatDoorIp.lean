/- zzIPv4 and validCookieDomain. -/
import Derived.Test.YtfijncfoefbohaaGreatDoorIsDom
import Derived.Test.YtfijncfoefbohaaGreatDoorIdx
namespace Go.Proofs.YtfijncfoefbohaaGreatDoor
open Go Go.RowKit

def ipStep (f d n c : Nat) : Option (Nat × Nat × Nat) :=
  if 48 ≤ c ∧ c ≤ 57 then (if 0 < d ∧ n = 0 then none else if 255 < 10 * n + (c - 48) then none else some (f, d + 1, 10 * n + (c - 48)))
  else if c = 46 ∧ 0 < d ∧ f < 4 then some (f + 1, 0, 0) else none
def ipRun : List UInt8 → Nat → Nat → Nat → Bool
  | [], f, d, _ => decide (f = 4 ∧ 0 < d)
  | c :: l, f, d, n => match ipStep f d n c.toNat with
    | none => false
    | some (a, b, m) => ipRun l a b m
def ipB (l : List UInt8) : Bool := ipRun l 1 0 0
def vdB (l : List UInt8) : Bool := domB l || (ipB l && !hasB 58 l)

theorem ipRun_nil (f d n : Nat) : ipRun [] f d n = decide (f = 4 ∧ 0 < d) := rfl
theorem ipRun_none {l : List UInt8} {c : UInt8} {f d n : Nat} (h : ipStep f d n c.toNat = none) : ipRun (c :: l) f d n = false := by
  unfold ipRun; rw [h]
theorem ipRun_some {l : List UInt8} {c : UInt8} {f d n a b m : Nat} (h : ipStep f d n c.toNat = some (a, b, m)) : ipRun (c :: l) f d n = ipRun l a b m := by
  conv => lhs; unfold ipRun
  rw [h]

set_option maxHeartbeats 2000000 in
theorem zzIPv4_any (s : ByteArray) (w : World) (hs : s.size ≤ maxLen) :
    Calls Tryz.prog 58 #[.string s] w fun e w' => e = .returned (.bool (ipB s.data.toList)) ∧ w = w' := by
  unfold maxLen at hs
  go_enter Tryz.func58, Tryz.ntmps58
  go_wp2
  go_loop [3, 4, 5, 6] (fun fv dv nv i => ∃ k f d n : Nat, k ≤ s.size ∧ f ≤ 4 ∧ d ≤ k ∧ n ≤ 255 ∧ i = .int .i64 k ∧ fv = .int .i64 f ∧ dv = .int .i64 d ∧ nv = .int .i64 n ∧ ipRun (s.data.toList.drop k) f d n = ipB s.data.toList) (fun _ _ _ i => s.size - (intOf i).toNat)
  case atStart => exact ⟨0, 1, 0, 0, Nat.zero_le _, by omega, Nat.le_refl _, by omega, rfl, rfl, rfl, rfl, rfl⟩
  case round =>
    obtain ⟨k, f, d, n, hk, hf, hd, hn, rfl, rfl, rfl, rfl, hrun⟩ := hrel
    by_cases hlt : k < s.size
    · rw [drop_cons s k hlt] at hrun
      have HR := Lib.hid hrun
      clear hrun
      have hc255 : (s[k].toNat : Int) ≤ 255 := by have := s[k].toNat_lt; omega
      go_wp2
      all_goals first
        | (go_round
           case rel => exact ⟨k + 1, f, d + 1, 10 * n + (s[k].toNat - 48), by omega, by omega, by omega, by omega, by go_num, rfl, by go_num, by go_num, by rw [← HR.out]; exact (ipRun_some (by unfold ipStep; (try simp only [beq_iff_eq, beq_eq_false_iff_ne, ne_eq] at *); repeat (first | rfl | rw [if_pos (by omega)] | rw [if_neg (by omega)]))).symm⟩
           case measure => simp [intOf]; omega)
        | (go_round
           case rel => exact ⟨k + 1, f + 1, 0, 0, by omega, by omega, by omega, by omega, by go_num, by go_num, rfl, rfl, by rw [← HR.out]; exact (ipRun_some (by unfold ipStep; (try simp only [beq_iff_eq, beq_eq_false_iff_ne, ne_eq] at *); repeat (first | rfl | rw [if_pos (by omega)] | rw [if_neg (by omega)]))).symm⟩
           case measure => simp [intOf]; omega)
        | (go_ret
           exact ⟨ret_bool (by rw [← HR.out]; exact (ipRun_none (by unfold ipStep; (try simp only [beq_iff_eq, beq_eq_false_iff_ne, ne_eq] at *); repeat (first | rfl | rw [if_pos (by omega)] | rw [if_neg (by omega)]))).symm), rfl⟩)
    · rw [drop_end s k hlt, ipRun_nil] at hrun
      have HR := Lib.hid hrun
      clear hrun
      go_wp2
      all_goals
        go_ret
        refine ⟨ret_bool ?_, rfl⟩
        rw [← HR.out]
        first
          | (have hf4 : f = 4 := by omega
             subst hf4; simp)
          | (have hf4 : ¬ f = 4 := by omega
             simp [hf4])

theorem validDomain_any (s : ByteArray) (w : World) (hs : s.size ≤ 4398046511104) :
    Calls Tryz.prog 41 #[.string s] w fun e w' => e = .returned (.bool (vdB s.data.toList)) ∧ w = w' := by
  have hv : vdB s.data.toList = (domB s.data.toList || (ipB s.data.toList && !hasB 58 s.data.toList)) := rfl
  have HV := Lib.hid hv
  clear hv
  go_enter Tryz.func41, Tryz.ntmps41
  go_wp2_with (first
    | (go_at_call 57; refine (isDom_any _ _ (by unfold maxLen; omega)).mono ?_; rintro e w' ⟨rfl, rfl⟩)
    | (go_at_call 58; refine (zzIPv4_any _ _ (by unfold maxLen; omega)).mono ?_; rintro e w' ⟨rfl, rfl⟩)
    | (go_at_call 59; refine (zzContains_any _ _ 58 _ rfl (by omega)).mono ?_; rintro e w' ⟨rfl, rfl⟩))
  all_goals
    go_ret
    refine ⟨ret_bool ?_, rfl⟩
    rw [HV.out]
    simp_all
end Go.Proofs.YtfijncfoefbohaaGreatDoor
