/- Byte predicates: what the byte functions of the package and of the reference compute. -/
import Derived.Test.YtfijncfoefbohaaProg
import Derived.WalkKit
import Derived.WalkLawsBesides
import Derived.WalkSpells
import Derived.BigGuardPart
import Derived.Lib.Hide
namespace Go.Proofs.Ytfijncfoefbohaa
open Go Go.RowKit

def valB (n : Int) : Bool := decide (32 ≤ n ∧ n < 127 ∧ n ≠ 34 ∧ n ≠ 59 ∧ n ≠ 92)
def pathB (n : Int) : Bool := decide (32 ≤ n ∧ n < 127 ∧ n ≠ 59)
def octB (n : Int) : Bool := decide (n = 33 ∨ (35 ≤ n ∧ n ≤ 43) ∨ (45 ≤ n ∧ n ≤ 58) ∨ (60 ≤ n ∧ n ≤ 91) ∨ (93 ≤ n ∧ n ≤ 126))
def letB (n : Int) : Bool := decide ((97 ≤ n ∧ n ≤ 122) ∨ (65 ≤ n ∧ n ≤ 90))
def digB (n : Int) : Bool := decide (48 ≤ n ∧ n ≤ 57)

theorem ret_bool {a b : Bool} (h : a = b) : Ending.returned (.bool a) = .returned (.bool b) := by rw [h]

theorem valB_oct (n : Int) : (octB n || (n == 32) || (n == 44)) = valB n := by
  unfold octB valB
  rw [Bool.eq_iff_iff]
  simp only [Bool.or_eq_true, decide_eq_true_eq, beq_iff_eq]
  omega

set_option maxHeartbeats 400000 in
theorem validValueByte_any (n : Int) (w : World) :
    Calls Try.prog 29 #[.int .u8 n] w fun e w' => e = .returned (.bool (valB n)) ∧ w = w' := by
  go_enter Try.func29, Try.ntmps29
  go_wp2
  all_goals
    go_ret
    refine ⟨ret_bool ?_, rfl⟩
    unfold valB
    first
      | (rw [Bool.eq_iff_iff]; simp only [bne_iff_ne, beq_iff_eq, decide_eq_true_eq]; omega)
      | (symm; simp only [decide_eq_true_eq, decide_eq_false_iff_not]; omega)
set_option maxHeartbeats 400000 in
theorem validPathByte_any (n : Int) (w : World) :
    Calls Try.prog 30 #[.int .u8 n] w fun e w' => e = .returned (.bool (pathB n)) ∧ w = w' := by
  go_enter Try.func30, Try.ntmps30
  go_wp2
  all_goals
    go_ret
    refine ⟨ret_bool ?_, rfl⟩
    unfold pathB
    first
      | (rw [Bool.eq_iff_iff]; simp only [bne_iff_ne, beq_iff_eq, decide_eq_true_eq]; omega)
      | (symm; simp only [decide_eq_true_eq, decide_eq_false_iff_not]; omega)
set_option maxHeartbeats 400000 in
theorem s_letter_any (n : Int) (w : World) :
    Calls Try.prog 21 #[.int .u8 n] w fun e w' => e = .returned (.bool (letB n)) ∧ w = w' := by
  go_enter Try.func21, Try.ntmps21
  go_wp2
  all_goals
    go_ret
    refine ⟨ret_bool ?_, rfl⟩
    unfold letB
    first
      | (rw [Bool.eq_iff_iff]; simp only [bne_iff_ne, beq_iff_eq, decide_eq_true_eq]; omega)
      | (symm; simp only [decide_eq_true_eq, decide_eq_false_iff_not]; omega)
set_option maxHeartbeats 400000 in
theorem s_digit_any (n : Int) (w : World) :
    Calls Try.prog 22 #[.int .u8 n] w fun e w' => e = .returned (.bool (digB n)) ∧ w = w' := by
  go_enter Try.func22, Try.ntmps22
  go_wp2
  all_goals
    go_ret
    refine ⟨ret_bool ?_, rfl⟩
    unfold digB
    first
      | (rw [Bool.eq_iff_iff]; simp only [bne_iff_ne, beq_iff_eq, decide_eq_true_eq]; omega)
      | (symm; simp only [decide_eq_true_eq, decide_eq_false_iff_not]; omega)
set_option maxHeartbeats 400000 in
theorem s_octet_any (n : Int) (w : World) :
    Calls Try.prog 18 #[.int .u8 n] w fun e w' => e = .returned (.bool (octB n)) ∧ w = w' := by
  go_enter Try.func18, Try.ntmps18
  go_wp2
  all_goals
    go_ret
    refine ⟨ret_bool ?_, rfl⟩
    unfold octB
    first
      | (rw [Bool.eq_iff_iff]; simp only [bne_iff_ne, beq_iff_eq, decide_eq_true_eq]; omega)
      | (symm; simp only [decide_eq_true_eq, decide_eq_false_iff_not]; omega)
set_option maxHeartbeats 400000 in
theorem s_PathByte_any (n : Int) (w : World) :
    Calls Try.prog 10 #[.int .u8 n] w fun e w' => e = .returned (.bool (pathB n)) ∧ w = w' := by
  go_enter Try.func10, Try.ntmps10
  go_wp2
  all_goals
    go_ret
    refine ⟨ret_bool ?_, rfl⟩
    unfold pathB
    first
      | (rw [Bool.eq_iff_iff]; simp only [bne_iff_ne, beq_iff_eq, decide_eq_true_eq]; omega)
      | (symm; simp only [decide_eq_true_eq, decide_eq_false_iff_not]; omega)
set_option maxHeartbeats 400000 in
theorem s_ValueByte_any (n : Int) (w : World) :
    Calls Try.prog 8 #[.int .u8 n] w fun e w' => e = .returned (.bool (valB n)) ∧ w = w' := by
  have hv := valB_oct n
  have H := Lib.hid hv; clear hv
  go_enter Try.func8, Try.ntmps8
  go_wp2_with (go_at_call 18; refine (s_octet_any _ _).mono ?_; rintro e w' ⟨rfl, rfl⟩)
  all_goals
    go_ret
    refine ⟨ret_bool ?_, rfl⟩
    rw [← H.out]
    simp [*]
theorem zzValueByte_any (n : Int) (w : World) :
    Calls Try.prog 17 #[.int .u8 n] w fun e w' => e = .returned (.bool (valB n)) ∧ w = w' := by
  go_enter Try.func17, Try.ntmps17
  go_wp2_with (go_at_call 29; refine (validValueByte_any _ _).mono ?_; rintro e w' ⟨rfl, rfl⟩)
  go_ret
  exact ⟨rfl, rfl⟩
theorem i_ValidValueByte_any (n : Int) (w : World) :
    Calls Try.prog 7 #[.int .u8 n] w fun e w' => e = .returned (.bool (valB n)) ∧ w = w' := by
  go_enter Try.func7, Try.ntmps7
  go_wp2_with (go_at_call 17; refine (zzValueByte_any _ _).mono ?_; rintro e w' ⟨rfl, rfl⟩)
  go_ret
  exact ⟨rfl, rfl⟩
theorem zzPathByte_any (n : Int) (w : World) :
    Calls Try.prog 19 #[.int .u8 n] w fun e w' => e = .returned (.bool (pathB n)) ∧ w = w' := by
  go_enter Try.func19, Try.ntmps19
  go_wp2_with (go_at_call 30; refine (validPathByte_any _ _).mono ?_; rintro e w' ⟨rfl, rfl⟩)
  go_ret
  exact ⟨rfl, rfl⟩
theorem i_ValidPathByte_any (n : Int) (w : World) :
    Calls Try.prog 9 #[.int .u8 n] w fun e w' => e = .returned (.bool (pathB n)) ∧ w = w' := by
  go_enter Try.func9, Try.ntmps9
  go_wp2_with (go_at_call 19; refine (zzPathByte_any _ _).mono ?_; rintro e w' ⟨rfl, rfl⟩)
  go_ret
  exact ⟨rfl, rfl⟩
end Go.Proofs.Ytfijncfoefbohaa
