/- Byte predicates: what the byte functions of the package and of the reference compute. -/
import Derived.Test.YtfijncfoefbohaaGreatDoorProg
import Derived.WalkKit
import Derived.WalkLawsBesides
import Derived.WalkSpells
import Derived.BigGuardPart
import Derived.Lib.Hide
namespace Go.Proofs.YtfijncfoefbohaaGreatDoor
open Go Go.RowKit

def valB (n : Int) : Bool := decide (32 ≤ n ∧ n < 127 ∧ n ≠ 34 ∧ n ≠ 59 ∧ n ≠ 92)
def pathB (n : Int) : Bool := decide (32 ≤ n ∧ n < 127 ∧ n ≠ 59)
def octB (n : Int) : Bool := decide (n = 33 ∨ (35 ≤ n ∧ n ≤ 43) ∨ (45 ≤ n ∧ n ≤ 58) ∨ (60 ≤ n ∧ n ≤ 91) ∨ (93 ≤ n ∧ n ≤ 126))
def letB (n : Int) : Bool := decide ((97 ≤ n ∧ n ≤ 122) ∨ (65 ≤ n ∧ n ≤ 90))
def digB (n : Int) : Bool := decide (48 ≤ n ∧ n ≤ 57)

theorem ret_bool {a b : Bool} (h : a = b) : Ending.returned (.bool a) = .returned (.bool b) := by rw [h]

theorem valB_oct (n : Int) : (octB n || (n == 32) || (n == 44)) = valB n := by
  unfold octB valB
  rw [Bool.eq_iff_iff]
  simp only [Bool.or_eq_true, decide_eq_true_eq, beq_iff_eq]
  omega

set_option maxHeartbeats 400000 in
theorem validValueByte_any (n : Int) (w : World) :
    Calls Tryz.prog 47 #[.int .u8 n] w fun e w' => e = .returned (.bool (valB n)) ∧ w = w' := by
  go_enter Tryz.func47, Tryz.ntmps47
  go_wp2
  all_goals
    go_ret
    refine ⟨ret_bool ?_, rfl⟩
    unfold valB
    first
      | (rw [Bool.eq_iff_iff]; simp only [bne_iff_ne, beq_iff_eq, decide_eq_true_eq]; omega)
      | (symm; simp only [decide_eq_true_eq, decide_eq_false_iff_not]; omega)
set_option maxHeartbeats 400000 in
theorem validPathByte_any (n : Int) (w : World) :
    Calls Tryz.prog 56 #[.int .u8 n] w fun e w' => e = .returned (.bool (pathB n)) ∧ w = w' := by
  go_enter Tryz.func56, Tryz.ntmps56
  go_wp2
  all_goals
    go_ret
    refine ⟨ret_bool ?_, rfl⟩
    unfold pathB
    first
      | (rw [Bool.eq_iff_iff]; simp only [bne_iff_ne, beq_iff_eq, decide_eq_true_eq]; omega)
      | (symm; simp only [decide_eq_true_eq, decide_eq_false_iff_not]; omega)
set_option maxHeartbeats 400000 in
theorem s_letter_any (n : Int) (w : World) :
    Calls Tryz.prog 20 #[.int .u8 n] w fun e w' => e = .returned (.bool (letB n)) ∧ w = w' := by
  go_enter Tryz.func20, Tryz.ntmps20
  go_wp2
  all_goals
    go_ret
    refine ⟨ret_bool ?_, rfl⟩
    unfold letB
    first
      | (rw [Bool.eq_iff_iff]; simp only [bne_iff_ne, beq_iff_eq, decide_eq_true_eq]; omega)
      | (symm; simp only [decide_eq_true_eq, decide_eq_false_iff_not]; omega)
set_option maxHeartbeats 400000 in
theorem s_digit_any (n : Int) (w : World) :
    Calls Tryz.prog 21 #[.int .u8 n] w fun e w' => e = .returned (.bool (digB n)) ∧ w = w' := by
  go_enter Tryz.func21, Tryz.ntmps21
  go_wp2
  all_goals
    go_ret
    refine ⟨ret_bool ?_, rfl⟩
    unfold digB
    first
      | (rw [Bool.eq_iff_iff]; simp only [bne_iff_ne, beq_iff_eq, decide_eq_true_eq]; omega)
      | (symm; simp only [decide_eq_true_eq, decide_eq_false_iff_not]; omega)
set_option maxHeartbeats 400000 in
theorem s_octet_any (n : Int) (w : World) :
    Calls Tryz.prog 23 #[.int .u8 n] w fun e w' => e = .returned (.bool (octB n)) ∧ w = w' := by
  go_enter Tryz.func23, Tryz.ntmps23
  go_wp2
  all_goals
    go_ret
    refine ⟨ret_bool ?_, rfl⟩
    unfold octB
    first
      | (rw [Bool.eq_iff_iff]; simp only [bne_iff_ne, beq_iff_eq, decide_eq_true_eq]; omega)
      | (symm; simp only [decide_eq_true_eq, decide_eq_false_iff_not]; omega)
end Go.Proofs.YtfijncfoefbohaaGreatDoor
