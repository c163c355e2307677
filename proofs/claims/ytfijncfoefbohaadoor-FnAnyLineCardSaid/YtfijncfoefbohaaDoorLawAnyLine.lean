/- FnAnyLine returns true at every line. -/
import Derived.Test.YtfijncfoefbohaaDoorISet
import Derived.Test.YtfijncfoefbohaaDoorLawClean
namespace Go.Proofs.YtfijncfoefbohaaDoor
open Go Go.RowKit

set_option maxHeartbeats 4000000 in
set_option maxRecDepth 100000 in
theorem fnAnyLine_walk (s : ByteArray) (w : World) (hs : s.size ≤ maxLen) (he : ErrsS w) (hv : NumVars w) :
    Calls Tryd.prog 12 #[.string s] w fun e w' => e = .returned (.bool true) ∧ Below w.heap.size w w' := by
  by_cases h0 : (2147483647 : Int) < (s.size : Int)
  · have hd : decide ((2147483647 : Int) < (s.size : Int)) = true := by rw [decide_eq_true_eq]; exact h0
    go_enter Tryd.func12, Tryd.ntmps12
    go_wp2
    go_ret
    exact ⟨rfl, Below.refl _ _⟩
  · have hd : decide ((2147483647 : Int) < (s.size : Int)) = false := by rw [decide_eq_false_iff_not]; exact h0
    have hs4 : s.size ≤ 4398046511104 := by omega
    have HE := Lib.hid he
    have HV := Lib.hid hv
    clear he hv
    go_enter Tryd.func12, Tryd.ntmps12
    go_wp2_with fail
    refine (i_ParseSet_any s w hs4 HE.out HV.out).mono ?_
    rintro e w1 ⟨⟨c, pc, rfl, hset, heq, hun⟩ | ⟨hset, rfl⟩, hb1⟩
    · obtain ⟨q1, q2, q3, q4⟩ := setP_sound hset
      obtain ⟨l1, l2⟩ := setP_len hset
      have hl1 : c.name.size ≤ maxLen := by rw [Lib.size_eq, heq.name]; rw [Lib.size_eq] at hs; omega
      have hl2 : c.value.size ≤ maxLen := by rw [Lib.size_eq, heq.value]; rw [Lib.size_eq] at hs; omega
      have hraw : c.raw = s := ba_ext (heq.raw.trans q3)
      have hage : -1 ≤ c.age := by rw [heq.age]; exact q4
      have hnz : tokS c.name.data.toList = true := by rw [heq.name]; exact q1
      have hvz : allB valB c.value.data.toList = true := by rw [heq.value]; exact q2
      have HB1 := Lib.hid hb1
      have HNZ := Lib.hid hnz
      have HVZ := Lib.hid hvz
      have HRAW := Lib.hid hraw
      clear hset heq hun q1 q2 q3 q4 hb1 l1 l2 hnz hvz hraw
      unfold Ck.cells
      go_wp2_with fail
      obtain ⟨a1, a2, a3⟩ := alloc_at w1 c.cells 26
      unfold Ck.cells at a1 a2 a3
      generalize w1.alloc (.cells #[.string c.name, .string c.value, .bool c.quoted, .string c.path, .string c.domain, .int .i64 c.age, .bool c.secure, .bool c.http, .int .i64 c.site, .bool c.part, .string c.raw, .slice c.uo c.un c.uc] 26) = w2 at a1 a2 a3 ⊢
      refine (works_any _).mono ?_; rintro e w3 ⟨rfl, hb3⟩
      have a4 := (hb3.block _ a3).trans a1
      have y0 : w3.cell? ⟨w1.heap.size, 0, none⟩ = some (.string c.name) := by rw [Lib.cell_of_heap a4]; rfl
      have y1 : w3.cell? ⟨w1.heap.size, 1, none⟩ = some (.string c.value) := by rw [Lib.cell_of_heap a4]; rfl
      have y5 : w3.cell? ⟨w1.heap.size, 5, none⟩ = some (.int .i64 c.age) := by rw [Lib.cell_of_heap a4]; rfl
      have y10 : w3.cell? ⟨w1.heap.size, 10, none⟩ = some (.string s) := by rw [Lib.cell_of_heap a4, ← HRAW.out]; rfl
      have HB3 : Hid (Below w.heap.size w w3) := Lib.hid ((HB1.out.trans (a2.mono HB1.out.size)).trans (hb3.mono (Nat.le_trans HB1.out.size a2.size)))
      clear a1 a2 a3 a4 hb3
      go_wp2_with (first
        | (go_at_call 21; refine (s_Token_any c.name _ hl1).mono ?_; rintro e w' ⟨rfl, rfl⟩; rw [HNZ.out])
        | (go_at_call 30; refine (s_Wide_any c.value _ hl2).mono ?_; rintro e w' ⟨rfl, rfl⟩; rw [HVZ.out]))
      go_ret
      exact ⟨rfl, HB3.out⟩
    · have HB1 := Lib.hid hb1
      clear hset hb1
      unfold Ck.cells ckZ
      go_wp2_with fail
      obtain ⟨a1, a2, a3⟩ := alloc_at w1 ckZ.cells 26
      unfold Ck.cells ckZ at a2
      refine (works_any _).mono ?_; rintro e w3 ⟨rfl, hb3⟩
      have HB3 : Hid (Below w.heap.size w w3) := Lib.hid ((HB1.out.trans (a2.mono HB1.out.size)).trans (hb3.mono (Nat.le_trans HB1.out.size a2.size)))
      clear a1 a2 a3 hb3
      go_wp2
      go_ret
      exact ⟨rfl, HB3.out⟩
end Go.Proofs.YtfijncfoefbohaaDoor
