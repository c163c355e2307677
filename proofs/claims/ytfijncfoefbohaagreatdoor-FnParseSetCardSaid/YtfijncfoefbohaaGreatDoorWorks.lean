/- impl.of, impl.Set, laws.works. -/
import Derived.Test.YtfijncfoefbohaaGreatDoorSet
namespace Go.Proofs.YtfijncfoefbohaaGreatDoor
open Go Go.RowKit

set_option maxHeartbeats 4000000 in
theorem string_any (b : Nat) (c : Ck) (w : World) (hc : CkAt b c w) (hf : CkFits c)
    (htab : 0 < c.age → ∀ w', Below w.heap.size w w' → Lib.TabIs Tryz.prog w' "internal/strconv.uint64pow10" .u64 Lib.pow10Tab) :
    Calls Tryz.prog 19 #[.pointer (some ⟨b, 0, none⟩)] w fun e w' => StrPost (setL c) e ∧ Below w.heap.size w w' := by
  rcases h : tokS c.name.data.toList with _ | _
  · refine (string_bad b c w hc hf h).mono ?_
    rintro e w' ⟨h1, rfl⟩
    exact ⟨h1, Below.refl _ _⟩
  · exact string_ok b c w hc hf h htab

set_option maxHeartbeats 4000000 in
theorem of_any (c : Ck) (w : World) :
    Calls Tryz.prog 18 #[.agg c.cells] w fun e w' => e = .returned (.agg c.cells) ∧ Below w.heap.size w w' := by
  unfold Ck.cells
  go_enter Tryz.func18, Tryz.ntmps18
  go_wp2
  (try simp only [Exit.inBlock, Exit.then])
  refine bodyPost_ret (v := .agg c.cells) ?_ rfl ⟨rfl, ?_⟩
  · exact results_cell_row rfl _ _ (w.heap.size + 1) 55 c.cells (0, 0) _ rfl (heap_alloc2_new _ _ _) Tryz.underlying55 rfl (by kernel_rfl)
  · exact ((Below.refl _ _).alloc (Nat.le_refl _) _).alloc (by show _ ≤ (w.heap.push _).size; simp) _

set_option maxHeartbeats 4000000 in
theorem i_Set_any (c : Ck) (w : World) (hf : CkFits c)
    (htab : 0 < c.age → ∀ w', Below w.heap.size w w' → Lib.TabIs Tryz.prog w' "internal/strconv.uint64pow10" .u64 Lib.pow10Tab) :
    Calls Tryz.prog 11 #[.agg c.cells] w fun e w' => StrPost (setL c) e ∧ Below w.heap.size w w' := by
  have HTAB := Lib.hid htab
  clear htab
  unfold Ck.cells
  go_enter Tryz.func11, Tryz.ntmps11
  go_wp2_with fail
  refine (of_any c _).mono ?_
  rintro e w1 ⟨rfl, hb1⟩
  unfold Ck.cells
  go_wp2_with fail
  obtain ⟨a1, a2, a3⟩ := alloc_at w1 c.cells 55
  have hb2 : Below w.heap.size w w1 := (((Below.refl _ _).alloc (Nat.le_refl _) _).trans (hb1.mono (by show _ ≤ (w.heap.push _).size; simp)))
  have hb3 : Below w.heap.size w (w1.alloc (.cells c.cells 55)) := hb2.trans (a2.mono hb2.size)
  refine (string_any w1.heap.size c (w1.alloc (.cells c.cells 55)) a1 hf (fun h w' hw' => HTAB.out h w' (hb3.trans (hw'.mono hb3.size)))).mono ?_
  rintro e w3 ⟨⟨x, rfl, hx⟩, hb4⟩
  have HX := Lib.hid hx
  have HB := Lib.hid (hb3.trans (hb4.mono hb3.size))
  clear hx a1 a2 a3 hb1 hb2 hb3 hb4
  go_wp2
  go_ret
  exact ⟨⟨x, rfl, HX.out⟩, HB.out⟩

def ckAB : Ck := ⟨⟨#[97]⟩, ⟨#[98]⟩, false, ⟨#[]⟩, ⟨#[]⟩, 0, false, false, 0, false, ⟨#[]⟩, none, 0, 0⟩

theorem works_any (w : World) : Calls Tryz.prog 5 #[] w fun e w' => e = .returned (.bool true) ∧ Below w.heap.size w w' := by
  have hS : setL ckAB = [97, 61, 98] := by decide
  have HS := Lib.hid hS
  clear hS
  go_enter Tryz.func5, Tryz.ntmps5
  go_wp2_with fail
  refine (i_Set_any ckAB w ⟨by decide, by decide, by decide, by decide, by decide, by decide⟩ (fun h => absurd h (by decide))).mono ?_
  rintro e w1 ⟨⟨x, rfl, hx⟩, hb⟩
  have h2 := hx.trans HS.out
  have h3 : x = ⟨#[97, 61, 98]⟩ := by
    cases x with | mk d => cases d with | mk l => cases h2; rfl
  subst h3
  clear hx h2
  go_wp2
  go_ret
  exact ⟨rfl, hb⟩
end Go.Proofs.YtfijncfoefbohaaGreatDoor
