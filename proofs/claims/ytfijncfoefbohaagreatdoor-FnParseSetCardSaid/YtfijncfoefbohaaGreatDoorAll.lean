/- impl.plain, impl.all, impl.Parse. -/
import Derived.Test.YtfijncfoefbohaaGreatDoorParse
import Derived.StillTailTactics
import Derived.Laws.Tables
import Derived.Laws.CopyOwn
namespace Go.Proofs.YtfijncfoefbohaaGreatDoor
open Go Go.RowKit

theorem cks_at {b : Nat} {c : Ck} {w : World} (h : CkAt b c w) : w.cell? ⟨b, 0, none⟩ = some (.string c.name) ∧ w.cell? ⟨b, 1, none⟩ = some (.string c.value) ∧ w.cell? ⟨b, 2, none⟩ = some (.bool c.quoted) ∧ w.cell? ⟨b, 3, none⟩ = some (.string c.path) ∧ w.cell? ⟨b, 4, none⟩ = some (.string c.domain) ∧ w.cell? ⟨b, 5, none⟩ = some (.int .i64 c.age) ∧ w.cell? ⟨b, 6, none⟩ = some (.bool c.secure) ∧ w.cell? ⟨b, 7, none⟩ = some (.bool c.http) ∧ w.cell? ⟨b, 8, none⟩ = some (.int .i64 c.site) ∧ w.cell? ⟨b, 9, none⟩ = some (.bool c.part) ∧ w.cell? ⟨b, 10, none⟩ = some (.string c.raw) ∧ w.cell? ⟨b, 11, none⟩ = some (.slice c.uo c.un c.uc) :=
  ⟨h.cell 0, h.cell 1, h.cell 2, h.cell 3, h.cell 4, h.cell 5, h.cell 6, h.cell 7, h.cell 8, h.cell 9, h.cell 10, h.cell 11⟩

set_option maxHeartbeats 4000000 in
set_option maxRecDepth 100000 in
theorem i_plain_any (b : Nat) (c : Ck) (w : World) (hc : CkAt b c w) :
    Calls Tryz.prog 17 #[.pointer (some ⟨b, 0, none⟩)] w fun e w' => e = .returned (.agg c.cells) ∧ Below w.heap.size w w' := by
  have hlt := hc.lt
  obtain ⟨a1, a2, a3⟩ := alloc_at w #[.string ⟨#[]⟩, .string ⟨#[]⟩, .bool false, .string ⟨#[]⟩, .string ⟨#[]⟩, .int .i64 0, .bool false, .bool false, .int .i64 0, .bool false, .string ⟨#[]⟩, .slice none 0 0] 35
  go_enter Tryz.func17, Tryz.ntmps17
  go_wp2_with fail
  generalize w.alloc (.cells #[.string ⟨#[]⟩, .string ⟨#[]⟩, .bool false, .string ⟨#[]⟩, .string ⟨#[]⟩, .int .i64 0, .bool false, .bool false, .int .i64 0, .bool false, .string ⟨#[]⟩, .slice none 0 0] 35) = W1 at a1 a2 a3 ⊢
  have hc1 : CkAt b c W1 := hc.below a2 hlt
  obtain ⟨k0, k1, k2, k3, k4, k5, k6, k7, k8, k9, k10, k11⟩ := cks_at hc1
  go_still_tail 49, (by kernel_rfl)
  change wpList _ _ _ _ _ W1.drew
  have b1 : W1.drew.heap[w.heap.size]? = some (.cells #[.string ⟨#[]⟩, .string ⟨#[]⟩, .bool false, .string ⟨#[]⟩, .string ⟨#[]⟩, .int .i64 0, .bool false, .bool false, .int .i64 0, .bool false, .string ⟨#[]⟩, .slice none 0 0] 35 (0, 0)) := a1
  have b2 : Below w.heap.size w W1.drew := a2.drew
  clear k0 k1 k2 k3 k4 k5 k6 k7 k8 k9 k10 k11 a1 a2 a3 hc1
  generalize W1.drew = w2 at b1 b2 ⊢
  refine wpList_store_row rfl _ (.tmp 2) (.tmp 51) rfl w.heap.size c.cells rfl rfl _ _ b1 (by kernel_rfl) rfl (by rw [← Array.all_toList]; exact List.all_eq_true.2 (ck_one c)) ?_
  have b3 : (w2.setRow w.heap.size c.cells).heap[w.heap.size]? = some (.cells c.cells 35 (0, 0)) := setRow_heap w2 _ _ _ _ _ b1
  have b4 : Below w.heap.size w (w2.setRow w.heap.size c.cells) := below_setRow b2 (Nat.le_refl _) _
  generalize w2.setRow w.heap.size c.cells = w3 at b3 b4 ⊢
  clear b1 b2
  have HB := Lib.hid b4
  have HC := Lib.hid b3
  clear b3 b4
  go_wp2_with fail
  (try simp only [Exit.inBlock, Exit.then])
  refine bodyPost_ret (v := .agg c.cells) ?_ rfl ⟨rfl, HB.out⟩
  exact results_cell_row rfl _ _ w.heap.size 35 c.cells (0, 0) _ rfl HC.out Tryz.underlying35 rfl (by kernel_rfl)

theorem aggInfo : (Tryz.prog.info? 35).map (fun i => (i.zero, i.size, i.bytes)) = some (some (.agg #[.string ⟨#[]⟩, .string ⟨#[]⟩, .bool false, .string ⟨#[]⟩, .string ⟨#[]⟩, .int .i64 0, .bool false, .bool false, .int .i64 0, .bool false, .string ⟨#[]⟩, .slice none 0 0]), 12, 144) := by kernel_rfl

theorem agg_shape {B : Nat} {l : List Ck} {v : Value} {w : World} (h : AggsAt B l v w) : ∃ ao cap, v = .slice ao l.length cap := by
  rcases h.2 with ⟨rfl, h0⟩ | ⟨g, cap, cur, rfl, _⟩
  · exact ⟨none, 0, by rw [h0]⟩
  · exact ⟨_, _, rfl⟩

def AllPost (l : List (Nat × Ck)) (w : World) (e : Ending) (w' : World) : Prop :=
  (∃ v, e = .returned v ∧ AggsAt w.heap.size (l.map Prod.snd) v w') ∧ Below w.heap.size w w'

theorem AggsAt.all {B : Nat} {l : List Ck} {g cap : Nat} {w : World} (h : AggsAt B l (.slice (some ⟨g, 0, none⟩) l.length cap) w) {k : Nat} (hk : k < l.length) :
    w.cell? ⟨g, k * 12, none⟩ = some (.string l[k].name) ∧ w.cell? ⟨g, k * 12 + 1, none⟩ = some (.string l[k].value) ∧ w.cell? ⟨g, k * 12 + 2, none⟩ = some (.bool l[k].quoted) ∧ w.cell? ⟨g, k * 12 + 3, none⟩ = some (.string l[k].path) ∧ w.cell? ⟨g, k * 12 + 4, none⟩ = some (.string l[k].domain) ∧ w.cell? ⟨g, k * 12 + 5, none⟩ = some (.int .i64 l[k].age) ∧ w.cell? ⟨g, k * 12 + 6, none⟩ = some (.bool l[k].secure) ∧ w.cell? ⟨g, k * 12 + 7, none⟩ = some (.bool l[k].http) ∧ w.cell? ⟨g, k * 12 + 8, none⟩ = some (.int .i64 l[k].site) ∧ w.cell? ⟨g, k * 12 + 9, none⟩ = some (.bool l[k].part) ∧ w.cell? ⟨g, k * 12 + 10, none⟩ = some (.string l[k].raw) ∧ w.cell? ⟨g, k * 12 + 11, none⟩ = some (.slice l[k].uo l[k].un l[k].uc) := by
  have hc : ∀ j, j < 12 → w.cell? ⟨g, k * 12 + j, none⟩ = l[k].cells[j]? := fun j hj => by rw [Nat.mul_comm]; exact h.cell hk hj
  exact ⟨hc 0 (by omega), hc 1 (by omega), hc 2 (by omega), hc 3 (by omega), hc 4 (by omega), hc 5 (by omega), hc 6 (by omega), hc 7 (by omega), hc 8 (by omega), hc 9 (by omega), hc 10 (by omega), hc 11 (by omega)⟩
theorem own_lower {w : World} {B B' e size n : Nat} {v : Value} {xs : List Value} (h : w.ownsRow B e size v n xs) (hB : B' ≤ B) : w.ownsRow B' e size v n xs := by
  refine ⟨h.1, ?_⟩
  rcases h.2 with h1 | ⟨g, cap, cur, h1, h2, h3⟩
  · exact .inl h1
  · exact .inr ⟨g, cap, cur, h1, Nat.le_trans hB h2, h3⟩
def ReadOk' (line : List UInt8) (cs : List Ck) : Prop := (splitL 59 line).map pairOf = cs.map (fun c => some (pairC c)) ∧ cntL 59 line ≤ 2999
theorem ReadOk.plain {line : List UInt8} {l : List (Nat × Ck)} (h : ReadOk line l) : ReadOk' line (l.map Prod.snd) ∧ l.length ≤ 3000 := by
  obtain ⟨h1, h2⟩ := h
  refine ⟨⟨by rw [h1, List.map_map]; rfl, h2⟩, ?_⟩
  have h3 := congrArg List.length h1
  rw [List.length_map, List.length_map, ← count_split] at h3
  unfold cntL at h2
  omega
def IParse (line : List UInt8) (w : World) (e : Ending) (w' : World) : Prop :=
  ((∃ v cs, e = .returned (.tuple #[v, .bool true]) ∧ AggsAt w.heap.size cs v w' ∧ ReadOk' line cs) ∨
   (e = .returned (.tuple #[.slice none 0 0, .bool false]) ∧ ReadNo line)) ∧ Below w.heap.size w w'

end Go.Proofs.YtfijncfoefbohaaGreatDoor
