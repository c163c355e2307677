/- strings.Builder as String uses it: behind Grow, WriteString and its kin append to the buffer that the builder owns. -/
import Derived.Test.YtfijncfoefbohaaGreatDoorKit
import Derived.Lib.Builder
import Derived.Lib.AppendStr
namespace Go.Proofs.YtfijncfoefbohaaGreatDoor
open Go Go.RowKit

theorem byteInfo : (Tryz.prog.info? 5).map (fun i => (i.zero, i.size, i.bytes)) = some (some (.int .u8 0), 1, 1) := by kernel_rfl
theorem bldInfo : (Tryz.prog.info? 76).map (fun i => i.size) = some 2 := by kernel_rfl

/-- The builder in block b, in use, holding the bytes l. -/
def Bld (B b : Nat) (l : List UInt8) (w : World) : Prop := Lib.BuilderAt 76 5 B b (.pointer (some ⟨b, 0, none⟩)) (Lib.byteCells l) w

theorem Bld.kept {B b : Nat} {l : List UInt8} {w w' : World} (h : Bld B b l w) (hb : Below w.heap.size w w') : Bld B b l w' := by
  obtain ⟨hB, v, hbk, hown, hne⟩ := h
  have hlt : b < w.heap.size := Lib.BuilderAt.lt ⟨hB, v, hbk, hown, hne⟩
  refine ⟨hB, v, (hb.block b hlt).trans hbk, ?_, hne⟩
  refine hown.kept (row := none) ⟨hb.os, hb.tape, hb.output, hb.size, fun k hk _ => hb.block k hk⟩ ?_
  cases hv : v.ownBlock <;> simp

set_option maxHeartbeats 400000 in
theorem copyCheck_used (b : Nat) (w : World) (h0 : w.cell? ⟨b, 0, none⟩ = some (.pointer (some ⟨b, 0, none⟩))) :
    Calls Tryz.prog 51 #[.pointer (some ⟨b, 0, none⟩)] w fun e w' => e = .returned (.tuple #[]) ∧ w = w' := by
  obtain ⟨j, hj, _⟩ := Option.map_eq_some_iff.1 bldInfo
  have hq := fun w0 : World => Lib.run_neq_ptr_same (P := Tryz.prog) w0 (tp := 73) (j := j) ⟨b, 0, none⟩ Tryz.underlying73 hj
  go_enter Tryz.func51, Tryz.ntmps51
  go_wp2
  go_end0
  exact ⟨rfl, rfl⟩

theorem own_shape {w : World} {B e : Nat} {v : Value} {n : Nat} {xs : List Value} (h : w.ownsRow B e 1 v n xs) : ∃ ao cap, v = .slice ao n cap := by
  rcases h.2 with ⟨rfl, h0⟩ | ⟨g, cap, cur, rfl, _⟩
  · exact ⟨none, 0, by rw [h0]⟩
  · exact ⟨_, _, rfl⟩

/-- What a write leaves: the two results, the builder with more bytes, older blocks as they were. -/
def Wrote (B b : Nat) (l : List UInt8) (w : World) (e : Ending) (w' : World) : Prop :=
  ∃ n : Int, e = .returned (.tuple #[.int .i64 n, .nilIface]) ∧ Bld B b l w' ∧ Below B w w' ∧ (∀ k, k < w.heap.size → k ≠ b → (∀ cs, w.heap[k]? ≠ some (.cells cs 5 (0, 0))) → w'.heap[k]? = w.heap[k]?)

theorem wrote_mk {B b : Nat} {l : List UInt8} {w w1 : World} {v v' : Value} {n m : Nat} {xs : List Value} {p : Value} (hB : B ≤ b) (hBw : B ≤ w.heap.size)
    (hbk : w.heap[b]? = some (.cells #[.pointer (some ⟨b, 0, none⟩), v] 76 (0, 0))) (hne : v.ownBlock ≠ some b) (hown0 : w.ownsRow B 5 1 v m xs)
    (hown : w1.ownsRow B 5 1 v' n (Lib.byteCells l)) (hg : w.grownBy w1 v.ownBlock) (hp : p = v') (hn : n = l.length) :
    Bld B b l (w1.setCell ⟨b, 1, none⟩ p) ∧ Below B w (w1.setCell ⟨b, 1, none⟩ p) ∧ (∀ k, k < w.heap.size → k ≠ b → (∀ cs, w.heap[k]? ≠ some (.cells cs 5 (0, 0))) → (w1.setCell ⟨b, 1, none⟩ p).heap[k]? = w.heap[k]?) := by
  subst hp
  have hlt : b < w.heap.size := by
    rcases Nat.lt_or_ge b w.heap.size with h' | h'
    · exact h'
    · simp [Array.getElem?_eq_none h'] at hbk
  have hbk1 : w1.heap[b]? = some (.cells #[.pointer (some ⟨b, 0, none⟩), v] 76 (0, 0)) := (hg.block b hlt (fun e => hne e.symm)).trans hbk
  have hb1 : Below B w w1 := (Below.refl B w).grown hg hBw (fun k hk => (hown0.lt k hk).1)
  refine ⟨Lib.BuilderAt.put hB hbk1 (by rw [Lib.byteCells_length, ← hn]; exact hown) (by decide), hb1.setCell (p := ⟨b, 1, none⟩) hB _, ?_⟩
  intro k hk hkb hnot
  rw [Below.heap_setCell _ _ _ _ (by simpa using hkb)]
  refine hg.block k hk ?_
  intro e
  rcases hown0.2 with ⟨rfl, _⟩ | ⟨g, cap, cur, rfl, _, hgg, _⟩
  · cases e
  · simp only [Value.ownBlock, Option.some.injEq] at e
    subst e
    exact hnot cur hgg

set_option maxHeartbeats 1000000 in
theorem bld_WriteString (B b : Nat) (l : List UInt8) (s : ByteArray) (w : World) (h : Bld B b l w) (hBw : B ≤ w.heap.size) (hlen : l.length + s.size ≤ 140737488355328) :
    Calls Tryz.prog 37 #[.pointer (some ⟨b, 0, none⟩), .string s] w fun e w' => Wrote B b (l ++ s.data.toList) w e w' := by
  obtain ⟨i0, hi, hz0, hz1, hz2⟩ := info_parts byteInfo
  obtain ⟨hB, v, hbk, hown, hne⟩ := h
  rw [Lib.byteCells_length] at hown
  obtain ⟨ao, cap, rfl⟩ := own_shape hown
  have c0 : w.cell? ⟨b, 0, none⟩ = some (.pointer (some ⟨b, 0, none⟩)) := by rw [Lib.cell_of_heap hbk]; rfl
  have c1 : w.cell? ⟨b, 1, none⟩ = some (.slice ao l.length cap) := by rw [Lib.cell_of_heap hbk]; rfl
  have hs0 := Lib.size_eq s
  have HS := Lib.hid hs0
  clear hs0
  go_enter Tryz.func37, Tryz.ntmps37
  go_wp2_with (first
    | (go_at_call 51; refine (copyCheck_used _ _ c0).mono ?_; rintro e w' ⟨rfl, rfl⟩)
    | (at_builtin; refine Lib.wpList_append_own_string _ rfl (.tmp 12) (.tmp 13) _ _ rfl B 5 i0 Tryz.underlying74 Tryz.underlying9 hi hz0 hz1 hz2 _ _ _ rfl hown s rfl ?c1 ?c2 hBw ?_))
  case c1 => unfold maxLen; omega
  case c2 => omega
  intro v' w1 hown' hg hnil
  obtain ⟨ao', cap', rfl⟩ := own_shape hown'
  have hW := wrote_mk (l := l ++ s.data.toList) (p := .slice ao' (l.length + s.size) cap') hB hBw hbk hne hown (by rw [Lib.byteCells_append]; exact hown') hg rfl (by rw [List.length_append, ← Lib.size_eq])
  have HW := Lib.hid hW
  have hlt : b < w.heap.size := Lib.BuilderAt.lt ⟨hB, _, hbk, (by rw [Lib.byteCells_length]; exact hown), hne⟩
  have hbk1 := (hg.block b hlt (fun e => hne e.symm)).trans hbk
  have c1' : w1.cell? ⟨b, 1, none⟩ = some (.slice ao l.length cap) := by rw [Lib.cell_of_heap hbk1]; rfl
  have f1' : w1.frozen? ⟨b, 1, none⟩ = false := Lib.frozen_of_heap hbk1 1
  clear hown' hg hnil hW hown hbk1 hbk hne
  go_wp2
  go_ret2
  exact ⟨_, rfl, HW.out.1, HW.out.2⟩

set_option maxHeartbeats 1000000 in
theorem appendRune_eq (B : Nat) (v : Value) (n : Nat) (xs : List Value) (w : World) (hown : w.ownsRow B 5 1 v n xs) (hBw : B ≤ w.heap.size) (hlen : n + 1 ≤ 140737488355328) :
    Calls Tryz.prog 53 #[v, .int .i32 61] w fun e w' => ∃ v', e = .returned v' ∧ w'.ownsRow B 5 1 v' (n + 1) (xs ++ [.int .u8 61]) ∧ w.grownBy w' v.ownBlock := by
  go_enter Tryz.func53, Tryz.ntmps53
  go_wp2_with (at_builtin; refine wpList_app1 rfl (.tmp 8) (.tmp 11) _ _ rfl _ _ Tryz.underlying74 byteInfo rfl B _ _ _ rfl hown (.int .u8 61) rfl rfl ?c1 ?c2 hBw ?_)
  case c1 => omega
  case c2 => omega
  intro g cap w1 hown1 hb1 hg1 hat hBg
  have R : Hid (∃ v', Ending.returned (.slice (some ⟨g, 0, none⟩) (n + 1) cap) = .returned v' ∧ w1.ownsRow B 5 1 v' (n + 1) (xs ++ [.int .u8 61]) ∧ w.grownBy w1 v.ownBlock) := ⟨_, rfl, hown1, hg1⟩
  clear hown1 hb1 hg1 hat hown
  go_wp2
  go_ret
  exact R

set_option maxHeartbeats 1000000 in
theorem bld_WriteRune (B b : Nat) (l : List UInt8) (w : World) (h : Bld B b l w) (hBw : B ≤ w.heap.size) (hlen : l.length + 1 ≤ 140737488355328) :
    Calls Tryz.prog 38 #[.pointer (some ⟨b, 0, none⟩), .int .i32 61] w fun e w' => Wrote B b (l ++ [61]) w e w' := by
  obtain ⟨hB, v, hbk, hown, hne⟩ := h
  rw [Lib.byteCells_length] at hown
  obtain ⟨ao, cap, rfl⟩ := own_shape hown
  have c0 : w.cell? ⟨b, 0, none⟩ = some (.pointer (some ⟨b, 0, none⟩)) := by rw [Lib.cell_of_heap hbk]; rfl
  have c1 : w.cell? ⟨b, 1, none⟩ = some (.slice ao l.length cap) := by rw [Lib.cell_of_heap hbk]; rfl
  have hlt : b < w.heap.size := Lib.BuilderAt.lt ⟨hB, _, hbk, (by rw [Lib.byteCells_length]; exact hown), hne⟩
  go_enter Tryz.func38, Tryz.ntmps38
  go_wp2_with (first
    | (go_at_call 51; refine (copyCheck_used _ _ c0).mono ?_; rintro e w' ⟨rfl, rfl⟩)
    | (go_at_call 53; refine (appendRune_eq B _ _ _ _ hown hBw hlen).mono ?_))
  rintro e w1 ⟨v', rfl, hown', hg⟩
  obtain ⟨ao', cap', rfl⟩ := own_shape hown'
  have hW := wrote_mk (l := l ++ [61]) (p := .slice ao' (l.length + 1) cap') hB hBw hbk hne hown (by rw [Lib.byteCells_append]; exact hown') hg rfl (by simp)
  have HW := Lib.hid hW
  have hbk1 := (hg.block b hlt (fun e => hne e.symm)).trans hbk
  have c1' : w1.cell? ⟨b, 1, none⟩ = some (.slice ao l.length cap) := by rw [Lib.cell_of_heap hbk1]; rfl
  have f1' : w1.frozen? ⟨b, 1, none⟩ = false := Lib.frozen_of_heap hbk1 1
  have hlt1 : b < w1.heap.size := Nat.lt_of_lt_of_le hlt hg.size
  have hc2 : (w1.setCell ⟨b, 1, none⟩ (.slice ao' (l.length + 1) cap')).cell? ⟨b, 1, none⟩ = some (.slice ao' (l.length + 1) cap') := World.cell?_setCell_same w1 _ _ c1'
  clear hown' hg hW hown hbk1 hbk hne
  go_wp2
  go_ret2
  exact ⟨_, rfl, HW.out.1, HW.out.2⟩

theorem byteCells_one (l : List UInt8) : ∀ u ∈ Lib.byteCells l, u.oneCell' = true := by
  intro u hu
  unfold Lib.byteCells at hu
  rw [List.mem_map] at hu
  obtain ⟨x, _, rfl⟩ := hu
  rfl

set_option maxHeartbeats 1000000 in
theorem bld_Write (B b : Nat) (l l2 : List UInt8) (ad : Addr) (m c : Nat) (w : World) (h : Bld B b l w) (hBw : B ≤ w.heap.size) (hlen : l.length + m ≤ 140737488355328)
    (hl2 : l2.length = m) (hc : ∀ j u, (Lib.byteCells l2)[j]? = some u → w.cell? (ad.add j) = some u) :
    Calls Tryz.prog 42 #[.pointer (some ⟨b, 0, none⟩), .slice (some ad) m c] w fun e w' => Wrote B b (l ++ l2) w e w' := by
  obtain ⟨i0, hi, hz0, hz1, hz2⟩ := info_parts byteInfo
  obtain ⟨hB, v, hbk, hown, hne⟩ := h
  rw [Lib.byteCells_length] at hown
  obtain ⟨ao, cap, rfl⟩ := own_shape hown
  have c0 : w.cell? ⟨b, 0, none⟩ = some (.pointer (some ⟨b, 0, none⟩)) := by rw [Lib.cell_of_heap hbk]; rfl
  have c1 : w.cell? ⟨b, 1, none⟩ = some (.slice ao l.length cap) := by rw [Lib.cell_of_heap hbk]; rfl
  have HC := Lib.hid hc
  have HL := Lib.hid hl2
  clear hc hl2
  go_enter Tryz.func42, Tryz.ntmps42
  go_wp2_with (first
    | (go_at_call 51; refine (copyCheck_used _ _ c0).mono ?_; rintro e w' ⟨rfl, rfl⟩)
    | (at_builtin; refine wpList_append_own _ rfl (.tmp 12) (.tmp 13) _ rfl B 5 i0 (.int .u8 0) 1 1 Tryz.underlying74 hi hz0 hz1 hz2 rfl (by decide) _ _ _ rfl hown ad m c (Lib.byteCells l2) rfl ?c0 ?c1 ?c2 ?c3 ?c4 hBw ?_))
  case c0 => rw [Lib.byteCells_length, HL.out]; simp
  case c1 => exact HC.out
  case c2 => exact byteCells_one l2
  case c3 => unfold maxLen; omega
  case c4 => omega
  intro v' w1 hown' hg hnil
  obtain ⟨ao', cap', rfl⟩ := own_shape hown'
  have hW := wrote_mk (l := l ++ l2) (p := .slice ao' (l.length + m) cap') hB hBw hbk hne hown (by rw [Lib.byteCells_append]; exact hown') hg rfl (by rw [List.length_append, HL.out])
  have HW := Lib.hid hW
  have hlt : b < w.heap.size := Lib.BuilderAt.lt ⟨hB, _, hbk, (by rw [Lib.byteCells_length]; exact hown), hne⟩
  have hbk1 := (hg.block b hlt (fun e => hne e.symm)).trans hbk
  have c1' : w1.cell? ⟨b, 1, none⟩ = some (.slice ao l.length cap) := by rw [Lib.cell_of_heap hbk1]; rfl
  have f1' : w1.frozen? ⟨b, 1, none⟩ = false := Lib.frozen_of_heap hbk1 1
  clear hown' hg hnil hW hown hbk1 hbk hne
  go_wp2
  go_ret2
  exact ⟨_, rfl, HW.out.1, HW.out.2⟩
end Go.Proofs.YtfijncfoefbohaaGreatDoor
