/- Part.text: a part of the reference as text. -/
import Derived.Test.YtfijncfoefbohaaGreatDoorTextP
import Derived.Test.YtfijncfoefbohaaGreatDoorQ
import Derived.Test.YtfijncfoefbohaaGreatDoorOpenB
import Derived.Test.YtfijncfoefbohaaGreatDoorSame
import Derived.Test.YtfijncfoefbohaaGreatDoorPtrs
import Derived.Deep.RegionWith
namespace Go.Proofs.YtfijncfoefbohaaGreatDoor
open Go Go.RowKit

def TextPost (p : Pt) (e : Ending) : Prop := ∃ (t : ByteArray) (ok : Bool), e = .returned (.tuple #[.string t, .bool ok]) ∧ (ok = true → TextOk p ∧ t.data.toList = textT p) ∧ (TextOk p → ok = true)
theorem TextPost.no {p : Pt} {t : ByteArray} (h : ¬ TextOk p) : TextPost p (.returned (.tuple #[.string t, .bool false])) := ⟨t, false, rfl, (fun h => by cases h), fun h2 => absurd h2 h⟩
def all8 : List ByteArray := knL ++ [⟨#[101, 120, 112, 105, 114, 101, 115]⟩]
theorem all8_low : all8.map (fun x => Lib.toLowerA x.data.toList) = keys8 := by decide
theorem all8_size : ∀ k (h : k < 8), (all8[k]'h).size ≤ 100 := by decide
theorem wpList_app1x {P : Program} {W : World} {ops : Array Oper} {rest : List Oper} {o : Oper} {a : Act} {Q : Exit → Act → World → Prop} (hgd : o.guard = none) (s x : Operand) (t e : TypeId)
    (ho : o.op = .call { callee := .builtin .append, args := #[s, x], argTypes := #[t, t] })
    (z : Value) (bytes : Nat) (ht : P.underlying t = some (.slice e)) (hinfo : (P.info? e).map (fun i => (i.zero, i.size, i.bytes)) = some (some z, 1, bytes)) (hzs : z.cells.size = 1)
    (B : Nat) (v : Value) (n : Nat) (xs : List Value) (hs : a.eval s = v) (hown : W.ownsRow B e 1 v n xs) (u : Value) (hu : u.oneCell' = true) (H : Nat) (hH : W.heap.size = H)
    (hx : a.eval x = .slice (some ⟨H, 0, none⟩) 1 1) (hn : (n + 1) * bytes ≤ 140737488355328) (hm : n < 9223372036854775807) (hB : B ≤ W.heap.size)
    (h : ∀ g cap w1, w1.ownsRow B e 1 (.slice (some ⟨g, 0, none⟩) (n + 1) cap) (n + 1) (xs ++ [u]) → Below B W w1 → W.grownBy w1 v.ownBlock → (some g = v.ownBlock ∨ W.heap.size ≤ g) → B ≤ g →
      wpList P ops Q rest (a.put o.dst (.slice (some ⟨g, 0, none⟩) (n + 1) cap)) w1) :
    wpList P ops Q (o :: rest) a (W.alloc (.cells #[u] e)) := by
  subst hH
  exact wpList_app1 hgd s x t e ho z bytes ht hinfo hzs B v n xs hs hown u hu hx hn hm hB h
theorem kn_at (w : World) (k : Nat) (hk : k < 7) : (w.alloc (.cells knC 9)).cell? ⟨w.heap.size, k, none⟩ = knC[k]? := by
  rw [Lib.cell_of_heap (alloc_at w knC 9).1]
theorem pt_cells {w : World} {N T : Nat} {p : Pt} (h : w.heap[N]? = some (.cells p.cells T (0, 0))) : w.cell? ⟨N, 0, none⟩ = some (.int .i64 p.kind) ∧ w.cell? ⟨N, 1, none⟩ = some (.string p.name) ∧ w.cell? ⟨N, 2, none⟩ = some (.string p.value) ∧ w.cell? ⟨N, 3, none⟩ = some (.int .i64 p.cas) := by
  refine ⟨?_, ?_, ?_, ?_⟩ <;> (rw [Lib.cell_of_heap h]; rfl)

theorem bel_drewN {B : Nat} {a w : World} {n : Nat} (h : Below B a w) : Below B a (w.drewN n) := ⟨h.os, h.tape, h.output, h.size, h.block⟩
theorem sz_of {a b : ByteArray} {n : Nat} (h : a.data.toList.length = b.data.toList.length) (hb : b.size ≤ n) : a.size ≤ n := by
  simp only [Array.length_toList] at h
  exact Nat.le_trans (Nat.le_of_eq h) hb
set_option maxHeartbeats 8000000 in
set_option maxRecDepth 100000 in
set_option maxHeartbeats 4000000 in
theorem text_any (p : Pt) (w : World) (z1 : p.name.size ≤ 2147483647) (z2 : p.value.size ≤ 2147483647) :
    Calls Tryz.prog 15 #[.agg p.cells] w fun e w' => TextPost p e ∧ Below w.heap.size w w' := by
  have hvm : p.value.size ≤ maxLen := by unfold maxLen; omega
  unfold Pt.cells
  go_enter Tryz.func15, Tryz.ntmps15
  go_upto_region 1 with fail
  obtain ⟨a1, a2, a3⟩ := alloc_at w p.cells 28
  unfold Pt.cells at a1 a2 a3
  generalize w.alloc (.cells #[.int .i64 p.kind, .string p.name, .string p.value, .int .i64 p.cas] 28) = w1 at a1 a2 a3 ⊢
  obtain ⟨c0, c1, c2, c3⟩ := pt_cells (p := p) a1
  have HB1 := Lib.hid a2
  have HA1 := Lib.hid a1
  obtain ⟨N, hN⟩ : ∃ N, w.heap.size = N := ⟨_, rfl⟩
  have HN := Lib.hid hN
  rw [hN] at c0 c1 c2 c3 a3 HA1 ⊢
  clear a1 a2 hN
  by_cases k1 : p.kind < 0
  · have d1 : decide (p.kind < 0) = true := by rw [decide_eq_true_iff]; exact k1
    go_wp2
    go_ret2
    exact ⟨.no (fun h => by have := h.lo; omega), HB1.out⟩
  have d1 : decide (p.kind < 0) = false := by rw [decide_eq_false_iff_not]; exact k1
  by_cases k2 : 7 < p.kind
  · have d2 : decide ((7 : Int) < p.kind) = true := by rw [decide_eq_true_iff]; exact k2
    go_wp2
    go_ret2
    exact ⟨.no (fun h => by have := h.hi; omega), HB1.out⟩
  have d2 : decide ((7 : Int) < p.kind) = false := by rw [decide_eq_false_iff_not]; exact k2
  rcases hoc : allB octB p.value.data.toList with _ | _
  · have HOC := Lib.hid hoc
    clear hoc
    go_wp2_with (go_at_call 13; refine (s_Octets_any p.value _ hvm).mono ?_; rintro e w' ⟨rfl, rfl⟩; rw [HOC.out])
    go_ret2
    exact ⟨.no (fun h => by have := h.val; rw [HOC.out] at this; cases this), HB1.out⟩
  have HOC := Lib.hid hoc
  have k0 : 0 ≤ p.kind := by omega
  have k7 : p.kind ≤ 7 := by omega
  clear hoc k1 k2
  go_upto_if 25 with (go_at_call 13; refine (s_Octets_any p.value _ hvm).mono ?_; rintro e w' ⟨rfl, rfl⟩; rw [HOC.out])
  have C0 := Lib.hid c0
  have C1 := Lib.hid c1
  have C2 := Lib.hid c2
  have C3 := Lib.hid c3
  clear c0 c1 c2 c3
  go_cut [4] (fun v wx => (∃ nm : ByteArray, v = .string nm ∧ nm.data.toList = baseT p ∧ nm.size ≤ 2147483647 ∧ (p.kind = 7 → tokS p.name.data.toList = true ∧ Lib.toLowerA p.name.data.toList ∉ keys8)) ∧ Below w1.heap.size w1 wx)
  case first =>
    by_cases h7 : p.kind < 7
    · rcases (show p.kind = 0 ∨ p.kind = 1 ∨ p.kind = 2 ∨ p.kind = 3 ∨ p.kind = 4 ∨ p.kind = 5 ∨ p.kind = 6 by omega) with hk | hk | hk | hk | hk | hk | hk
      · have d7 : decide (p.kind < 7) = true := by rw [decide_eq_true_iff]; omega
        have c0 : w1.cell? ⟨N, 0, none⟩ = some (.int .i64 0) := by have h := C0.out; rw [hk] at h; exact h
        have HKB : Hid (baseT p = [80, 97, 116, 104]) := Lib.hid (by rw [base_of h7, hk]; rfl)
        have HK7 : Hid (p.kind ≠ 7) := Lib.hid (by omega)
        have KK : Hid ((w1.alloc (.cells knC 9)).cell? ⟨N, 0, none⟩ = some (.int .i64 0) ∧ (w1.alloc (.cells knC 9)).cell? ⟨w1.heap.size, 0, none⟩ = some (.string ⟨#[80, 97, 116, 104]⟩) ∧ Below w1.heap.size w1 (w1.alloc (.cells knC 9))) := Lib.hid ⟨cell_keep c0 ((Below.refl _ _).alloc (Nat.le_refl _) _), (kn_at w1 0 (by omega)).trans rfl, (Below.refl _ _).alloc (Nat.le_refl _) _⟩
        clear hk k0 k7 d1 d2
        go_wp2
        go_region_with (go_at_call 26; refine (known_any _).mono ?_; rintro e wk ⟨rfl, rfl⟩; obtain ⟨hk3, hk4, hk5⟩ := KK.out; have HK5 := Lib.hid hk5; clear hk5)
        all_goals
          go_wp2
          go_meet
          case rel => exact ⟨⟨_, rfl, HKB.out.symm, by decide, fun h => absurd h HK7.out⟩, HK5.out.drew⟩
      · have d7 : decide (p.kind < 7) = true := by rw [decide_eq_true_iff]; omega
        have c0 : w1.cell? ⟨N, 0, none⟩ = some (.int .i64 1) := by have h := C0.out; rw [hk] at h; exact h
        have HKB : Hid (baseT p = [68, 111, 109, 97, 105, 110]) := Lib.hid (by rw [base_of h7, hk]; rfl)
        have HK7 : Hid (p.kind ≠ 7) := Lib.hid (by omega)
        have KK : Hid ((w1.alloc (.cells knC 9)).cell? ⟨N, 0, none⟩ = some (.int .i64 1) ∧ (w1.alloc (.cells knC 9)).cell? ⟨w1.heap.size, 1, none⟩ = some (.string ⟨#[68, 111, 109, 97, 105, 110]⟩) ∧ Below w1.heap.size w1 (w1.alloc (.cells knC 9))) := Lib.hid ⟨cell_keep c0 ((Below.refl _ _).alloc (Nat.le_refl _) _), (kn_at w1 1 (by omega)).trans rfl, (Below.refl _ _).alloc (Nat.le_refl _) _⟩
        clear hk k0 k7 d1 d2
        go_wp2
        go_region_with (go_at_call 26; refine (known_any _).mono ?_; rintro e wk ⟨rfl, rfl⟩; obtain ⟨hk3, hk4, hk5⟩ := KK.out; have HK5 := Lib.hid hk5; clear hk5)
        all_goals
          go_wp2
          go_meet
          case rel => exact ⟨⟨_, rfl, HKB.out.symm, by decide, fun h => absurd h HK7.out⟩, HK5.out.drew⟩
      · have d7 : decide (p.kind < 7) = true := by rw [decide_eq_true_iff]; omega
        have c0 : w1.cell? ⟨N, 0, none⟩ = some (.int .i64 2) := by have h := C0.out; rw [hk] at h; exact h
        have HKB : Hid (baseT p = [77, 97, 120, 45, 65, 103, 101]) := Lib.hid (by rw [base_of h7, hk]; rfl)
        have HK7 : Hid (p.kind ≠ 7) := Lib.hid (by omega)
        have KK : Hid ((w1.alloc (.cells knC 9)).cell? ⟨N, 0, none⟩ = some (.int .i64 2) ∧ (w1.alloc (.cells knC 9)).cell? ⟨w1.heap.size, 2, none⟩ = some (.string ⟨#[77, 97, 120, 45, 65, 103, 101]⟩) ∧ Below w1.heap.size w1 (w1.alloc (.cells knC 9))) := Lib.hid ⟨cell_keep c0 ((Below.refl _ _).alloc (Nat.le_refl _) _), (kn_at w1 2 (by omega)).trans rfl, (Below.refl _ _).alloc (Nat.le_refl _) _⟩
        clear hk k0 k7 d1 d2
        go_wp2
        go_region_with (go_at_call 26; refine (known_any _).mono ?_; rintro e wk ⟨rfl, rfl⟩; obtain ⟨hk3, hk4, hk5⟩ := KK.out; have HK5 := Lib.hid hk5; clear hk5)
        all_goals
          go_wp2
          go_meet
          case rel => exact ⟨⟨_, rfl, HKB.out.symm, by decide, fun h => absurd h HK7.out⟩, HK5.out.drew⟩
      · have d7 : decide (p.kind < 7) = true := by rw [decide_eq_true_iff]; omega
        have c0 : w1.cell? ⟨N, 0, none⟩ = some (.int .i64 3) := by have h := C0.out; rw [hk] at h; exact h
        have HKB : Hid (baseT p = [83, 101, 99, 117, 114, 101]) := Lib.hid (by rw [base_of h7, hk]; rfl)
        have HK7 : Hid (p.kind ≠ 7) := Lib.hid (by omega)
        have KK : Hid ((w1.alloc (.cells knC 9)).cell? ⟨N, 0, none⟩ = some (.int .i64 3) ∧ (w1.alloc (.cells knC 9)).cell? ⟨w1.heap.size, 3, none⟩ = some (.string ⟨#[83, 101, 99, 117, 114, 101]⟩) ∧ Below w1.heap.size w1 (w1.alloc (.cells knC 9))) := Lib.hid ⟨cell_keep c0 ((Below.refl _ _).alloc (Nat.le_refl _) _), (kn_at w1 3 (by omega)).trans rfl, (Below.refl _ _).alloc (Nat.le_refl _) _⟩
        clear hk k0 k7 d1 d2
        go_wp2
        go_region_with (go_at_call 26; refine (known_any _).mono ?_; rintro e wk ⟨rfl, rfl⟩; obtain ⟨hk3, hk4, hk5⟩ := KK.out; have HK5 := Lib.hid hk5; clear hk5)
        all_goals
          go_wp2
          go_meet
          case rel => exact ⟨⟨_, rfl, HKB.out.symm, by decide, fun h => absurd h HK7.out⟩, HK5.out.drew⟩
      · have d7 : decide (p.kind < 7) = true := by rw [decide_eq_true_iff]; omega
        have c0 : w1.cell? ⟨N, 0, none⟩ = some (.int .i64 4) := by have h := C0.out; rw [hk] at h; exact h
        have HKB : Hid (baseT p = [72, 116, 116, 112, 79, 110, 108, 121]) := Lib.hid (by rw [base_of h7, hk]; rfl)
        have HK7 : Hid (p.kind ≠ 7) := Lib.hid (by omega)
        have KK : Hid ((w1.alloc (.cells knC 9)).cell? ⟨N, 0, none⟩ = some (.int .i64 4) ∧ (w1.alloc (.cells knC 9)).cell? ⟨w1.heap.size, 4, none⟩ = some (.string ⟨#[72, 116, 116, 112, 79, 110, 108, 121]⟩) ∧ Below w1.heap.size w1 (w1.alloc (.cells knC 9))) := Lib.hid ⟨cell_keep c0 ((Below.refl _ _).alloc (Nat.le_refl _) _), (kn_at w1 4 (by omega)).trans rfl, (Below.refl _ _).alloc (Nat.le_refl _) _⟩
        clear hk k0 k7 d1 d2
        go_wp2
        go_region_with (go_at_call 26; refine (known_any _).mono ?_; rintro e wk ⟨rfl, rfl⟩; obtain ⟨hk3, hk4, hk5⟩ := KK.out; have HK5 := Lib.hid hk5; clear hk5)
        all_goals
          go_wp2
          go_meet
          case rel => exact ⟨⟨_, rfl, HKB.out.symm, by decide, fun h => absurd h HK7.out⟩, HK5.out.drew⟩
      · have d7 : decide (p.kind < 7) = true := by rw [decide_eq_true_iff]; omega
        have c0 : w1.cell? ⟨N, 0, none⟩ = some (.int .i64 5) := by have h := C0.out; rw [hk] at h; exact h
        have HKB : Hid (baseT p = [83, 97, 109, 101, 83, 105, 116, 101]) := Lib.hid (by rw [base_of h7, hk]; rfl)
        have HK7 : Hid (p.kind ≠ 7) := Lib.hid (by omega)
        have KK : Hid ((w1.alloc (.cells knC 9)).cell? ⟨N, 0, none⟩ = some (.int .i64 5) ∧ (w1.alloc (.cells knC 9)).cell? ⟨w1.heap.size, 5, none⟩ = some (.string ⟨#[83, 97, 109, 101, 83, 105, 116, 101]⟩) ∧ Below w1.heap.size w1 (w1.alloc (.cells knC 9))) := Lib.hid ⟨cell_keep c0 ((Below.refl _ _).alloc (Nat.le_refl _) _), (kn_at w1 5 (by omega)).trans rfl, (Below.refl _ _).alloc (Nat.le_refl _) _⟩
        clear hk k0 k7 d1 d2
        go_wp2
        go_region_with (go_at_call 26; refine (known_any _).mono ?_; rintro e wk ⟨rfl, rfl⟩; obtain ⟨hk3, hk4, hk5⟩ := KK.out; have HK5 := Lib.hid hk5; clear hk5)
        all_goals
          go_wp2
          go_meet
          case rel => exact ⟨⟨_, rfl, HKB.out.symm, by decide, fun h => absurd h HK7.out⟩, HK5.out.drew⟩
      · have d7 : decide (p.kind < 7) = true := by rw [decide_eq_true_iff]; omega
        have c0 : w1.cell? ⟨N, 0, none⟩ = some (.int .i64 6) := by have h := C0.out; rw [hk] at h; exact h
        have HKB : Hid (baseT p = [80, 97, 114, 116, 105, 116, 105, 111, 110, 101, 100]) := Lib.hid (by rw [base_of h7, hk]; rfl)
        have HK7 : Hid (p.kind ≠ 7) := Lib.hid (by omega)
        have KK : Hid ((w1.alloc (.cells knC 9)).cell? ⟨N, 0, none⟩ = some (.int .i64 6) ∧ (w1.alloc (.cells knC 9)).cell? ⟨w1.heap.size, 6, none⟩ = some (.string ⟨#[80, 97, 114, 116, 105, 116, 105, 111, 110, 101, 100]⟩) ∧ Below w1.heap.size w1 (w1.alloc (.cells knC 9))) := Lib.hid ⟨cell_keep c0 ((Below.refl _ _).alloc (Nat.le_refl _) _), (kn_at w1 6 (by omega)).trans rfl, (Below.refl _ _).alloc (Nat.le_refl _) _⟩
        clear hk k0 k7 d1 d2
        go_wp2
        go_region_with (go_at_call 26; refine (known_any _).mono ?_; rintro e wk ⟨rfl, rfl⟩; obtain ⟨hk3, hk4, hk5⟩ := KK.out; have HK5 := Lib.hid hk5; clear hk5)
        all_goals
          go_wp2
          go_meet
          case rel => exact ⟨⟨_, rfl, HKB.out.symm, by decide, fun h => absurd h HK7.out⟩, HK5.out.drew⟩
    have d7 : decide (p.kind < 7) = false := by rw [decide_eq_false_iff_not]; exact h7
    have HB7 : Hid (baseT p = p.name.data.toList) := Lib.hid (if_neg h7)
    obtain ⟨a1, a2, a3'⟩ := alloc_at w1 knC 9
    have hown : (w1.alloc (.cells knC 9)).ownsRow w1.heap.size 9 1 (.slice (some ⟨w1.heap.size, 0, none⟩) 7 7) 7 (knL.map Value.string) := ⟨rfl, .inr ⟨w1.heap.size, 7, knC, rfl, Nat.le_refl _, a1, Nat.le_refl _, by decide, rfl, rfl⟩⟩
    have HOWN := Lib.hid hown
    have HA2 := Lib.hid a2
    have hsz2 : (w1.alloc (.cells knC 9)).heap.size = w1.heap.size + 1 := alloc_size' _ _
    clear a1 a2 a3' hown
    go_wp2_with (first
      | (go_at_call 26; refine (known_any _).mono ?_; rintro e wk ⟨rfl, rfl⟩)
      | (at_builtin; refine wpList_app1x rfl (.tmp 31) (.tmp 32) _ _ rfl _ _ Tryz.underlying23 strInfo rfl w1.heap.size _ 7 (knL.map Value.string) rfl HOWN.out (.string ⟨#[101, 120, 112, 105, 114, 101, 115]⟩) rfl (w1.heap.size + 1) hsz2 rfl ?c1 ?c2 ?c3 ?_))
    case c1 => omega
    case c2 => omega
    case c3 => rw [hsz2]; omega
    intro g cap w3 hown3 hb3 hg3 hat3 hBg
    have hpx : PartsAt g all8 w3 := PartsAt.of_own (xs := all8) hown3
    have HPX := Lib.hid hpx
    have HB3 := Lib.hid (HA2.out.trans hb3)
    clear hown3 hb3 hg3 hat3 hpx HOWN HA2 hsz2
    go_wp2
    go_loopw [35] (fun i wr => ∃ k : Nat, k ≤ 8 ∧ i = .int .i64 k ∧ Below w3.heap.size w3 wr ∧ ∀ j (h : j < 8), j < k → Lib.toLowerA (all8[j]'h).data.toList ≠ Lib.toLowerA p.name.data.toList) (fun i _ => 8 - (intOf i).toNat)
    case atStart => exact ⟨0, by omega, rfl, Below.refl _ _, fun j _ h => absurd h (Nat.not_lt_zero _)⟩
    case round =>
      obtain ⟨k, hk, rfl, hbe, hne⟩ := hrel
      have HBE := Lib.hid hbe
      have HNE := Lib.hid hne
      have hBw3 : w1.heap.size ≤ w3.heap.size := HB3.out.size
      clear hbe hne
      by_cases hlt : k < 8
      case neg =>
        have hd : decide ((k : Int) < 8) = false := by rw [decide_eq_false_iff_not]; omega
        have hd' : decide (k < 8) = false := by rw [decide_eq_false_iff_not]; omega
        have HKS : Hid (Lib.toLowerA p.name.data.toList ∉ keys8) := Lib.hid (by
          rw [← all8_low]
          intro hm
          obtain ⟨x, hx, he⟩ := List.mem_map.1 hm
          obtain ⟨j, hj, rfl⟩ := List.mem_iff_getElem.1 hx
          have hj8 : j < 8 := hj
          exact HNE.out j hj8 (by omega) he)
        have hnm : p.name.size ≤ maxLen := by unfold maxLen; omega
        rcases htk : tokS p.name.data.toList with _ | _
        · have HTK := Lib.hid htk
          clear htk
          go_wp2_with (go_at_call 12; refine (s_Token_any p.name _ hnm).mono ?_; rintro e w' ⟨rfl, rfl⟩; rw [HTK.out])
          go_ret2
          exact ⟨.no (fun h => by have := (h.name (by have := h.hi; omega)).1; rw [HTK.out] at this; cases this), HB1.out.trans ((HB3.out.trans (HBE.out.mono hBw3)).mono HB1.out.size)⟩
        · have HTK := Lib.hid htk
          clear htk
          go_wp2_with (go_at_call 12; refine (s_Token_any p.name _ hnm).mono ?_; rintro e w' ⟨rfl, rfl⟩; rw [HTK.out])
          go_meet
          case rel => exact ⟨⟨p.name, rfl, HB7.out.symm, z1, fun _ => ⟨HTK.out, HKS.out⟩⟩, HB3.out.trans (HBE.out.mono hBw3)⟩
      have hd : decide ((k : Int) < 8) = true := by rw [decide_eq_true_iff]; omega
      have hd' : decide (k < 8) = true := by rw [decide_eq_true_iff]; exact hlt
      have hcc := (HPX.out.kept HBE.out).cell (k := k) hlt
      have hz8 : (all8[k]'hlt).size ≤ 100 := all8_size k hlt
      obtain ⟨x, hx⟩ : ∃ x, all8[k]'hlt = x := ⟨_, rfl⟩
      rw [hx] at hcc hz8
      have HX := Lib.hid hx
      clear hx
      have HNX : Hid (Lib.toLowerA x.data.toList ≠ Lib.toLowerA p.name.data.toList → ∀ j (h : j < 8), j < k + 1 → Lib.toLowerA (all8[j]'h).data.toList ≠ Lib.toLowerA p.name.data.toList) := Lib.hid (fun h j h1 h2 => by
        by_cases hjk : j < k
        · exact HNE.out j h1 hjk
        · have : j = k := by omega
          subst this
          rw [HX.out]; exact h)
      clear HNE
      go_wp2_with fail
      refine (s_Lower_any x wr (by omega)).mono ?_
      rintro e w4 ⟨⟨lx, rfl, hlx⟩, hb4⟩
      have HLX := Lib.hid hlx
      have HB4 := Lib.hid (HBE.out.trans (hb4.mono HBE.out.size))
      clear hlx hb4
      go_wp2_with fail
      refine (s_Lower_any p.name w4 (by omega)).mono ?_
      rintro e w5 ⟨⟨ln, rfl, hln⟩, hb5⟩
      have HB5 := Lib.hid (HB4.out.trans (hb5.mono HB4.out.size))
      have HEQ : Hid (∀ q : Bool, (lx.toList == ln.toList) = q → (q = false → Lib.toLowerA x.data.toList ≠ Lib.toLowerA p.name.data.toList)) := Lib.hid (fun q h1 h2 h3 => by
        rw [Lib.toList_data, Lib.toList_data, HLX.out, hln, h3, h2] at h1
        simp at h1)
      have HKY : Hid ((lx.toList == ln.toList) = true → Lib.toLowerA p.name.data.toList ∈ keys8) := Lib.hid (fun h1 => by
        rw [Lib.toList_data, Lib.toList_data, HLX.out, hln, beq_iff_eq] at h1
        rw [← h1, ← all8_low]
        exact List.mem_map.2 ⟨x, by rw [← HX.out]; exact List.getElem_mem _, rfl⟩)
      clear hln hb5
      rcases (Bool.eq_false_or_eq_true (lx.toList == ln.toList)) with hq | hq
      · go_wp2
        go_ret2
        exact ⟨.no (fun h => (h.name (by have := h.hi; omega)).2 (HKY.out hq)), HB1.out.trans ((HB3.out.trans (HB5.out.mono hBw3)).mono HB1.out.size)⟩
      · have HNE2 := Lib.hid (HNX.out (HEQ.out _ hq rfl))
        go_wp2
        go_roundw
        case rel => exact ⟨k + 1, by omega, by go_num, HB5.out, HNE2.out⟩
        case measure => simp [intOf]; omega
  case rest =>
  obtain ⟨⟨nm, rfl, hnm, hnz, hn7⟩, hbc⟩ := hcut
  have HOKT : Hid ((flagK p = true → p.value.data.toList = []) → TextOk p) := Lib.hid (fun h => ⟨k0, k7, HOC.out, hn7, h⟩)
  have HNM := Lib.hid hnm
  have HBC := Lib.hid (HB1.out.trans (hbc.mono HB1.out.size))
  have hbase : baseT p = nm.data.toList := hnm.symm
  have hc0 := cell_keep C0.out hbc
  have hc2 := cell_keep C2.out hbc
  have hc3 := cell_keep C3.out hbc
  have D0 := Lib.hid hc0
  have D2 := Lib.hid hc2
  have hNc : N < wc.heap.size := Nat.lt_of_lt_of_le a3 hbc.size
  have hBc := HBC.out.size
  clear hnm hn7 hbc C0 C1 C2 C3 HA1 hc0 hc2
  go_upto_region 14 with fail
  rcases (show p.cas = 1 ∨ p.cas = 2 ∨ (p.cas ≠ 1 ∧ p.cas ≠ 2) by omega) with hca | hca | ⟨hca1, hca2⟩
  · have c3 := hc3
    rw [hca] at c3
    have HNT : Hid (Lib.toLowerA nm.data.toList = nameT p) := Lib.hid (by rw [hbase.symm, nameT, caseT, if_pos hca])
    clear hca hbase hc3
    go_wp2_with fail
    refine (s_Lower_any nm wc (by omega)).mono ?_
    rintro e w4 ⟨⟨n2, rfl, hn2⟩, hb4⟩
    have hz2 : n2.size ≤ 2147483647 := sz_of (by rw [hn2]; unfold Lib.toLowerA; rw [List.length_map]) hnz
    have HN2 : Hid (n2.data.toList = nameT p) := Lib.hid (by rw [hn2]; exact HNT.out)
    have KX : Hid (w4.cell? ⟨N, 0, none⟩ = some (.int .i64 p.kind) ∧ w4.cell? ⟨N, 2, none⟩ = some (.string p.value) ∧ Below w.heap.size w w4 ∧ True) := Lib.hid ⟨cell_keep D0.out hb4, cell_keep D2.out hb4, HBC.out.trans (hb4.mono hBc), trivial⟩
    clear hn2 hb4 HNT
    obtain ⟨q0, q2, qb, qz⟩ := KX.out
    rcases (show p.kind = 3 ∨ p.kind = 4 ∨ p.kind = 6 ∨ p.kind = 7 ∨ (p.kind ≠ 3 ∧ p.kind ≠ 4 ∧ p.kind ≠ 6 ∧ p.kind ≠ 7) by omega) with hk | hk | hk | hk | ⟨hk3, hk4, hk6, hk7⟩
    · have HF : Hid (flagK p = true) := Lib.hid (by unfold flagK; rw [hk]; rfl)
      have c0 := q0; rw [hk] at c0
      clear hk q0
      go_upto_region 20 with fail
      go_quiet (fail)
      go_wp2
      go_ret2
      exact ⟨⟨n2, _, rfl, fun h => ⟨HOKT.out (fun _ => List.isEmpty_iff.1 (by rw [← Lib.toList_data]; exact h)), by unfold textT; rw [if_pos HF.out]; exact HN2.out⟩, fun h => by rw [Lib.toList_data, h.flag HF.out]; rfl⟩, bel_drewN qb⟩
    · have HF : Hid (flagK p = true) := Lib.hid (by unfold flagK; rw [hk]; rfl)
      have c0 := q0; rw [hk] at c0
      clear hk q0
      go_upto_region 20 with fail
      go_quiet (fail)
      go_wp2
      go_ret2
      exact ⟨⟨n2, _, rfl, fun h => ⟨HOKT.out (fun _ => List.isEmpty_iff.1 (by rw [← Lib.toList_data]; exact h)), by unfold textT; rw [if_pos HF.out]; exact HN2.out⟩, fun h => by rw [Lib.toList_data, h.flag HF.out]; rfl⟩, bel_drewN qb⟩
    · have HF : Hid (flagK p = true) := Lib.hid (by unfold flagK; rw [hk]; rfl)
      have c0 := q0; rw [hk] at c0
      clear hk q0
      go_upto_region 20 with fail
      go_quiet (fail)
      go_wp2
      go_ret2
      exact ⟨⟨n2, _, rfl, fun h => ⟨HOKT.out (fun _ => List.isEmpty_iff.1 (by rw [← Lib.toList_data]; exact h)), by unfold textT; rw [if_pos HF.out]; exact HN2.out⟩, fun h => by rw [Lib.toList_data, h.flag HF.out]; rfl⟩, bel_drewN qb⟩
    · have c0 := q0; rw [hk] at c0
      have d7 : decide (p.kind = 7) = true := by rw [decide_eq_true_iff]; exact hk
      rcases Bool.eq_false_or_eq_true p.value.toList.isEmpty with hv | hv
      · have HE : Hid (p.value.data.toList = []) := Lib.hid (by rw [← Lib.toList_data]; exact List.isEmpty_iff.1 hv)
        have HF : Hid (flagK p = true) := Lib.hid (by unfold flagK; rw [d7, HE.out]; simp)
        clear hk q0 d7
        go_upto_region 20 with fail
        go_quiet (fail)
        go_wp2
        go_ret2
        exact ⟨⟨n2, _, rfl, fun h => ⟨HOKT.out (fun _ => HE.out), by unfold textT; rw [if_pos HF.out]; exact HN2.out⟩, fun _ => rfl⟩, bel_drewN qb⟩
      · have HF : Hid (flagK p = false) := Lib.hid (by rw [Lib.toList_data] at hv; unfold flagK; rw [hk, hv]; rfl)
        clear hk q0 d7
        go_wp2
        go_ret2
        exact ⟨⟨_, true, rfl, fun h => ⟨HOKT.out (fun h => by rw [HF.out] at h; cases h), by unfold textT; rw [HF.out, if_neg (by decide), ← HN2.out]; simp⟩, fun _ => rfl⟩, qb⟩
    · have HF : Hid (flagK p = false) := Lib.hid (by unfold flagK; rw [decide_eq_false hk3, decide_eq_false hk4, decide_eq_false hk6, decide_eq_false hk7]; rfl)
      go_wp2
      go_ret2
      exact ⟨⟨_, true, rfl, fun h => ⟨HOKT.out (fun h => by rw [HF.out] at h; cases h), by unfold textT; rw [HF.out, if_neg (by decide), ← HN2.out]; simp⟩, fun _ => rfl⟩, qb⟩
  · have c3 := hc3
    rw [hca] at c3
    have HNT : Hid (Lib.toUpperA nm.data.toList = nameT p) := Lib.hid (by rw [hbase.symm, nameT, caseT, if_neg (by omega), if_pos hca])
    clear hca hbase hc3
    go_wp2_with fail
    refine (s_Upper_any nm wc (by omega)).mono ?_
    rintro e w4 ⟨⟨n2, rfl, hn2⟩, hb4⟩
    have hz2 : n2.size ≤ 2147483647 := sz_of (by rw [hn2]; unfold Lib.toUpperA; rw [List.length_map]) hnz
    have HN2 : Hid (n2.data.toList = nameT p) := Lib.hid (by rw [hn2]; exact HNT.out)
    have KX : Hid (w4.cell? ⟨N, 0, none⟩ = some (.int .i64 p.kind) ∧ w4.cell? ⟨N, 2, none⟩ = some (.string p.value) ∧ Below w.heap.size w w4 ∧ True) := Lib.hid ⟨cell_keep D0.out hb4, cell_keep D2.out hb4, HBC.out.trans (hb4.mono hBc), trivial⟩
    clear hn2 hb4 HNT
    obtain ⟨q0, q2, qb, qz⟩ := KX.out
    rcases (show p.kind = 3 ∨ p.kind = 4 ∨ p.kind = 6 ∨ p.kind = 7 ∨ (p.kind ≠ 3 ∧ p.kind ≠ 4 ∧ p.kind ≠ 6 ∧ p.kind ≠ 7) by omega) with hk | hk | hk | hk | ⟨hk3, hk4, hk6, hk7⟩
    · have HF : Hid (flagK p = true) := Lib.hid (by unfold flagK; rw [hk]; rfl)
      have c0 := q0; rw [hk] at c0
      clear hk q0
      go_upto_region 20 with fail
      go_quiet (fail)
      go_wp2
      go_ret2
      exact ⟨⟨n2, _, rfl, fun h => ⟨HOKT.out (fun _ => List.isEmpty_iff.1 (by rw [← Lib.toList_data]; exact h)), by unfold textT; rw [if_pos HF.out]; exact HN2.out⟩, fun h => by rw [Lib.toList_data, h.flag HF.out]; rfl⟩, bel_drewN qb⟩
    · have HF : Hid (flagK p = true) := Lib.hid (by unfold flagK; rw [hk]; rfl)
      have c0 := q0; rw [hk] at c0
      clear hk q0
      go_upto_region 20 with fail
      go_quiet (fail)
      go_wp2
      go_ret2
      exact ⟨⟨n2, _, rfl, fun h => ⟨HOKT.out (fun _ => List.isEmpty_iff.1 (by rw [← Lib.toList_data]; exact h)), by unfold textT; rw [if_pos HF.out]; exact HN2.out⟩, fun h => by rw [Lib.toList_data, h.flag HF.out]; rfl⟩, bel_drewN qb⟩
    · have HF : Hid (flagK p = true) := Lib.hid (by unfold flagK; rw [hk]; rfl)
      have c0 := q0; rw [hk] at c0
      clear hk q0
      go_upto_region 20 with fail
      go_quiet (fail)
      go_wp2
      go_ret2
      exact ⟨⟨n2, _, rfl, fun h => ⟨HOKT.out (fun _ => List.isEmpty_iff.1 (by rw [← Lib.toList_data]; exact h)), by unfold textT; rw [if_pos HF.out]; exact HN2.out⟩, fun h => by rw [Lib.toList_data, h.flag HF.out]; rfl⟩, bel_drewN qb⟩
    · have c0 := q0; rw [hk] at c0
      have d7 : decide (p.kind = 7) = true := by rw [decide_eq_true_iff]; exact hk
      rcases Bool.eq_false_or_eq_true p.value.toList.isEmpty with hv | hv
      · have HE : Hid (p.value.data.toList = []) := Lib.hid (by rw [← Lib.toList_data]; exact List.isEmpty_iff.1 hv)
        have HF : Hid (flagK p = true) := Lib.hid (by unfold flagK; rw [d7, HE.out]; simp)
        clear hk q0 d7
        go_upto_region 20 with fail
        go_quiet (fail)
        go_wp2
        go_ret2
        exact ⟨⟨n2, _, rfl, fun h => ⟨HOKT.out (fun _ => HE.out), by unfold textT; rw [if_pos HF.out]; exact HN2.out⟩, fun _ => rfl⟩, bel_drewN qb⟩
      · have HF : Hid (flagK p = false) := Lib.hid (by rw [Lib.toList_data] at hv; unfold flagK; rw [hk, hv]; rfl)
        clear hk q0 d7
        go_wp2
        go_ret2
        exact ⟨⟨_, true, rfl, fun h => ⟨HOKT.out (fun h => by rw [HF.out] at h; cases h), by unfold textT; rw [HF.out, if_neg (by decide), ← HN2.out]; simp⟩, fun _ => rfl⟩, qb⟩
    · have HF : Hid (flagK p = false) := Lib.hid (by unfold flagK; rw [decide_eq_false hk3, decide_eq_false hk4, decide_eq_false hk6, decide_eq_false hk7]; rfl)
      go_wp2
      go_ret2
      exact ⟨⟨_, true, rfl, fun h => ⟨HOKT.out (fun h => by rw [HF.out] at h; cases h), by unfold textT; rw [HF.out, if_neg (by decide), ← HN2.out]; simp⟩, fun _ => rfl⟩, qb⟩
  · have c3 := hc3
    have HN2 : Hid (nm.data.toList = nameT p) := Lib.hid (by rw [hbase.symm, nameT, caseT, if_neg hca1, if_neg hca2])
    have KX : Hid (wc.cell? ⟨N, 0, none⟩ = some (.int .i64 p.kind) ∧ wc.cell? ⟨N, 2, none⟩ = some (.string p.value) ∧ Below w.heap.size w wc ∧ True) := Lib.hid ⟨D0.out, D2.out, HBC.out, trivial⟩
    clear hbase hc3
    obtain ⟨q0, q2, qb, qz⟩ := KX.out
    rcases (show p.kind = 3 ∨ p.kind = 4 ∨ p.kind = 6 ∨ p.kind = 7 ∨ (p.kind ≠ 3 ∧ p.kind ≠ 4 ∧ p.kind ≠ 6 ∧ p.kind ≠ 7) by omega) with hk | hk | hk | hk | ⟨hk3, hk4, hk6, hk7⟩
    · have HF : Hid (flagK p = true) := Lib.hid (by unfold flagK; rw [hk]; rfl)
      have c0 := q0; rw [hk] at c0
      clear hk q0
      go_upto_region 20 with fail
      go_quiet (fail)
      go_wp2
      go_ret2
      exact ⟨⟨nm, _, rfl, fun h => ⟨HOKT.out (fun _ => List.isEmpty_iff.1 (by rw [← Lib.toList_data]; exact h)), by unfold textT; rw [if_pos HF.out]; exact HN2.out⟩, fun h => by rw [Lib.toList_data, h.flag HF.out]; rfl⟩, bel_drewN qb⟩
    · have HF : Hid (flagK p = true) := Lib.hid (by unfold flagK; rw [hk]; rfl)
      have c0 := q0; rw [hk] at c0
      clear hk q0
      go_upto_region 20 with fail
      go_quiet (fail)
      go_wp2
      go_ret2
      exact ⟨⟨nm, _, rfl, fun h => ⟨HOKT.out (fun _ => List.isEmpty_iff.1 (by rw [← Lib.toList_data]; exact h)), by unfold textT; rw [if_pos HF.out]; exact HN2.out⟩, fun h => by rw [Lib.toList_data, h.flag HF.out]; rfl⟩, bel_drewN qb⟩
    · have HF : Hid (flagK p = true) := Lib.hid (by unfold flagK; rw [hk]; rfl)
      have c0 := q0; rw [hk] at c0
      clear hk q0
      go_upto_region 20 with fail
      go_quiet (fail)
      go_wp2
      go_ret2
      exact ⟨⟨nm, _, rfl, fun h => ⟨HOKT.out (fun _ => List.isEmpty_iff.1 (by rw [← Lib.toList_data]; exact h)), by unfold textT; rw [if_pos HF.out]; exact HN2.out⟩, fun h => by rw [Lib.toList_data, h.flag HF.out]; rfl⟩, bel_drewN qb⟩
    · have c0 := q0; rw [hk] at c0
      have d7 : decide (p.kind = 7) = true := by rw [decide_eq_true_iff]; exact hk
      rcases Bool.eq_false_or_eq_true p.value.toList.isEmpty with hv | hv
      · have HE : Hid (p.value.data.toList = []) := Lib.hid (by rw [← Lib.toList_data]; exact List.isEmpty_iff.1 hv)
        have HF : Hid (flagK p = true) := Lib.hid (by unfold flagK; rw [d7, HE.out]; simp)
        clear hk q0 d7
        go_upto_region 20 with fail
        go_quiet (fail)
        go_wp2
        go_ret2
        exact ⟨⟨nm, _, rfl, fun h => ⟨HOKT.out (fun _ => HE.out), by unfold textT; rw [if_pos HF.out]; exact HN2.out⟩, fun _ => rfl⟩, bel_drewN qb⟩
      · have HF : Hid (flagK p = false) := Lib.hid (by rw [Lib.toList_data] at hv; unfold flagK; rw [hk, hv]; rfl)
        clear hk q0 d7
        go_wp2
        go_ret2
        exact ⟨⟨_, true, rfl, fun h => ⟨HOKT.out (fun h => by rw [HF.out] at h; cases h), by unfold textT; rw [HF.out, if_neg (by decide), ← HN2.out]; simp⟩, fun _ => rfl⟩, qb⟩
    · have HF : Hid (flagK p = false) := Lib.hid (by unfold flagK; rw [decide_eq_false hk3, decide_eq_false hk4, decide_eq_false hk6, decide_eq_false hk7]; rfl)
      go_wp2
      go_ret2
      exact ⟨⟨_, true, rfl, fun h => ⟨HOKT.out (fun h => by rw [HF.out] at h; cases h), by unfold textT; rw [HF.out, if_neg (by decide), ← HN2.out]; simp⟩, fun _ => rfl⟩, qb⟩
end Go.Proofs.YtfijncfoefbohaaGreatDoor
