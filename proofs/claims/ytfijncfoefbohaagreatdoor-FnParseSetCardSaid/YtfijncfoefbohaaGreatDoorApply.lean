/- The cookie that the reference wants, under way in spec.Line: what is known of it. Part.apply. -/
import Derived.Test.YtfijncfoefbohaaGreatDoorTextW
import Derived.Test.YtfijncfoefbohaaGreatDoorBack
import Derived.Test.YtfijncfoefbohaaGreatDoorSameCk
namespace Go.Proofs.YtfijncfoefbohaaGreatDoor
open Go Go.RowKit

theorem setAttr_raw (pc : PC) (r p k v : List UInt8) : setAttr { pc with raw := r } p k v = { setAttr pc p k v with raw := r } := by
  unfold setAttr
  repeat' split
  all_goals rfl
theorem attrStep_raw (pc : PC) (r p : List UInt8) : attrStep { pc with raw := r } p = { attrStep pc p with raw := r } := by
  unfold attrStep
  rw [setAttr_raw]
  repeat' split
  all_goals rfl
theorem fold_raw (ps : List (List UInt8)) (pc : PC) (r : List UInt8) : ps.foldl attrStep { pc with raw := r } = { ps.foldl attrStep pc with raw := r } := by
  induction ps generalizing pc with
  | nil => rfl
  | cons p ps ih => rw [List.foldl_cons, List.foldl_cons, attrStep_raw, ih]

/-- The cookie in block M is the plain one. -/
structure WantS (B M m : Nat) (c : Ck) (pc : PC) (wr : World) : Prop where
  hM : B ≤ M
  at_ : wr.heap[M]? = some (.cells c.pcells 31 (0, 0))
  eq : CkEq c pc
  unp : ∃ us : List ByteArray, wr.ownsRow B 9 1 (.slice c.uo c.un c.uc) us.length (us.map Value.string) ∧ us.map (fun x => x.data.toList) = pc.unp ∧ us.length ≤ m

section
variable {B M m : Nat} {c : Ck} {pc : PC} {wr : World}
theorem WantS.lt (h : WantS B M m c pc wr) : M < wr.heap.size := (Array.getElem?_eq_some_iff.1 h.at_).1
theorem WantS.size (h : WantS B M m c pc wr) : B ≤ wr.heap.size := Nat.le_trans h.hM (Nat.le_of_lt h.lt)
theorem WantS.kept {wy : World} (h : WantS B M m c pc wr) (hy : Below wr.heap.size wr wy) : WantS B M m c pc wy := by
  obtain ⟨h1, h3, h4, us, u1, u2, u4⟩ := h
  have hlt := (Array.getElem?_eq_some_iff.1 h3).1
  refine ⟨h1, (hy.block M hlt).trans h3, h4, us, ?_, u2, u4⟩
  refine u1.kept (row := none) ⟨hy.os, hy.tape, hy.output, hy.size, fun k hk _ => hy.block k hk⟩ ?_
  cases hv : (Value.slice c.uo c.un c.uc).ownBlock <;> simp
theorem WantS.le (h : WantS B M m c pc wr) {m' : Nat} (hm : m ≤ m') : WantS B M m' c pc wr := by
  obtain ⟨h1, h3, h4, us, u1, u2, u4⟩ := h
  exact ⟨h1, h3, h4, us, u1, u2, by omega⟩
theorem WantS.frozen (h : WantS B M m c pc wr) (j : Nat) : wr.frozen? ⟨M, j, none⟩ = false := Lib.frozen_of_heap h.at_ j
theorem WantS.cell (h : WantS B M m c pc wr) (j : Nat) : wr.cell? ⟨M, j, none⟩ = c.pcells[j]? := Lib.cell_of_heap h.at_ j
/-- A field is set. -/
theorem WantS.put {c' : Ck} {pc' : PC} {j : Nat} {u : Value} (h : WantS B M m c pc wr) (hc : c.pcells.setIfInBounds j u = c'.pcells) (hu : c'.uo = c.uo ∧ c'.un = c.un ∧ c'.uc = c.uc) (he : CkEq c' pc') (hp : pc'.unp = pc.unp) :
    WantS B M m c' pc' (wr.setCell ⟨M, j, none⟩ u) := by
  obtain ⟨h1, h3, h4, us, u1, u2, u4⟩ := h
  refine ⟨h1, ?_, he, us, ?_, by rw [hp]; exact u2, u4⟩
  · rw [setCell_block h3, hc]
  · rw [hu.1, hu.2.1, hu.2.2]
    exact u1.kept (setCell_grown _ _ _ _) (.inr (fun e => own_far u1 h3 (by decide) e.symm))
/-- A text is put among those that are not read. -/
theorem WantS.add {t : ByteArray} {us : List ByteArray} {g2 cap2 : Nat} {w6 : World} (h : WantS B M m c pc wr)
    (hu : us.map (fun x => x.data.toList) = pc.unp) (hlen : us.length ≤ m) (hown : wr.ownsRow B 9 1 (.slice c.uo c.un c.uc) us.length (us.map Value.string))
    (hown6 : w6.ownsRow B 9 1 (.slice (some ⟨g2, 0, none⟩) (us.length + 1) cap2) (us.length + 1) (us.map Value.string ++ [.string t]))
    (hg6 : wr.grownBy w6 (Value.slice c.uo c.un c.uc).ownBlock) :
    (w6.cell? ⟨M, 10, none⟩ = some (.slice c.uo c.un c.uc) ∧ w6.frozen? ⟨M, 10, none⟩ = false ∧ w6.heap[M]? = some (.cells c.pcells 31 (0, 0))) ∧
    WantS B M (m + 1) { c with uo := some ⟨g2, 0, none⟩, un := us.length + 1, uc := cap2 } { pc with unp := pc.unp ++ [t.data.toList] } (w6.setCell ⟨M, 10, none⟩ (.slice (some ⟨g2, 0, none⟩) (us.length + 1) cap2)) := by
  obtain ⟨h1, h3, h4, -⟩ := h
  have hlt := (Array.getElem?_eq_some_iff.1 h3).1
  have e4 : w6.heap[M]? = some (.cells c.pcells 31 (0, 0)) := (hg6.block M hlt (own_far hown h3 (by decide))).trans h3
  refine ⟨⟨by rw [Lib.cell_of_heap e4]; rfl, Lib.frozen_of_heap e4 _, e4⟩, ?_⟩
  refine ⟨h1, ?_, ⟨h4.name, h4.value, h4.quoted, h4.path, h4.domain, h4.age, h4.secure, h4.http, h4.site, h4.part, h4.raw⟩, us ++ [t], ?_, ?_, ?_⟩
  · rw [setCell_block e4]; rfl
  · have h8 := hown6.kept (setCell_grown w6 M 10 (.slice (some ⟨g2, 0, none⟩) (us.length + 1) cap2)) (.inr (fun e => own_far hown6 e4 (by decide) e.symm))
    simpa using h8
  · simp [hu]
  · simp; omega
end
/-- The blocks that hold a part stay as they are. -/
def KeepP (w w' : World) : Prop := ∀ (N : Nat) (cs : Array Value), w.heap[N]? = some (.cells cs 28 (0, 0)) → w'.heap[N]? = some (.cells cs 28 (0, 0))
structure BK (B : Nat) (w w' : World) : Prop where
  be : Below B w w'
  kp : KeepP w w'
theorem KeepP.of {w w' : World} (h : Below w.heap.size w w') : KeepP w w' := fun N _ hN => (h.block N (Array.getElem?_eq_some_iff.1 hN).1).trans hN
theorem BK.below {B : Nat} {w w2 w3 : World} (h : BK B w w2) (hB : B ≤ w2.heap.size) (hb : Below w2.heap.size w2 w3) : BK B w w3 := ⟨h.be.trans (hb.mono hB), fun N cs hN => KeepP.of hb N cs (h.kp N cs hN)⟩
theorem BK.put {B M : Nat} {w w2 : World} {cs : Array Value} (h : BK B w w2) (hM : B ≤ M) (hat : w2.heap[M]? = some (.cells cs 31 (0, 0))) (j : Nat) (u : Value) : BK B w (w2.setCell ⟨M, j, none⟩ u) :=
  ⟨h.be.setCell (p := ⟨M, j, none⟩) hM u, fun N ds hN => (Below.heap_setCell _ _ _ _ (fun e => tag_ne (h.kp N ds hN) hat (by decide) e)).trans (h.kp N ds hN)⟩
theorem BK.grown {B : Nat} {w w2 w6 : World} {v : Value} {n : Nat} {xs : List Value} (h : BK B w w2) (hb : Below B w2 w6) (hg : w2.grownBy w6 v.ownBlock) (hown : w2.ownsRow B 9 1 v n xs) : BK B w w6 :=
  ⟨h.be.trans hb, fun N ds hN => (hg.block N (Array.getElem?_eq_some_iff.1 (h.kp N ds hN)).1 (own_far hown (h.kp N ds hN) (by decide))).trans (h.kp N ds hN)⟩
/-- What Part.apply leaves. -/
def ApplyPost (B M m : Nat) (p : Pt) (pc : PC) (e : Ending) (w' : World) : Prop :=
  ∃ (ok : Bool) (c' : Ck), e = .returned (.bool ok) ∧ w'.heap[M]? = some (.cells c'.pcells 31 (0, 0)) ∧ (ok = true → TextOk p ∧ WantS B M (m + 1) c' (attrStep pc (32 :: textT p)) w')
theorem ApplyPost.no {B M m : Nat} {p : Pt} {pc : PC} {c' : Ck} {w' : World} (h : w'.heap[M]? = some (.cells c'.pcells 31 (0, 0))) : ApplyPost B M m p pc (.returned (.bool false)) w' := ⟨false, c', rfl, h, fun h => by cases h⟩
theorem ApplyPost.yes {B M m : Nat} {p : Pt} {pc : PC} {c' : Ck} {w' : World} (h : TextOk p) (hw : WantS B M (m + 1) c' (attrStep pc (32 :: textT p)) w') : ApplyPost B M m p pc (.returned (.bool true)) w' := ⟨true, c', rfl, hw.at_, fun _ => ⟨h, hw⟩⟩
theorem unp_row {B M m b0 : Nat} {c : Ck} {pc : PC} {w : World} (h : WantS B M m c pc w) (hb : b0 < B) (cs : Array Value) : UnpAt b0 c pc.unp (w.drew.setRow b0 cs) := by
  obtain ⟨-, -, -, us, u1, u2, -⟩ := h
  refine ⟨us, own_lower (u1.kept (row := some b0) ⟨rfl, rfl, rfl, by simp, fun k _ hk => setRow_other _ _ k _ (fun e => hk (by rw [e]))⟩ (.inr ?_)) (Nat.le_of_lt hb), u2⟩
  intro e
  have := (u1.lt _ e).1
  omega
end Go.Proofs.YtfijncfoefbohaaGreatDoor

namespace Go.Proofs.YtfijncfoefbohaaGreatDoor
open Go Go.RowKit

theorem num_lt {l : List UInt8} {n : Int} (h : NumOk l n) : foldD 0 l < 1844674407370955162 := by
  have h1 := foldD_lt l 0 1 h.digs (by omega)
  have h2 : 10 ^ l.length ≤ 10 ^ 9 := Nat.pow_le_pow_right (by omega) h.len
  omega
set_option maxRecDepth 100000 in
set_option maxHeartbeats 8000000 in
theorem apply_any (p : Pt) (w : World) (z1 : p.name.size ≤ 2147483647) (z2 : p.value.size ≤ 2147483647) {B M m : Nat} {c : Ck} {pc : PC} (h : WantS B M m c pc w) (hm : m ≤ 2147483647) :
    Calls Tryz.prog 14 #[.agg p.cells, .pointer (some ⟨M, 0, none⟩)] w fun e w' => ApplyPost B M m p pc e w' ∧ BK B w w' := by
  unfold Pt.cells
  go_enter Tryz.func14, Tryz.ntmps14
  go_upto_region 1 with fail
  obtain ⟨a1, a2, a3⟩ := alloc_at w p.cells 28
  have hW1 : WantS B M m c pc (w.alloc (.cells p.cells 28)) := h.kept a2
  unfold Pt.cells at a1 a2 a3 hW1
  have hBw := h.size
  generalize w.alloc (.cells #[.int .i64 p.kind, .string p.name, .string p.value, .int .i64 p.cas] 28) = w1 at a1 a2 a3 hW1 ⊢
  obtain ⟨c0, c1, c2, c3⟩ := pt_cells (p := p) a1
  have HB1 := Lib.hid (⟨a2.mono hBw, KeepP.of a2⟩ : BK B w w1)
  obtain ⟨N, hN⟩ : ∃ N, w.heap.size = N := ⟨_, rfl⟩
  rw [hN] at a1 a2 a3 c0 c1 c2 c3 ⊢
  have HW1 := Lib.hid hW1
  have HMN : Hid (M ≠ N) := Lib.hid (by have := h.lt; omega)
  have HA1 := Lib.hid a1
  clear a1 a2 hW1 h hN
  go_upto_region 2 with (go_at_call 15; refine (text_any p _ z1 z2).mono ?_; rintro e w2 ⟨⟨t, ok, rfl, hok, hok2⟩, hb2⟩)
  have HOK := Lib.hid hok
  have hW2 := HW1.out.kept hb2
  have HB2 := Lib.hid (HB1.out.below HW1.out.size hb2)
  have e1 : w2.heap[N]? = some (.cells p.cells 28 (0, 0)) := (hb2.block N a3).trans HA1.out
  obtain ⟨d0, d1, d2, d3⟩ := pt_cells (p := p) e1
  have HE1 := Lib.hid e1
  clear hok2 c0 c1 c2 c3 hb2 hok HW1 HB1 e1 HA1 d1 d3
  rcases Bool.eq_false_or_eq_true ok with hk | hk
  case inr =>
    subst hk
    go_wp2
    go_ret
    exact ⟨.no hW2.at_, HB2.out⟩
  subst hk
  obtain ⟨htok, htx⟩ := HOK.out rfl
  have HT := Lib.hid htok
  have HX := Lib.hid htx
  have HW2 := Lib.hid hW2
  have hlo := htok.lo
  have hhi := htok.hi
  clear HOK htok htx hW2
  rcases (show p.kind = 0 ∨ p.kind = 1 ∨ p.kind = 2 ∨ p.kind = 3 ∨ p.kind = 4 ∨ p.kind = 5 ∨ p.kind = 6 ∨ p.kind = 7 by omega) with hk | hk | hk | hk | hk | hk | hk | hk
  · have c0 := d0
    rw [hk] at c0
    have HR : Hid (attrStep pc (32 :: textT p) = { pc with path := p.value.data.toList }) := Lib.hid (by rw [part_step HT.out (by omega)]; unfold partPC; rw [hk]; rfl)
    have hcM := HW2.out.cell 3
    have hfM := HW2.out.frozen 3
    clear hk d0 hlo hhi
    go_wp2
    go_ret
    exact ⟨.yes HT.out (by rw [HR.out]; exact (HW2.out.put (c' := { c with path := p.value }) (pc' := { pc with path := p.value.data.toList }) rfl ⟨rfl, rfl, rfl⟩ ⟨HW2.out.eq.name, HW2.out.eq.value, HW2.out.eq.quoted, rfl, HW2.out.eq.domain, HW2.out.eq.age, HW2.out.eq.secure, HW2.out.eq.http, HW2.out.eq.site, HW2.out.eq.part, HW2.out.eq.raw⟩ rfl).le (Nat.le_succ _)), HB2.out.put HW2.out.hM HW2.out.at_ _ _⟩
  · have c0 := d0
    rw [hk] at c0
    have HR : Hid (attrStep pc (32 :: textT p) = { pc with domain := p.value.data.toList }) := Lib.hid (by rw [part_step HT.out (by omega)]; unfold partPC; rw [hk]; rfl)
    have hcM := HW2.out.cell 4
    have hfM := HW2.out.frozen 4
    clear hk d0 hlo hhi
    go_wp2
    go_ret
    exact ⟨.yes HT.out (by rw [HR.out]; exact (HW2.out.put (c' := { c with domain := p.value }) (pc' := { pc with domain := p.value.data.toList }) rfl ⟨rfl, rfl, rfl⟩ ⟨HW2.out.eq.name, HW2.out.eq.value, HW2.out.eq.quoted, HW2.out.eq.path, rfl, HW2.out.eq.age, HW2.out.eq.secure, HW2.out.eq.http, HW2.out.eq.site, HW2.out.eq.part, HW2.out.eq.raw⟩ rfl).le (Nat.le_succ _)), HB2.out.put HW2.out.hM HW2.out.at_ _ _⟩
  · have c0 := d0
    rw [hk] at c0
    have HK := Lib.hid hk
    have hcM := HW2.out.cell 5
    have hfM := HW2.out.frozen 5
    clear hk d0 hlo hhi
    rcases Bool.eq_false_or_eq_true p.value.toList.isEmpty with hE | hE
    · have HNIL : Hid (p.value.data.toList = []) := Lib.hid (by rw [← Lib.toList_data]; exact List.isEmpty_iff.1 hE)
      go_upto_region 16 with (go_at_call 24; refine (number_any _ _ (by omega)).mono ?_; rintro e w3 ⟨⟨n, ok, rfl, hno⟩, rfl⟩)
      rcases Bool.eq_false_or_eq_true ok with hq | hq
      · exact absurd HNIL.out (hno hq).ne
      · subst hq
        clear hno
        go_wp2
        go_ret
        exact ⟨.no HW2.out.at_, HB2.out⟩
    · have hp0 : 0 < p.value.size := by
        rcases Nat.eq_zero_or_pos p.value.size with h0 | h0
        · have hh : p.value.data.toList = [] := List.eq_nil_of_length_eq_zero (by rw [← Lib.size_eq]; exact h0)
          rw [Lib.toList_data, hh] at hE
          cases hE
        · exact h0
      have HL := Lib.hid (list_head p.value hp0)
      rcases Bool.eq_false_or_eq_true (((p.value[0]'hp0).toNat : Int) == 45) with h45 | h45
      · have H45 : Hid (p.value.data.toList = 45 :: (p.value.extract 1 p.value.size).data.toList) := Lib.hid (by
          have h1 : p.value[0]'hp0 = 45 := UInt8.toNat_inj.1 (by have := eq_of_beq h45; show _ = 45; omega)
          have h2 := HL.out
          rw [h1] at h2
          exact h2)
        have hsl := extract_size_le p.value 1 p.value.size
        clear HL
        go_upto_region 16 with (go_at_call 24; refine (number_any _ _ (by omega)).mono ?_; rintro e w3 ⟨⟨n, ok, rfl, hno⟩, rfl⟩)
        rcases Bool.eq_false_or_eq_true ok with hq | hq
        · have HNO := Lib.hid (hno hq)
          subst hq
          clear hno
          have HAGE : Hid (ageOf p.value.data.toList = some (-1)) := Lib.hid (by
            rw [H45.out]
            exact age_minus HNO.out.digs HNO.out.ne (num_lt HNO.out))
          go_upto_region 19 with fail
          have hW3 := HW2.out.put (c' := { c with age := n }) (pc' := { pc with age := n }) (j := 5) (u := .int .i64 n) rfl ⟨rfl, rfl, rfl⟩ ⟨HW2.out.eq.name, HW2.out.eq.value, HW2.out.eq.quoted, HW2.out.eq.path, HW2.out.eq.domain, rfl, HW2.out.eq.secure, HW2.out.eq.http, HW2.out.eq.site, HW2.out.eq.part, HW2.out.eq.raw⟩ rfl
          have HB3 := Lib.hid (HB2.out.put HW2.out.hM HW2.out.at_ 5 (.int .i64 n))
          clear hcM hfM
          generalize w2.setCell ⟨M, 5, none⟩ (.int .i64 n) = w3 at hW3 HB3 ⊢
          have hcM := hW3.cell 5
          have hfM := hW3.frozen 5
          have HW3 := Lib.hid hW3
          clear hW3
          go_wp2
          go_ret
          exact ⟨.yes HT.out (by rw [age_step HT.out HK.out pc HAGE.out]; exact (HW3.out.put (c' := { c with age := -1 }) (pc' := { pc with age := -1 }) rfl ⟨rfl, rfl, rfl⟩ ⟨HW2.out.eq.name, HW2.out.eq.value, HW2.out.eq.quoted, HW2.out.eq.path, HW2.out.eq.domain, rfl, HW2.out.eq.secure, HW2.out.eq.http, HW2.out.eq.site, HW2.out.eq.part, HW2.out.eq.raw⟩ rfl).le (Nat.le_succ _)), HB3.out.put HW3.out.hM HW3.out.at_ _ _⟩
        · subst hq
          clear hno
          go_wp2
          go_ret
          exact ⟨.no HW2.out.at_, HB2.out⟩
      · go_upto_region 16 with (go_at_call 24; refine (number_any _ _ (by omega)).mono ?_; rintro e w3 ⟨⟨n, ok, rfl, hno⟩, rfl⟩)
        rcases Bool.eq_false_or_eq_true ok with hq | hq
        · have HNO := Lib.hid (hno hq)
          subst hq
          clear hno
          have HAGE : Hid (ageOf p.value.data.toList = some (if n = 0 then -1 else n)) := Lib.hid (by
            rw [age_digits HNO.out.digs (num_lt HNO.out) _ _ HL.out (fun h => HNO.out.head (by rw [HL.out, h]; rfl)), HNO.out.val]
            by_cases h0 : foldD 0 p.value.data.toList = 0
            · rw [if_pos h0, if_pos (by rw [h0]; rfl)]
            · rw [if_neg h0, if_neg (by omega)])
          go_upto_region 19 with fail
          have hW3 := HW2.out.put (c' := { c with age := n }) (pc' := { pc with age := n }) (j := 5) (u := .int .i64 n) rfl ⟨rfl, rfl, rfl⟩ ⟨HW2.out.eq.name, HW2.out.eq.value, HW2.out.eq.quoted, HW2.out.eq.path, HW2.out.eq.domain, rfl, HW2.out.eq.secure, HW2.out.eq.http, HW2.out.eq.site, HW2.out.eq.part, HW2.out.eq.raw⟩ rfl
          have HB3 := Lib.hid (HB2.out.put HW2.out.hM HW2.out.at_ 5 (.int .i64 n))
          clear hcM hfM
          generalize w2.setCell ⟨M, 5, none⟩ (.int .i64 n) = w3 at hW3 HB3 ⊢
          have hcM := hW3.cell 5
          have hfM := hW3.frozen 5
          have HW3 := Lib.hid hW3
          clear hW3
          by_cases hn : n = 0
          · have HA2 : Hid (ageOf p.value.data.toList = some (-1)) := Lib.hid (by rw [HAGE.out, if_pos hn])
            go_wp2
            go_ret
            exact ⟨.yes HT.out (by rw [age_step HT.out HK.out pc HA2.out]; exact (HW3.out.put (c' := { c with age := -1 }) (pc' := { pc with age := -1 }) rfl ⟨rfl, rfl, rfl⟩ ⟨HW2.out.eq.name, HW2.out.eq.value, HW2.out.eq.quoted, HW2.out.eq.path, HW2.out.eq.domain, rfl, HW2.out.eq.secure, HW2.out.eq.http, HW2.out.eq.site, HW2.out.eq.part, HW2.out.eq.raw⟩ rfl).le (Nat.le_succ _)), HB3.out.put HW3.out.hM HW3.out.at_ _ _⟩
          · have HA2 : Hid (ageOf p.value.data.toList = some n) := Lib.hid (by rw [HAGE.out, if_neg hn])
            go_wp2
            go_ret
            exact ⟨.yes HT.out (by rw [age_step HT.out HK.out pc HA2.out]; exact HW3.out.le (Nat.le_succ _)), HB3.out⟩
        · subst hq
          clear hno
          go_wp2
          go_ret
          exact ⟨.no HW2.out.at_, HB2.out⟩
  · have c0 := d0
    rw [hk] at c0
    have HR : Hid (attrStep pc (32 :: textT p) = { pc with secure := true }) := Lib.hid (by rw [part_step HT.out (by omega)]; unfold partPC; rw [hk]; rfl)
    have hcM := HW2.out.cell 6
    have hfM := HW2.out.frozen 6
    clear hk d0 hlo hhi
    go_wp2
    go_ret
    exact ⟨.yes HT.out (by rw [HR.out]; exact (HW2.out.put (c' := { c with secure := true }) (pc' := { pc with secure := true }) rfl ⟨rfl, rfl, rfl⟩ ⟨HW2.out.eq.name, HW2.out.eq.value, HW2.out.eq.quoted, HW2.out.eq.path, HW2.out.eq.domain, HW2.out.eq.age, rfl, HW2.out.eq.http, HW2.out.eq.site, HW2.out.eq.part, HW2.out.eq.raw⟩ rfl).le (Nat.le_succ _)), HB2.out.put HW2.out.hM HW2.out.at_ _ _⟩
  · have c0 := d0
    rw [hk] at c0
    have HR : Hid (attrStep pc (32 :: textT p) = { pc with http := true }) := Lib.hid (by rw [part_step HT.out (by omega)]; unfold partPC; rw [hk]; rfl)
    have hcM := HW2.out.cell 7
    have hfM := HW2.out.frozen 7
    clear hk d0 hlo hhi
    go_wp2
    go_ret
    exact ⟨.yes HT.out (by rw [HR.out]; exact (HW2.out.put (c' := { c with http := true }) (pc' := { pc with http := true }) rfl ⟨rfl, rfl, rfl⟩ ⟨HW2.out.eq.name, HW2.out.eq.value, HW2.out.eq.quoted, HW2.out.eq.path, HW2.out.eq.domain, HW2.out.eq.age, HW2.out.eq.secure, rfl, HW2.out.eq.site, HW2.out.eq.part, HW2.out.eq.raw⟩ rfl).le (Nat.le_succ _)), HB2.out.put HW2.out.hM HW2.out.at_ _ _⟩
  · have c0 := d0
    rw [hk] at c0
    have HR : Hid (attrStep pc (32 :: textT p) = { pc with site := siteOf p.value.data.toList }) := Lib.hid (by rw [part_step HT.out (by omega)]; unfold partPC; rw [hk]; rfl)
    clear hk d0 hlo hhi
    go_wp2_with (go_at_call 25; refine (mode_any _ _ (by omega)).mono ?_; rintro e w3 ⟨rfl, hb3⟩; have hW3 := HW2.out.kept hb3; have hcM := hW3.cell 8; have hfM := hW3.frozen 8; have HW3 := Lib.hid hW3; have HB3 := Lib.hid (HB2.out.below HW2.out.size hb3); clear hb3 hW3)
    go_ret
    exact ⟨.yes HT.out (by rw [HR.out]; exact (HW3.out.put (c' := { c with site := siteOf p.value.data.toList }) (pc' := { pc with site := siteOf p.value.data.toList }) rfl ⟨rfl, rfl, rfl⟩ ⟨HW2.out.eq.name, HW2.out.eq.value, HW2.out.eq.quoted, HW2.out.eq.path, HW2.out.eq.domain, HW2.out.eq.age, HW2.out.eq.secure, HW2.out.eq.http, rfl, HW2.out.eq.part, HW2.out.eq.raw⟩ rfl).le (Nat.le_succ _)), HB3.out.put HW3.out.hM HW3.out.at_ _ _⟩
  · have c0 := d0
    rw [hk] at c0
    have HR : Hid (attrStep pc (32 :: textT p) = { pc with part := true }) := Lib.hid (by rw [part_step HT.out (by omega)]; unfold partPC; rw [hk]; rfl)
    have hcM := HW2.out.cell 9
    have hfM := HW2.out.frozen 9
    clear hk d0 hlo hhi
    go_wp2
    go_ret
    exact ⟨.yes HT.out (by rw [HR.out]; exact (HW2.out.put (c' := { c with part := true }) (pc' := { pc with part := true }) rfl ⟨rfl, rfl, rfl⟩ ⟨HW2.out.eq.name, HW2.out.eq.value, HW2.out.eq.quoted, HW2.out.eq.path, HW2.out.eq.domain, HW2.out.eq.age, HW2.out.eq.secure, HW2.out.eq.http, HW2.out.eq.site, rfl, HW2.out.eq.raw⟩ rfl).le (Nat.le_succ _)), HB2.out.put HW2.out.hM HW2.out.at_ _ _⟩
  · have c0 := d0
    rw [hk] at c0
    have HR : Hid (attrStep pc (32 :: textT p) = { pc with unp := pc.unp ++ [t.data.toList] }) := Lib.hid (by rw [part_step HT.out (by omega), HX.out]; unfold partPC; rw [hk]; rfl)
    have hcM : w2.cell? ⟨M, 10, none⟩ = some (.slice c.uo c.un c.uc) := HW2.out.cell 10
    have hfM := HW2.out.frozen 10
    obtain ⟨us, u1, u2, u4⟩ := HW2.out.unp
    have HU1 := Lib.hid u1
    have HU2 := Lib.hid u2
    have hBw2 := HW2.out.size
    clear hk d0 hlo hhi u1 u2
    go_wp2_with (at_builtin; refine wpList_app1 rfl (.tmp 24) (.tmp 26) _ _ rfl _ _ Tryz.underlying23 strInfo rfl B _ _ _ rfl HU1.out (.string t) rfl rfl ?c1 ?c2 hBw2 ?_)
    case c1 => omega
    case c2 => omega
    intro g cap w6 hown6 hb6 hg6 hat6 hBg
    obtain ⟨⟨hc6, hf6, ha6⟩, hw6⟩ := HW2.out.add HU2.out u4 HU1.out hown6 hg6
    have HW6 := Lib.hid hw6
    have HA6 := Lib.hid ha6
    have HB6 := Lib.hid (HB2.out.grown hb6 hg6 HU1.out)
    clear ha6 hown6 hb6 hg6 hat6 hw6 hcM hfM
    go_wp2
    go_ret
    exact ⟨.yes HT.out (by rw [HR.out]; exact HW6.out), HB6.out.put HW2.out.hM HA6.out _ _⟩
end Go.Proofs.YtfijncfoefbohaaGreatDoor
