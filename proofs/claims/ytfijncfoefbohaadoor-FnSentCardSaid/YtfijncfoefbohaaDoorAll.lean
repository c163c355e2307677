/- impl.plain, impl.all, impl.Parse. -/
import Derived.Test.YtfijncfoefbohaaDoorParse
import Derived.StillTailTactics
import Derived.Laws.Tables
import Derived.Laws.CopyOwn
namespace Go.Proofs.YtfijncfoefbohaaDoor
open Go Go.RowKit

theorem cks_at {b : Nat} {c : Ck} {w : World} (h : CkAt b c w) : w.cell? ⟨b, 0, none⟩ = some (.string c.name) ∧ w.cell? ⟨b, 1, none⟩ = some (.string c.value) ∧ w.cell? ⟨b, 2, none⟩ = some (.bool c.quoted) ∧ w.cell? ⟨b, 3, none⟩ = some (.string c.path) ∧ w.cell? ⟨b, 4, none⟩ = some (.string c.domain) ∧ w.cell? ⟨b, 5, none⟩ = some (.int .i64 c.age) ∧ w.cell? ⟨b, 6, none⟩ = some (.bool c.secure) ∧ w.cell? ⟨b, 7, none⟩ = some (.bool c.http) ∧ w.cell? ⟨b, 8, none⟩ = some (.int .i64 c.site) ∧ w.cell? ⟨b, 9, none⟩ = some (.bool c.part) ∧ w.cell? ⟨b, 10, none⟩ = some (.string c.raw) ∧ w.cell? ⟨b, 11, none⟩ = some (.slice c.uo c.un c.uc) :=
  ⟨h.cell 0, h.cell 1, h.cell 2, h.cell 3, h.cell 4, h.cell 5, h.cell 6, h.cell 7, h.cell 8, h.cell 9, h.cell 10, h.cell 11⟩

set_option maxHeartbeats 4000000 in
set_option maxRecDepth 100000 in
theorem i_plain_any (b : Nat) (c : Ck) (w : World) (hc : CkAt b c w) :
    Calls Tryd.prog 68 #[.pointer (some ⟨b, 0, none⟩)] w fun e w' => e = .returned (.agg c.cells) ∧ Below w.heap.size w w' := by
  have hlt := hc.lt
  obtain ⟨a1, a2, a3⟩ := alloc_at w #[.string ⟨#[]⟩, .string ⟨#[]⟩, .bool false, .string ⟨#[]⟩, .string ⟨#[]⟩, .int .i64 0, .bool false, .bool false, .int .i64 0, .bool false, .string ⟨#[]⟩, .slice none 0 0] 26
  go_enter Tryd.func68, Tryd.ntmps68
  go_wp2_with fail
  generalize w.alloc (.cells #[.string ⟨#[]⟩, .string ⟨#[]⟩, .bool false, .string ⟨#[]⟩, .string ⟨#[]⟩, .int .i64 0, .bool false, .bool false, .int .i64 0, .bool false, .string ⟨#[]⟩, .slice none 0 0] 26) = W1 at a1 a2 a3 ⊢
  have hc1 : CkAt b c W1 := hc.below a2 hlt
  obtain ⟨k0, k1, k2, k3, k4, k5, k6, k7, k8, k9, k10, k11⟩ := cks_at hc1
  go_still_tail 49, (by kernel_rfl)
  change wpList _ _ _ _ _ W1.drew
  have b1 : W1.drew.heap[w.heap.size]? = some (.cells #[.string ⟨#[]⟩, .string ⟨#[]⟩, .bool false, .string ⟨#[]⟩, .string ⟨#[]⟩, .int .i64 0, .bool false, .bool false, .int .i64 0, .bool false, .string ⟨#[]⟩, .slice none 0 0] 26 (0, 0)) := a1
  have b2 : Below w.heap.size w W1.drew := a2.drew
  clear k0 k1 k2 k3 k4 k5 k6 k7 k8 k9 k10 k11 a1 a2 a3 hc1
  generalize W1.drew = w2 at b1 b2 ⊢
  refine wpList_store_row rfl _ (.tmp 2) (.tmp 51) rfl w.heap.size c.cells rfl rfl _ _ b1 (by kernel_rfl) rfl (by rw [← Array.all_toList]; exact List.all_eq_true.2 (ck_one c)) ?_
  have b3 : (w2.setRow w.heap.size c.cells).heap[w.heap.size]? = some (.cells c.cells 26 (0, 0)) := setRow_heap w2 _ _ _ _ _ b1
  have b4 : Below w.heap.size w (w2.setRow w.heap.size c.cells) := below_setRow b2 (Nat.le_refl _) _
  generalize w2.setRow w.heap.size c.cells = w3 at b3 b4 ⊢
  clear b1 b2
  have HB := Lib.hid b4
  have HC := Lib.hid b3
  clear b3 b4
  go_wp2_with fail
  (try simp only [Exit.inBlock, Exit.then])
  refine bodyPost_ret (v := .agg c.cells) ?_ rfl ⟨rfl, HB.out⟩
  exact results_cell_row rfl _ _ w.heap.size 26 c.cells (0, 0) _ rfl HC.out Tryd.underlying26 rfl (by kernel_rfl)

theorem aggInfo : (Tryd.prog.info? 26).map (fun i => (i.zero, i.size, i.bytes)) = some (some (.agg #[.string ⟨#[]⟩, .string ⟨#[]⟩, .bool false, .string ⟨#[]⟩, .string ⟨#[]⟩, .int .i64 0, .bool false, .bool false, .int .i64 0, .bool false, .string ⟨#[]⟩, .slice none 0 0]), 12, 144) := by kernel_rfl

/-- append(out, c), c a cookie by value. -/
theorem wpList_app12 {W : World} {ops : Array Oper} {rest : List Oper} {o : Oper} {a : Act} {Q : Exit → Act → World → Prop} (hgd : o.guard = none) (s x : Operand)
    (ho : o.op = .call { callee := .builtin .append, args := #[s, x], argTypes := #[41, 41] })
    (B : Nat) (v : Value) (l : List Ck) (hs : a.eval s = v) (hown : AggsAt B l v W) (c : Ck)
    (hx : a.eval x = .slice (some ⟨W.heap.size, 0, none⟩) 1 1) (hn : l.length ≤ 3000000) (hB : B ≤ W.heap.size)
    (h : ∀ v1 w1, AggsAt B (l ++ [c]) v1 w1 → Below B W w1 → W.grownBy w1 v.ownBlock → v1 ≠ .slice none 0 0 → wpList Tryd.prog ops Q rest (a.put o.dst v1) w1) :
    wpList Tryd.prog ops Q (o :: rest) a (W.alloc (.cells c.cells 26)) := by
  obtain ⟨i, hi, hz0, hz1, hz2⟩ := info_parts aggInfo
  refine wpList_append_own_at _ hgd s x _ ho B _ i _ 12 144 Tryd.underlying41 hi hz0 hz1 hz2 rfl (by omega) v l.length _ hs (World.ownsRow.alloc hown _) ⟨W.heap.size, 0, none⟩ 1 1 c.cells.toList hx rfl ?_
    (ck_one c) (by unfold maxLen; omega) (by omega) (by rw [alloc_sz']; omega) ?_
  · intro j u hj
    rw [Lib.add_plain, Nat.zero_add, Lib.cell_of_heap (alloc_at W c.cells 26).1]
    simpa using hj
  intro v' w1 hown' hg hnil hat
  have hg1 : W.grownBy w1 v.ownBlock := (World.grownBy_alloc W _ _).trans hg
  refine h v' w1 ?_ ((Below.refl B W).grown hg1 hB (fun k hk => (World.ownsRow.lt hown k hk).1)) hg1 (fun e => by have := (hnil.1 e).2; omega)
  unfold AggsAt
  rw [List.flatMap_append, List.length_append]
  simpa using hown'
theorem agg_shape {B : Nat} {l : List Ck} {v : Value} {w : World} (h : AggsAt B l v w) : ∃ ao cap, v = .slice ao l.length cap := by
  rcases h.2 with ⟨rfl, h0⟩ | ⟨g, cap, cur, rfl, _⟩
  · exact ⟨none, 0, by rw [h0]⟩
  · exact ⟨_, _, rfl⟩

def AllPost (l : List (Nat × Ck)) (w : World) (e : Ending) (w' : World) : Prop :=
  (∃ v, e = .returned v ∧ AggsAt w.heap.size (l.map Prod.snd) v w') ∧ Below w.heap.size w w'

set_option maxHeartbeats 4000000 in
theorem i_all_any (B0 : Nat) (l : List (Nat × Ck)) (v : Value) (w : World) (h : PtrsAt B0 l v w) (hl : l.length ≤ 3000) :
    Calls Tryd.prog 62 #[v] w (AllPost l w) := by
  obtain ⟨B, hB⟩ : ∃ B, B = w.heap.size := ⟨_, rfl⟩
  have HB := Lib.hid hB
  have hB0 : B ≤ w.heap.size := by omega
  clear hB
  obtain ⟨ao, cap, rfl⟩ := h.form
  have hcell : ∀ k (hk : k < l.length), ∃ g, ao = some ⟨g, 0, none⟩ ∧ w.cell? ⟨g, k, none⟩ = some (.pointer (some ⟨l[k].1, 0, none⟩)) := by
    intro k hk
    rcases h.1.2 with ⟨_, h0⟩ | ⟨g, cap', cur, h1, _⟩
    · omega
    · cases h1
      exact ⟨g, rfl, h.cell hk⟩
  have HC := Lib.hid hcell
  have HH := Lib.hid h
  clear hcell h
  go_enter Tryd.func62, Tryd.ntmps62
  go_wp2
  go_loopw [3, 8] (fun v i wr => ∃ k : Nat, k ≤ l.length ∧ i = .int .i64 k ∧ AggsAt B ((l.map Prod.snd).take k) v wr ∧ Below B w wr) (fun _ i _ => l.length - (intOf i).toNat)
  case atStart => exact ⟨0, Nat.zero_le _, rfl, ⟨rfl, .inl ⟨rfl, rfl⟩⟩, Below.refl _ _⟩
  case round =>
    obtain ⟨k, hk, rfl, hag, hbel⟩ := hrel
    have HAG := Lib.hid hag
    have HBEL := Lib.hid hbel
    have hBw : B ≤ wr.heap.size := Nat.le_trans hB0 hbel.size
    clear hag hbel
    by_cases hlt : k < l.length
    · obtain ⟨g, rfl, hck0⟩ := HC.out k hlt
      have hbw : Below w.heap.size w wr := by have h1 := HB.out; rw [← h1]; exact HBEL.out
      have hck : wr.cell? ⟨g, k, none⟩ = some (.pointer (some ⟨l[k].1, 0, none⟩)) := by
        have hgl : g < w.heap.size := by
          rcases Nat.lt_or_ge g w.heap.size with h' | h'
          · exact h'
          · simp [World.cell?, Array.getElem?_eq_none h'] at hck0
        rw [hbw.cell (p := ⟨g, k, none⟩) hgl]; exact hck0
      have hat := (HH.out.2 l[k] (List.getElem_mem hlt)).2
      have hat2 : CkAt l[k].1 l[k].2 wr := hat.below hbw hat.lt
      have HAT := Lib.hid hat2
      have htk : (l.map Prod.snd).take (k + 1) = (l.map Prod.snd).take k ++ [l[k].2] := by rw [List.take_succ_eq_append_getElem (by simpa using hlt)]; simp
      have HTK := Lib.hid htk
      have htl : ((l.map Prod.snd).take k).length ≤ 3000 := by rw [List.length_take]; omega
      clear hat hat2 htk hck0 hbw
      generalize l[k].1 = b at *
      generalize l[k].2 = c at *
      go_wp2_with fail
      refine (i_plain_any b c wr HAT.out).mono ?_
      rintro e w2 ⟨rfl, hb2⟩
      have hag2 := HAG.out.kept hb2
      have hbel2 := HBEL.out.trans (hb2.mono hBw)
      have hBw2 : B ≤ w2.heap.size := Nat.le_trans hBw hb2.size
      have HAG2 := Lib.hid hag2
      have HBEL2 := Lib.hid hbel2
      clear hag2 hbel2 hb2
      unfold Ck.cells
      go_wp2_with (at_builtin; refine wpList_app12 rfl (.tmp 12) (.tmp 15) rfl B _ _ rfl HAG2.out c rfl ?c1 hBw2 ?_)
      case c1 => omega
      intro v1 w3 hag3 hb3 hg3 hne
      have hbel3 := HBEL2.out.trans hb3
      rw [← HTK.out] at hag3
      have HAG3 := Lib.hid hag3
      have HBEL3 := Lib.hid hbel3
      clear hag3 hbel3 hb3 hg3 hne
      go_wp2
      go_roundw
      case rel => exact ⟨k + 1, by omega, by go_num, HAG3.out, HBEL3.out⟩
      case measure => simp [intOf]; omega
    · have hd : decide ((k : Int) < (l.length : Int)) = false := by rw [decide_eq_false_iff_not]; omega
      go_wp2
      go_ret
      have h1 := HAG.out
      rw [List.take_of_length_le (by simp; omega)] at h1
      exact ⟨⟨_, rfl, HB.out ▸ h1⟩, HB.out ▸ HBEL.out⟩

theorem AggsAt.all {B : Nat} {l : List Ck} {g cap : Nat} {w : World} (h : AggsAt B l (.slice (some ⟨g, 0, none⟩) l.length cap) w) {k : Nat} (hk : k < l.length) :
    w.cell? ⟨g, k * 12, none⟩ = some (.string l[k].name) ∧ w.cell? ⟨g, k * 12 + 1, none⟩ = some (.string l[k].value) ∧ w.cell? ⟨g, k * 12 + 2, none⟩ = some (.bool l[k].quoted) ∧ w.cell? ⟨g, k * 12 + 3, none⟩ = some (.string l[k].path) ∧ w.cell? ⟨g, k * 12 + 4, none⟩ = some (.string l[k].domain) ∧ w.cell? ⟨g, k * 12 + 5, none⟩ = some (.int .i64 l[k].age) ∧ w.cell? ⟨g, k * 12 + 6, none⟩ = some (.bool l[k].secure) ∧ w.cell? ⟨g, k * 12 + 7, none⟩ = some (.bool l[k].http) ∧ w.cell? ⟨g, k * 12 + 8, none⟩ = some (.int .i64 l[k].site) ∧ w.cell? ⟨g, k * 12 + 9, none⟩ = some (.bool l[k].part) ∧ w.cell? ⟨g, k * 12 + 10, none⟩ = some (.string l[k].raw) ∧ w.cell? ⟨g, k * 12 + 11, none⟩ = some (.slice l[k].uo l[k].un l[k].uc) := by
  have hc : ∀ j, j < 12 → w.cell? ⟨g, k * 12 + j, none⟩ = l[k].cells[j]? := fun j hj => by rw [Nat.mul_comm]; exact h.cell hk hj
  exact ⟨hc 0 (by omega), hc 1 (by omega), hc 2 (by omega), hc 3 (by omega), hc 4 (by omega), hc 5 (by omega), hc 6 (by omega), hc 7 (by omega), hc 8 (by omega), hc 9 (by omega), hc 10 (by omega), hc 11 (by omega)⟩
theorem own_lower {w : World} {B B' e size n : Nat} {v : Value} {xs : List Value} (h : w.ownsRow B e size v n xs) (hB : B' ≤ B) : w.ownsRow B' e size v n xs := by
  refine ⟨h.1, ?_⟩
  rcases h.2 with h1 | ⟨g, cap, cur, h1, h2, h3⟩
  · exact .inl h1
  · exact .inr ⟨g, cap, cur, h1, Nat.le_trans hB h2, h3⟩
def ReadOk' (line : List UInt8) (cs : List Ck) : Prop := (splitL 59 line).map pairOf = cs.map (fun c => some (pairC c)) ∧ cntL 59 line ≤ 2999
theorem ReadOk.plain {line : List UInt8} {l : List (Nat × Ck)} (h : ReadOk line l) : ReadOk' line (l.map Prod.snd) ∧ l.length ≤ 3000 := by
  obtain ⟨h1, h2⟩ := h
  refine ⟨⟨by rw [h1, List.map_map]; rfl, h2⟩, ?_⟩
  have h3 := congrArg List.length h1
  rw [List.length_map, List.length_map, ← count_split] at h3
  unfold cntL at h2
  omega
def IParse (line : List UInt8) (w : World) (e : Ending) (w' : World) : Prop :=
  ((∃ v cs, e = .returned (.tuple #[v, .bool true]) ∧ AggsAt w.heap.size cs v w' ∧ ReadOk' line cs) ∨
   (e = .returned (.tuple #[.slice none 0 0, .bool false]) ∧ ReadNo line)) ∧ Below w.heap.size w w'

set_option maxHeartbeats 1000000 in
theorem i_Parse_any (line : ByteArray) (w : World) (hs : line.size ≤ 4398046511104) (he : ErrsAt w) :
    Calls Tryd.prog 35 #[.string line] w (IParse line.data.toList w) := by
  go_enter Tryd.func35, Tryd.ntmps35
  go_wp2_with fail
  refine (parseCookie_any line _ hs he).mono ?_
  rintro e w1 ⟨⟨v, l, rfl, hp, hr⟩ | ⟨tp, a, rfl, hr⟩, hb⟩
  · have HR := Lib.hid hr
    have HB := Lib.hid hb
    have HP := Lib.hid hp
    clear hr hb hp
    go_wp2_with fail
    refine (i_all_any _ l v w1 HP.out HR.out.plain.2).mono ?_
    rintro e w2 ⟨⟨v2, rfl, hag⟩, hb2⟩
    have R : Hid (IParse line.data.toList w (.returned (.tuple #[v2, .bool true])) w2) := Lib.hid ⟨.inl ⟨v2, _, rfl, own_lower hag HB.out.size, HR.out.plain.1⟩, HB.out.trans (hb2.mono HB.out.size)⟩
    clear hag hb2
    go_wp2
    go_ret2
    exact R.out
  · have R : Hid (IParse line.data.toList w (.returned (.tuple #[.slice none 0 0, .bool false])) w1) := Lib.hid ⟨.inr ⟨rfl, hr⟩, hb⟩
    clear hr hb
    go_wp2
    go_ret2
    exact R.out
end Go.Proofs.YtfijncfoefbohaaDoor
