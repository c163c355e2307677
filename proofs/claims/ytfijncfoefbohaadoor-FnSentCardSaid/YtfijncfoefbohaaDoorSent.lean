/- Header.Get, Header.Set, AddCookie, impl.Sent: cookies put into one line. -/
import Derived.Test.YtfijncfoefbohaaDoorReadC
import Derived.Test.YtfijncfoefbohaaDoorRepl
import Derived.Test.YtfijncfoefbohaaDoorQ
namespace Go.Proofs.YtfijncfoefbohaaDoor
open Go Go.RowKit

theorem strPost_eq {l : List UInt8} {x : ByteArray} {e : Ending} (hx : x.data.toList = l) (h : StrPost l e) : e = .returned (.string x) := by
  obtain ⟨y, rfl, hy⟩ := h
  rw [ba_ext (hy.trans hx.symm)]
/-- The header in block b has no line yet, or the one line s. -/
def LineAt (B b : Nat) (o : Option ByteArray) (w : World) : Prop := match o with
  | none => Hdr0 b w
  | some s => ∃ g, B ≤ g ∧ w.heap[g]? = some (.cells #[.string s] 9 (0, 0)) ∧ Hdr1 b kCookie (.slice (some ⟨g, 0, none⟩) 1 1) w
theorem LineAt.kept {B b : Nat} {o : Option ByteArray} {w w' : World} (h : LineAt B b o w) (hb : Below w.heap.size w w') : LineAt B b o w' := by
  cases o with
  | none => exact Hdr0.kept h hb
  | some s =>
    obtain ⟨g, h1, h2, h3⟩ := h
    exact ⟨g, h1, heap_below h2 hb, h3.kept hb⟩
theorem LineAt.lt {B b : Nat} {o : Option ByteArray} {w : World} (h : LineAt B b o w) : b < w.heap.size := by
  cases o with
  | none => exact (Array.getElem?_eq_some_iff.1 h).1
  | some s =>
    obtain ⟨g, h1, h2, c, h3⟩ := h
    exact (Array.getElem?_eq_some_iff.1 h3).1
def lineOf (o : Option ByteArray) : ByteArray := o.getD ⟨#[]⟩

theorem get_any (B b : Nat) (o : Option ByteArray) (w : World) (h : LineAt B b o w) :
    Calls Tryd.prog 66 #[.map (some b), .string kCookie] w fun e w' => e = .returned (.string (lineOf o)) ∧ w = w' := by
  cases o with
  | none =>
    have H : Hid (Hdr0 b w) := Lib.hid h
    clear h
    go_enter Tryd.func66, Tryd.ntmps66
    go_wp2_with (at_lookup; refine wpList_look0 rfl _ _ rfl b kCookie rfl rfl H.out ?_)
    go_ret
    exact ⟨rfl, rfl⟩
  | some s =>
    obtain ⟨g, -, hg, hh⟩ := h
    have H := Lib.hid hh
    have c0 : w.cell? ⟨g, 0, none⟩ = some (.string s) := by rw [Lib.cell_of_heap hg]; rfl
    clear hh hg
    go_enter Tryd.func66, Tryd.ntmps66
    go_wp2_with (at_lookup; refine wpList_look1 rfl _ _ rfl b kCookie _ rfl rfl H.out ?_)
    go_ret
    exact ⟨rfl, rfl⟩

theorem set_any (B b : Nat) (o : Option ByteArray) (s : ByteArray) (w : World) (h : LineAt B b o w) (hB : B ≤ w.heap.size) :
    Calls Tryd.prog 91 #[.map (some b), .string kCookie, .string s] w fun e w' => e = .returned (.tuple #[]) ∧ LineAt B b (some s) w' ∧ w.grownBy w' (some b) := by
  have hlt := h.lt
  obtain ⟨a1, a2, a3⟩ := alloc_at w #[.string s] 9
  have hg0 : w.grownBy (w.alloc (.cells #[.string s] 9)) (some b) := ⟨rfl, rfl, rfl, a2.size, fun k hk _ => a2.block k hk⟩
  have hput : ∀ es c, (hdrPut (w.alloc (.cells #[.string s] 9)) b es c).heap[w.heap.size]? = some (.cells #[.string s] 9 (0, 0)) := fun es c => by
    have h2 := (hdrPut_grown (w.alloc (.cells #[.string s] 9)) b es c).block w.heap.size a3 (by simp; omega)
    rw [h2]; exact a1
  have fin : ∀ es c, es = #[⟨.string kCookie, .slice (some ⟨w.heap.size, 0, none⟩) 1 1, 0⟩] → (∃ x, (w.alloc (.cells #[.string s] 9)).heap[b]? = some x) → LineAt B b (some s) (hdrPut (w.alloc (.cells #[.string s] 9)) b es c) ∧ w.grownBy (hdrPut (w.alloc (.cells #[.string s] 9)) b es c) (some b) := by
    rintro es c rfl ⟨x, hx⟩
    exact ⟨⟨w.heap.size, hB, hput _ _, c, hdrPut_at hx _ _⟩, hg0.trans (hdrPut_grown _ _ _ _)⟩
  have FIN := Lib.hid fin
  cases o with
  | none =>
    have H : Hid (Hdr0 b (w.alloc (.cells #[.string s] 9))) := Lib.hid (heap_below h a2)
    clear h fin hput hg0 a1 a2 a3
    go_enter Tryd.func91, Tryd.ntmps91
    go_wp2_with (at_mapUpdate; refine wpList_update0 rfl _ _ _ rfl b kCookie _ rfl rfl rfl H.out ?_)
    go_end0
    exact ⟨rfl, FIN.out _ _ rfl ⟨_, H.out⟩⟩
  | some s0 =>
    obtain ⟨g, -, hg, c, hh⟩ := h
    have H : Hid ((w.alloc (.cells #[.string s] 9)).heap[b]? = some (.map #[⟨.string kCookie, .slice (some ⟨g, 0, none⟩) 1 1, 0⟩] c)) := Lib.hid (heap_below hh a2)
    clear hh hg fin hput hg0 a1 a2 a3
    go_enter Tryd.func91, Tryd.ntmps91
    go_wp2_with (at_mapUpdate; refine wpList_update1 rfl _ _ _ rfl b c kCookie _ _ rfl rfl rfl H.out ?_)
    go_end0
    exact ⟨rfl, FIN.out _ _ rfl ⟨_, H.out⟩⟩

/-- What one cookie adds to the line. -/
def sentT (c : Ck) : List UInt8 := c.name.data.toList ++ 61 :: writL (keepB valB c.value.data.toList) c.quoted
def sentNext (o : Option ByteArray) (c : Ck) : List UInt8 := match o with
  | none => sentT c
  | some s => s.data.toList ++ 59 :: 32 :: sentT c

set_option maxHeartbeats 4000000 in
set_option maxRecDepth 100000 in
theorem addCookie_any (B b R N : Nat) (c : Ck) (o : Option ByteArray) (w : World) (hR : w.heap[R]? = some (.cells #[.map (some b)] 77 (0, 0))) (hc : CkAt N c w) (h : LineAt B b o w) (hB : B ≤ w.heap.size)
    (ht : tokS c.name.data.toList = true) (z1 : c.name.size ≤ 2147483647) (z2 : c.value.size ≤ 2147483647) (z3 : (lineOf o).size ≤ 4398046511104) (ho : ∀ s, o = some s → s.size ≠ 0) :
    Calls Tryd.prog 65 #[.pointer (some ⟨R, 0, none⟩), .pointer (some ⟨N, 0, none⟩)] w fun e w' => e = .returned (.tuple #[]) ∧ (∃ s, LineAt B b (some s) w' ∧ s.data.toList = sentNext o c) ∧ w.grownBy w' (some b) := by
  have hN := hc.lt
  have hRl : R < w.heap.size := (Array.getElem?_eq_some_iff.1 hR).1
  obtain ⟨k0, k1, k2, -, -, -, -, -, -, -, -, -⟩ := ck_cells hc
  have r0 : w.cell? ⟨R, 0, none⟩ = some (.map (some b)) := by rw [Lib.cell_of_heap hR]; rfl
  obtain ⟨vv, hvv⟩ : ∃ vv : ByteArray, vv.data.toList = writL (keepB valB c.value.data.toList) c.quoted := ⟨⟨(writL (keepB valB c.value.data.toList) c.quoted).toArray⟩, by simp⟩
  have hvz : vv.size ≤ 2147483700 := by
    have h1 := keepB_le valB c.value.data.toList
    have h2 : (writL (keepB valB c.value.data.toList) c.quoted).length ≤ (keepB valB c.value.data.toList).length + 2 := by unfold writL; split <;> simp
    rw [Lib.size_eq] at z2 ⊢
    rw [hvv]; omega
  have NK : Hid (∀ q : OverT w, Calls Tryd.prog 80 #[.string c.name] q.w fun e w' => e = .returned (.string c.name) ∧ Below q.w.heap.size q.w w') :=
    Lib.hid (fun q => (sanName_any c.name q.w (by omega)).mono fun e w' h => ⟨strPost_eq (nameL_none (tok_clean ht)).symm h.1, h.2⟩)
  have VK : Hid (∀ q : OverT w, Calls Tryd.prog 75 #[.string c.value, .bool c.quoted] q.w fun e w' => e = .returned (.string vv) ∧ Below q.w.heap.size q.w w') :=
    Lib.hid (fun q => (sanVal_any c.value c.quoted q.w (by omega)).mono fun e w' h => ⟨strPost_eq hvv h.1, h.2⟩)
  have HVV := Lib.hid hvv
  have HL := Lib.hid h
  have HO := Lib.hid ho
  clear hc hR h hvv ho
  go_enter Tryd.func65, Tryd.ntmps65
  go_upto_region 0 with fail
  have f0 : ∀ q : OverT w, q.w.cell? ⟨N, 0, none⟩ = some (.string c.name) := fun q => q.h.cell k0
  have f1 : ∀ q : OverT w, q.w.cell? ⟨N, 1, none⟩ = some (.string c.value) := fun q => q.h.cell k1
  have f2 : ∀ q : OverT w, q.w.cell? ⟨N, 2, none⟩ = some (.bool c.quoted) := fun q => q.h.cell k2
  refine wp_region_C (C := fun w' => ∃ q : OverT w, w' = q.w) (by kernel_rfl) (by kernel_rfl) (OverT.start w) ?_
  repeat (go_big_quiet_step ((first
    | (go_at_call 80; (with_reducible refine (NK.out _).mono ?_); exact fun e w' h => ⟨h.1, OverT.next h.2⟩)
    | (go_at_call 75; (with_reducible refine (VK.out _).mono ?_); exact fun e w' h => ⟨h.1, OverT.next h.2⟩))))
  refine wpQuiet_nil ?_
  rintro _ ⟨q, rfl⟩
  have r1 := q.h.cell r0
  have HL2 := Lib.hid (HL.out.kept q.h)
  have HGQ : Hid (w.grownBy q.w (some b)) := Lib.hid ⟨q.h.os, q.h.tape, q.h.output, q.h.size, fun k hk _ => q.h.block k hk⟩
  have hBq : B ≤ q.w.heap.size := Nat.le_trans hB q.h.size
  clear f0 f1 f2 k0 k1 k2 r0
  cases o with
  | none =>
    go_wp2_with (first
      | (go_at_call 66; refine (get_any B b none q.w HL2.out).mono ?_; rintro e w' ⟨rfl, rfl⟩; unfold lineOf)
      | (go_at_call 91; refine (set_any B b none _ q.w HL2.out hBq).mono ?_; rintro e w5 ⟨rfl, hln, hgr⟩; have HLN := Lib.hid hln; have HGR := Lib.hid (HGQ.out.trans hgr); clear hln hgr))
    go_end0
    refine ⟨rfl, ⟨_, HLN.out, ?_⟩, HGR.out⟩
    show _ = sentT c
    unfold sentT
    rw [app_data, app_data, HVV.out]
    simp
  | some s =>
    have hsz : s.size ≤ 4398046511104 := z3
    have e1 : s.toList.isEmpty = false := by
      rw [Lib.toList_data]
      have := HO.out s rfl
      rw [Lib.size_eq] at this
      cases hx : s.data.toList with
      | nil => rw [hx] at this; exact absurd rfl this
      | cons _ _ => rfl
    go_wp2_with (first
      | (go_at_call 66; refine (get_any B b (some s) q.w HL2.out).mono ?_; rintro e w' ⟨rfl, rfl⟩; rw [show lineOf (some s) = s from rfl])
      | (go_at_call 91; refine (set_any B b (some s) _ q.w HL2.out hBq).mono ?_; rintro e w5 ⟨rfl, hln, hgr⟩; have HLN := Lib.hid hln; have HGR := Lib.hid (HGQ.out.trans hgr); clear hln hgr))
    go_end0
    refine ⟨rfl, ⟨_, HLN.out, ?_⟩, HGR.out⟩
    show _ = s.data.toList ++ 59 :: 32 :: sentT c
    unfold sentT
    rw [app_data, app_data, app_data, app_data, HVV.out]
    simp

/-! ### impl.Sent -/
def sentP (c : Ck) : Pair := (c.name.data.toList, c.value.data.toList, c.quoted || anyB blankB c.value.data.toList)
theorem sentT_pair {c : Ck} (h : allB valB c.value.data.toList = true) : sentT c = pairT (sentP c) := by
  unfold sentT sentP pairT
  rw [keepB_all h]
  rfl
/-- The line of the first k cookies. -/
def SentIs (cs : List Ck) (k : Nat) (o : Option ByteArray) : Prop := (k = 0 ∧ o = none) ∨ ∃ s, o = some s ∧ 0 < k ∧ s.data.toList = lineT ((cs.take k).map sentP) ∧ s.size ≠ 0 ∧ s.size ≤ k * 8589934592
theorem sentIs_size {cs : List Ck} {k : Nat} {o : Option ByteArray} (h : SentIs cs k o) (hk : k ≤ 100) : (lineOf o).size ≤ 4398046511104 := by
  rcases h with ⟨-, rfl⟩ | ⟨s, rfl, -, -, -, h⟩
  · decide
  · show s.size ≤ _; omega
theorem sentIs_next {cs : List Ck} {k : Nat} {o : Option ByteArray} {s : ByteArray} (h : SentIs cs k o) (hk : k < cs.length) (ht : tokS cs[k].name.data.toList = true) (hv : allB valB cs[k].value.data.toList = true)
    (z1 : cs[k].name.size ≤ 2147483647) (z2 : cs[k].value.size ≤ 2147483647) (hs : s.data.toList = sentNext o cs[k]) : SentIs cs (k + 1) (some s) := by
  have hl : (sentT cs[k]).length ≤ 4294967300 := by
    rw [sentT_pair hv]
    unfold pairT sentP
    have h1 : (quoL cs[k].value.data.toList (cs[k].quoted || anyB blankB cs[k].value.data.toList)).length ≤ cs[k].value.data.toList.length + 2 := by unfold quoL; split <;> simp
    rw [Lib.size_eq] at z1 z2
    simp only [List.length_append, List.length_cons]
    omega
  have hne : 0 < (sentT cs[k]).length := by unfold sentT; rw [List.length_append, List.length_cons]; omega
  right
  refine ⟨s, rfl, by omega, ?_, ?_, ?_⟩
  · rw [hs, List.take_succ_eq_append_getElem hk, List.map_append]
    rcases h with ⟨rfl, rfl⟩ | ⟨s0, rfl, h0, h1, -, -⟩
    · simp only [List.take_zero, List.map_nil, List.nil_append, List.map_cons, lineT_one]
      exact sentT_pair hv
    · show s0.data.toList ++ 59 :: 32 :: sentT cs[k] = _
      rw [List.map_cons, List.map_nil, lineT_snoc, h1, sentT_pair hv]
      intro e
      have := congrArg List.length e
      rw [List.length_map, List.length_take, List.length_nil] at this
      omega
  · rw [Lib.size_eq, hs]
    rcases h with ⟨rfl, rfl⟩ | ⟨s0, rfl, h0, h1, -, -⟩
    · show (sentT _).length ≠ 0; omega
    · show (s0.data.toList ++ 59 :: 32 :: sentT cs[k]).length ≠ 0
      simp
  · rw [Lib.size_eq, hs]
    rcases h with ⟨rfl, rfl⟩ | ⟨s0, rfl, h0, h1, -, h3⟩
    · show (sentT _).length ≤ _; omega
    · show (s0.data.toList ++ 59 :: 32 :: sentT cs[k]).length ≤ _
      rw [Lib.size_eq] at h3
      simp only [List.length_append, List.length_cons]
      omega
theorem sentIs_end {cs : List Ck} {o : Option ByteArray} (h : SentIs cs cs.length o) : (lineOf o).data.toList = lineT (cs.map sentP) := by
  rcases h with ⟨h0, rfl⟩ | ⟨s, rfl, -, h, -, -⟩
  · rw [List.eq_nil_of_length_eq_zero h0]; rfl
  · rw [List.take_of_length_le (Nat.le_refl _)] at h
    exact h

set_option maxHeartbeats 4000000 in
set_option maxRecDepth 100000 in
theorem i_Sent_any (B0 : Nat) (cs : List Ck) (v : Value) (w : World) (hag : AggsAt B0 cs v w) (hn : cs.length ≤ 100) (hok : ∀ k (h : k < cs.length), tokS cs[k].name.data.toList = true ∧ allB valB cs[k].value.data.toList = true ∧ cs[k].name.size ≤ 2147483647 ∧ cs[k].value.size ≤ 2147483647) :
    Calls Tryd.prog 40 #[v] w fun e w' => (∃ x : ByteArray, e = .returned (.string x) ∧ x.data.toList = lineT (cs.map sentP) ∧ x.size ≤ 4398046511104) ∧ Below w.heap.size w w' := by
  obtain ⟨ao, cap, rfl⟩ := agg_shape hag
  obtain ⟨B, hB⟩ : ∃ B, B = w.heap.size := ⟨_, rfl⟩
  have HB := Lib.hid hB
  have hB0 : B ≤ w.heap.size := by omega
  clear hB
  have HAG := Lib.hid hag
  have HOK := Lib.hid hok
  clear hag hok
  have hmm := @run_makeMap Tryd.prog
  obtain ⟨a1, a2, a3⟩ := alloc_at (w.alloc (.map #[] 0)) #[.map (some w.heap.size)] 77
  have hh0 : Hdr0 w.heap.size ((w.alloc (.map #[] 0)).alloc (.cells #[.map (some w.heap.size)] 77)) := (Hdr0.new w).kept a2
  have hb0 : Below w.heap.size w (w.alloc (.map #[] 0)) := (Below.refl _ _).alloc (Nat.le_refl _) _
  have hb1 : Below w.heap.size w ((w.alloc (.map #[] 0)).alloc (.cells #[.map (some w.heap.size)] 77)) := hb0.trans (a2.mono hb0.size)
  go_enter Tryd.func40, Tryd.ntmps40
  go_wp2
  have hsz1 : (w.alloc (.map #[] 0)).heap.size = w.heap.size + 1 := alloc_sz' _ _
  rw [hsz1] at a1
  generalize (w.alloc (.map #[] 0)).alloc (.cells #[.map (some w.heap.size)] 77) = W1 at a1 a2 a3 hh0 hb1 ⊢
  clear a2 a3 hb0 hsz1 hmm
  have HX : Hid (w.heap.size = B) := Lib.hid (HB.out ▸ rfl)
  rw [HX.out] at a1 hh0 hb1 ⊢
  have HA1 := Lib.hid a1
  have HH0 := Lib.hid hh0
  have HB1 := Lib.hid hb1
  clear a1 hh0 hb1
  go_loopw [12] (fun i wr => ∃ (k : Nat) (o : Option ByteArray), k ≤ cs.length ∧ i = .int .i64 k ∧ SentIs cs k o ∧ LineAt B B o wr ∧ wr.heap[B + 1]? = some (.cells #[.map (some B)] 77 (0, 0)) ∧ Below B w wr) (fun i _ => cs.length - (intOf i).toNat)
  case atStart => exact ⟨0, none, Nat.zero_le _, rfl, .inl ⟨rfl, rfl⟩, HH0.out, HA1.out, HB1.out⟩
  case round =>
    obtain ⟨k, o, hk, rfl, hsi, hli, hre, hbe⟩ := hrel
    have HSI := Lib.hid hsi
    have HLI := Lib.hid hli
    have HRE := Lib.hid hre
    have HBE := Lib.hid hbe
    have r0 : wr.cell? ⟨B + 1, 0, none⟩ = some (.map (some B)) := by rw [Lib.cell_of_heap hre]; rfl
    have hBw : B ≤ wr.heap.size := Nat.le_trans hB0 hbe.size
    clear hsi hli hre hbe
    by_cases hlt : k < cs.length
    case neg =>
      have hd : decide (k < cs.length) = false := by rw [decide_eq_false_iff_not]; exact hlt
      have HKE : Hid (k = cs.length) := Lib.hid (by omega)
      go_wp2_with (go_at_call 66; refine (get_any B B o wr HLI.out).mono ?_; rintro e w' ⟨rfl, rfl⟩)
      go_ret
      have h1 := HSI.out
      have h2 := sentIs_size h1 (by omega)
      rw [HKE.out] at h1
      exact ⟨⟨_, rfl, sentIs_end h1, h2⟩, by rw [HX.out]; exact HBE.out⟩
    have hd : decide (k < cs.length) = true := by rw [decide_eq_true_iff]; exact hlt
    obtain ⟨t1, t2, t3, t4⟩ := HOK.out k hlt
    obtain ⟨ga, rfl⟩ : ∃ g, ao = some ⟨g, 0, none⟩ := by
      rcases HAG.out.2 with ⟨_, h1⟩ | ⟨g, cap', cur, h1, _⟩
      · omega
      · cases h1; exact ⟨g, rfl⟩
    have hcx := (HAG.out.kept (by rw [HX.out]; exact HBE.out)).all hlt
    have HNX : Hid (∀ s : ByteArray, s.data.toList = sentNext o cs[k] → SentIs cs (k + 1) (some s)) := Lib.hid (fun s hs => sentIs_next HSI.out hlt t1 t2 t3 t4 hs)
    have HZ3 := Lib.hid (sentIs_size HSI.out (by omega))
    have HO3 : Hid (∀ s, o = some s → s.size ≠ 0) := Lib.hid (fun s hs => by
      subst hs
      rcases HSI.out with ⟨_, h⟩ | ⟨s0, h, _, _, h4, _⟩
      · cases h
      · cases h; exact h4)
    obtain ⟨c, hc⟩ : ∃ c, cs[k] = c := ⟨_, rfl⟩
    rw [hc] at hcx HNX t1 t2 t3 t4
    have T1 := Lib.hid t1
    obtain ⟨x0, x1, x2, x3, x4, x5, x6, x7, x8, x9, x10, x11⟩ := hcx
    clear hc t1 t2 HSI
    go_upto_region 5 with fail
    obtain ⟨a1, a2, a3⟩ := alloc_at wr c.cells 26
    unfold Ck.cells at a1 a2 a3
    generalize wr.alloc (.cells #[.string c.name, .string c.value, .bool c.quoted, .string c.path, .string c.domain, .int .i64 c.age, .bool c.secure, .bool c.http, .int .i64 c.site, .bool c.part, .string c.raw, .slice c.uo c.un c.uc] 26) = w2 at a1 a2 a3 ⊢
    obtain ⟨y0, y1, y2, y3, y4, y5, y6, y7, y8, y9, y10, y11⟩ := ck_cells (c := c) a1
    have HA2 := Lib.hid a2
    clear a1 a2 a3 x0 x1 x2 x3 x4 x5 x6 x7 x8 x9 x10 x11
    go_wp2_with fail
    refine (of_any c w2).mono ?_
    rintro e w3 ⟨rfl, hb3⟩
    have HB3 := Lib.hid (HA2.out.trans (hb3.mono HA2.out.size))
    clear hb3 y0 y1 y2 y3 y4 y5 y6 y7 y8 y9 y10 y11
    unfold Ck.cells
    go_upto_region 6 with fail
    obtain ⟨b1, b2, b3⟩ := alloc_at w3 c.cells 58
    unfold Ck.cells at b1 b2 b3
    generalize w3.alloc (.cells #[.string c.name, .string c.value, .bool c.quoted, .string c.path, .string c.domain, .int .i64 c.age, .bool c.secure, .bool c.http, .int .i64 c.site, .bool c.part, .string c.raw, .slice c.uo c.un c.uc] 58) = w4 at b1 b2 b3 ⊢
    generalize w3.heap.size = N at b1 b3 ⊢
    have HB4 : Hid (Below wr.heap.size wr w4) := Lib.hid (HB3.out.trans (b2.mono HB3.out.size))
    have hBw4 : B ≤ w4.heap.size := Nat.le_trans hBw HB4.out.size
    have HN : Hid (CkAt N c w4) := Lib.hid b1
    have HRE4 := Lib.hid (heap_below HRE.out HB4.out)
    clear b1 b2 b3
    go_wp2_with (go_at_call 65; refine (addCookie_any B B (B + 1) N c o w4 HRE4.out HN.out (HLI.out.kept HB4.out) hBw4 T1.out t3 t4 HZ3.out HO3.out).mono ?_; rintro e w5 ⟨rfl, ⟨s5, hl5, hs5⟩, hg5⟩; have HL5 := Lib.hid hl5; have HS5 := Lib.hid hs5; have HG5 := Lib.hid hg5; clear hl5 hs5 hg5)
    go_roundw
    case rel =>
      refine ⟨k + 1, some s5, by omega, by go_num, HNX.out _ HS5.out, HL5.out, ?_, ?_⟩
      · exact (HG5.out.block _ (Array.getElem?_eq_some_iff.1 HRE4.out).1 (by simp)).trans HRE4.out
      · exact (HBE.out.trans (HB4.out.mono hBw)).grown HG5.out hBw4 (fun k hk => by simp at hk; omega)
    case measure => simp [intOf]; omega
end Go.Proofs.YtfijncfoefbohaaDoor
