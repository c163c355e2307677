/- FnSet returns true at every cookie. -/
import Derived.Test.YtfijncfoefbohaaDoorSetLaw
import Derived.Test.YtfijncfoefbohaaDoorFits
import Derived.Test.YtfijncfoefbohaaDoorLawClean
import Derived.Deep.AppendLies
import Derived.Test.YtfijncfoefbohaaDoorQ
import Derived.Test.YtfijncfoefbohaaDoorPtrs
import Derived.Lib.ItoaLen
namespace Go.Proofs.YtfijncfoefbohaaDoor
open Go Go.RowKit

/-- The list that the law wants. -/
def WantPost (c : Ck) (N : Nat) (w : World) (v : Value) (wx : World) : Prop :=
  ∃ (xs : List ByteArray) (z : ByteArray) (g cap : Nat), v = .slice (some ⟨g, 0, none⟩) (1 + xs.length) cap ∧ wx.ownsRow (N + 1) 9 1 (.slice (some ⟨g, 0, none⟩) (1 + xs.length) cap) (1 + xs.length) ([.string z] ++ xs.map Value.string) ∧
    z.data.toList = setA c ∧ xs.map (fun x => x.data.toList) = attrL c (vdB c.domain.data.toList) ∧ Below w.heap.size w wx

theorem setL_len (c : Ck) (h : CkFits c) : (setL c).length ≤ 4398046511104 := by
  unfold setL
  split
  case isFalse => simp
  have k1 := keepB_le valB c.value.data.toList
  have k2 := keepB_le pathB c.path.data.toList
  have k3 : (undot c.domain.data.toList).length ≤ c.domain.data.toList.length := by unfold undot; split <;> simp
  have k4 : (writL (keepB valB c.value.data.toList) c.quoted).length ≤ (keepB valB c.value.data.toList).length + 2 := by unfold writL; split <;> simp
  have k5 : 0 < c.age → (Lib.decDigits c.age.toNat).length ≤ 21 := fun h0 => by
    have h2 := Lib.itoa_length_le c.age h.age0 h.age1
    unfold Lib.itoa at h2
    rw [if_neg (by omega)] at h2
    exact h2
  have n1 := h.name; have n2 := h.value; have n3 := h.path; have n4 := h.domain
  rw [Lib.size_eq] at n1 n2 n3 n4
  have a1 : (setA c).length ≤ 4294967298 := by unfold setA; simp only [List.length_append, List.length_cons, List.length_nil]; omega
  have a2 : (setPath c).length ≤ 2147483654 := by unfold setPath sPath; split <;> simp only [List.length_append, List.length_cons, List.length_nil] <;> omega
  have a3 : (setDomain c).length ≤ 2147483656 := by unfold setDomain sDomain; split <;> simp only [List.length_append, List.length_cons, List.length_nil] <;> omega
  have a4 : (setAge c).length ≤ 40 := by
    unfold setAge sAge sAge0
    split
    · rename_i h0; have := k5 h0; simp only [List.length_append, List.length_cons, List.length_nil]; omega
    · split <;> simp
  have a5 : (setHttp c).length ≤ 20 := by unfold setHttp sHttp; split <;> simp
  have a6 : (setSecure c).length ≤ 20 := by unfold setSecure sSecure; split <;> simp
  have a7 : (setSite c).length ≤ 40 := by unfold setSite sSite sNone sLax sStrict; split <;> (try split) <;> (try split) <;> simp
  have a8 : (setPart c).length ≤ 20 := by unfold setPart sPart; split <;> simp
  unfold setAll
  simp only [List.length_append]
  omega
theorem optL_len (b : Bool) (l : List UInt8) : (optL b l).length ≤ 1 := by cases b <;> simp [optL]
theorem attrL_len (c : Ck) (d : Bool) : (attrL c d).length ≤ 10 := by
  unfold attrL
  simp only [List.length_append]
  have h := fun b l => optL_len b l
  have h1 := h (!c.path.toList.isEmpty) (pPath ++ keepB pathB c.path.data.toList)
  have h2 := h (!c.domain.toList.isEmpty && d) (pDomain ++ undot c.domain.data.toList)
  have h3 := h (decide (0 < c.age)) (pAge ++ digL c.age.toNat)
  have h4 := h (decide (c.age < 0)) pAge0
  have h5 := h c.secure pSecure
  have h6 := h c.http pHttp
  have h7 := h (c.site == 2) pLax
  have h8 := h (c.site == 3) pStrict
  have h9 := h (c.site == 4) pNone
  have h10 := h c.part pPart
  omega
/-- append of nothing, as a step of a region that draws. -/
theorem step_app_nil {P : Program} {ops : Array Oper} {o : Oper} {a : Act} {w : World} {K : Act → World → Prop} {Q : Exit → Act → World → Prop} {E : Prop} (hgd : o.guard = none) (s x : Operand) (t : TypeId)
    (ho : o.op = .call { callee := .builtin .append, args := #[s, x], argTypes := #[t, t] })
    (B : Nat) (e : TypeId) (i : TypeInfo) (ht : P.underlying t = some (.slice e)) (hi : P.info? e = some i) (v : Value) (n : Nat) (xs : List Value) (hs : a.eval s = v) (hown : w.ownsRow B e i.size v n xs)
    (hx : a.eval x = .slice none 0 0) (h : K (a.put o.dst v) w) : if Region.wanted o (yielded ops a.tmps) = true then Oper.wp P o a w K Q else E := by
  have hw : Region.wanted o (yielded ops a.tmps) = true := by simp [Region.wanted, hgd]
  rw [if_pos hw]
  have hr : (Builtin.append_ #[t, t] o.type #[v, .slice none 0 0]).run P w = .ok v w := by
    rcases hown.2 with ⟨rfl, rfl⟩ | ⟨g, cap, cur, rfl, _, _, hnc, _⟩
    · simp [Builtin.append_, run_underlying ht, sizeOf, typeInfo, hi, Builtin.lenOf, Builtin.firstCells]
    · simp [Builtin.append_, run_underlying ht, sizeOf, typeInfo, hi, Builtin.lenOf, Builtin.firstCells, hnc, storeCells]
  unfold Oper.wp execOp
  simp only [ho, resolve, invoke, builtin, Sem.run_bind, Sem.run_pure, Result.andThen_ok, List.map_toArray, List.map_cons, List.map_nil, hs, hx, hr]
  exact h

set_option maxHeartbeats 4000000 in
set_option maxRecDepth 100000 in
theorem fnSet_walk (c : Ck) (w : World) (h : CkOk c w) (htab : ∀ w', Below w.heap.size w w' → Lib.TabIs Tryd.prog w' "internal/strconv.uint64pow10" .u64 Lib.pow10Tab) :
    Calls Tryd.prog 4 #[.agg c.cells] w fun e w' => e = .returned (.bool true) ∧ Below w.heap.size w w' := by
  have HT := Lib.hid htab
  clear htab
  have hk1 : ∀ o, CkOk c (w.alloc o) := fun o => ⟨h.name, h.value, h.path, h.domain, h.raw, h.age0, h.age1, h.site0, h.site1, by
    obtain ⟨xs, hxs⟩ := h.unp
    exact ⟨xs, hxs.below ((Below.refl _ _).alloc (Nat.le_refl _) o)⟩⟩
  have HK := Lib.hid hk1
  clear hk1
  unfold Ck.cells
  go_enter Tryd.func4, Tryd.ntmps4
  go_wp2_with fail
  obtain ⟨a1, a2, a3⟩ := alloc_at w c.cells 26
  refine (zzFits1_any c _ (HK.out _)).mono ?_
  rintro e w1 ⟨⟨r, rfl, hr⟩, hb1⟩
  have hb2 : Below w.heap.size w w1 := a2.trans (hb1.mono a2.size)
  rcases r with _ | _
  · have HB := Lib.hid hb2
    clear a1 a2 a3 hb1 hb2
    go_wp2
    go_ret
    exact ⟨rfl, HB.out⟩
  have hf := (hr rfl).1
  have hblk : w1.heap[w.heap.size]? = some (.cells c.cells 26 (0, 0)) := (hb1.block _ a3).trans a1
  have hnlt : w.heap.size < w1.heap.size := Nat.lt_of_lt_of_le a3 hb1.size
  have HBEL := Lib.hid hb2
  have HBLK := Lib.hid hblk
  have HNLT := Lib.hid hnlt
  clear hr a1 a2 a3 hb1 hb2 hnlt
  obtain ⟨N, hN⟩ : ∃ N, w.heap.size = N := ⟨_, rfl⟩
  have HN := Lib.hid hN
  rw [hN] at hblk ⊢
  obtain ⟨k0, k1, k2, k3, k4, k5, k6, k7, k8, k9, k10, k11⟩ := ck_cells hblk
  clear hblk hN
  go_wp2_with fail
  refine (i_Set_any c _ hf (fun _ w' hw' => HT.out w' (HBEL.out.trans (hw'.mono HBEL.out.size)))).mono ?_
  rintro e w2 ⟨⟨x, rfl, hx⟩, hb2⟩
  have hlt : N < w1.heap.size := by rw [← HN.out]; exact HNLT.out
  have hblk2 : w2.heap[N]? = some (.cells c.cells 26 (0, 0)) := (hb2.block N hlt).trans (HN.out ▸ HBLK.out)
  have HB2 := Lib.hid (HBEL.out.trans (hb2.mono HBEL.out.size))
  have HX := Lib.hid hx
  have hlt2 : N < w2.heap.size := Nat.lt_of_lt_of_le hlt hb2.size
  have HBLK2 := Lib.hid hblk2
  clear k0 k1 k2 k3 k4 k5 k6 k7 k8 k9 k10 k11 HBLK hx hb2 HBEL HNLT hlt
  obtain ⟨k0, k1, k2, k3, k4, k5, k6, k7, k8, k9, k10, k11⟩ := ck_cells hblk2
  clear hblk2
  have hm1 : c.name.size ≤ maxLen := by have := hf.name; unfold maxLen; omega
  rcases ht : tokS c.name.data.toList with _ | _
  · have hxe : x = ⟨#[]⟩ := ba_ext (by rw [HX.out]; unfold setL; rw [ht]; rfl)
    subst hxe
    go_wp2_with fail
    refine (s_Token_any c.name _ hm1).mono ?_; rintro e w3 ⟨rfl, rfl⟩
    clear k0 k1 k2 k3 k4 k5 k6 k7 k8 k9 k10 k11
    go_wp2_with fail
    refine (works_any _).mono ?_; rintro e w4 ⟨rfl, hb4⟩
    have HB4 := Lib.hid (HB2.out.trans (hb4.mono HB2.out.size))
    clear hb4
    go_wp2
    go_ret
    exact ⟨rfl, HN.out ▸ HB4.out⟩
  · go_upto_region 6 with (go_at_call 21; refine (s_Token_any c.name _ hm1).mono ?_; rintro e w3 ⟨rfl, rfl⟩)
    have HF := Lib.hid hf
    have hv1 := hf.value
    have hd1 := hf.domain
    have hn1 := hf.name
    have hnl : ¬ 9223372036854775807 < c.name.size + 1 := by omega
    have HT := Lib.hid ht
    have HLT2 := Lib.hid hlt2
    have HBK := HBLK2.out
    clear ht hlt2 hf HK h k0 k1 k2 k3 k4 k5 k6 k7 k8 k9 k10 k11
    have hkd : w2.drew.heap[N]? = some (.cells c.cells 26 (0, 0)) := HBK
    have hv4 : c.value.size ≤ 4398046511104 := by omega
    have KY : Hid (∀ (y : ByteArray) (wk : World), y.data.toList = keepB valB c.value.data.toList → Below w2.drew.heap.size w2.drew wk → y.size ≤ 4398046511104 ∧ wk.heap[N]? = some (.cells c.cells 26 (0, 0))) := Lib.hid (fun y wk hy hb => ⟨by have := keepB_size' hy hv1; omega, (hb.block N HLT2.out).trans hkd⟩)
    have KZ : Hid (∀ (y z : ByteArray), y.data.toList = keepB valB c.value.data.toList → z.data.toList = writL y.data.toList c.quoted → ¬ 9223372036854775807 < c.name.size + 1 + z.size) := Lib.hid (fun y z hy hz => by have := keepB_size (by rw [hz, hy]) hv1; omega)
    have hd4 : c.domain.size ≤ 4398046511104 := by omega
    have KB : Hid (∀ wx wy, Below wx.heap.size wx wy → wx.heap[N]? = some (.cells c.cells 26 (0, 0)) → wy.heap[N]? = some (.cells c.cells 26 (0, 0))) := Lib.hid (fun wx wy hb h => (hb.block N (Array.getElem?_eq_some_iff.1 h).1).trans h)
    obtain ⟨i0, hi, hz0, hz1, hz2⟩ := info_parts strInfo
    have WS : Hid (∀ w3 : World, Below w2.drew.heap.size w2.drew w3 → N + 1 ≤ w3.heap.size) := Lib.hid (fun w3 hb => by have h1 := hb.size; have h2 := HLT2.out; change w2.heap.size ≤ _ at h1; omega)
    have XL : Hid (∀ xs : List ByteArray, xs.map (fun x => x.data.toList) = attrL c (vdB c.domain.data.toList) → xs.length ≤ 10) := Lib.hid (fun xs h => by have h1 := attrL_len c (vdB c.domain.data.toList); rw [← h, List.length_map] at h1; exact h1)
    have BW : Hid (∀ wx wy, Below w.heap.size w wx → Below wx.heap.size wx wy → Below w.heap.size w wy) := Lib.hid (fun wx wy h1 h2 => h1.trans (h2.mono h1.size))
    have BA : Hid (∀ wx o, Below w.heap.size w wx → Below w.heap.size w (wx.alloc o)) := Lib.hid (fun wx o h1 => h1.alloc h1.size o)
    have BD : Hid (Below w.heap.size w w2.drew) := Lib.hid (HB2.out.drew)
    go_cut [4] (fun v wx => WantPost c N w v wx)
    case first =>
      by_cases hA : attrL c (vdB c.domain.data.toList) = []
      · have NIL : Hid (∀ xs : List ByteArray, xs.map (fun x => x.data.toList) = attrL c (vdB c.domain.data.toList) → xs = []) := Lib.hid (fun xs h => by rw [hA] at h; simpa using h)
        have HA0 := Lib.hid hA
        clear hA
        go_region_held3 (fun w' => w'.cell? ⟨N, 0, none⟩ = some (.string c.name) ∧ w'.cell? ⟨N, 1, none⟩ = some (.string c.value) ∧ w'.cell? ⟨N, 2, none⟩ = some (.bool c.quoted) ∧ w'.cell? ⟨N, 3, none⟩ = some (.string c.path) ∧ w'.cell? ⟨N, 4, none⟩ = some (.string c.domain) ∧ w'.cell? ⟨N, 5, none⟩ = some (.int .i64 c.age) ∧ w'.cell? ⟨N, 6, none⟩ = some (.bool c.secure) ∧ w'.cell? ⟨N, 7, none⟩ = some (.bool c.http) ∧ w'.cell? ⟨N, 8, none⟩ = some (.int .i64 c.site) ∧ w'.cell? ⟨N, 9, none⟩ = some (.bool c.part) ∧ w'.cell? ⟨N, 10, none⟩ = some (.string c.raw) ∧ w'.cell? ⟨N, 11, none⟩ = some (.slice c.uo c.un c.uc)) (first | exact ck_cells HBK | exact ck_cells hkd | exact ck_cells hk3 | exact ck_cells (heap_keep hk3 _) | exact ck_cells hk4 | exact ck_cells (heap_keep hk4 _) | exact ck_cells hk5 | exact ck_cells (heap_keep hk5 _) | exact ck_cells hk6) (first
          | (go_at_call 23; refine (s_Kept_false c.value _ hv4).mono ?_; rintro e w3 ⟨⟨y, rfl, hy⟩, hb3⟩; obtain ⟨hys, hk3⟩ := KY.out y w3 hy hb3; have hB3 := BW.out _ w3 BD.out hb3; have HY := Lib.hid hy; have HB3 := Lib.hid hb3; clear hy hb3)
          | (go_at_call 22; refine (s_Written_any y c.quoted _ hys).mono ?_; rintro e w3' ⟨⟨z, rfl, hz⟩, rfl⟩; have hzs := KZ.out y z HY.out hz; have HZ := Lib.hid hz; clear hz)
          | (go_at_call 25; refine (plain_any c _).mono ?_; rintro e w4 ⟨rfl, hb4⟩; have hk4 : w4.heap[N]? = some (.cells c.cells 26 (0, 0)) := (by first | exact KB.out _ _ hb4 hk3 | exact KB.out _ _ hb4 (heap_keep hk3 _)); have hB4 : Below w.heap.size w w4 := (by first | exact BW.out _ w4 hB3 hb4 | exact BW.out _ w4 (BA.out _ _ hB3) hb4); have HB4 := Lib.hid hb4; clear hb4)
          | (go_at_call 18; refine (i_ValidDomain_any c.domain _ hd4).mono ?_; rintro e w4' ⟨rfl, rfl⟩)
          | (go_at_call 24; refine (attr_any c _ _ HF.out).mono ?_; rintro e w5 ⟨v, xs, rfl, hown, hxs, hb5, hnil⟩; have hxe := NIL.out xs hxs; obtain rfl := hnil hxe; have hk5 : w5.heap[N]? = some (.cells c.cells 26 (0, 0)) := (by first | exact KB.out _ _ hb5 hk4 | exact KB.out _ _ hb5 (heap_keep hk4 _)); have hB5 : Below w.heap.size w w5 := (by first | exact BW.out _ w5 hB4 hb5 | exact BW.out _ w5 (BA.out _ _ hB4) hb5); have HB5 := Lib.hid hb5; clear hb5 hxs hown hnil hxe)
          | (refine step_app_nil (by rfl) _ _ _ (by rfl) (N + 1) 9 i0 Tryd.underlying24 hi _ 1 [.string (c.name ++ ⟨#[61]⟩ ++ z)] (by rfl) ?_ (by rfl) ?_
             · rw [hz1]
               first
                 | exact own_one rfl (blk_later HB5.out (blk_later HB4.out (blk_new _ _ _))) (WS.out w3 HB3.out)
                 | exact own_one rfl (blk_later HB5.out (blk_new _ _ _)) (Nat.le_trans (WS.out w3 HB3.out) HB4.out.size)
                 | exact own_one rfl (blk_new _ _ _) (Nat.le_trans (Nat.le_trans (WS.out w3 HB3.out) HB4.out.size) HB5.out.size)
             have HZ2 : Hid ((c.name ++ ⟨#[61]⟩ ++ z).data.toList = setA c) := Lib.hid (by rw [app_data, app_data, HZ.out, HY.out]; rfl)
             first
               | (have HW6 : Hid (WantPost c N w (.slice (some ⟨w3.heap.size, 0, none⟩) 1 1) w5) := Lib.hid ⟨[], c.name ++ ⟨#[61]⟩ ++ z, w3.heap.size, 1, rfl, own_one rfl (blk_later HB5.out (blk_later HB4.out (blk_new _ _ _))) (WS.out w3 HB3.out), HZ2.out, HA0.out.symm, hB5⟩)
               | (have HW6 : Hid (WantPost c N w (.slice (some ⟨w4.heap.size, 0, none⟩) 1 1) w5) := Lib.hid ⟨[], c.name ++ ⟨#[61]⟩ ++ z, w4.heap.size, 1, rfl, own_one rfl (blk_later HB5.out (blk_new _ _ _)) (Nat.le_trans (WS.out w3 HB3.out) HB4.out.size), HZ2.out, HA0.out.symm, hB5⟩)
               | (have HW6 : Hid (WantPost c N w (.slice (some ⟨w5.heap.size, 0, none⟩) 1 1) (w5.alloc (.cells #[.string (c.name ++ ⟨#[61]⟩ ++ z)] 9))) := Lib.hid ⟨[], c.name ++ ⟨#[61]⟩ ++ z, w5.heap.size, 1, rfl, own_one rfl (blk_new _ _ _) (Nat.le_trans (Nat.le_trans (WS.out w3 HB3.out) HB4.out.size) HB5.out.size), HZ2.out, HA0.out.symm, BA.out _ _ hB5⟩)))
        all_goals (go_wp2; go_meet; case rel => exact HW6.out)
      · have NE : Hid (∀ xs : List ByteArray, xs.map (fun x => x.data.toList) = attrL c (vdB c.domain.data.toList) → 0 < xs.length) := Lib.hid (fun xs h => by
          rcases Nat.eq_zero_or_pos xs.length with h0 | h0
          · rw [List.eq_nil_of_length_eq_zero h0] at h; exact absurd h.symm hA
          · exact h0)
        go_region_held3 (fun w' => w'.cell? ⟨N, 0, none⟩ = some (.string c.name) ∧ w'.cell? ⟨N, 1, none⟩ = some (.string c.value) ∧ w'.cell? ⟨N, 2, none⟩ = some (.bool c.quoted) ∧ w'.cell? ⟨N, 3, none⟩ = some (.string c.path) ∧ w'.cell? ⟨N, 4, none⟩ = some (.string c.domain) ∧ w'.cell? ⟨N, 5, none⟩ = some (.int .i64 c.age) ∧ w'.cell? ⟨N, 6, none⟩ = some (.bool c.secure) ∧ w'.cell? ⟨N, 7, none⟩ = some (.bool c.http) ∧ w'.cell? ⟨N, 8, none⟩ = some (.int .i64 c.site) ∧ w'.cell? ⟨N, 9, none⟩ = some (.bool c.part) ∧ w'.cell? ⟨N, 10, none⟩ = some (.string c.raw) ∧ w'.cell? ⟨N, 11, none⟩ = some (.slice c.uo c.un c.uc)) (first | exact ck_cells HBK | exact ck_cells hkd | exact ck_cells hk3 | exact ck_cells (heap_keep hk3 _) | exact ck_cells hk4 | exact ck_cells (heap_keep hk4 _) | exact ck_cells hk5 | exact ck_cells (heap_keep hk5 _) | exact ck_cells hk6) (first
          | (go_at_call 23; refine (s_Kept_false c.value _ hv4).mono ?_; rintro e w3 ⟨⟨y, rfl, hy⟩, hb3⟩; obtain ⟨hys, hk3⟩ := KY.out y w3 hy hb3; have hB3 := BW.out _ w3 BD.out hb3; have HY := Lib.hid hy; have HB3 := Lib.hid hb3; clear hy hb3)
          | (go_at_call 22; refine (s_Written_any y c.quoted _ hys).mono ?_; rintro e w3' ⟨⟨z, rfl, hz⟩, rfl⟩; have hzs := KZ.out y z HY.out hz; have HZ := Lib.hid hz; clear hz)
          | (go_at_call 25; refine (plain_any c _).mono ?_; rintro e w4 ⟨rfl, hb4⟩; have hk4 : w4.heap[N]? = some (.cells c.cells 26 (0, 0)) := (by first | exact KB.out _ _ hb4 hk3 | exact KB.out _ _ hb4 (heap_keep hk3 _)); have hB4 : Below w.heap.size w w4 := (by first | exact BW.out _ w4 hB3 hb4 | exact BW.out _ w4 (BA.out _ _ hB3) hb4); have HB4 := Lib.hid hb4; clear hb4)
          | (go_at_call 18; refine (i_ValidDomain_any c.domain _ hd4).mono ?_; rintro e w4' ⟨rfl, rfl⟩)
          | (go_at_call 24; refine (attr_any c _ _ HF.out).mono ?_; rintro e w5 ⟨v, xs, rfl, hown, hxs, hb5, -⟩; have hxp := NE.out xs hxs; obtain ⟨g5, cap5, rfl, -⟩ := own_pos hown hxp; have hk5 : w5.heap[N]? = some (.cells c.cells 26 (0, 0)) := (by first | exact KB.out _ _ hb5 hk4 | exact KB.out _ _ hb5 (heap_keep hk4 _)); have hB5 : Below w.heap.size w w5 := (by first | exact BW.out _ w5 hB4 hb5 | exact BW.out _ w5 (BA.out _ _ hB4) hb5); have HB5 := Lib.hid hb5; have HXS := Lib.hid hxs; have HOWN := Lib.hid hown; clear hb5 hxs hown)
          | (refine step_append_lies _ (by rfl) _ _ _ (by rfl) (N + 1) 9 i0 _ 1 16 Tryd.underlying24 hi hz0 hz1 hz2 rfl (by omega) _ 1 [.string (c.name ++ ⟨#[61]⟩ ++ z)] (by rfl) ?_ ⟨g5, 0, none⟩ xs.length cap5 (xs.map Value.string) (by rfl) ?_ ?_ ?_ hxp ?_ ?_ ?_ _ rfl ?_
             · first
                 | exact own_one rfl (blk_later HB5.out (blk_later HB4.out (blk_new _ _ _))) (WS.out w3 HB3.out)
                 | exact own_one rfl (blk_later HB5.out (blk_new _ _ _)) (Nat.le_trans (WS.out w3 HB3.out) HB4.out.size)
                 | exact own_one rfl (blk_new _ _ _) (Nat.le_trans (Nat.le_trans (WS.out w3 HB3.out) HB4.out.size) HB5.out.size)
             · simp
             · first
                 | exact HOWN.out.cells rfl
                 | exact (HOWN.out.alloc _).cells rfl
             · (intro u hu; simp only [List.mem_map] at hu; obtain ⟨q, -, rfl⟩ := hu; rfl)
             · (have := XL.out xs HXS.out; unfold maxLen; omega)
             · (have := XL.out xs HXS.out; omega)
             · first
                 | (have h1 := WS.out w3 HB3.out; have h2 := HB4.out.size; have h3 := HB5.out.size; rw [alloc_sz] at h2; omega)
                 | (have h1 := WS.out w3 HB3.out; have h2 := HB4.out.size; have h3 := HB5.out.size; rw [alloc_sz] at h3; omega)
                 | (have h1 := WS.out w3 HB3.out; have h2 := HB4.out.size; have h3 := HB5.out.size; rw [alloc_sz]; omega)
             intro g6 cap6 w6 hown6 hg6 hat6 hlt6
             have hk6 : w6.heap[N]? = some (.cells c.cells 26 (0, 0)) := by
               first
                 | exact (hg6.block N (Array.getElem?_eq_some_iff.1 hk5).1 (by intro e; have e2 : N = w3.heap.size := Option.some.inj e; have := WS.out w3 HB3.out; omega)).trans hk5
                 | exact (hg6.block N (Array.getElem?_eq_some_iff.1 hk5).1 (by intro e; have e2 : N = w4.heap.size := Option.some.inj e; have := WS.out w3 HB3.out; have := HB4.out.size; omega)).trans hk5
                 | exact (hg6.block N (Array.getElem?_eq_some_iff.1 (heap_keep hk5 _)).1 (by intro e; have e2 : N = w5.heap.size := Option.some.inj e; have := WS.out w3 HB3.out; have := HB4.out.size; have := HB5.out.size; omega)).trans (heap_keep hk5 _)
             have hB6 : Below w.heap.size w w6 := by
               first
                 | exact hB5.grown hg6 hB5.size (fun k hk => by have e2 : w3.heap.size = k := Option.some.inj hk; have := hB3.size; omega)
                 | exact hB5.grown hg6 hB5.size (fun k hk => by have e2 : w4.heap.size = k := Option.some.inj hk; have := hB4.size; omega)
                 | exact (BA.out _ _ hB5).grown hg6 (BA.out _ _ hB5).size (fun k hk => by have e2 : w5.heap.size = k := Option.some.inj hk; have := hB5.size; omega)
             have HW6 : Hid (WantPost c N w (.slice (some ⟨g6, 0, none⟩) (1 + xs.length) cap6) w6) := Lib.hid ⟨xs, c.name ++ ⟨#[61]⟩ ++ z, g6, cap6, rfl, hown6, by rw [app_data, app_data, HZ.out, HY.out]; rfl, HXS.out, hB6⟩
             clear hown6 hB6))
        all_goals (go_wp2; go_meet; case rel => exact HW6.out)
    case rest =>
    obtain ⟨xs, z, g, cap, rfl, hown, hz, hxs, hbc⟩ := hcut
    have hxz : x.size ≤ 4398046511104 := by rw [Lib.size_eq, HX.out]; exact setL_len c HF.out
    have hpa : PartsAt g (z :: xs) wc := by
      refine PartsAt.of_own (B := N + 1) (cap := cap) ?_
      rw [List.length_cons, Nat.add_comm xs.length 1]
      exact hown
    have hcap : 1 + xs.length ≤ cap := by
      rcases hown.2 with ⟨h1, _⟩ | ⟨g', cap', cur, h1, _, _, h2, _⟩
      · cases h1
      · cases h1; exact h2
    have XLen : Hid (xs.length ≤ 10) := Lib.hid (XL.out xs hxs)
    have HXS := Lib.hid hxs
    have HZ := Lib.hid hz
    have HPA := Lib.hid hpa
    have HBC := Lib.hid hbc
    clear hxs hz hown hpa hbc HBK hkd KY KZ KB WS XL BW BA BD HLT2
    go_wp2_with fail
    refine (s_Split_any x 59 59 rfl _ hxz).mono ?_
    rintro e w7 ⟨ps, ⟨gp, capp, rfl, hownp, hb7⟩, hps⟩
    have hps2 : ps.map (fun y => y.data.toList) = setA c :: (writtenL c).map (fun p => 32 :: p) := by
      rw [hps, HX.out]; exact set_parts c HT.out
    have hpl : ps.length = 1 + xs.length := by
      have h1 := congrArg List.length hps2
      have h2 := congrArg List.length HXS.out
      rw [List.length_map, List.length_cons, List.length_map, written_len] at h1
      rw [List.length_map] at h2
      omega
    have hcapp : ps.length ≤ capp := by
      rcases hownp.2 with ⟨h1, _⟩ | ⟨g', cap', cur, h1, _, _, h2, _⟩
      · cases h1
      · cases h1; exact h2
    have hpp : PartsAt gp ps w7 := PartsAt.of_own hownp
    have hpw : PartsAt g (z :: xs) w7 := HPA.out.kept hb7
    have hp0 : 0 < ps.length := by omega
    have hpz : ps[0] = z := ba_ext (by
      have h1 : (ps.map fun y => y.data.toList)[0]'(by simpa using hp0) = setA c := by simp only [hps2, List.getElem_cons_zero]
      rw [List.getElem_map] at h1
      rw [h1, HZ.out])
    have cw0 : w7.cell? ⟨g, 0, none⟩ = some (.string z) := hpw.cell (k := 0) (by simp)
    have cp0 : w7.cell? ⟨gp, 0, none⟩ = some (.string z) := by rw [hpp.cell hp0, hpz]
    have CW : Hid (∀ i (hi : i < xs.length), w7.cell? ⟨g, 1 + i, none⟩ = some (.string xs[i])) := Lib.hid (fun i hi => by
      have := hpw.cell (k := 1 + i) (by rw [List.length_cons]; omega)
      rw [this]
      congr 2
      simp [Nat.add_comm 1 i])
    have CP : Hid (∀ j (hj : 1 + j < ps.length), w7.cell? ⟨gp, 1 + j, none⟩ = some (.string ps[1 + j])) := Lib.hid (fun j hj => hpp.cell hj)
    have FIND : Hid (∀ i (hi : i < xs.length), ∃ j, ∃ hj : 1 + j < ps.length, ps[1 + j].data.toList = 32 :: xs[i].data.toList) := Lib.hid (fun i hi => by
      have h1 : xs[i].data.toList ∈ attrL c (vdB c.domain.data.toList) := by rw [← HXS.out]; exact List.mem_map.2 ⟨_, List.getElem_mem hi, rfl⟩
      have h2 : (32 :: xs[i].data.toList) ∈ (writtenL c).map (fun p => 32 :: p) := List.mem_map.2 ⟨_, attr_written c _ h1, rfl⟩
      obtain ⟨j, hj, he⟩ := List.getElem_of_mem h2
      have h3 : (ps.map fun y => y.data.toList).length = ((writtenL c).map (fun p => 32 :: p)).length + 1 := by rw [hps2]; rfl
      rw [List.length_map] at h3
      refine ⟨j, by omega, ?_⟩
      have h4 : (ps.map fun y => y.data.toList)[1 + j]'(by rw [List.length_map]; omega) = 32 :: xs[i].data.toList := by
        simp only [hps2, Nat.add_comm 1 j, List.getElem_cons_succ]
        exact he
      rw [List.getElem_map] at h4
      exact h4)
    have HB7 := Lib.hid (HBC.out.trans (hb7.mono HBC.out.size))
    have HPL := Lib.hid hpl
    rw [hpl] at hcapp ⊢
    have SZ : Hid (∀ i (hi : i < xs.length), xs[i].size < 4398046511105) := Lib.hid (fun i hi => by
      obtain ⟨j, hj, he⟩ := FIND.out i hi
      have h5 := splitL_mem_le 59 x.data.toList ps[1 + j].data.toList (by rw [← hps]; exact List.mem_map.2 ⟨_, List.getElem_mem hj, rfl⟩)
      rw [he, List.length_cons, ← Lib.size_eq, ← Lib.size_eq] at h5
      omega)
    clear hps hps2 hpl hpp hpw hownp hb7 HPA HBC hp0 hpz HX
    go_wp2_with fail
    go_quiet (fail)
    rcases Nat.eq_zero_or_pos xs.length with h0 | h0
    · have H0 := Lib.hid h0
      rw [h0] at hcap hcapp ⊢
      clear cw0 cp0 h0
      rcases Nat.lt_or_ge 1 cap with hc1 | hc1
      · have hc2 : ¬ cap = 1 := by omega
        go_wp2
        go_loop [62] (fun i => i = .int .i64 0) (fun _ => 0)
        case atStart => rfl
        case round =>
          subst hrel
          go_wp2_with (go_at_call 16; refine (works_any _).mono ?_; rintro e w8 ⟨rfl, hb8⟩)
          go_ret
          exact ⟨rfl, HN.out ▸ (below_drewN HB7.out _).trans (hb8.mono (below_drewN HB7.out _).size)⟩
      · have hc2 : cap = 1 := by omega
        subst hc2
        go_wp2
        go_loop [62] (fun i => i = .int .i64 0) (fun _ => 0)
        case atStart => rfl
        case round =>
          subst hrel
          go_wp2_with (go_at_call 16; refine (works_any _).mono ?_; rintro e w8 ⟨rfl, hb8⟩)
          go_ret
          exact ⟨rfl, HN.out ▸ (below_drewN HB7.out _).trans (hb8.mono (below_drewN HB7.out _).size)⟩
    have hc2 : ¬ cap = 1 := by omega
    have hc3 : ¬ capp = 1 := by omega
    have hc4 : ¬ 1 = cap := by omega
    have hc5 : ¬ 1 = capp := by omega
    have hn10 : xs.length ≤ 10 := XLen.out
    clear hcap hcapp
    go_wp2
    go_loop [62] (fun i => ∃ k : Nat, k ≤ xs.length ∧ i = .int .i64 k) (fun i => xs.length - (intOf i).toNat)
    case atStart => exact ⟨0, Nat.zero_le _, rfl⟩
    case round =>
      obtain ⟨k, hk, rfl⟩ := hrel
      by_cases hlt : k < xs.length
      case neg =>
        have hd : decide (k < xs.length) = false := by rw [decide_eq_false_iff_not]; exact hlt
        go_wp2_with (go_at_call 16; refine (works_any _).mono ?_; rintro e w8 ⟨rfl, hb8⟩)
        go_ret
        exact ⟨rfl, HN.out ▸ (below_drewN HB7.out _).trans (hb8.mono (below_drewN HB7.out _).size)⟩
      have ci := CW.out k hlt
      have yz := SZ.out k hlt
      have FK := Lib.hid (FIND.out k hlt)
      obtain ⟨y, hy⟩ : ∃ y, xs[k] = y := ⟨_, rfl⟩
      rw [hy] at ci yz FK
      clear hy
      have m1 : ¬ 9223372036854775807 < 1 + y.size := by omega
      have hd : decide (k < xs.length) = true := by rw [decide_eq_true_iff]; exact hlt
      go_wp2
      go_loop [8, 69] (fun f j => ∃ (m : Nat) (b : Bool), m ≤ xs.length ∧ j = .int .i64 m ∧ f = .bool b ∧ (∀ j' (h : 1 + j' < ps.length), j' < m → ps[1 + j'].data.toList = 32 :: y.data.toList → b = true)) (fun _ j => xs.length - (intOf j).toNat)
      case atStart => exact ⟨0, false, Nat.zero_le _, rfl, rfl, fun _ _ h => by omega⟩
      case round =>
        obtain ⟨m, b, hm, rfl, rfl, hall⟩ := hrel
        have HALL := Lib.hid hall
        clear hall
        by_cases hlt2 : m < xs.length
        case neg =>
          obtain ⟨j, hj, he⟩ := FK.out
          have hbt : b = true := HALL.out j hj (by have := HPL.out; omega) he
          subst hbt
          have hd2 : decide (m < xs.length) = false := by rw [decide_eq_false_iff_not]; exact hlt2
          clear he hj
          go_wp2
          go_round
          case rel => exact ⟨k + 1, by omega, by go_num⟩
          case measure => simp [intOf]; omega
        have hj : 1 + m < ps.length := by rw [HPL.out]; omega
        have cm := CP.out m hj
        obtain ⟨q, hq⟩ : ∃ q, ps[1 + m] = q := ⟨_, rfl⟩
        rw [hq] at cm
        have HQ := Lib.hid hq
        have hd2 : decide (m < xs.length) = true := by rw [decide_eq_true_iff]; exact hlt2
        clear hq
        rcases b with _ | _
        case true =>
          go_wp2
          go_round
          case rel => exact ⟨m + 1, true, by omega, by go_num, rfl, fun _ _ _ _ => rfl⟩
          case measure => simp [intOf]; omega
        by_cases heq : q.data.toList = 32 :: y.data.toList
        · obtain rfl : q = (⟨#[32]⟩ : ByteArray) ++ y := ba_ext (by rw [app_data]; exact heq)
          clear heq
          go_wp2
          go_round
          case rel => exact ⟨m + 1, _, by omega, by go_num, rfl, fun _ _ _ _ => by simp⟩
          case measure => simp [intOf]; omega
        · have HNQ := Lib.hid heq
          clear heq
          go_wp2
          go_round
          case rel =>
            refine ⟨m + 1, _, by omega, by go_num, rfl, fun j' h hj' hp => ?_⟩
            rcases Nat.lt_or_ge j' m with h1 | h1
            · exact absurd (HALL.out j' h h1 hp) (by decide)
            · obtain rfl : j' = m := by omega
              rw [HQ.out] at hp
              exact absurd hp HNQ.out
          case measure => simp [intOf]; omega
end Go.Proofs.YtfijncfoefbohaaDoor
