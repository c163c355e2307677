/- readSetCookies, ZZReadSetCookies, impl.ReadSet: the cookies of the lines that set one. -/
import Derived.Test.YtfijncfoefbohaaDoorISet
import Derived.Test.YtfijncfoefbohaaDoorMap1
import Derived.Test.YtfijncfoefbohaaDoorSame
import Derived.Test.YtfijncfoefbohaaDoorLawClean
namespace Go.Proofs.YtfijncfoefbohaaDoor
open Go Go.RowKit

/-- The cookies cs are the plain ones, their lists of unread parts stand. -/
def CksAre (B : Nat) (pcs : List PC) (cs : List Ck) (w : World) : Prop := cs.length = pcs.length ∧ ∀ i (h : i < cs.length) (h2 : i < pcs.length), CkEq cs[i] pcs[i] ∧ UnpAt B cs[i] pcs[i].unp w
theorem UnpAt.grown {B B' e size n : Nat} {c : Ck} {l : List (List UInt8)} {v : Value} {xs : List Value} {w w' : World} (h : UnpAt B c l w) (ho : w.ownsRow B' e size v n xs) (hne : e ≠ 9) (hg : w.grownBy w' v.ownBlock) : UnpAt B c l w' := by
  obtain ⟨us, h1, h2⟩ := h
  refine ⟨us, h1.kept hg ?_, h2⟩
  rcases h1.2 with ⟨e1, _⟩ | ⟨g, cap, cur, e1, _, hh, _⟩
  · rw [e1]; exact .inl rfl
  · rw [e1]; exact .inr (own_far ho hh hne)
theorem CksAre.nil (B : Nat) (w : World) : CksAre B [] [] w := ⟨rfl, fun i h => by cases h⟩
theorem CksAre.kept {B : Nat} {pcs : List PC} {cs : List Ck} {w w' : World} (h : CksAre B pcs cs w) (hb : Below w.heap.size w w') : CksAre B pcs cs w' :=
  ⟨h.1, fun i h1 h2 => ⟨(h.2 i h1 h2).1, (h.2 i h1 h2).2.kept hb⟩⟩
theorem CksAre.lower {B B' : Nat} {pcs : List PC} {cs : List Ck} {w : World} (h : CksAre B pcs cs w) (hB : B' ≤ B) : CksAre B' pcs cs w :=
  ⟨h.1, fun i h1 h2 => ⟨(h.2 i h1 h2).1, (h.2 i h1 h2).2.lower hB⟩⟩
theorem CksAre.grown {B B' e size n : Nat} {pcs : List PC} {cs : List Ck} {v : Value} {xs : List Value} {w w' : World} (h : CksAre B pcs cs w) (ho : w.ownsRow B' e size v n xs) (hne : e ≠ 9) (hg : w.grownBy w' v.ownBlock) : CksAre B pcs cs w' :=
  ⟨h.1, fun i h1 h2 => ⟨(h.2 i h1 h2).1, (h.2 i h1 h2).2.grown ho hne hg⟩⟩
theorem CksAre.push {B : Nat} {pcs : List PC} {cs : List Ck} {c : Ck} {pc : PC} {w : World} (h : CksAre B pcs cs w) (he : CkEq c pc) (hu : UnpAt B c pc.unp w) : CksAre B (pcs ++ [pc]) (cs ++ [c]) w := by
  refine ⟨by simp [h.1], fun i h1 h2 => ?_⟩
  by_cases hi : i < cs.length
  · have hi2 : i < pcs.length := by rw [← h.1]; exact hi
    rw [List.getElem_append_left hi, List.getElem_append_left hi2]
    exact h.2 i hi hi2
  · have hie : i = cs.length := by simp at h1; omega
    subst hie
    have hpe : cs.length = pcs.length := h.1
    rw [List.getElem_append_right (Nat.le_refl _), List.getElem_append_right (by omega)]
    simpa [hpe] using ⟨he, hu⟩
theorem PtrsAt.push2 {B bb : Nat} {l : List (Nat × Ck)} {v v1 : Value} {w w1 : World} {c : Ck} (h : PtrsAt B l v w) (hb : B ≤ bb) (hck : CkAt bb c w)
    (hown : w1.ownsRow B 79 1 v1 (l.length + 1) ((l.map fun x => .pointer (some ⟨x.1, 0, none⟩)) ++ [.pointer (some ⟨bb, 0, none⟩)]))
    (hg : w.grownBy w1 v.ownBlock) : PtrsAt B (l ++ [(bb, c)]) v1 w1 := by
  refine ⟨by simpa using hown, fun x hx => ?_⟩
  rcases List.mem_append.1 hx with hx | hx
  · obtain ⟨h1, h2⟩ := h.2 x hx
    exact ⟨h1, (hg.block x.1 h2.lt (own_far h.1 h2 (by decide))).trans h2⟩
  · simp only [List.mem_singleton] at hx
    subst hx
    exact ⟨hb, (hg.block bb hck.lt (own_far h.1 hck (by decide))).trans hck⟩
theorem Below.mono_size {B : Nat} {w w' : World} (h : Below B w w') : w.heap.size ≤ w'.heap.size := h.size

def kSetC : ByteArray := ⟨#[83, 101, 116, 45, 67, 111, 111, 107, 105, 101]⟩
def setF (x : ByteArray) : Option PC := setP x.data.toList
def RsPost (xs : List ByteArray) (w : World) (e : Ending) (w' : World) : Prop :=
  (∃ v l, e = .returned v ∧ PtrsAt w.heap.size l v w' ∧ CksAre w.heap.size (xs.filterMap setF) (l.map Prod.snd) w' ∧ l.length ≤ 3000) ∧ Below w.heap.size w w'
theorem ptrs_none (B : Nat) (w : World) : PtrsAt B [] (.slice none 0 0) w := ⟨⟨rfl, .inl ⟨rfl, rfl⟩⟩, fun x hx => by cases hx⟩
theorem ptrs_empty (B : Nat) (w : World) (hB : B ≤ w.heap.size) : PtrsAt B [] (.slice (some ⟨w.heap.size, 0, none⟩) 0 0) (w.alloc (.cells #[] 79)) :=
  ⟨⟨rfl, .inr ⟨w.heap.size, 0, #[], rfl, hB, (alloc_at w #[] 79).1, Nat.le_refl _, by decide, rfl, rfl⟩⟩, fun x hx => by cases hx⟩
theorem filter_step {xs : List ByteArray} {k : Nat} (hk : k < xs.length) {o : Option PC} (h : setF xs[k] = o) : (xs.take (k + 1)).filterMap setF = (xs.take k).filterMap setF ++ o.toList := by
  rw [List.take_succ_eq_append_getElem hk, List.filterMap_append]
  congr 1
  cases o <;> simp [h]

set_option maxHeartbeats 4000000 in
set_option maxRecDepth 100000 in
theorem readSet_any (b : Nat) (xs : List ByteArray) (v : Value) (w : World) (hh : Hdr1 b kSetC v w) (hs : StrsAt xs v w) (hn : xs.length ≤ 3000) (hz : ∀ k (h : k < xs.length), xs[k].size ≤ 4398046511104) (he : ErrsS w) (hv : NumVars w) :
    Calls Tryd.prog 94 #[.map (some b)] w (RsPost xs w) := by
  obtain ⟨B, hB⟩ : ∃ B, B = w.heap.size := ⟨_, rfl⟩
  have HB := Lib.hid hB
  have hB0 : B ≤ w.heap.size := by omega
  clear hB
  obtain ⟨i0, hi, hz0, hz1, hz2⟩ := info_parts ptrInfo
  obtain ⟨ao, cap, rfl, hc⟩ := hs.form
  have HH := Lib.hid hh
  have HC := Lib.hid hc
  have HZ := Lib.hid hz
  have HE := Lib.hid he
  have HV := Lib.hid hv
  clear hh hs hc hz he hv
  rcases Nat.eq_zero_or_pos xs.length with h0 | h0
  · have hd : ((xs.length : Int) == 0) = true := by rw [beq_iff_eq]; omega
    have hd' : (xs.length == 0) = true := by rw [beq_iff_eq]; omega
    have HX : Hid (xs = []) := Lib.hid (List.eq_nil_of_length_eq_zero h0)
    clear h0
    go_enter Tryd.func94, Tryd.ntmps94
    go_wp2_with (at_lookup; refine wpList_look1 rfl _ _ rfl b kSetC _ rfl rfl HH.out ?_)
    go_ret
    have h1 := HB.out
    subst h1
    exact ⟨⟨_, [], rfl, ptrs_empty _ _ (Nat.le_refl _), by rw [HX.out]; exact CksAre.nil _ _, Nat.zero_le _⟩, (Below.refl _ _).alloc (Nat.le_refl _) _⟩
  have hd : ((xs.length : Int) == 0) = false := by rw [beq_eq_false_iff_ne]; omega
  have hd' : (xs.length == 0) = false := by rw [beq_eq_false_iff_ne]; omega
  have hd2 : decide ((xs.length : Int) ≤ 3000) = true := by rw [decide_eq_true_iff]; omega
  go_enter Tryd.func94, Tryd.ntmps94
  go_wp2_with (first
    | (at_lookup; refine wpList_look1 rfl _ _ rfl b kSetC _ rfl rfl HH.out ?_)
    | (go_at_call 85; refine (numWithin_any _ _).mono ?_; rintro e w' ⟨rfl, rfl⟩)
    | (at_make; refine wpList_make_own _ rfl _ _ _ rfl B 79 i0 (.pointer none) 1 Tryd.underlying68 hi hz0 hz1 _ _ _ xs.length rfl rfl rfl ?c1 ?c2 ?c3 ?_))
  case c1 => rw [hz2]; omega
  case c2 => unfold maxLen; omega
  case c3 => omega
  intro w1 hown hg
  have hb1 : Below B w w1 := (Below.refl B w).grown hg hB0 (fun k hk => by cases hk)
  have hp1 : PtrsAt B [] (.slice (some ⟨w.heap.size, 0, none⟩) 0 xs.length) w1 := ⟨hown, fun x hx => by cases hx⟩
  clear hown hg
  generalize Value.slice (some ⟨w.heap.size, 0, none⟩) 0 xs.length = v0 at *
  have HB1 := Lib.hid hb1
  have HP1 := Lib.hid hp1
  have HH1 : Hid (Hdr1 b kSetC (.slice ao xs.length cap) w1) := Lib.hid (HH.out.kept (HB.out ▸ HB1.out))
  clear hb1 hp1
  go_wp2_with (at_lookup; refine wpList_look1 rfl _ _ rfl b kSetC _ rfl rfl HH1.out ?_)
  go_loopw [4, 24] (fun v i wr => ∃ (k : Nat) (l : List (Nat × Ck)), k ≤ xs.length ∧ i = .int .i64 k ∧ l.length ≤ k ∧ PtrsAt B l v wr ∧ CksAre B ((xs.take k).filterMap setF) (l.map Prod.snd) wr ∧ Below B w wr) (fun _ i _ => xs.length - (intOf i).toNat)
  case atStart => exact ⟨0, [], Nat.zero_le _, rfl, Nat.le_refl _, HP1.out, CksAre.nil _ _, HB1.out⟩
  case round =>
    obtain ⟨k, l, hk, rfl, hll, hptr, hcks, hbel⟩ := hrel
    have hBw : B ≤ wr.heap.size := Nat.le_trans hB0 hbel.size
    have HLL := Lib.hid hll
    have HBEL := Lib.hid hbel
    have HPTR := Lib.hid hptr
    have HCKS := Lib.hid hcks
    clear hll hbel hptr hcks
    by_cases hlt : k < xs.length
    case neg =>
      have hd3 : decide ((k : Int) < (xs.length : Int)) = false := by rw [decide_eq_false_iff_not]; omega
      go_wp2
      go_ret
      have h1 := HB.out
      rw [h1] at HBEL HPTR HCKS
      refine ⟨⟨_, l, rfl, HPTR.out, ?_, by have := HLL.out; omega⟩, HBEL.out⟩
      have h2 := HCKS.out
      rw [List.take_of_length_le (by omega)] at h2
      exact h2
    have hps := HZ.out k hlt
    obtain ⟨a, rfl, hck0⟩ := HC.out k hlt
    have hck := cell_keep hck0 (HB.out ▸ HBEL.out)
    have HER := Lib.hid (HE.out.kept (HB.out ▸ HBEL.out))
    have HVR := Lib.hid (HV.out.kept (HB.out ▸ HBEL.out))
    obtain ⟨p, hp⟩ : ∃ p, xs[k] = p := ⟨_, rfl⟩
    rw [hp] at hck hps
    have HP := Lib.hid hp
    clear hp hck0
    go_wp2_with fail
    refine (parseSet_any p wr hps HER.out HVR.out).mono ?_
    rintro e w2 ⟨⟨bb, c, pc, rfl, hset, hat, hBb, heq, hun⟩ | ⟨hset, tp, a2, rfl⟩, hb2⟩
    · have HB2 := Lib.hid hb2
      have HF : Hid ((xs.take (k + 1)).filterMap setF = (xs.take k).filterMap setF ++ [pc]) := Lib.hid (filter_step hlt (o := some pc) (by unfold setF; rw [HP.out]; exact hset))
      have HAT := Lib.hid hat
      have HEQ := Lib.hid heq
      have HUN := Lib.hid (hun.lower hBw)
      have hBbb : B ≤ bb := Nat.le_trans hBw hBb
      have HPTR2 := Lib.hid (HPTR.out.kept hb2)
      have HCKS2 := Lib.hid (HCKS.out.kept hb2)
      have HBEL2 := Lib.hid (HBEL.out.trans (hb2.mono hBw))
      have hBw2 : B ≤ w2.heap.size := Nat.le_trans hBw hb2.size
      clear hset hat heq hun hb2 hBb
      go_wp2_with (at_builtin; refine wpList_app1' rfl (.tmp 35) (.tmp 37) _ _ rfl _ _ Tryd.underlying68 ptrInfo rfl B _ _ _ rfl HPTR2.out.1 (.pointer (some ⟨bb, 0, none⟩)) rfl w2.heap.size rfl rfl ?d1 ?d2 ?d3 ?_)
      case d1 => have := HLL.out; omega
      case d2 => have := HLL.out; omega
      case d3 => exact hBw2
      intro g2 cap2 w3 hown1 hb3 hg1 hat hBg
      have R1 := Lib.hid (HPTR2.out.push2 hBbb HAT.out hown1 hg1)
      have R2 := Lib.hid ((HCKS2.out.grown HPTR2.out.1 (by decide) hg1).push HEQ.out (HUN.out.grown HPTR2.out.1 (by decide) hg1))
      have R3 := Lib.hid (HBEL2.out.trans hb3)
      clear hown1 hb3 hg1 hat
      go_wp2
      go_roundw
      case rel => exact ⟨k + 1, _, by omega, by go_num, by rw [List.length_append]; have := HLL.out; simp; omega, R1.out, by rw [HF.out, List.map_append]; exact R2.out, R3.out⟩
      case measure => simp [intOf]; omega
    · have HF : Hid ((xs.take (k + 1)).filterMap setF = (xs.take k).filterMap setF) := Lib.hid (by rw [filter_step hlt (o := none) (by unfold setF; rw [HP.out]; exact hset)]; simp)
      have HPTR2 := Lib.hid (HPTR.out.kept hb2)
      have HCKS2 := Lib.hid (HCKS.out.kept hb2)
      have HBEL2 := Lib.hid (HBEL.out.trans (hb2.mono hBw))
      clear hset hb2
      go_wp2
      go_roundw
      case rel => exact ⟨k + 1, l, by omega, by go_num, by have := HLL.out; omega, HPTR2.out, by rw [HF.out]; exact HCKS2.out, HBEL2.out⟩
      case measure => simp [intOf]; omega

theorem zzReadSet_any (xs : List ByteArray) (v : Value) (w : World) (hs : StrsAt xs v w) (hn : xs.length ≤ 3000) (hz : ∀ k (h : k < xs.length), xs[k].size ≤ 4398046511104) (he : ErrsS w) (hv : NumVars w) :
    Calls Tryd.prog 69 #[v] w (RsPost xs w) := by
  have hmm := @run_makeMap Tryd.prog
  have h0 : Below w.heap.size w (hdrPut (w.alloc (.map #[] 0)) w.heap.size #[⟨.string kSetC, v, 0⟩] 1) := hdrPut_below ((Below.refl _ _).alloc (Nat.le_refl _) _) (Nat.le_refl _) _ _
  have HH : Hid (Hdr1 w.heap.size kSetC v (hdrPut (w.alloc (.map #[] 0)) w.heap.size #[⟨.string kSetC, v, 0⟩] 1)) := Lib.hid ⟨1, hdrPut_at (Hdr0.new w) _ _⟩
  have H0 := Lib.hid h0
  have HS := Lib.hid (hs.below h0)
  have HE := Lib.hid (he.kept h0)
  have HV := Lib.hid (hv.kept h0)
  have HN0 := Lib.hid (Hdr0.new w)
  clear h0 hs he hv
  go_enter Tryd.func69, Tryd.ntmps69
  go_wp2_with (first
    | (refine wpList_insert0 rfl _ _ _ rfl w.heap.size kSetC v rfl rfl rfl HN0.out ?_)
    | (go_at_call 94; refine (readSet_any _ xs v _ HH.out HS.out hn hz HE.out HV.out).mono ?_; rintro e w3 ⟨⟨v3, l, rfl, hp, hc, hl⟩, hb⟩; have R : Hid (RsPost xs w (.returned v3) w3) := Lib.hid ⟨⟨v3, l, rfl, ⟨own_lower hp.1 H0.out.size, fun x hx => ⟨Nat.le_trans H0.out.size (hp.2 x hx).1, (hp.2 x hx).2⟩⟩, hc.lower H0.out.size, hl⟩, H0.out.trans (hb.mono H0.out.size)⟩; clear hp hc hl hb))
  go_ret
  exact R.out

def IRs (xs : List ByteArray) (w : World) (e : Ending) (w' : World) : Prop :=
  (∃ v cs, e = .returned v ∧ AggsAt w.heap.size cs v w' ∧ CksAre w.heap.size (xs.filterMap setF) cs w') ∧ Below w.heap.size w w'
theorem i_ReadSet_any (xs : List ByteArray) (v : Value) (w : World) (hs : StrsAt xs v w) (hn : xs.length ≤ 3000) (hz : ∀ k (h : k < xs.length), xs[k].size ≤ 4398046511104) (he : ErrsS w) (hv : NumVars w) :
    Calls Tryd.prog 43 #[v] w (IRs xs w) := by
  go_enter Tryd.func43, Tryd.ntmps43
  go_wp2_with fail
  refine (zzReadSet_any xs v w hs hn hz he hv).mono ?_
  rintro e w1 ⟨⟨v1, l, rfl, hp, hc, hl⟩, hb⟩
  have HP := Lib.hid hp
  have HC := Lib.hid hc
  have HB := Lib.hid hb
  clear hp hc hb
  go_wp2_with fail
  refine (i_all_any _ l v1 w1 HP.out hl).mono ?_
  rintro e w2 ⟨⟨v2, rfl, hag⟩, hb2⟩
  have R : Hid (IRs xs w (.returned v2) w2) := Lib.hid ⟨⟨v2, _, rfl, own_lower hag HB.out.size, HC.out.kept hb2⟩, HB.out.trans (hb2.mono HB.out.size)⟩
  clear hag hb2
  go_wp2
  go_ret
  exact R.out

/-! ### Two cookies that are the same plain one -/
theorem own_row {B : Nat} {o : Option Addr} {n c : Nat} {us : List ByteArray} {w : World} (h : w.ownsRow B 9 1 (.slice o n c) us.length (us.map Value.string)) : n = us.length ∧ us.length ≤ maxLen ∧ RowIs us o w := by
  rcases h.2 with ⟨h1, h0⟩ | ⟨g, cap, cur, h1, h2, h3, h4, h5, h6⟩
  · cases h1
    exact ⟨h0.symm, by omega, fun i hi => by omega⟩
  · cases h1
    refine ⟨rfl, by omega, fun i hi => ⟨⟨g, 0, none⟩, rfl, ?_⟩⟩
    exact h.cells (g := g) rfl i (.string us[i]) (by simp [hi])
theorem data_inj : ∀ {a b : List ByteArray}, a.map (fun x => x.data.toList) = b.map (fun x => x.data.toList) → a = b
  | [], [], _ => rfl
  | [], _ :: _, h => by cases h
  | _ :: _, [], h => by cases h
  | x :: a, y :: b, h => by
    simp only [List.map_cons, List.cons.injEq] at h
    rw [ba_ext h.1, data_inj h.2]
theorem same_cks (a b : Ck) (pc : PC) (B : Nat) (w : World) (h1 : CkEq a pc) (h2 : CkEq b pc) (u1 : UnpAt B a pc.unp w) (u2 : UnpAt B b pc.unp w) :
    Calls Tryd.prog 44 #[.agg a.pcells, .agg b.pcells] w fun e w' => e = .returned (.bool true) ∧ Below w.heap.size w w' := by
  obtain ⟨us, o1, e1⟩ := u1
  obtain ⟨us2, o2, e2⟩ := u2
  have hus : us2 = us := data_inj (e2.trans e1.symm)
  subst hus
  obtain ⟨n1, l1, r1⟩ := own_row o1
  obtain ⟨n2, l2, r2⟩ := own_row o2
  have hb : b.pcells = ({ a with uo := b.uo, uc := b.uc } : Ck).pcells := by
    unfold Ck.pcells
    rw [ba_ext (h2.name.trans h1.name.symm), ba_ext (h2.value.trans h1.value.symm), h2.quoted.trans h1.quoted.symm, ba_ext (h2.path.trans h1.path.symm), ba_ext (h2.domain.trans h1.domain.symm), h2.age.trans h1.age.symm, h2.secure.trans h1.secure.symm, h2.http.trans h1.http.symm, h2.site.trans h1.site.symm, h2.part.trans h1.part.symm, n2.trans n1.symm]
  rw [hb]
  exact same_true a b.uo b.uc us2 w n1 l1 r1 r2
end Go.Proofs.YtfijncfoefbohaaDoor
