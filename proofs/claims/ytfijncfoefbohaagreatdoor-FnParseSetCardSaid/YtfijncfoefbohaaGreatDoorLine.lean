/- spec.Line. -/
import Derived.Test.YtfijncfoefbohaaGreatDoorApply
namespace Go.Proofs.YtfijncfoefbohaaGreatDoor
open Go Go.RowKit

def PtsAt (B : Nat) (l : List Pt) (v : Value) (w : World) : Prop := w.ownsRow B 28 4 v l.length (l.flatMap fun p => p.cells.toList)
theorem PtsAt.kept {B : Nat} {l : List Pt} {v : Value} {w w' : World} (h : PtsAt B l v w) (hb : Below w.heap.size w w') : PtsAt B l v w' := by
  refine World.ownsRow.kept h (row := none) ⟨hb.os, hb.tape, hb.output, hb.size, fun k hk _ => hb.block k hk⟩ ?_
  cases hv : v.ownBlock <;> simp
theorem flat4 {l : List Pt} {k j : Nat} (hk : k < l.length) (hj : j < 4) : (l.flatMap fun p => p.cells.toList)[4 * k + j]? = l[k].cells[j]? := by
  induction l generalizing k with
  | nil => cases hk
  | cons c l ih =>
    rw [List.flatMap_cons]
    have hc : c.cells.toList.length = 4 := rfl
    cases k with
    | zero => rw [Nat.mul_zero, Nat.zero_add, List.getElem?_append_left (by omega)]; simp
    | succ k =>
      rw [List.getElem?_append_right (by omega), hc, show 4 * (k + 1) + j - 4 = 4 * k + j by omega, ih (by simpa using hk)]
      simp
theorem PtsAt.cell {B : Nat} {l : List Pt} {g cap : Nat} {w : World} (h : PtsAt B l (.slice (some ⟨g, 0, none⟩) l.length cap) w) {k j : Nat} (hk : k < l.length) (hj : j < 4) : w.cell? ⟨g, 4 * k + j, none⟩ = l[k].cells[j]? := by
  have hjl : j < l[k].cells.size := hj
  have h1 := flat4 hk hj
  rw [Array.getElem?_eq_getElem hjl] at h1 ⊢
  have h2 := World.ownsRow.cells h (g := g) rfl (4 * k + j) _ h1
  rw [Lib.add_plain] at h2
  simpa using h2
theorem PtsAt.all {B : Nat} {l : List Pt} {g cap : Nat} {w : World} (h : PtsAt B l (.slice (some ⟨g, 0, none⟩) l.length cap) w) {k : Nat} (hk : k < l.length) :
    w.cell? ⟨g, k * 4, none⟩ = some (.int .i64 l[k].kind) ∧ w.cell? ⟨g, k * 4 + 1, none⟩ = some (.string l[k].name) ∧ w.cell? ⟨g, k * 4 + 2, none⟩ = some (.string l[k].value) ∧ w.cell? ⟨g, k * 4 + 3, none⟩ = some (.int .i64 l[k].cas) := by
  have hc : ∀ j, j < 4 → w.cell? ⟨g, k * 4 + j, none⟩ = l[k].cells[j]? := fun j hj => by rw [Nat.mul_comm]; exact h.cell hk hj
  exact ⟨hc 0 (by omega), hc 1 (by omega), hc 2 (by omega), hc 3 (by omega)⟩
theorem PtsAt.shape {B : Nat} {l : List Pt} {v : Value} {w : World} (h : PtsAt B l v w) : ∃ ao cap, v = .slice ao l.length cap ∧ (0 < l.length → ∃ g, ao = some ⟨g, 0, none⟩) := by
  rcases h.2 with ⟨rfl, h0⟩ | ⟨g, cap, cur, rfl, _⟩
  · exact ⟨none, 0, by rw [h0], fun h1 => by omega⟩
  · exact ⟨_, _, rfl, fun _ => ⟨g, rfl⟩⟩
theorem pck_cells {b : Nat} {c : Ck} {w : World} (h : w.heap[b]? = some (.cells c.pcells 31 (0, 0))) : w.cell? ⟨b, 0, none⟩ = some (.string c.name) ∧ w.cell? ⟨b, 1, none⟩ = some (.string c.value) ∧ w.cell? ⟨b, 2, none⟩ = some (.bool c.quoted) ∧ w.cell? ⟨b, 3, none⟩ = some (.string c.path) ∧ w.cell? ⟨b, 4, none⟩ = some (.string c.domain) ∧ w.cell? ⟨b, 5, none⟩ = some (.int .i64 c.age) ∧ w.cell? ⟨b, 6, none⟩ = some (.bool c.secure) ∧ w.cell? ⟨b, 7, none⟩ = some (.bool c.http) ∧ w.cell? ⟨b, 8, none⟩ = some (.int .i64 c.site) ∧ w.cell? ⟨b, 9, none⟩ = some (.bool c.part) ∧ w.cell? ⟨b, 10, none⟩ = some (.slice c.uo c.un c.uc) := by
  have hc : ∀ j, w.cell? ⟨b, j, none⟩ = c.pcells[j]? := fun j => Lib.cell_of_heap h j
  exact ⟨hc 0, hc 1, hc 2, hc 3, hc 4, hc 5, hc 6, hc 7, hc 8, hc 9, hc 10⟩
theorem pck_one (c : Ck) : ∀ u ∈ c.pcells.toList, u.oneCell' = true := by
  intro u hu
  simp only [Ck.pcells, List.mem_cons, List.not_mem_nil, or_false] at hu
  rcases hu with h | h | h | h | h | h | h | h | h | h | h <;> subst h <;> rfl
theorem put_row {b : Nat} {w w2 : World} {cs : Array Value} {T : TypeId} (h0 : w2.heap[b]? = some (.cells cs T (0, 0))) (hb : Below b w w2) (ds : Array Value) :
    Hid ((w2.setRow b ds).heap[b]? = some (.cells ds T (0, 0))) ∧ Hid (Below b w (w2.setRow b ds)) := ⟨Lib.hid (setRow_heap w2 _ _ _ _ _ h0), Lib.hid (below_setRow hb (Nat.le_refl _) _)⟩
theorem results3 {P : Program} {fn : Func} {o p q : Tmp} {ty : TypeId} (h : fn.results = #[.tmp o, .cell p ty, .tmp q]) (tmps : Array Value) (w : World) (g : Nat) (t : TypeId) (cs : Array Value) (fr : Nat × Nat) (d : TypeDesc) (v u : Value)
    (ho : tmps.getD o undef = v) (hp : tmps.getD p undef = .pointer (some ⟨g, 0, none⟩)) (hq : tmps.getD q undef = u) (hg : w.heap[g]? = some (.cells cs t fr))
    (hu : P.underlying ty = some d) (hd : (match d with | .struct _ | .array _ _ => true | _ => false) = true) (hi : (P.info? ty).map (·.size) = some cs.size) :
    (results fn tmps).run P w = .ok (.tuple #[v, .agg cs, u]) w := by
  have ho' : tmps[o]?.getD undef = v := by simpa using ho
  have hp' : tmps[p]?.getD undef = .pointer (some ⟨g, 0, none⟩) := by simpa using hp
  have hq' : tmps[q]?.getD undef = u := by simpa using hq
  simp [results, h, ho', hp', hq', asAddr, run_loadVar_row w g t ty cs fr d hg hu hd hi]

/-- What the parts say of the cookie that is wanted. -/
def wantPC (n v : List UInt8) (q : Bool) (ps : List Pt) : PC := (ps.map fun p => 32 :: textT p).foldl attrStep ⟨n, v, q, [], [], 0, false, false, 0, false, [], []⟩
structure LineOk (B : Nat) (n v : List UInt8) (q : Bool) (ps : List Pt) (line : ByteArray) (c : Ck) (w : World) : Prop where
  tok : tokS n = true
  oct : allB octB v = true
  size : line.size ≤ 429496729600
  line : line.data.toList = headT n v q ++ items (ps.map textT)
  texts : ∀ p ∈ ps, TextOk p
  want : CkEq c (wantPC n v q ps)
  unp : UnpAt B c (wantPC n v q ps).unp w
def LinePost (B : Nat) (n v : List UInt8) (q : Bool) (ps : List Pt) (e : Ending) (w : World) : Prop :=
  ∃ (line : ByteArray) (c : Ck) (ok : Bool), e = .returned (.tuple #[.string line, .agg c.pcells, .bool ok]) ∧ (ok = true → LineOk B n v q ps line c w)
theorem LinePost.no {B : Nat} {n v : List UInt8} {q : Bool} {ps : List Pt} {line : ByteArray} {c : Ck} {w : World} : LinePost B n v q ps (.returned (.tuple #[.string line, .agg c.pcells, .bool false])) w := ⟨line, c, false, rfl, fun h => by cases h⟩

theorem base_len (p : Pt) : (baseT p).length ≤ p.name.size + 11 := by
  unfold baseT
  split
  · unfold kn
    refine Nat.le_trans (m := 11) ?_ (by omega)
    generalize p.kind.toNat = k
    match k with
    | 0 => decide
    | 1 => decide
    | 2 => decide
    | 3 => decide
    | 4 => decide
    | 5 => decide
    | 6 => decide
    | n + 7 => exact Nat.zero_le _
  · rw [← Lib.size_eq]; omega
theorem text_len (p : Pt) : (textT p).length ≤ p.name.size + p.value.size + 12 := by
  have h1 : (nameT p).length = (baseT p).length := by
    unfold nameT caseT
    split
    · unfold Lib.toLowerA; rw [List.length_map]
    · split
      · unfold Lib.toUpperA; rw [List.length_map]
      · rfl
  have h2 := base_len p
  unfold textT
  split
  · omega
  · rw [List.length_append, List.length_cons, ← Lib.size_eq]; omega
theorem items_snoc (A : List (List UInt8)) (t : List UInt8) : items (A ++ [t]) = items A ++ 59 :: 32 :: t := by unfold items; simp
/-- Under way in spec.Line. -/
structure LnS (M : Nat) (n v : List UInt8) (q : Bool) (ps : List Pt) (k : Nat) (lb : ByteArray) (c : Ck) (w1 wr : World) : Prop where
  line : lb.data.toList = headT n v q ++ items ((ps.take k).map textT)
  size : lb.size ≤ 6442450960 + k * 6442450960
  texts : ∀ p ∈ ps.take k, TextOk p
  want : WantS M M k c (wantPC n v q (ps.take k)) wr
  be : Below M w1 wr
theorem pts_snoc {ps : List Pt} {k : Nat} (h : k < ps.length) : ps.take (k + 1) = ps.take k ++ [ps[k]] := by simp
theorem LnS.next {M : Nat} {n v : List UInt8} {q : Bool} {ps : List Pt} {k : Nat} {lb t : ByteArray} {c c' : Ck} {w1 wr wz : World} (h : LnS M n v q ps k lb c w1 wr) (hk : k < ps.length)
    (hz : (ps[k]).name.size ≤ 2147483647 ∧ (ps[k]).value.size ≤ 2147483647) (ho : TextOk ps[k]) (ht : t.data.toList = textT ps[k]) (hw : WantS M M (k + 1) c' (attrStep (wantPC n v q (ps.take k)) (32 :: textT ps[k])) wz) (hb : Below M wr wz) :
    LnS M n v q ps (k + 1) (lb ++ (⟨#[59, 32]⟩ ++ t)) c' w1 wz := by
  have hl : t.size ≤ 4294967306 := by
    rw [Lib.size_eq, ht]
    have := text_len ps[k]
    omega
  refine ⟨?_, ?_, ?_, ?_, h.be.trans hb⟩
  · rw [pts_snoc hk, List.map_append, List.map_singleton, items_snoc, ← List.append_assoc, ← h.line, ← ht]
    simp
  · have := h.size
    rw [ByteArray.size_append, ByteArray.size_append]
    have h2 : (⟨#[59, 32]⟩ : ByteArray).size = 2 := rfl
    omega
  · intro p hp
    rw [pts_snoc hk] at hp
    rcases List.mem_append.1 hp with hp | hp
    · exact h.texts p hp
    · simp only [List.mem_singleton] at hp
      rw [hp]; exact ho
  · unfold wantPC at hw ⊢
    rw [pts_snoc hk, List.map_append, List.foldl_append]
    exact hw

set_option maxRecDepth 100000 in
set_option maxHeartbeats 8000000 in
theorem line_any (nm vl : ByteArray) (q : Bool) (ps : List Pt) (v : Value) (w : World) (z1 : nm.size ≤ 2147483647) (z2 : vl.size ≤ 2147483647) (hps : ∀ p ∈ ps, p.name.size ≤ 2147483647 ∧ p.value.size ≤ 2147483647) (hl : ps.length ≤ 30) {B : Nat} (hp : PtsAt B ps v w) :
    Calls Tryz.prog 7 #[.string nm, .string vl, .bool q, v] w fun e w' => LinePost w.heap.size nm.data.toList vl.data.toList q ps e w' ∧ Below w.heap.size w w' := by
  have zm : nm.size ≤ maxLen := by unfold maxLen; omega
  have zv : vl.size ≤ maxLen := by unfold maxLen; omega
  obtain ⟨ao, cap, rfl, hao⟩ := hp.shape
  obtain ⟨b1, b2, b3⟩ := alloc_at w ckZ.pcells 31
  obtain ⟨a1, a2, a3⟩ := alloc_at (w.alloc (.cells ckZ.pcells 31)) ({ ckZ with name := nm, value := vl, quoted := q } : Ck).pcells 31
  have hsz : (w.alloc (.cells ckZ.pcells 31)).heap.size = w.heap.size + 1 := alloc_size' _ _
  rw [hsz] at a1 a2 a3
  go_enter Tryz.func7, Tryz.ntmps7
  go_upto_region 2 with fail
  change Code.wp _ _ _ _ ((w.alloc (.cells ckZ.pcells 31)).alloc (.cells ({ ckZ with name := nm, value := vl, quoted := q } : Ck).pcells 31))
  have h0 := (a2.block w.heap.size (by omega)).trans b1
  have HBW := Lib.hid (b2.trans (a2.mono (Nat.le_succ _)))
  have HPS := Lib.hid hp
  generalize (w.alloc (.cells ckZ.pcells 31)).alloc (.cells ({ ckZ with name := nm, value := vl, quoted := q } : Ck).pcells 31) = w1 at a1 a2 a3 h0 HBW ⊢
  obtain ⟨b0, hb0⟩ : ∃ b0, w.heap.size = b0 := ⟨_, rfl⟩
  rw [hb0] at a1 a2 a3 h0 HBW ⊢
  have HB0 := Lib.hid hb0
  have H0 := Lib.hid h0
  obtain ⟨M, hM⟩ : ∃ M, b0 + 1 = M := ⟨_, rfl⟩
  rw [hM] at a1 a2 a3 ⊢
  have HM := Lib.hid hM
  have HATM : Hid (w1.heap[M]? = some (.cells ({ ckZ with name := nm, value := vl, quoted := q } : Ck).pcells 31 (0, 0))) := Lib.hid a1
  clear a1 a2 b1 b2 b3 h0 hb0 hM hsz hp
  obtain ⟨c0, hc0⟩ : ∃ c0 : Ck, ({ ckZ with name := nm, value := vl, quoted := q } : Ck) = c0 := ⟨_, rfl⟩
  rcases htk : tokS nm.data.toList with _ | _
  · have HTK := Lib.hid htk
    clear htk
    go_upto_region 3 with (go_at_call 12; refine (s_Token_any nm _ zm).mono ?_; rintro e w' ⟨rfl, rfl⟩; rw [HTK.out])
    rw [hc0] at HATM
    clear hc0
    obtain ⟨y0, y1, y2, y3, y4, y5, y6, y7, y8, y9, y10⟩ := pck_cells HATM.out
    go_still_tail 2, (by kernel_rfl)
    change wpList _ _ _ _ _ (World.drew _)
    clear y0 y1 y2 y3 y4 y5 y6 y7 y8 y9 y10
    refine wpList_store_row rfl _ (.tmp 9) (.tmp 29) rfl b0 c0.pcells rfl rfl _ _ (H0.out : (World.drew _).heap[b0]? = _) (by kernel_rfl) rfl (by rw [← Array.all_toList]; exact List.all_eq_true.2 (pck_one c0)) ?_
    obtain ⟨E1, E2⟩ := put_row (w2 := World.drew w1) (H0.out : (World.drew _).heap[b0]? = _) (HBW.out.drew) c0.pcells
    generalize World.setRow (World.drew w1) b0 c0.pcells = w3 at E1 E2 ⊢
    go_wp2_with fail
    (try simp only [Exit.inBlock, Exit.then])
    exact bodyPost_ret (v := .tuple #[.string ⟨#[]⟩, .agg c0.pcells, .bool false]) (results3 rfl _ _ b0 31 c0.pcells (0, 0) _ (.string ⟨#[]⟩) (.bool false) rfl rfl rfl E1.out Tryz.underlying31 rfl (by kernel_rfl)) rfl ⟨LinePost.no, by rw [HB0.out]; exact E2.out⟩
  have HTK := Lib.hid htk
  clear htk
  rcases hoc : allB octB vl.data.toList with _ | _
  · have HOC := Lib.hid hoc
    clear hoc
    go_upto_region 3 with (first
      | (go_at_call 12; refine (s_Token_any nm _ zm).mono ?_; rintro e w' ⟨rfl, rfl⟩; rw [HTK.out])
      | (go_at_call 13; refine (s_Octets_any vl _ zv).mono ?_; rintro e w' ⟨rfl, rfl⟩; rw [HOC.out]))
    rw [hc0] at HATM
    clear hc0
    obtain ⟨y0, y1, y2, y3, y4, y5, y6, y7, y8, y9, y10⟩ := pck_cells HATM.out
    go_still_tail 2, (by kernel_rfl)
    change wpList _ _ _ _ _ (World.drew _)
    clear y0 y1 y2 y3 y4 y5 y6 y7 y8 y9 y10
    refine wpList_store_row rfl _ (.tmp 9) (.tmp 29) rfl b0 c0.pcells rfl rfl _ _ (H0.out : (World.drew _).heap[b0]? = _) (by kernel_rfl) rfl (by rw [← Array.all_toList]; exact List.all_eq_true.2 (pck_one c0)) ?_
    obtain ⟨E1, E2⟩ := put_row (w2 := World.drew w1) (H0.out : (World.drew _).heap[b0]? = _) (HBW.out.drew) c0.pcells
    generalize World.setRow (World.drew w1) b0 c0.pcells = w3 at E1 E2 ⊢
    go_wp2_with fail
    (try simp only [Exit.inBlock, Exit.then])
    exact bodyPost_ret (v := .tuple #[.string ⟨#[]⟩, .agg c0.pcells, .bool false]) (results3 rfl _ _ b0 31 c0.pcells (0, 0) _ (.string ⟨#[]⟩) (.bool false) rfl rfl rfl E1.out Tryz.underlying31 rfl (by kernel_rfl)) rfl ⟨LinePost.no, by rw [HB0.out]; exact E2.out⟩
  have HOC := Lib.hid hoc
  clear hoc
  have HW0 : Hid (WantS M M 0 { ckZ with name := nm, value := vl, quoted := q } (wantPC nm.data.toList vl.data.toList q (ps.take 0)) w1) := Lib.hid ⟨Nat.le_refl _, HATM.out, ⟨rfl, rfl, rfl, rfl, rfl, rfl, rfl, rfl, rfl, rfl, rfl⟩, [], ⟨rfl, .inl ⟨rfl, rfl⟩⟩, rfl, Nat.zero_le _⟩
  rw [hc0] at HW0
  clear hc0
  rcases Bool.eq_false_or_eq_true q with hq | hq
  · subst hq
    go_upto_region 7 with (first
      | (go_at_call 12; refine (s_Token_any nm _ zm).mono ?_; rintro e w' ⟨rfl, rfl⟩; rw [HTK.out])
      | (go_at_call 13; refine (s_Octets_any vl _ zv).mono ?_; rintro e w' ⟨rfl, rfl⟩; rw [HOC.out]))
    obtain ⟨lb0, hlb0⟩ : ∃ lb0 : ByteArray, nm ++ ⟨#[61, 34]⟩ ++ vl ++ ⟨#[34]⟩ = lb0 := ⟨_, rfl⟩
    have HL0 : Hid (LnS M nm.data.toList vl.data.toList true ps 0 lb0 c0 w1 w1) := Lib.hid ⟨by rw [← hlb0]; unfold headT quoL items; simp, by rw [← hlb0]; simp only [ByteArray.size_append]; have e1 : (⟨#[61, 34]⟩ : ByteArray).size = 2 := rfl; have e2 : (⟨#[61]⟩ : ByteArray).size = 1 := rfl; have e3 : (⟨#[34]⟩ : ByteArray).size = 1 := rfl; omega, fun p hp => by simp at hp, HW0.out, Below.refl _ _⟩
    rw [hlb0]
    clear hlb0
    go_wp2
    go_loopw [12, 42] (fun l i wr => ∃ (k : Nat) (lb : ByteArray) (c : Ck), k ≤ ps.length ∧ i = .int .i64 k ∧ l = .string lb ∧ LnS M nm.data.toList vl.data.toList true ps k lb c w1 wr) (fun _ i _ => ps.length - (intOf i).toNat)
    case atStart => exact ⟨0, lb0, c0, Nat.zero_le _, rfl, rfl, HL0.out⟩
    case round =>
      obtain ⟨k, lb, c, hk, rfl, rfl, hln⟩ := hrel
      have HLN := Lib.hid hln
      have hbM : Hid (b0 < M) := Lib.hid (by have := HM.out; omega)
      clear hln
      by_cases hlt : k < ps.length
      case neg =>
        have hd : decide ((k : Int) < (ps.length : Int)) = false := by rw [decide_eq_false_iff_not]; omega
        have hd' : decide (k < ps.length) = false := by rw [decide_eq_false_iff_not]; exact hlt
        have hkl : k = ps.length := by omega
        have HKL := Lib.hid hkl
        clear hkl
        go_upto_region 15 with fail
        obtain ⟨y0, y1, y2, y3, y4, y5, y6, y7, y8, y9, y10⟩ := pck_cells HLN.out.want.at_
        have hh0 : (World.drew wr).heap[b0]? = some (.cells ckZ.pcells 31 (0, 0)) := (HLN.out.be.block b0 hbM.out).trans H0.out
        go_still_tail 3, (by kernel_rfl)
        change wpList _ _ _ _ _ (World.drew _)
        clear y0 y1 y2 y3 y4 y5 y6 y7 y8 y9 y10
        refine wpList_store_row rfl _ (.tmp 9) (.tmp 61) rfl b0 c.pcells rfl rfl _ _ hh0 (by kernel_rfl) rfl (by rw [← Array.all_toList]; exact List.all_eq_true.2 (pck_one c)) ?_
        obtain ⟨E1, E2⟩ := put_row (w2 := World.drew wr) hh0 ((HBW.out.trans (HLN.out.be.mono (Nat.le_of_lt hbM.out))).drew) c.pcells
        have HUN := Lib.hid (unp_row HLN.out.want hbM.out c.pcells)
        have HTX : ps.take k = ps := by rw [HKL.out, List.take_length]
        have HOKK : Hid (LineOk b0 nm.data.toList vl.data.toList true ps lb c ((World.drew wr).setRow b0 c.pcells)) := Lib.hid (by
          have h1 := HLN.out.line
          have h2 := HLN.out.size
          have h3 := HLN.out.texts
          have h4 := HLN.out.want.eq
          have h5 := HUN.out
          rw [HTX] at h1 h3 h4 h5
          exact ⟨HTK.out, HOC.out, by omega, h1, h3, h4, h5⟩)
        clear HTX HUN hh0
        generalize World.setRow (World.drew wr) b0 c.pcells = w3 at E1 E2 HOKK ⊢
        go_wp2_with fail
        (try simp only [Exit.inBlock, Exit.then])
        exact bodyPost_ret (v := .tuple #[.string lb, .agg c.pcells, .bool true]) (results3 rfl _ _ b0 31 c.pcells (0, 0) _ (.string lb) (.bool true) rfl rfl rfl E1.out Tryz.underlying31 rfl (by kernel_rfl)) rfl ⟨⟨lb, c, true, rfl, fun _ => by rw [HB0.out]; exact HOKK.out⟩, by rw [HB0.out]; exact E2.out⟩
      have hd : decide ((k : Int) < (ps.length : Int)) = true := by rw [decide_eq_true_iff]; omega
      have hd' : decide (k < ps.length) = true := by rw [decide_eq_true_iff]; exact hlt
      obtain ⟨g, rfl⟩ := hao (Nat.lt_of_le_of_lt (Nat.zero_le _) hlt)
      have hpr := (HPS.out.kept (by rw [HB0.out]; exact HBW.out.trans (HLN.out.be.mono (Nat.le_of_lt hbM.out)))).all hlt
      have hz := hps _ (List.getElem_mem hlt)
      have HZ := Lib.hid hz
      obtain ⟨p, hp⟩ : ∃ p, ps[k] = p := ⟨_, rfl⟩
      rw [hp] at hpr hz
      have HP := Lib.hid hp
      obtain ⟨f0, f1, f2, f3⟩ := hpr
      clear hp
      go_upto_region 10 with fail
      obtain ⟨a1, a2, a3⟩ := alloc_at wr p.cells 28
      have hW2 := HLN.out.want.kept a2
      have hbk1 : BK M wr (wr.alloc (.cells p.cells 28)) := ⟨a2.mono HLN.out.want.size, KeepP.of a2⟩
      unfold Pt.cells at a1 a2 a3 hW2 hbk1
      generalize wr.alloc (.cells #[.int .i64 p.kind, .string p.name, .string p.value, .int .i64 p.cas] 28) = w2 at a1 a2 a3 hW2 hbk1 ⊢
      obtain ⟨N, hN⟩ : ∃ N, wr.heap.size = N := ⟨_, rfl⟩
      rw [hN] at a1 a2 a3 ⊢
      obtain ⟨x0, x1, x2, x3⟩ := pt_cells (p := p) a1
      have HW2 := Lib.hid hW2
      have HA1 := Lib.hid a1
      have HBK1 := Lib.hid hbk1
      clear a1 a2 a3 hW2 hbk1 f0 f1 f2 f3 hN
      go_wp2_with fail
      refine (apply_any p w2 hz.1 hz.2 HW2.out (by omega)).mono ?_
      rintro e w3 ⟨⟨ok, c', rfl, hat3, hok⟩, hbk3⟩
      have HAT3 := Lib.hid hat3
      have HBK3 := Lib.hid hbk3
      have HOK := Lib.hid hok
      have e1 := hbk3.kp N _ HA1.out
      obtain ⟨x0, x1, x2, x3⟩ := pt_cells (p := p) e1
      have HE1 := Lib.hid e1
      have hbM3 : Hid (Below M w1 w3) := Lib.hid (HLN.out.be.trans (HBK1.out.be.trans HBK3.out.be))
      clear hat3 hbk3 hok e1
      rcases Bool.eq_false_or_eq_true ok with hq | hq
      case inr =>
        subst hq
        go_upto_region 11 with fail
        obtain ⟨y0, y1, y2, y3, y4, y5, y6, y7, y8, y9, y10⟩ := pck_cells HAT3.out
        have hh0 : (World.drew w3).heap[b0]? = some (.cells ckZ.pcells 31 (0, 0)) := (hbM3.out.block b0 hbM.out).trans H0.out
        go_still_tail 2, (by kernel_rfl)
        change wpList _ _ _ _ _ (World.drew _)
        clear y0 y1 y2 y3 y4 y5 y6 y7 y8 y9 y10
        refine wpList_store_row rfl _ (.tmp 9) (.tmp 49) rfl b0 c'.pcells rfl rfl _ _ hh0 (by kernel_rfl) rfl (by rw [← Array.all_toList]; exact List.all_eq_true.2 (pck_one c')) ?_
        obtain ⟨E1, E2⟩ := put_row (w2 := World.drew w3) hh0 ((HBW.out.trans (hbM3.out.mono (Nat.le_of_lt hbM.out))).drew) c'.pcells
        clear hh0
        generalize World.setRow (World.drew w3) b0 c'.pcells = w4 at E1 E2 ⊢
        go_wp2_with fail
        (try simp only [Exit.inBlock, Exit.then])
        exact bodyPost_ret (v := .tuple #[.string ⟨#[]⟩, .agg c'.pcells, .bool false]) (results3 rfl _ _ b0 31 c'.pcells (0, 0) _ (.string ⟨#[]⟩) (.bool false) rfl rfl rfl E1.out Tryz.underlying31 rfl (by kernel_rfl)) rfl ⟨LinePost.no, by rw [HB0.out]; exact E2.out⟩
      subst hq
      obtain ⟨htok, hw3⟩ := HOK.out rfl
      have HTOK := Lib.hid htok
      have HW3 := Lib.hid hw3
      clear HOK htok hw3
      go_upto_region 13 with (go_at_call 15; refine (text_any p _ hz.1 hz.2).mono ?_; rintro e w4 ⟨⟨t, ok, rfl, ht1, ht2⟩, hb4⟩)
      obtain ⟨-, htx⟩ := ht1 (ht2 HTOK.out)
      have HTX := Lib.hid htx
      have HB4 := Lib.hid hb4
      have hts : t.size ≤ 4294967306 := by
        rw [Lib.size_eq, htx]
        have := text_len p
        omega
      have hls : lb.size ≤ 6442450960 + k * 6442450960 := HLN.out.size
      clear ht1 ht2 htx hb4
      go_wp2
      go_roundw
      case rel => exact ⟨k + 1, _, c', by omega, by go_num, rfl, HLN.out.next hlt HZ.out (by rw [HP.out]; exact HTOK.out) (by rw [HP.out]; exact HTX.out) (by rw [HP.out]; exact HW3.out.kept HB4.out) (HBK1.out.be.trans (HBK3.out.be.trans (HB4.out.mono HW3.out.size)))⟩
      case measure => simp [intOf]; omega
  · subst hq
    go_upto_region 7 with (first
      | (go_at_call 12; refine (s_Token_any nm _ zm).mono ?_; rintro e w' ⟨rfl, rfl⟩; rw [HTK.out])
      | (go_at_call 13; refine (s_Octets_any vl _ zv).mono ?_; rintro e w' ⟨rfl, rfl⟩; rw [HOC.out]))
    obtain ⟨lb0, hlb0⟩ : ∃ lb0 : ByteArray, nm ++ ⟨#[61]⟩ ++ vl = lb0 := ⟨_, rfl⟩
    have HL0 : Hid (LnS M nm.data.toList vl.data.toList false ps 0 lb0 c0 w1 w1) := Lib.hid ⟨by rw [← hlb0]; unfold headT quoL items; simp, by rw [← hlb0]; simp only [ByteArray.size_append]; have e1 : (⟨#[61, 34]⟩ : ByteArray).size = 2 := rfl; have e2 : (⟨#[61]⟩ : ByteArray).size = 1 := rfl; have e3 : (⟨#[34]⟩ : ByteArray).size = 1 := rfl; omega, fun p hp => by simp at hp, HW0.out, Below.refl _ _⟩
    rw [hlb0]
    clear hlb0
    go_wp2
    go_loopw [12, 42] (fun l i wr => ∃ (k : Nat) (lb : ByteArray) (c : Ck), k ≤ ps.length ∧ i = .int .i64 k ∧ l = .string lb ∧ LnS M nm.data.toList vl.data.toList false ps k lb c w1 wr) (fun _ i _ => ps.length - (intOf i).toNat)
    case atStart => exact ⟨0, lb0, c0, Nat.zero_le _, rfl, rfl, HL0.out⟩
    case round =>
      obtain ⟨k, lb, c, hk, rfl, rfl, hln⟩ := hrel
      have HLN := Lib.hid hln
      have hbM : Hid (b0 < M) := Lib.hid (by have := HM.out; omega)
      clear hln
      by_cases hlt : k < ps.length
      case neg =>
        have hd : decide ((k : Int) < (ps.length : Int)) = false := by rw [decide_eq_false_iff_not]; omega
        have hd' : decide (k < ps.length) = false := by rw [decide_eq_false_iff_not]; exact hlt
        have hkl : k = ps.length := by omega
        have HKL := Lib.hid hkl
        clear hkl
        go_upto_region 15 with fail
        obtain ⟨y0, y1, y2, y3, y4, y5, y6, y7, y8, y9, y10⟩ := pck_cells HLN.out.want.at_
        have hh0 : (World.drew wr).heap[b0]? = some (.cells ckZ.pcells 31 (0, 0)) := (HLN.out.be.block b0 hbM.out).trans H0.out
        go_still_tail 3, (by kernel_rfl)
        change wpList _ _ _ _ _ (World.drew _)
        clear y0 y1 y2 y3 y4 y5 y6 y7 y8 y9 y10
        refine wpList_store_row rfl _ (.tmp 9) (.tmp 61) rfl b0 c.pcells rfl rfl _ _ hh0 (by kernel_rfl) rfl (by rw [← Array.all_toList]; exact List.all_eq_true.2 (pck_one c)) ?_
        obtain ⟨E1, E2⟩ := put_row (w2 := World.drew wr) hh0 ((HBW.out.trans (HLN.out.be.mono (Nat.le_of_lt hbM.out))).drew) c.pcells
        have HUN := Lib.hid (unp_row HLN.out.want hbM.out c.pcells)
        have HTX : ps.take k = ps := by rw [HKL.out, List.take_length]
        have HOKK : Hid (LineOk b0 nm.data.toList vl.data.toList false ps lb c ((World.drew wr).setRow b0 c.pcells)) := Lib.hid (by
          have h1 := HLN.out.line
          have h2 := HLN.out.size
          have h3 := HLN.out.texts
          have h4 := HLN.out.want.eq
          have h5 := HUN.out
          rw [HTX] at h1 h3 h4 h5
          exact ⟨HTK.out, HOC.out, by omega, h1, h3, h4, h5⟩)
        clear HTX HUN hh0
        generalize World.setRow (World.drew wr) b0 c.pcells = w3 at E1 E2 HOKK ⊢
        go_wp2_with fail
        (try simp only [Exit.inBlock, Exit.then])
        exact bodyPost_ret (v := .tuple #[.string lb, .agg c.pcells, .bool true]) (results3 rfl _ _ b0 31 c.pcells (0, 0) _ (.string lb) (.bool true) rfl rfl rfl E1.out Tryz.underlying31 rfl (by kernel_rfl)) rfl ⟨⟨lb, c, true, rfl, fun _ => by rw [HB0.out]; exact HOKK.out⟩, by rw [HB0.out]; exact E2.out⟩
      have hd : decide ((k : Int) < (ps.length : Int)) = true := by rw [decide_eq_true_iff]; omega
      have hd' : decide (k < ps.length) = true := by rw [decide_eq_true_iff]; exact hlt
      obtain ⟨g, rfl⟩ := hao (Nat.lt_of_le_of_lt (Nat.zero_le _) hlt)
      have hpr := (HPS.out.kept (by rw [HB0.out]; exact HBW.out.trans (HLN.out.be.mono (Nat.le_of_lt hbM.out)))).all hlt
      have hz := hps _ (List.getElem_mem hlt)
      have HZ := Lib.hid hz
      obtain ⟨p, hp⟩ : ∃ p, ps[k] = p := ⟨_, rfl⟩
      rw [hp] at hpr hz
      have HP := Lib.hid hp
      obtain ⟨f0, f1, f2, f3⟩ := hpr
      clear hp
      go_upto_region 10 with fail
      obtain ⟨a1, a2, a3⟩ := alloc_at wr p.cells 28
      have hW2 := HLN.out.want.kept a2
      have hbk1 : BK M wr (wr.alloc (.cells p.cells 28)) := ⟨a2.mono HLN.out.want.size, KeepP.of a2⟩
      unfold Pt.cells at a1 a2 a3 hW2 hbk1
      generalize wr.alloc (.cells #[.int .i64 p.kind, .string p.name, .string p.value, .int .i64 p.cas] 28) = w2 at a1 a2 a3 hW2 hbk1 ⊢
      obtain ⟨N, hN⟩ : ∃ N, wr.heap.size = N := ⟨_, rfl⟩
      rw [hN] at a1 a2 a3 ⊢
      obtain ⟨x0, x1, x2, x3⟩ := pt_cells (p := p) a1
      have HW2 := Lib.hid hW2
      have HA1 := Lib.hid a1
      have HBK1 := Lib.hid hbk1
      clear a1 a2 a3 hW2 hbk1 f0 f1 f2 f3 hN
      go_wp2_with fail
      refine (apply_any p w2 hz.1 hz.2 HW2.out (by omega)).mono ?_
      rintro e w3 ⟨⟨ok, c', rfl, hat3, hok⟩, hbk3⟩
      have HAT3 := Lib.hid hat3
      have HBK3 := Lib.hid hbk3
      have HOK := Lib.hid hok
      have e1 := hbk3.kp N _ HA1.out
      obtain ⟨x0, x1, x2, x3⟩ := pt_cells (p := p) e1
      have HE1 := Lib.hid e1
      have hbM3 : Hid (Below M w1 w3) := Lib.hid (HLN.out.be.trans (HBK1.out.be.trans HBK3.out.be))
      clear hat3 hbk3 hok e1
      rcases Bool.eq_false_or_eq_true ok with hq | hq
      case inr =>
        subst hq
        go_upto_region 11 with fail
        obtain ⟨y0, y1, y2, y3, y4, y5, y6, y7, y8, y9, y10⟩ := pck_cells HAT3.out
        have hh0 : (World.drew w3).heap[b0]? = some (.cells ckZ.pcells 31 (0, 0)) := (hbM3.out.block b0 hbM.out).trans H0.out
        go_still_tail 2, (by kernel_rfl)
        change wpList _ _ _ _ _ (World.drew _)
        clear y0 y1 y2 y3 y4 y5 y6 y7 y8 y9 y10
        refine wpList_store_row rfl _ (.tmp 9) (.tmp 49) rfl b0 c'.pcells rfl rfl _ _ hh0 (by kernel_rfl) rfl (by rw [← Array.all_toList]; exact List.all_eq_true.2 (pck_one c')) ?_
        obtain ⟨E1, E2⟩ := put_row (w2 := World.drew w3) hh0 ((HBW.out.trans (hbM3.out.mono (Nat.le_of_lt hbM.out))).drew) c'.pcells
        clear hh0
        generalize World.setRow (World.drew w3) b0 c'.pcells = w4 at E1 E2 ⊢
        go_wp2_with fail
        (try simp only [Exit.inBlock, Exit.then])
        exact bodyPost_ret (v := .tuple #[.string ⟨#[]⟩, .agg c'.pcells, .bool false]) (results3 rfl _ _ b0 31 c'.pcells (0, 0) _ (.string ⟨#[]⟩) (.bool false) rfl rfl rfl E1.out Tryz.underlying31 rfl (by kernel_rfl)) rfl ⟨LinePost.no, by rw [HB0.out]; exact E2.out⟩
      subst hq
      obtain ⟨htok, hw3⟩ := HOK.out rfl
      have HTOK := Lib.hid htok
      have HW3 := Lib.hid hw3
      clear HOK htok hw3
      go_upto_region 13 with (go_at_call 15; refine (text_any p _ hz.1 hz.2).mono ?_; rintro e w4 ⟨⟨t, ok, rfl, ht1, ht2⟩, hb4⟩)
      obtain ⟨-, htx⟩ := ht1 (ht2 HTOK.out)
      have HTX := Lib.hid htx
      have HB4 := Lib.hid hb4
      have hts : t.size ≤ 4294967306 := by
        rw [Lib.size_eq, htx]
        have := text_len p
        omega
      have hls : lb.size ≤ 6442450960 + k * 6442450960 := HLN.out.size
      clear ht1 ht2 htx hb4
      go_wp2
      go_roundw
      case rel => exact ⟨k + 1, _, c', by omega, by go_num, rfl, HLN.out.next hlt HZ.out (by rw [HP.out]; exact HTOK.out) (by rw [HP.out]; exact HTX.out) (by rw [HP.out]; exact HW3.out.kept HB4.out) (HBK1.out.be.trans (HBK3.out.be.trans (HB4.out.mono HW3.out.size)))⟩
      case measure => simp [intOf]; omega
end Go.Proofs.YtfijncfoefbohaaGreatDoor
