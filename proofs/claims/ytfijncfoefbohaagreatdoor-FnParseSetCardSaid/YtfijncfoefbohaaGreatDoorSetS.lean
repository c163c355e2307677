/- A line of Set-Cookie: what the package reads of it (plain lists), and the memory under way. -/
import Derived.Test.YtfijncfoefbohaaGreatDoorParse
import Derived.Test.YtfijncfoefbohaaGreatDoorLex
import Derived.Deep.AppendLies
namespace Go.Proofs.YtfijncfoefbohaaGreatDoor
open Go Go.RowKit

/-- The four errors of ParseSetCookie. -/
structure ErrsS (w : World) : Prop where
  blank : ErrAt 0 w
  eq : ErrAt 1 w
  name : ErrAt 2 w
  value : ErrAt 3 w
theorem ErrsS.kept {w w' : World} (h : ErrsS w) (hb : Below w.heap.size w w') : ErrsS w' :=
  ⟨h.blank.kept hb, h.eq.kept hb, h.name.kept hb, h.value.kept hb⟩

/-- A cookie as plain lists. -/
structure PC where
  name : List UInt8
  value : List UInt8
  quoted : Bool
  path : List UInt8
  domain : List UInt8
  age : Int
  secure : Bool
  http : Bool
  site : Int
  part : Bool
  raw : List UInt8
  unp : List (List UInt8)

def kSame : List UInt8 := [115, 97, 109, 101, 115, 105, 116, 101]
def kSecure : List UInt8 := [115, 101, 99, 117, 114, 101]
def kHttp : List UInt8 := [104, 116, 116, 112, 111, 110, 108, 121]
def kDomain : List UInt8 := [100, 111, 109, 97, 105, 110]
def kAge : List UInt8 := [109, 97, 120, 45, 97, 103, 101]
def kPath : List UInt8 := [112, 97, 116, 104]
def kPart : List UInt8 := [112, 97, 114, 116, 105, 116, 105, 111, 110, 101, 100]
def kLax : List UInt8 := [108, 97, 120]
def kStrict : List UInt8 := [115, 116, 114, 105, 99, 116]
def kNone : List UInt8 := [110, 111, 110, 101]

def siteOf (v : List UInt8) : Int := if Lib.toLowerA v = kLax then 2 else if Lib.toLowerA v = kStrict then 3 else if Lib.toLowerA v = kNone then 4 else 1
def ageOf (v : List UInt8) : Option Int := match numOf? v with
  | none => none
  | some n => if n ≠ 0 ∧ v.head? = some 48 then none else some (if n ≤ 0 then -1 else n)
def setAttr (c : PC) (p k v : List UInt8) : PC :=
  if k = kSame then { c with site := siteOf v }
  else if k = kSecure then { c with secure := true }
  else if k = kHttp then { c with http := true }
  else if k = kDomain then { c with domain := v }
  else if k = kAge then (match ageOf v with
    | none => { c with unp := c.unp ++ [p] }
    | some n => { c with age := n })
  else if k = kPath then { c with path := v }
  else if k = kPart then { c with part := true }
  else { c with unp := c.unp ++ [p] }
def attrStep (c : PC) (part : List UInt8) : PC :=
  if trimL part = [] then c
  else if allB prB (cutA 61 (trimL part)) = false then c
  else if allB valB (cutB 61 (trimL part)) = false then { c with unp := c.unp ++ [trimL part] }
  else setAttr c (trimL part) (Lib.toLowerA (cutA 61 (trimL part))) (cutB 61 (trimL part))
def headOk (s : List UInt8) : Bool := hasB 61 s && (tokS (trimL (cutA 61 s)) && allB valB (stripL (cutB 61 s) true))
def headIs (line s : List UInt8) : PC := ⟨trimL (cutA 61 s), stripL (cutB 61 s) true, qB (cutB 61 s) true, [], [], 0, false, false, 0, false, line, []⟩
/-- What ParseSetCookie reads. -/
def setP (line : List UInt8) : Option PC := match splitL 59 (trimL line) with
  | [] => none
  | p :: r => if headOk (trimL p) then some (r.foldl attrStep (headIs line (trimL p))) else none

theorem step_blank {c : PC} {p : List UInt8} (h : trimL p = []) : attrStep c p = c := by unfold attrStep; rw [if_pos h]
theorem step_far {c : PC} {p : List UInt8} (h : trimL p ≠ []) (h2 : allB prB (cutA 61 (trimL p)) = false) : attrStep c p = c := by unfold attrStep; rw [if_neg h, if_pos h2]
theorem step_bad {c : PC} {p : List UInt8} (h : trimL p ≠ []) (h2 : allB prB (cutA 61 (trimL p)) = true) (h3 : allB valB (cutB 61 (trimL p)) = false) : attrStep c p = { c with unp := c.unp ++ [trimL p] } := by
  unfold attrStep; rw [if_neg h, h2, if_neg (by decide), if_pos h3]
theorem step_set {c : PC} {p : List UInt8} (h : trimL p ≠ []) (h2 : allB prB (cutA 61 (trimL p)) = true) (h3 : allB valB (cutB 61 (trimL p)) = true) :
    attrStep c p = setAttr c (trimL p) (Lib.toLowerA (cutA 61 (trimL p))) (cutB 61 (trimL p)) := by
  unfold attrStep; rw [if_neg h, h2, if_neg (by decide), h3, if_neg (by decide)]

theorem set_same (c : PC) (p v : List UInt8) : setAttr c p kSame v = { c with site := siteOf v } := rfl
theorem set_secure (c : PC) (p v : List UInt8) : setAttr c p kSecure v = { c with secure := true } := rfl
theorem set_http (c : PC) (p v : List UInt8) : setAttr c p kHttp v = { c with http := true } := rfl
theorem set_domain (c : PC) (p v : List UInt8) : setAttr c p kDomain v = { c with domain := v } := rfl
theorem set_age (c : PC) (p v : List UInt8) (n : Int) (h : ageOf v = some n) : setAttr c p kAge v = { c with age := n } := by
  have : setAttr c p kAge v = (match ageOf v with
    | none => { c with unp := c.unp ++ [p] }
    | some n => { c with age := n }) := rfl
  rw [this, h]
theorem set_path (c : PC) (p v : List UInt8) : setAttr c p kPath v = { c with path := v } := rfl
theorem set_part (c : PC) (p v : List UInt8) : setAttr c p kPart v = { c with part := true } := rfl

/-- A cookie's fields are those of the plain one. -/
structure CkEq (c : Ck) (pc : PC) : Prop where
  name : c.name.data.toList = pc.name
  value : c.value.data.toList = pc.value
  quoted : c.quoted = pc.quoted
  path : c.path.data.toList = pc.path
  domain : c.domain.data.toList = pc.domain
  age : c.age = pc.age
  secure : c.secure = pc.secure
  http : c.http = pc.http
  site : c.site = pc.site
  part : c.part = pc.part
  raw : c.raw.data.toList = pc.raw

def UnpAt (B : Nat) (c : Ck) (l : List (List UInt8)) (w : World) : Prop :=
  ∃ us : List ByteArray, w.ownsRow B 9 1 (.slice c.uo c.un c.uc) us.length (us.map Value.string) ∧ us.map (fun x => x.data.toList) = l

/-- Under way in ParseSetCookie's loop. -/
structure SetS (w : World) (B b g : Nat) (xs : List ByteArray) (k m : Nat) (c : Ck) (pc : PC) (wr : World) : Prop where
  hb : B ≤ b
  hg : B ≤ g
  at_ : CkAt b c wr
  eq : CkEq c pc
  row : ∃ ys : List ByteArray, ys.length = xs.length ∧ ys.drop k = xs.drop k ∧ PartsAt g ys wr
  unp : ∃ us : List ByteArray, wr.ownsRow B 9 1 (.slice c.uo c.un c.uc) us.length (us.map Value.string) ∧ us.map (fun x => x.data.toList) = pc.unp ∧ (Value.slice c.uo c.un c.uc).ownBlock ≠ some g ∧ us.length ≤ m
  be : Below B w wr

theorem setCell_block {w : World} {g j : Nat} {cs : Array Value} {T : TypeId} {fr : Nat × Nat} (h : w.heap[g]? = some (.cells cs T fr)) (u : Value) : (w.setCell ⟨g, j, none⟩ u).heap[g]? = some (.cells (cs.setIfInBounds j u) T fr) := by
  simp [World.setCell, Array.getElem?_modify, h]
theorem tag_ne {w : World} {g b : Nat} {cs ds : Array Value} {T U : TypeId} (h : w.heap[g]? = some (.cells cs T (0, 0))) (h2 : w.heap[b]? = some (.cells ds U (0, 0))) (hne : T ≠ U) : g ≠ b := by
  rintro rfl
  rw [h] at h2
  simp only [Option.some.injEq, Obj.cells.injEq] at h2
  exact hne h2.2.1
theorem setCell_grown (w : World) (g j : Nat) (u : Value) : w.grownBy (w.setCell ⟨g, j, none⟩ u) (some g) := by
  have hbs := (Below.refl 0 w).setCell (p := ⟨g, j, none⟩) (Nat.zero_le _) u
  exact ⟨hbs.os, hbs.tape, hbs.output, hbs.size, fun k _ hk => Below.heap_setCell _ _ _ _ (by intro e; exact hk (by rw [e]))⟩

section
variable {w wr : World} {B b g k m : Nat} {xs : List ByteArray} {c : Ck} {pc : PC}
theorem SetS.kept {wy : World} (h : SetS w B b g xs k m c pc wr) (hB : B ≤ wr.heap.size) (hy : Below wr.heap.size wr wy) : SetS w B b g xs k m c pc wy := by
  obtain ⟨h1, h2, h3, h4, ⟨ys, a1, a2, a3⟩, ⟨us, u1, u2, u3, u4⟩, h7⟩ := h
  refine ⟨h1, h2, h3.below hy h3.lt, h4, ⟨ys, a1, a2, a3.kept hy⟩, ⟨us, ?_, u2, u3, u4⟩, h7.trans (hy.mono hB)⟩
  refine u1.kept (row := none) ⟨hy.os, hy.tape, hy.output, hy.size, fun k hk _ => hy.block k hk⟩ ?_
  cases hv : (Value.slice c.uo c.un c.uc).ownBlock <;> simp
theorem SetS.le (h : SetS w B b g xs k m c pc wr) {m' : Nat} (hm : m ≤ m') : SetS w B b g xs k m' c pc wr := by
  obtain ⟨h1, h2, h3, h4, h5, ⟨us, u1, u2, u3, u4⟩, h7⟩ := h
  exact ⟨h1, h2, h3, h4, h5, ⟨us, u1, u2, u3, by omega⟩, h7⟩
theorem SetS.size (h : SetS w B b g xs k m c pc wr) : B ≤ wr.heap.size := Nat.le_trans h.hb (Nat.le_of_lt h.at_.lt)
/-- The k-th part, before it is trimmed. -/
theorem SetS.cell (h : SetS w B b g xs k m c pc wr) (hk : k < xs.length) : wr.cell? ⟨g, k, none⟩ = some (.string xs[k]) ∧ wr.frozen? ⟨g, k, none⟩ = false := by
  obtain ⟨ys, a1, a2, a3⟩ := h.row
  have hky : k < ys.length := by omega
  have he : ys[k] = xs[k] := by
    have h1 : (ys.drop k)[0]? = (xs.drop k)[0]? := by rw [a2]
    rw [List.getElem?_drop, List.getElem?_drop, Nat.add_zero, List.getElem?_eq_getElem hky, List.getElem?_eq_getElem hk] at h1
    exact Option.some.inj h1
  refine ⟨by rw [a3.cell hky, he], ?_⟩
  obtain ⟨cur, hc, _⟩ := a3
  exact Lib.frozen_of_heap hc _
/-- parts[k] = trim(parts[k]) -/
theorem SetS.trim (h : SetS w B b g xs k m c pc wr) (hk : k < xs.length) (t : ByteArray) : SetS w B b g xs (k + 1) m c pc (wr.setCell ⟨g, k, none⟩ (.string t)) ∧ (wr.setCell ⟨g, k, none⟩ (.string t)).cell? ⟨g, k, none⟩ = some (.string t) := by
  obtain ⟨h1, h2, h3, h4, ⟨ys, a1, a2, cur, a3, a4⟩, ⟨us, u1, u2, u3, u4⟩, h7⟩ := h
  have hky : k < ys.length := by omega
  have hgb : b ≠ g := tag_ne h3 a3 (by decide)
  have hrow : PartsAt g (ys.set k t) (wr.setCell ⟨g, k, none⟩ (.string t)) := by
    refine ⟨_, setCell_block a3 _, ?_⟩
    rw [Array.toList_setIfInBounds, List.length_set, List.take_set, a4, List.map_set]
  refine ⟨⟨h1, h2, ?_, h4, ⟨ys.set k t, by rw [List.length_set]; exact a1, ?_, hrow⟩, ⟨us, ?_, u2, u3, u4⟩, h7.setCell h2 _⟩, ?_⟩
  · exact (Below.heap_setCell _ _ _ _ (by simpa using hgb)).trans h3
  · rw [List.drop_set_of_lt (by omega)]
    have h5 : (ys.drop k).drop 1 = (xs.drop k).drop 1 := by rw [a2]
    rwa [List.drop_drop, List.drop_drop] at h5
  · exact u1.kept (setCell_grown _ _ _ _) (.inr u3)
  · have := hrow.cell (k := k) (by rw [List.length_set]; exact hky)
    rw [this, List.getElem_set_self]
/-- A field is set. -/
theorem SetS.put {c' : Ck} {pc' : PC} {j : Nat} {u : Value} (h : SetS w B b g xs k m c pc wr) (hc : c.cells.setIfInBounds j u = c'.cells) (hu : c'.uo = c.uo ∧ c'.un = c.un ∧ c'.uc = c.uc) (he : CkEq c' pc') (hp : pc'.unp = pc.unp) :
    SetS w B b g xs k m c' pc' (wr.setCell ⟨b, j, none⟩ u) := by
  obtain ⟨h1, h2, h3, h4, ⟨ys, a1, a2, cur, a3, a4⟩, ⟨us, u1, u2, u3, u4⟩, h7⟩ := h
  have hgb : g ≠ b := fun e => tag_ne h3 a3 (by decide) e.symm
  refine ⟨h1, h2, ?_, he, ⟨ys, a1, a2, cur, (Below.heap_setCell _ _ _ _ (by simpa using hgb)).trans a3, a4⟩, ⟨us, ?_, by rw [hp]; exact u2, by rw [hu.1, hu.2.1, hu.2.2]; exact u3, u4⟩, h7.setCell h1 _⟩
  · unfold CkAt
    rw [setCell_block h3, hc]
  · rw [hu.1, hu.2.1, hu.2.2]
    exact u1.kept (setCell_grown _ _ _ _) (.inr (fun e => own_far u1 h3 (by decide) e.symm))
theorem SetS.frozen (h : SetS w B b g xs k m c pc wr) (j : Nat) : wr.frozen? ⟨b, j, none⟩ = false := Lib.frozen_of_heap h.at_ j
/-- A part is put among those that are not read. -/
theorem SetS.add {t : ByteArray} {us : List ByteArray} {g2 cap2 : Nat} {w6 : World} (h : SetS w B b g xs k m c pc wr)
    (hu : us.map (fun x => x.data.toList) = pc.unp) (hlen : us.length ≤ m) (hown : wr.ownsRow B 9 1 (.slice c.uo c.un c.uc) us.length (us.map Value.string)) (hne : (Value.slice c.uo c.un c.uc).ownBlock ≠ some g)
    (hown6 : w6.ownsRow B 9 1 (.slice (some ⟨g2, 0, none⟩) (us.length + 1) cap2) (us.length + 1) (us.map Value.string ++ [.string t]))
    (hg6 : (wr.drew.alloc (.cells #[.string t] 9)).grownBy w6 (Value.slice c.uo c.un c.uc).ownBlock) (hat : (Value.slice c.uo c.un c.uc).ownBlock = some g2 ∨ g2 = (wr.drew.alloc (.cells #[.string t] 9)).heap.size) :
    (w6.cell? ⟨b, 11, none⟩ = some (.slice c.uo c.un c.uc) ∧ w6.frozen? ⟨b, 11, none⟩ = false) ∧
    SetS w B b g xs k (m + 1) { c with uo := some ⟨g2, 0, none⟩, un := us.length + 1, uc := cap2 } { pc with unp := pc.unp ++ [t.data.toList] } (w6.setCell ⟨b, 11, none⟩ (.slice (some ⟨g2, 0, none⟩) (us.length + 1) cap2)) := by
  have hBw := h.size
  obtain ⟨h1, h2, h3, h4, ⟨ys, a1, a2, cur, a3, a4⟩, -, h7⟩ := h
  have e3 : (wr.drew.alloc (.cells #[.string t] 9)).heap[b]? = some (.cells c.cells 55 (0, 0)) := (Below.heap_alloc wr.drew _ b h3.lt).trans h3
  have ea : (wr.drew.alloc (.cells #[.string t] 9)).heap[g]? = some (.cells cur 9 (0, 0)) := (Below.heap_alloc wr.drew _ g (Array.getElem?_eq_some_iff.1 a3).1).trans a3
  have hown' : (wr.drew.alloc (.cells #[.string t] 9)).ownsRow B 9 1 (.slice c.uo c.un c.uc) us.length (us.map Value.string) := World.ownsRow.alloc (w := wr.drew) hown _
  have e4 : w6.heap[b]? = some (.cells c.cells 55 (0, 0)) := (hg6.block b (Array.getElem?_eq_some_iff.1 e3).1 (own_far hown' e3 (by decide))).trans e3
  have e5 : w6.heap[g]? = some (.cells cur 9 (0, 0)) := (hg6.block g (Array.getElem?_eq_some_iff.1 ea).1 (fun e => hne e.symm)).trans ea
  have hgl := (Array.getElem?_eq_some_iff.1 ea).1
  have hg2 : g2 ≠ g := by
    rcases hat with h5 | h5
    · rintro rfl; exact hne h5
    · omega
  have hgb : g ≠ b := fun e => tag_ne e4 e5 (by decide) e.symm
  have hb6 : Below B w w6 := (h7.trans (((Below.refl wr.heap.size wr).drew.alloc (Nat.le_refl _) _).mono hBw)).grown hg6 (by rw [alloc_sz']; exact Nat.le_succ_of_le hBw) (fun k hk => (hown.lt k hk).1)
  refine ⟨⟨by rw [Lib.cell_of_heap e4]; rfl, Lib.frozen_of_heap e4 _⟩, ?_⟩
  refine ⟨h1, h2, ?_, ⟨h4.name, h4.value, h4.quoted, h4.path, h4.domain, h4.age, h4.secure, h4.http, h4.site, h4.part, h4.raw⟩, ⟨ys, a1, a2, cur, (Below.heap_setCell _ _ _ _ (by simpa using hgb)).trans e5, a4⟩, ⟨us ++ [t], ?_, ?_, ?_, ?_⟩, hb6.setCell h1 _⟩
  · unfold CkAt
    rw [setCell_block e4]; rfl
  · have h8 := hown6.kept (setCell_grown w6 b 11 (.slice (some ⟨g2, 0, none⟩) (us.length + 1) cap2)) (.inr (fun e => own_far hown6 e4 (by decide) e.symm))
    simpa using h8
  · simp [hu]
  · simpa [Value.ownBlock] using hg2
  · simp; omega
end
end Go.Proofs.YtfijncfoefbohaaGreatDoor
