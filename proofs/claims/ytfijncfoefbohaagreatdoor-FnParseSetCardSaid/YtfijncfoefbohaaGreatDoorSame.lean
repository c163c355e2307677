/- laws.few, laws.same (of two cookies that are the same). -/
import Derived.Test.YtfijncfoefbohaaGreatDoorAttr
import Derived.Test.YtfijncfoefbohaaGreatDoorOpenB
import Derived.Test.YtfijncfoefbohaaGreatDoorFits
import Derived.BigQuiet
namespace Go.Proofs.YtfijncfoefbohaaGreatDoor
open Go Go.RowKit

theorem alloc_size' (w : World) (o : Obj) : (w.alloc o).heap.size = w.heap.size + 1 := by show (w.heap.push o).size = _; simp
theorem below_drewN' {B : Nat} {a w : World} (h : Below B a w) (n : Nat) : Below B a (w.drewN n) := h.trans ⟨rfl, rfl, rfl, Nat.le_refl _, fun _ _ => rfl⟩
def szSum (xs : List ByteArray) : Nat := (xs.map fun x => x.size).sum
theorem szSum_take {xs : List ByteArray} {k : Nat} (hk : k < xs.length) : szSum (xs.take (k + 1)) = szSum (xs.take k) + xs[k].size := by
  unfold szSum
  rw [List.take_succ_eq_append_getElem hk, List.map_append, List.sum_append]
  simp
theorem szSum_le {xs : List ByteArray} (h : ∀ k (hk : k < xs.length), xs[k].size ≤ 2147483647) : ∀ k, k ≤ xs.length → szSum (xs.take k) ≤ k * 2147483647
  | 0, _ => by simp [szSum]
  | k + 1, hk => by
    rw [szSum_take (show k < xs.length by omega)]
    have := szSum_le h k (by omega)
    have := h k (by omega)
    omega
theorem szSum_app (a b : List ByteArray) : szSum (a ++ b) = szSum a + szSum b := by unfold szSum; rw [List.map_append, List.sum_append]
theorem szSum_mem {xs : List ByteArray} {k : Nat} (hk : k < xs.length) : xs[k].size ≤ szSum xs := by
  have h1 := szSum_take hk
  have h2 : szSum xs = szSum (xs.take (k + 1)) + szSum (xs.drop (k + 1)) := by rw [← szSum_app, List.take_append_drop]
  omega
def fewB (xs : List ByteArray) : Bool := decide (xs.length ≤ 50) && decide (szSum xs ≤ 2000)

/-- Texts from an address on. -/
def RowIs (us : List ByteArray) (o : Option Addr) (w : World) : Prop := ∀ i (h : i < us.length), ∃ a, o = some a ∧ w.cell? (a.add i) = some (.string us[i])
theorem RowIs.kept {us : List ByteArray} {o : Option Addr} {w w' : World} (h : RowIs us o w) (hb : Below w.heap.size w w') : RowIs us o w' := fun i hi => by
  obtain ⟨a, h1, h2⟩ := h i hi
  exact ⟨a, h1, cell_keep h2 hb⟩

set_option maxHeartbeats 8000000 in
set_option maxRecDepth 100000 in
theorem same_true (c : Ck) (o2 : Option Addr) (k2 : Nat) (us : List ByteArray) (w : World) (hu : c.un = us.length) (hl : us.length ≤ maxLen) (h1 : RowIs us c.uo w) (h2 : RowIs us o2 w) :
    Calls Tryz.prog 9 #[.agg c.pcells, .agg ({ c with uo := o2, uc := k2 } : Ck).pcells] w fun e w' => e = .returned (.bool true) ∧ Below w.heap.size w w' := by
  obtain ⟨name, value, quoted, path, domain, age, secure, http, site, part, raw, uo, un, uc⟩ := c
  simp only at hu h1
  subst hu
  unfold maxLen at hl
  obtain ⟨a1, a2, a3⟩ := alloc_at w #[.string name, .string value, .bool quoted, .string path, .string domain, .int .i64 age, .bool secure, .bool http, .int .i64 site, .bool part, .slice uo us.length uc] 31
  have H1 := Lib.hid (h1.kept a2)
  have H2 := Lib.hid (h2.kept a2)
  unfold Ck.pcells
  clear h1 h2
  go_enter Tryz.func9, Tryz.ntmps9
  go_upto_region 1 with fail
  have hsz : (w.alloc (.cells #[.string name, .string value, .bool quoted, .string path, .string domain, .int .i64 age, .bool secure, .bool http, .int .i64 site, .bool part, .slice uo us.length uc] 31)).heap.size = w.heap.size + 1 := alloc_size' _ _
  generalize w.alloc (.cells #[.string name, .string value, .bool quoted, .string path, .string domain, .int .i64 age, .bool secure, .bool http, .int .i64 site, .bool part, .slice uo us.length uc] 31) = W1 at *
  obtain ⟨b1, b2, b3⟩ := alloc_at W1 #[.string name, .string value, .bool quoted, .string path, .string domain, .int .i64 age, .bool secure, .bool http, .int .i64 site, .bool part, .slice o2 us.length k2] 31
  generalize W1.alloc (.cells #[.string name, .string value, .bool quoted, .string path, .string domain, .int .i64 age, .bool secure, .bool http, .int .i64 site, .bool part, .slice o2 us.length k2] 31) = W2 at *
  have a4 := (b2.block _ a3).trans a1
  have K1 := Lib.hid (H1.out.kept b2)
  have K2 := Lib.hid (H2.out.kept b2)
  have HB : Hid (Below w.heap.size w W2) := Lib.hid (a2.trans (b2.mono (Nat.le_of_lt a3)))
  rw [hsz] at b1
  have HBB := Lib.hid HB
  clear HB
  generalize hN1 : w.heap.size = N1 at a1 a4 b1 ⊢
  clear hN1
  have y0 : W2.cell? ⟨N1, 0, none⟩ = some (.string name) := by rw [Lib.cell_of_heap a4]; rfl
  have y1 : W2.cell? ⟨N1, 1, none⟩ = some (.string value) := by rw [Lib.cell_of_heap a4]; rfl
  have y2 : W2.cell? ⟨N1, 2, none⟩ = some (.bool quoted) := by rw [Lib.cell_of_heap a4]; rfl
  have y3 : W2.cell? ⟨N1, 3, none⟩ = some (.string path) := by rw [Lib.cell_of_heap a4]; rfl
  have y4 : W2.cell? ⟨N1, 4, none⟩ = some (.string domain) := by rw [Lib.cell_of_heap a4]; rfl
  have y5 : W2.cell? ⟨N1, 5, none⟩ = some (.int .i64 age) := by rw [Lib.cell_of_heap a4]; rfl
  have y6 : W2.cell? ⟨N1, 6, none⟩ = some (.bool secure) := by rw [Lib.cell_of_heap a4]; rfl
  have y7 : W2.cell? ⟨N1, 7, none⟩ = some (.bool http) := by rw [Lib.cell_of_heap a4]; rfl
  have y8 : W2.cell? ⟨N1, 8, none⟩ = some (.int .i64 site) := by rw [Lib.cell_of_heap a4]; rfl
  have y9 : W2.cell? ⟨N1, 9, none⟩ = some (.bool part) := by rw [Lib.cell_of_heap a4]; rfl
  have y10 : W2.cell? ⟨N1, 10, none⟩ = some (.slice uo us.length uc) := by rw [Lib.cell_of_heap a4]; rfl
  have z0 : W2.cell? ⟨N1 + 1, 0, none⟩ = some (.string name) := by rw [Lib.cell_of_heap b1]; rfl
  have z1 : W2.cell? ⟨N1 + 1, 1, none⟩ = some (.string value) := by rw [Lib.cell_of_heap b1]; rfl
  have z2 : W2.cell? ⟨N1 + 1, 2, none⟩ = some (.bool quoted) := by rw [Lib.cell_of_heap b1]; rfl
  have z3 : W2.cell? ⟨N1 + 1, 3, none⟩ = some (.string path) := by rw [Lib.cell_of_heap b1]; rfl
  have z4 : W2.cell? ⟨N1 + 1, 4, none⟩ = some (.string domain) := by rw [Lib.cell_of_heap b1]; rfl
  have z5 : W2.cell? ⟨N1 + 1, 5, none⟩ = some (.int .i64 age) := by rw [Lib.cell_of_heap b1]; rfl
  have z6 : W2.cell? ⟨N1 + 1, 6, none⟩ = some (.bool secure) := by rw [Lib.cell_of_heap b1]; rfl
  have z7 : W2.cell? ⟨N1 + 1, 7, none⟩ = some (.bool http) := by rw [Lib.cell_of_heap b1]; rfl
  have z8 : W2.cell? ⟨N1 + 1, 8, none⟩ = some (.int .i64 site) := by rw [Lib.cell_of_heap b1]; rfl
  have z9 : W2.cell? ⟨N1 + 1, 9, none⟩ = some (.bool part) := by rw [Lib.cell_of_heap b1]; rfl
  have z10 : W2.cell? ⟨N1 + 1, 10, none⟩ = some (.slice o2 us.length k2) := by rw [Lib.cell_of_heap b1]; rfl
  have s0 : (name.toList == name.toList) = true := by simp
  have s1 : (value.toList == value.toList) = true := by simp
  have s2 : (path.toList == path.toList) = true := by simp
  have s3 : (domain.toList == domain.toList) = true := by simp
  clear a1 a2 a3 a4 b1 b2 b3 H1 H2 hsz
  go_wp2
  clear y0 y1 y2 y3 y4 y5 y6 y7 y8 y9 z0 z1 z2 z3 z4 z5 z6 z7 z8 z9 s0 s1 s2 s3
  have Y10 := Lib.hid y10
  have Z10 := Lib.hid z10
  clear y10 z10
  go_loopw [86] (fun i wr => ∃ k : Nat, k ≤ us.length ∧ i = .int .i64 k ∧ Below W2.heap.size W2 wr) (fun i _ => us.length - (intOf i).toNat)
  case atStart => exact ⟨0, Nat.zero_le _, rfl, Below.refl _ _⟩
  case round =>
    obtain ⟨k, hk, rfl, hb⟩ := hrel
    have HK := Lib.hid hb
    clear hb
    by_cases hlt : k < us.length
    case neg =>
      have hd : decide (k < us.length) = false := by rw [decide_eq_false_iff_not]; exact hlt
      go_wp2
      go_ret
      exact ⟨rfl, HBB.out.out.trans (HK.out.mono HBB.out.out.size)⟩
    have hd : decide (k < us.length) = true := by rw [decide_eq_true_iff]; exact hlt
    have y10 := cell_keep Y10.out HK.out
    have z10 := cell_keep Z10.out HK.out
    obtain ⟨b1, rfl, c1⟩ := K1.out k hlt
    obtain ⟨b2, rfl, c2⟩ := K2.out k hlt
    have d1 := cell_keep c1 HK.out
    have d2 := cell_keep c2 HK.out
    obtain ⟨p, hp⟩ : ∃ p, us[k] = p := ⟨_, rfl⟩
    rw [hp] at d1 d2
    have sp : (p.toList == p.toList) = true := by simp
    clear c1 c2 hp
    go_wp2
    go_quiet (fail)
    go_wp2
    go_roundw
    case rel => exact ⟨k + 1, by omega, by go_num, below_drewN' HK.out _⟩
    case measure => simp [intOf]; omega
end Go.Proofs.YtfijncfoefbohaaGreatDoor
