/- Two cookies that are the same plain one are the same (Z's own text: the seat D has these in ReadSet). -/
import Derived.Test.YtfijncfoefbohaaGreatDoorISet
import Derived.Test.YtfijncfoefbohaaGreatDoorSame
import Derived.Test.YtfijncfoefbohaaGreatDoorLawClean
namespace Go.Proofs.YtfijncfoefbohaaGreatDoor
open Go Go.RowKit

/-! ### Two cookies that are the same plain one -/
theorem own_row {B : Nat} {o : Option Addr} {n c : Nat} {us : List ByteArray} {w : World} (h : w.ownsRow B 9 1 (.slice o n c) us.length (us.map Value.string)) : n = us.length ∧ us.length ≤ maxLen ∧ RowIs us o w := by
  rcases h.2 with ⟨h1, h0⟩ | ⟨g, cap, cur, h1, h2, h3, h4, h5, h6⟩
  · cases h1
    exact ⟨h0.symm, by omega, fun i hi => by omega⟩
  · cases h1
    refine ⟨rfl, by omega, fun i hi => ⟨⟨g, 0, none⟩, rfl, ?_⟩⟩
    exact h.cells (g := g) rfl i (.string us[i]) (by simp [hi])
theorem data_inj : ∀ {a b : List ByteArray}, a.map (fun x => x.data.toList) = b.map (fun x => x.data.toList) → a = b
  | [], [], _ => rfl
  | [], _ :: _, h => by cases h
  | _ :: _, [], h => by cases h
  | x :: a, y :: b, h => by
    simp only [List.map_cons, List.cons.injEq] at h
    rw [ba_ext h.1, data_inj h.2]
theorem same_cks (a b : Ck) (pc : PC) (B : Nat) (w : World) (h1 : CkEq a pc) (h2 : CkEq b pc) (u1 : UnpAt B a pc.unp w) (u2 : UnpAt B b pc.unp w) :
    Calls Tryz.prog 9 #[.agg a.pcells, .agg b.pcells] w fun e w' => e = .returned (.bool true) ∧ Below w.heap.size w w' := by
  obtain ⟨us, o1, e1⟩ := u1
  obtain ⟨us2, o2, e2⟩ := u2
  have hus : us2 = us := data_inj (e2.trans e1.symm)
  subst hus
  obtain ⟨n1, l1, r1⟩ := own_row o1
  obtain ⟨n2, l2, r2⟩ := own_row o2
  have hb : b.pcells = ({ a with uo := b.uo, uc := b.uc } : Ck).pcells := by
    unfold Ck.pcells
    rw [ba_ext (h2.name.trans h1.name.symm), ba_ext (h2.value.trans h1.value.symm), h2.quoted.trans h1.quoted.symm, ba_ext (h2.path.trans h1.path.symm), ba_ext (h2.domain.trans h1.domain.symm), h2.age.trans h1.age.symm, h2.secure.trans h1.secure.symm, h2.http.trans h1.http.symm, h2.site.trans h1.site.symm, h2.part.trans h1.part.symm, n2.trans n1.symm]
  rw [hb]
  exact same_true a b.uo b.uc us2 w n1 l1 r1 r2
end Go.Proofs.YtfijncfoefbohaaGreatDoor
