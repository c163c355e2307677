/- What a law's row asks behind the call, where the call has only made new memory: every argument reads as it did. -/
import Derived.Test.YtfijncfoefbohaaGreatDoorRows
import Derived.ProofKit
import Derived.Carry
import Derived.OpenShut
namespace Go.Proofs.YtfijncfoefbohaaGreatDoor
open Go Go.RowKit Go.ChangeShapes Go.WideShapes Go.ChangeAt

theorem laidOut : laidOutB Tryz.prog = true := by kernel_rfl
theorem own : ownKnob Tryz.prog.godebug = none := by kernel_rfl

theorem below_trodAll {H : Type} {enc : TypeId × Value → H} {W W' : World} (hb : Below W.heap.size W W') :
    ∀ {ts : List TypeId} {vs : List Value} {ds : List (DataW H)} {ps : List MemPlace}, (∀ t ∈ ts, Tryz.prog.readableRec t = true ∧ t < Tryz.prog.types.size) →
      DataW.TrodAll enc Tryz.prog W 0 (fun _ => true) true ts vs ds ps → (∀ x ∈ ps, x.block < W.heap.size) → DataW.TrodAll enc Tryz.prog W' 0 (fun b => decide (b < W.heap.size)) true ts vs ds ps
  | [], _, _, _, _, h, _ => by
    obtain ⟨rfl, rfl, rfl⟩ := trodAll_nil h
    exact trodAll_mk0
  | t :: ts, _, _, _, ht, h, hlt => by
    obtain ⟨v, vs1, d, ds1, a, b, rfl, rfl, rfl, h1, h2⟩ := trodAll_cons h
    have h3 := ht t (by simp)
    exact trodAll_cons_mk (Below.trod laidOut h3.1 h3.2 h1 hb (fun x hx => hlt x (by simp [hx])))
      (below_trodAll hb (fun t' h' => ht t' (by simp [h'])) h2 (fun x hx => hlt x (by simp [hx])))

theorem hts_of {ts : List TypeId} (h : (ts.all fun t => Tryz.prog.readableRec t && decide (t < Tryz.prog.types.size)) = true) : ∀ t ∈ ts, Tryz.prog.readableRec t = true ∧ t < Tryz.prog.types.size := by
  intro t ht
  have := List.all_eq_true.1 h t ht
  simpa using this
/-- THE POST OF A LAW. -/
theorem law_post {H : Type} {enc : TypeId × Value → H} {f : Func} {s : ChangeSpec} {W W' : World} {args : Array Value} {ds gs : List (DataW H)} {before : List MemPlace} {tb : TypeId}
    (hvars : s.vars = []) (hres : f.resultTypes = #[tb]) (htb : Tryz.prog.underlying tb = some .bool) (hts : ∀ t ∈ f.params.toList, Tryz.prog.readableRec t = true ∧ t < Tryz.prog.types.size)
    (hW : DataW.Whole enc Tryz.prog f.params.toList s.vars false W args.toList ds gs before) (hb : Below W.heap.size W W')
    (hfn : s.fn H (ds ++ []) = { results := [.lit (.bool true)], args := ds }) :
    s.post enc Tryz.prog f false true false false W args (.bool true) W' := by
  have hW' := hW
  have hlt : ∀ x ∈ before, x.block < W.heap.size := fun x hx => hW.lt x hx
  obtain ⟨p, q, hA, hV, rfl, hfz, hnd⟩ := hW
  rw [hvars] at hV
  obtain ⟨rfl, rfl⟩ := trodVars_none hV
  refine ⟨ds, [], p ++ [], [], p, [], hW', ?_, ?_, ?_, ?_, fun h => by cases h⟩
  · rw [hfn, hres]
    exact trodAll_mk1 (shut_bool htb true)
  · rw [hfn]
    exact below_trodAll hb hts hA (fun x hx => hlt x (by simp [hx]))
  · rw [hfn, hvars]
    rfl
  · exact World.keptBut_mono (fun x hx => ⟨hx, .inr (.inl (by simpa using hx))⟩) (hb.frame _)
end Go.Proofs.YtfijncfoefbohaaGreatDoor
