/- The tied card of FnRoundTrip, for every input: the row's frame, and the walk out of the texts before it. -/
import Derived.Test.YtfijncfoefbohaaDoorErrsS
import Derived.Test.YtfijncfoefbohaaDoorLawRound
import Derived.ShutString
import Derived.Test.YtfijncfoefbohaaDoorOpen
namespace Go.Proofs.YtfijncfoefbohaaDoor.fnRoundTrip
open Go.Proofs.YtfijncfoefbohaaDoor Go.ChangeShapes Go.WideShapes Go.ChangeAt Go.RowKit
open Go.ChangeMaps (open_string shut_string)
set_option linter.unusedVariables false

theorem reads (os : Os) {H : Type} (enc : TypeId × Value → H) : ∃ places, DataW.whole enc Tryd.prog ((start12 os).forCall (fun _ _ => 0) ⟨#[], #[(.agg #[.string ⟨#[]⟩, .string ⟨#[]⟩, .bool false, .string ⟨#[]⟩, .string ⟨#[]⟩, .int .i64 0, .bool false, .bool false, .int .i64 0, .bool false, .string ⟨#[]⟩, .slice none 0 0] : Value)], []⟩).memory Tryd.f15.params.toList Rows.fnRoundTripSpec.vars false (#[(.agg #[.string ⟨#[]⟩, .string ⟨#[]⟩, .bool false, .string ⟨#[]⟩, .string ⟨#[]⟩, .int .i64 0, .bool false, .bool false, .int .i64 0, .bool false, .string ⟨#[]⟩, .slice none 0 0] : Value)] : Array Value).toList 8 = some ([.agg [.lit (.string []), .lit (.string []), .lit (.bool false), .lit (.string []), .lit (.string []), .lit (.int .i64 0), .lit (.bool false), .lit (.bool false), .lit (.int .i64 0), .lit (.bool false), .lit (.string []), .nil]], [], places) :=
  ⟨[], by kernel_rfl⟩

set_option maxRecDepth 100000 in
theorem lifted (os : Os) (started : os.Started) (H : Type) (enc : TypeId × Value → H) (F : Stop.Interp) :
    ReturnsInHanded {} Tryd.checked os 15 .any ((OpenSpec.ofChange Rows.fnRoundTripSpec).preRow enc Tryd.prog Tryd.f15 Rows.fnRoundTripRow.domain false Rows.fnRoundTripRow.laid) (((OpenSpec.ofChange Rows.fnRoundTripSpec).at F).post enc Tryd.prog Tryd.f15 false true false false) := by
  obtain ⟨places, hx⟩ := reads os enc
  refine returnsInHanded_of_row (C := Tryd.checked) (s := OpenSpec.ofChange Rows.fnRoundTripSpec) own started (by kernel_rfl) Tryd.func15
    (witness_row_atRef (enc := enc) (C := Tryd.checked) false (start12 os) #[(.agg #[.string ⟨#[]⟩, .string ⟨#[]⟩, .bool false, .string ⟨#[]⟩, .string ⟨#[]⟩, .int .i64 0, .bool false, .bool false, .int .i64 0, .bool false, .string ⟨#[]⟩, .slice none 0 0] : Value)] (start12_os os) (shaped12 os _) (settled12 os _) (by kernel_rfl)
      (OpenSpec.preRow_of_cond 8 hx (by kernel_rfl) (fun k hk => by cases hk) (by kernel_rfl) (door_met12 os _))) ?_
  intro W base args ds gs before hval0 hW _ _ _ hL _ _
  have hval : ∀ (j : Nat) t v, Tryd.f15.params[j]? = some t → args[j]? = some v → Value.okWide Tryd.prog W .any base t v := hval0
  have hW' := hW
  obtain ⟨p, q, hA0, hV, rfl, hfz, hnd⟩ := hW
  have hA : DataW.TrodAll enc Tryd.prog W 0 (fun _ => true) true Tryd.f15.params.toList args.toList ds p := hA0
  rw [Tryd.params15] at hA hval
  obtain ⟨v0, vs0, d0, ds0, p0, q0, hargs0, rfl, rfl, h0, r0⟩ := trodAll_cons hA
  obtain ⟨rfl, rfl, rfl⟩ := trodAll_nil r0
  obtain rfl : args = #[v0] := by cases args; simp_all
  obtain ⟨rfl, rfl⟩ := trodVars_none hV
  obtain ⟨a0, rfl, w0⟩ := open_cookie (hval 0 26 v0 rfl rfl) h0
  clear hA0 hval0
  simp only [List.append_nil] at hW'
  refine (fnRoundTrip_walk a0 W w0 (errs12 hL) (nums12 hL) (pow_later (pow_laid rfl hL))).mono fun e W' ⟨he, hb⟩ => ?_
  subst he
  exact ⟨_, rfl, law_post rfl rfl Tryd.underlying4 (hts_of (by kernel_rfl)) hW' hb rfl⟩

theorem said : Rows.FnRoundTripSaid :=
  OpenClaim.holds_of_cond 15 Tryd.f15 rfl rfl rfl rfl rfl rfl rfl ⟨rfl, rfl, rfl, rfl, rfl⟩ rfl rfl rfl rfl rfl (by kernel_rfl) Tryd.func15 (by kernel_rfl)
    (of_decide_eq_true (by kernel_rfl)) (by unfold Func.isWrapper; first | (rw [if_pos (by decide +kernel)]; kernel_rfl) | (rw [if_neg (by decide +kernel)]; exact ⟨rfl, rfl⟩))
    (fun os started H enc _ F => by rw [OpenClaim.pre_eq_preRow]; exact lifted os started H enc F)

theorem plain (f : FuncId) (fn : Func) (hf : Tryd.pinned.checked.prog.funcNamed "httpcookies/laws.FnRoundTrip" = some f) (hfn : Tryd.pinned.checked.prog.funcs[f]? = some fn) :
    true = Tryd.pinned.checked.prog.looks [] ∧ ∀ (j : Nat) t, fn.params[j]? = some t → Tryd.pinned.checked.prog.wantsStandIn t = false := by
  obtain rfl : f = 15 := Option.some.inj ((show Tryd.prog.funcNamed "httpcookies/laws.FnRoundTrip" = some 15 by kernel_rfl).symm.trans hf) |>.symm
  obtain rfl : fn = Tryd.f15 := (Option.some.inj (Tryd.func15.symm.trans hfn)).symm
  refine ⟨by kernel_rfl, fun j t ht => ?_⟩
  rw [Tryd.params15] at ht
  have hm : t ∈ [26] := by simpa using Array.mem_of_getElem? ht
  have hall : ([26].all fun u => !Tryd.prog.wantsStandIn u) = true := by kernel_rfl
  exact (show Tryd.prog.wantsStandIn t = false by simpa using List.all_eq_true.1 hall t hm)

/-- ████ THE CARD ████ -/
theorem proved : Rows.FnRoundTripCardSaid :=
  Claim7.holds_tied_plain_at .later [] _ _ _ _ said (fun _ h => by cases h) (by kernel_rfl) (fun _ h => by cases h) fnRoundTrip_row_tie rfl ⟨rfl, rfl⟩ (by kernel_rfl) rfl plain (by kernel_rfl)
#print axioms proved
end Go.Proofs.YtfijncfoefbohaaDoor.fnRoundTrip
