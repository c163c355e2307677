/-
  No cell of these rows narrows 'for every input' (looked for: loops, veiled, ifaces, maps, wideKeys, modest, calm, conditions, laid).
  DERIVED. THE GIVEN ROWS OF THIS SEAT. 4 by the template 'for every input the law returns true; each argument reads behind the call as it read before'; 0 by the template 'total and deterministic' (their statements: YtfijncfoefbohaaTotals.lean).
  GIVEN WITH THE SEED: the statements are not yours to turn. If you find one false, say at which input.
  Laid BY PROGRAM, IN A SANDBOX (cutbox-rows.mjs): the forced cells as the released guide's own fill.sh prints them over the translation 9c408180cb21debf… (all of the seat's roots in one cut). By AI agents, Wed Nov 11 2026. No macro, syntax, notation, axiom, sorry.
-/
import Derived.Test.YtfijncfoefbohaaChecked
import GoSem.Claim
import GoSem.ClaimJoined
import GoSem.ClaimMapViews
import Derived.JoinedTies
import Derived.KernelRfl
namespace Go.Proofs.Ytfijncfoefbohaa
/- THE CELL 'sum', in the pinned program and in every row, IS THE sha256 OF THE DUMP (.gsa) THAT YtfijncfoefbohaaProg.lean LOADS. Nothing in Lean hashes anything: it is a label: what it is worth is what the hold of that sum in a sandbox is worth. -/
noncomputable def Try.pinned : Pinned := { name := "ytfijncfoefbohaa", sum := "9c408180cb21debf8bcdccce4ce8cb85c9473d5a43dc11471408597a8d0376ab", checked := Try.checked }
namespace Rows
def none {H : Type} : Left H := { results := [], args := [] }

/-- 'laws.FnBytes': WHATEVER THE INPUT: true; the input reads as it did. -/
def fnBytesSpec : ChangeSpec := { name := "fnBytes", fn := fun _ => fun
  | [d] => { results := [.lit (.bool true)], args := [d] }
  | _ => none }
def fnBytesRow : OpenClaim := { program := "ytfijncfoefbohaa", sum := "9c408180cb21debf8bcdccce4ce8cb85c9473d5a43dc11471408597a8d0376ab", func := "httpcookies/laws.FnBytes", spec := "fnBytes", apart := false }
def FnBytesSaid : Prop := fnBytesRow.holds Try.pinned (OpenSpec.ofChange fnBytesSpec)

/-- ITS FALSE NEIGHBOUR: 'it returns false'. Refute it at one input. -/
def fnBytesWrong : ChangeSpec := { name := "fnBytes", fn := fun _ => fun
  | [d] => { results := [.lit (.bool false)], args := [d] }
  | _ => none }
def FnBytesWrongFalsely : Prop := fnBytesRow.holds Try.pinned (OpenSpec.ofChange fnBytesWrong)

/-- 'laws.FnName': WHATEVER THE INPUT: true; the input reads as it did. -/
def fnNameSpec : ChangeSpec := { name := "fnName", fn := fun _ => fun
  | [d] => { results := [.lit (.bool true)], args := [d] }
  | _ => none }
def fnNameRow : OpenClaim := { program := "ytfijncfoefbohaa", sum := "9c408180cb21debf8bcdccce4ce8cb85c9473d5a43dc11471408597a8d0376ab", func := "httpcookies/laws.FnName", spec := "fnName", apart := false }
def FnNameSaid : Prop := fnNameRow.holds Try.pinned (OpenSpec.ofChange fnNameSpec)

/-- ITS FALSE NEIGHBOUR: 'it returns false'. Refute it at one input. -/
def fnNameWrong : ChangeSpec := { name := "fnName", fn := fun _ => fun
  | [d] => { results := [.lit (.bool false)], args := [d] }
  | _ => none }
def FnNameWrongFalsely : Prop := fnNameRow.holds Try.pinned (OpenSpec.ofChange fnNameWrong)

/-- 'laws.FnValue': WHATEVER THE INPUT: true; the input reads as it did. -/
def fnValueSpec : ChangeSpec := { name := "fnValue", fn := fun _ => fun
  | [d1, d2] => { results := [.lit (.bool true)], args := [d1, d2] }
  | _ => none }
def fnValueRow : OpenClaim := { program := "ytfijncfoefbohaa", sum := "9c408180cb21debf8bcdccce4ce8cb85c9473d5a43dc11471408597a8d0376ab", func := "httpcookies/laws.FnValue", spec := "fnValue", apart := false }
def FnValueSaid : Prop := fnValueRow.holds Try.pinned (OpenSpec.ofChange fnValueSpec)

/-- ITS FALSE NEIGHBOUR: 'it returns false'. Refute it at one input. -/
def fnValueWrong : ChangeSpec := { name := "fnValue", fn := fun _ => fun
  | [d1, d2] => { results := [.lit (.bool false)], args := [d1, d2] }
  | _ => none }
def FnValueWrongFalsely : Prop := fnValueRow.holds Try.pinned (OpenSpec.ofChange fnValueWrong)

/-- 'laws.FnDomainName': WHATEVER THE INPUT: true; the input reads as it did. -/
def fnDomainNameSpec : ChangeSpec := { name := "fnDomainName", fn := fun _ => fun
  | [d] => { results := [.lit (.bool true)], args := [d] }
  | _ => none }
def fnDomainNameRow : OpenClaim := { program := "ytfijncfoefbohaa", sum := "9c408180cb21debf8bcdccce4ce8cb85c9473d5a43dc11471408597a8d0376ab", func := "httpcookies/laws.FnDomainName", spec := "fnDomainName", apart := false }
def FnDomainNameSaid : Prop := fnDomainNameRow.holds Try.pinned (OpenSpec.ofChange fnDomainNameSpec)

/-- ITS FALSE NEIGHBOUR: 'it returns false'. Refute it at one input. -/
def fnDomainNameWrong : ChangeSpec := { name := "fnDomainName", fn := fun _ => fun
  | [d] => { results := [.lit (.bool false)], args := [d] }
  | _ => none }
def FnDomainNameWrongFalsely : Prop := fnDomainNameRow.holds Try.pinned (OpenSpec.ofChange fnDomainNameWrong)

/- THE SECOND FORM. 'bulk': how many values and letters a reading holds, each counted each time it is reached (what is shared counts as often as it is met; a slice's spare places count too). A statement '..UptoSaid' is the law's where the arguments, and the package variables that the reading takes, are together of bulk at most 1048576: NARROWER than '..Said'. Prove '..Said' where nothing that the law and all that it calls make is longer than what came in: it says more and counts as full. Else prove '..UptoSaid'. A law counts once. -/
mutual
def uptoBulk {H : Type} : DataW H → Nat
  | .lit (.string bytes) => bytes.length + 1
  | .lit _ => 1
  | .nil => 1
  | .ptr d => uptoBulk d + 1
  | .slice elems spare => uptoBulkAll elems + uptoBulkAll spare + 1
  | .agg parts => uptoBulkAll parts + 1
  | .iface _ d => uptoBulk d + 1
  | .map entries => uptoBulkEntries entries + 1
  | .held _ => 1
def uptoBulkAll {H : Type} : List (DataW H) → Nat
  | [] => 0
  | d :: r => uptoBulk d + uptoBulkAll r
def uptoBulkEntries {H : Type} : List (Lit × DataW H) → Nat
  | [] => 0
  | x :: r => uptoBulkEntry x + uptoBulkEntries r
def uptoBulkEntry {H : Type} : Lit × DataW H → Nat
  | (.string bytes, d) => bytes.length + uptoBulk d + 1
  | (_, d) => uptoBulk d + 1
 end
def uptoSmall : (H : Type) → List (DataW H) → Bool := fun _ ds => decide (uptoBulkAll ds ≤ 1048576)
def OpenSpec.upto (s : _root_.Go.ChangeSpec) : _root_.Go.OpenSpec := { _root_.Go.OpenSpec.ofChange s with cond := some uptoSmall }

/-- 'laws.FnBytes', WHERE WHAT IT READS IS OF BULK AT MOST 1048576: true; the input reads as it did. -/
def fnBytesUptoRow : OpenClaim := { program := "ytfijncfoefbohaa", sum := "9c408180cb21debf8bcdccce4ce8cb85c9473d5a43dc11471408597a8d0376ab", func := "httpcookies/laws.FnBytes", spec := "fnBytes", apart := false, narrowed := true }
def FnBytesUptoSaid : Prop := fnBytesUptoRow.holds Try.pinned (OpenSpec.upto fnBytesSpec)

/-- 'laws.FnName', WHERE WHAT IT READS IS OF BULK AT MOST 1048576: true; the input reads as it did. -/
def fnNameUptoRow : OpenClaim := { program := "ytfijncfoefbohaa", sum := "9c408180cb21debf8bcdccce4ce8cb85c9473d5a43dc11471408597a8d0376ab", func := "httpcookies/laws.FnName", spec := "fnName", apart := false, narrowed := true }
def FnNameUptoSaid : Prop := fnNameUptoRow.holds Try.pinned (OpenSpec.upto fnNameSpec)

/-- 'laws.FnValue', WHERE WHAT IT READS IS OF BULK AT MOST 1048576: true; the input reads as it did. -/
def fnValueUptoRow : OpenClaim := { program := "ytfijncfoefbohaa", sum := "9c408180cb21debf8bcdccce4ce8cb85c9473d5a43dc11471408597a8d0376ab", func := "httpcookies/laws.FnValue", spec := "fnValue", apart := false, narrowed := true }
def FnValueUptoSaid : Prop := fnValueUptoRow.holds Try.pinned (OpenSpec.upto fnValueSpec)

/-- 'laws.FnDomainName', WHERE WHAT IT READS IS OF BULK AT MOST 1048576: true; the input reads as it did. -/
def fnDomainNameUptoRow : OpenClaim := { program := "ytfijncfoefbohaa", sum := "9c408180cb21debf8bcdccce4ce8cb85c9473d5a43dc11471408597a8d0376ab", func := "httpcookies/laws.FnDomainName", spec := "fnDomainName", apart := false, narrowed := true }
def FnDomainNameUptoSaid : Prop := fnDomainNameUptoRow.holds Try.pinned (OpenSpec.upto fnDomainNameSpec)

end Rows
end Go.Proofs.Ytfijncfoefbohaa
