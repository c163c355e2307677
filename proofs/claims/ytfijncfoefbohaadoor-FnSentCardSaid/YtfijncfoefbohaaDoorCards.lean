/-
  DERIVED. GIVEN WITH THE SEED: THE CARDS: each row of YtfijncfoefbohaaDoorRows.lean that lists a variable, with what it lists TIED to the program's text (the seventh form; the later family's looks); each row that meets fmt, with fmt's text TOLD by the authors' own Lean function (tested against real Go, not proved from fmt's source: count such statements apart). THE CARD IS WHAT COUNTS. Prove the row's statement (the work); the ties are given (YtfijncfoefbohaaDoorTie.lean); close each card by the builder's one call (the guide's Derived/Test/ToyasCard.lean, 'card_holds'). Laid BY PROGRAM, IN A SANDBOX (cutbox-door.mjs). By AI agents, Wed Nov 11 2026. No macro, syntax, notation, axiom, sorry.
-/
import Derived.Test.YtfijncfoefbohaaDoorRows
import GoSem.ClaimSeven
namespace Go.Proofs.YtfijncfoefbohaaDoor
namespace Rows

/-- THE TIED CARD OF 'laws.FnDomain'. -/
def fnDomainCard : Claim7 := { stood := { row := fnDomainRow, standIns := [], harness := (true, "730471988943f63f0ed46b72898acc84a13399d57c1f2acca2879e3dfb165020"), looks := true }, kinds := [], alts := [], laidByText := true, laidKinds := [.data, .data, .data], laidTests := true, laidLooks := .later }
def FnDomainCardSaid : Prop := Claim7.holds Tryd.pinned (.plain (OpenSpec.ofChange fnDomainSpec)) fnDomainCard

/-- THE TIED CARD OF 'laws.FnSet'. -/
def fnSetCard : Claim7 := { stood := { row := fnSetRow, standIns := [], harness := (true, "730471988943f63f0ed46b72898acc84a13399d57c1f2acca2879e3dfb165020"), looks := true }, kinds := [], alts := [], laidByText := true, laidKinds := [.data, .data, .data], laidTests := true, laidLooks := .later }
def FnSetCardSaid : Prop := Claim7.holds Tryd.pinned (.plain (OpenSpec.ofChange fnSetSpec)) fnSetCard

/-- THE TIED CARD OF 'laws.FnClean'. -/
def fnCleanCard : Claim7 := { stood := { row := fnCleanRow, standIns := [], harness := (true, "730471988943f63f0ed46b72898acc84a13399d57c1f2acca2879e3dfb165020"), looks := true }, kinds := [], alts := [], laidByText := true, laidKinds := [.data, .data, .data], laidTests := true, laidLooks := .later }
def FnCleanCardSaid : Prop := Claim7.holds Tryd.pinned (.plain (OpenSpec.ofChange fnCleanSpec)) fnCleanCard

/-- THE TIED CARD OF 'laws.FnCleanName'. -/
def fnCleanNameCard : Claim7 := { stood := { row := fnCleanNameRow, standIns := [], harness := (true, "730471988943f63f0ed46b72898acc84a13399d57c1f2acca2879e3dfb165020"), looks := true }, kinds := [], alts := [], laidByText := true, laidKinds := [.data, .data, .data], laidTests := true, laidLooks := .later }
def FnCleanNameCardSaid : Prop := Claim7.holds Tryd.pinned (.plain (OpenSpec.ofChange fnCleanNameSpec)) fnCleanNameCard

/-- THE TIED CARD OF 'laws.FnValid'. -/
def fnValidCard : Claim7 := { stood := { row := fnValidRow, standIns := [], harness := (true, "730471988943f63f0ed46b72898acc84a13399d57c1f2acca2879e3dfb165020"), looks := true }, kinds := [], alts := [], laidByText := true, laidKinds := [.data, .data, .data], laidTests := true, laidLooks := .later }
def FnValidCardSaid : Prop := Claim7.holds Tryd.pinned (.plain (OpenSpec.ofChange fnValidSpec)) fnValidCard

/-- THE TIED CARD OF 'laws.FnBadPair'. -/
def fnBadPairCard : Claim7 := { stood := { row := fnBadPairRow, standIns := [], harness := (true, "730471988943f63f0ed46b72898acc84a13399d57c1f2acca2879e3dfb165020"), looks := true }, kinds := [], alts := [], laidByText := true, laidKinds := [.data, .data, .data, .sentinel, .sentinel, .sentinel, .sentinel, .sentinel], laidTests := true, laidLooks := .later }
def FnBadPairCardSaid : Prop := Claim7.holds Tryd.pinned (.plain (OpenSpec.ofChange fnBadPairSpec)) fnBadPairCard

/-- THE TIED CARD OF 'laws.FnParse'. -/
def fnParseCard : Claim7 := { stood := { row := fnParseRow, standIns := [], harness := (true, "730471988943f63f0ed46b72898acc84a13399d57c1f2acca2879e3dfb165020"), looks := true }, kinds := [], alts := [], laidByText := true, laidKinds := [.data, .data, .data, .sentinel, .sentinel, .sentinel, .sentinel, .sentinel], laidTests := true, laidLooks := .later }
def FnParseCardSaid : Prop := Claim7.holds Tryd.pinned (.plain (OpenSpec.ofChange fnParseSpec)) fnParseCard

/-- THE TIED CARD OF 'laws.FnReadLines'. -/
def fnReadLinesCard : Claim7 := { stood := { row := fnReadLinesRow, standIns := [], harness := (true, "730471988943f63f0ed46b72898acc84a13399d57c1f2acca2879e3dfb165020"), looks := true }, kinds := [], alts := [], laidByText := true, laidKinds := [.data, .data, .data], laidTests := true, laidLooks := .later }
def FnReadLinesCardSaid : Prop := Claim7.holds Tryd.pinned (.plain (OpenSpec.ofChange fnReadLinesSpec)) fnReadLinesCard

/-- THE TIED CARD OF 'laws.FnSent'. -/
def fnSentCard : Claim7 := { stood := { row := fnSentRow, standIns := [], harness := (true, "730471988943f63f0ed46b72898acc84a13399d57c1f2acca2879e3dfb165020"), looks := true }, kinds := [], alts := [], laidByText := true, laidKinds := [.data, .data, .data, .sentinel, .sentinel, .sentinel, .sentinel, .sentinel], laidTests := true, laidLooks := .later }
def FnSentCardSaid : Prop := Claim7.holds Tryd.pinned (.plain (OpenSpec.ofChange fnSentSpec)) fnSentCard

/-- THE TIED CARD OF 'laws.FnAnyLine'. -/
def fnAnyLineCard : Claim7 := { stood := { row := fnAnyLineRow, standIns := [], harness := (true, "730471988943f63f0ed46b72898acc84a13399d57c1f2acca2879e3dfb165020"), looks := true }, kinds := [], alts := [], laidByText := true, laidKinds := [.data, .data, .data, .data, .sentinel, .sentinel, .sentinel, .sentinel, .sentinel, .sentinel, .pinned, .pinned], laidTests := true, laidLooks := .later }
def FnAnyLineCardSaid : Prop := Claim7.holds Tryd.pinned (.plain (OpenSpec.ofChange fnAnyLineSpec)) fnAnyLineCard

/-- THE TIED CARD OF 'laws.FnBadSet'. -/
def fnBadSetCard : Claim7 := { stood := { row := fnBadSetRow, standIns := [], harness := (true, "730471988943f63f0ed46b72898acc84a13399d57c1f2acca2879e3dfb165020"), looks := true }, kinds := [], alts := [], laidByText := true, laidKinds := [.data, .data, .data, .data, .sentinel, .sentinel, .sentinel, .sentinel, .sentinel, .sentinel, .pinned, .pinned], laidTests := true, laidLooks := .later }
def FnBadSetCardSaid : Prop := Claim7.holds Tryd.pinned (.plain (OpenSpec.ofChange fnBadSetSpec)) fnBadSetCard

/-- THE TIED CARD OF 'laws.FnReadSet'. -/
def fnReadSetCard : Claim7 := { stood := { row := fnReadSetRow, standIns := [], harness := (true, "730471988943f63f0ed46b72898acc84a13399d57c1f2acca2879e3dfb165020"), looks := true }, kinds := [], alts := [], laidByText := true, laidKinds := [.data, .data, .data, .data, .sentinel, .sentinel, .sentinel, .sentinel, .sentinel, .sentinel, .pinned, .pinned], laidTests := true, laidLooks := .later }
def FnReadSetCardSaid : Prop := Claim7.holds Tryd.pinned (.plain (OpenSpec.ofChange fnReadSetSpec)) fnReadSetCard

/-- THE TIED CARD OF 'laws.FnRoundTrip'. -/
def fnRoundTripCard : Claim7 := { stood := { row := fnRoundTripRow, standIns := [], harness := (true, "730471988943f63f0ed46b72898acc84a13399d57c1f2acca2879e3dfb165020"), looks := true }, kinds := [], alts := [], laidByText := true, laidKinds := [.data, .data, .data, .data, .sentinel, .sentinel, .sentinel, .sentinel, .sentinel, .sentinel, .pinned, .pinned], laidTests := true, laidLooks := .later }
def FnRoundTripCardSaid : Prop := Claim7.holds Tryd.pinned (.plain (OpenSpec.ofChange fnRoundTripSpec)) fnRoundTripCard

/-- THE SECOND FORM's CARD OF 'laws.FnDomain'. -/
def fnDomainUptoCard : Claim7 := { stood := { row := fnDomainUptoRow, standIns := [], harness := (true, "730471988943f63f0ed46b72898acc84a13399d57c1f2acca2879e3dfb165020"), looks := true }, kinds := [], alts := [], laidByText := true, laidKinds := [.data, .data, .data], laidTests := true, laidLooks := .later }
def FnDomainUptoCardSaid : Prop := Claim7.holds Tryd.pinned (.plain (OpenSpec.upto fnDomainSpec)) fnDomainUptoCard

/-- THE SECOND FORM's CARD OF 'laws.FnSet'. -/
def fnSetUptoCard : Claim7 := { stood := { row := fnSetUptoRow, standIns := [], harness := (true, "730471988943f63f0ed46b72898acc84a13399d57c1f2acca2879e3dfb165020"), looks := true }, kinds := [], alts := [], laidByText := true, laidKinds := [.data, .data, .data], laidTests := true, laidLooks := .later }
def FnSetUptoCardSaid : Prop := Claim7.holds Tryd.pinned (.plain (OpenSpec.upto fnSetSpec)) fnSetUptoCard

/-- THE SECOND FORM's CARD OF 'laws.FnClean'. -/
def fnCleanUptoCard : Claim7 := { stood := { row := fnCleanUptoRow, standIns := [], harness := (true, "730471988943f63f0ed46b72898acc84a13399d57c1f2acca2879e3dfb165020"), looks := true }, kinds := [], alts := [], laidByText := true, laidKinds := [.data, .data, .data], laidTests := true, laidLooks := .later }
def FnCleanUptoCardSaid : Prop := Claim7.holds Tryd.pinned (.plain (OpenSpec.upto fnCleanSpec)) fnCleanUptoCard

/-- THE SECOND FORM's CARD OF 'laws.FnCleanName'. -/
def fnCleanNameUptoCard : Claim7 := { stood := { row := fnCleanNameUptoRow, standIns := [], harness := (true, "730471988943f63f0ed46b72898acc84a13399d57c1f2acca2879e3dfb165020"), looks := true }, kinds := [], alts := [], laidByText := true, laidKinds := [.data, .data, .data], laidTests := true, laidLooks := .later }
def FnCleanNameUptoCardSaid : Prop := Claim7.holds Tryd.pinned (.plain (OpenSpec.upto fnCleanNameSpec)) fnCleanNameUptoCard

/-- THE SECOND FORM's CARD OF 'laws.FnValid'. -/
def fnValidUptoCard : Claim7 := { stood := { row := fnValidUptoRow, standIns := [], harness := (true, "730471988943f63f0ed46b72898acc84a13399d57c1f2acca2879e3dfb165020"), looks := true }, kinds := [], alts := [], laidByText := true, laidKinds := [.data, .data, .data], laidTests := true, laidLooks := .later }
def FnValidUptoCardSaid : Prop := Claim7.holds Tryd.pinned (.plain (OpenSpec.upto fnValidSpec)) fnValidUptoCard

/-- THE SECOND FORM's CARD OF 'laws.FnBadPair'. -/
def fnBadPairUptoCard : Claim7 := { stood := { row := fnBadPairUptoRow, standIns := [], harness := (true, "730471988943f63f0ed46b72898acc84a13399d57c1f2acca2879e3dfb165020"), looks := true }, kinds := [], alts := [], laidByText := true, laidKinds := [.data, .data, .data, .sentinel, .sentinel, .sentinel, .sentinel, .sentinel], laidTests := true, laidLooks := .later }
def FnBadPairUptoCardSaid : Prop := Claim7.holds Tryd.pinned (.plain (OpenSpec.upto fnBadPairSpec)) fnBadPairUptoCard

/-- THE SECOND FORM's CARD OF 'laws.FnParse'. -/
def fnParseUptoCard : Claim7 := { stood := { row := fnParseUptoRow, standIns := [], harness := (true, "730471988943f63f0ed46b72898acc84a13399d57c1f2acca2879e3dfb165020"), looks := true }, kinds := [], alts := [], laidByText := true, laidKinds := [.data, .data, .data, .sentinel, .sentinel, .sentinel, .sentinel, .sentinel], laidTests := true, laidLooks := .later }
def FnParseUptoCardSaid : Prop := Claim7.holds Tryd.pinned (.plain (OpenSpec.upto fnParseSpec)) fnParseUptoCard

/-- THE SECOND FORM's CARD OF 'laws.FnReadLines'. -/
def fnReadLinesUptoCard : Claim7 := { stood := { row := fnReadLinesUptoRow, standIns := [], harness := (true, "730471988943f63f0ed46b72898acc84a13399d57c1f2acca2879e3dfb165020"), looks := true }, kinds := [], alts := [], laidByText := true, laidKinds := [.data, .data, .data], laidTests := true, laidLooks := .later }
def FnReadLinesUptoCardSaid : Prop := Claim7.holds Tryd.pinned (.plain (OpenSpec.upto fnReadLinesSpec)) fnReadLinesUptoCard

/-- THE SECOND FORM's CARD OF 'laws.FnSent'. -/
def fnSentUptoCard : Claim7 := { stood := { row := fnSentUptoRow, standIns := [], harness := (true, "730471988943f63f0ed46b72898acc84a13399d57c1f2acca2879e3dfb165020"), looks := true }, kinds := [], alts := [], laidByText := true, laidKinds := [.data, .data, .data, .sentinel, .sentinel, .sentinel, .sentinel, .sentinel], laidTests := true, laidLooks := .later }
def FnSentUptoCardSaid : Prop := Claim7.holds Tryd.pinned (.plain (OpenSpec.upto fnSentSpec)) fnSentUptoCard

/-- THE SECOND FORM's CARD OF 'laws.FnAnyLine'. -/
def fnAnyLineUptoCard : Claim7 := { stood := { row := fnAnyLineUptoRow, standIns := [], harness := (true, "730471988943f63f0ed46b72898acc84a13399d57c1f2acca2879e3dfb165020"), looks := true }, kinds := [], alts := [], laidByText := true, laidKinds := [.data, .data, .data, .data, .sentinel, .sentinel, .sentinel, .sentinel, .sentinel, .sentinel, .pinned, .pinned], laidTests := true, laidLooks := .later }
def FnAnyLineUptoCardSaid : Prop := Claim7.holds Tryd.pinned (.plain (OpenSpec.upto fnAnyLineSpec)) fnAnyLineUptoCard

/-- THE SECOND FORM's CARD OF 'laws.FnBadSet'. -/
def fnBadSetUptoCard : Claim7 := { stood := { row := fnBadSetUptoRow, standIns := [], harness := (true, "730471988943f63f0ed46b72898acc84a13399d57c1f2acca2879e3dfb165020"), looks := true }, kinds := [], alts := [], laidByText := true, laidKinds := [.data, .data, .data, .data, .sentinel, .sentinel, .sentinel, .sentinel, .sentinel, .sentinel, .pinned, .pinned], laidTests := true, laidLooks := .later }
def FnBadSetUptoCardSaid : Prop := Claim7.holds Tryd.pinned (.plain (OpenSpec.upto fnBadSetSpec)) fnBadSetUptoCard

/-- THE SECOND FORM's CARD OF 'laws.FnReadSet'. -/
def fnReadSetUptoCard : Claim7 := { stood := { row := fnReadSetUptoRow, standIns := [], harness := (true, "730471988943f63f0ed46b72898acc84a13399d57c1f2acca2879e3dfb165020"), looks := true }, kinds := [], alts := [], laidByText := true, laidKinds := [.data, .data, .data, .data, .sentinel, .sentinel, .sentinel, .sentinel, .sentinel, .sentinel, .pinned, .pinned], laidTests := true, laidLooks := .later }
def FnReadSetUptoCardSaid : Prop := Claim7.holds Tryd.pinned (.plain (OpenSpec.upto fnReadSetSpec)) fnReadSetUptoCard

/-- THE SECOND FORM's CARD OF 'laws.FnRoundTrip'. -/
def fnRoundTripUptoCard : Claim7 := { stood := { row := fnRoundTripUptoRow, standIns := [], harness := (true, "730471988943f63f0ed46b72898acc84a13399d57c1f2acca2879e3dfb165020"), looks := true }, kinds := [], alts := [], laidByText := true, laidKinds := [.data, .data, .data, .data, .sentinel, .sentinel, .sentinel, .sentinel, .sentinel, .sentinel, .pinned, .pinned], laidTests := true, laidLooks := .later }
def FnRoundTripUptoCardSaid : Prop := Claim7.holds Tryd.pinned (.plain (OpenSpec.upto fnRoundTripSpec)) fnRoundTripUptoCard
end Rows
end Go.Proofs.YtfijncfoefbohaaDoor
