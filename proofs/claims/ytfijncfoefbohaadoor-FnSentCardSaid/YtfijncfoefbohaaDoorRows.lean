/-
  NARROWER THAN 'FOR EVERY INPUT', by the rows' own cells (each row's printed sentence says how): FnDomain: laid · FnSet: laid · FnClean: laid · FnCleanName: laid · FnValid: laid · FnBadPair: laid · FnParse: laid · FnReadLines: laid · FnSent: laid · FnAnyLine: laid · FnBadSet: laid · FnReadSet: laid · FnRoundTrip: laid.
  DERIVED. THE GIVEN ROWS OF THIS SEAT. 13 by the template 'for every input the law returns true; each argument reads behind the call as it read before'; 0 by the template 'total and deterministic' (their statements: YtfijncfoefbohaaDoorTotals.lean).
  GIVEN WITH THE SEED: the statements are not yours to turn. If you find one false, say at which input.
  Laid BY PROGRAM, IN A SANDBOX (cutbox-rows.mjs): the forced cells as the released guide's own fill.sh prints them over the translation d719d9b40d25192f… (all of the seat's roots in one cut). By AI agents, Wed Nov 11 2026. No macro, syntax, notation, axiom, sorry.
-/
import Derived.Test.YtfijncfoefbohaaDoorChecked
import GoSem.PinnedTables
import GoSem.Claim
import GoSem.ClaimJoined
import GoSem.ClaimMapViews
import Derived.JoinedTies
import Derived.KernelRfl
namespace Go.Proofs.YtfijncfoefbohaaDoor
/- THE CELL 'sum', in the pinned program and in every row, IS THE sha256 OF THE DUMP (.gsa) THAT YtfijncfoefbohaaDoorProg.lean LOADS. Nothing in Lean hashes anything: it is a label: what it is worth is what the hold of that sum in a sandbox is worth. -/
noncomputable def Tryd.pinned : Pinned := { name := "ytfijncfoefbohaadoor", sum := "d719d9b40d25192f614b5edda6d3c95f3c442e3f91e90da9f2e3be8cffc17ba2", checked := Tryd.checked }
namespace Rows
def none {H : Type} : Left H := { results := [], args := [] }

/- WHAT THE LISTED PACKAGE-LEVEL VARIABLES READ AS WHEN THE CALL BEGINS. Each datum BY PROGRAM (the guide's laid-datum.mjs) off the statement by which the dump's own 'gosem.cut.vars' lays the variable. In a bare row this is a premise. The card (YtfijncfoefbohaaDoorCards.lean) ties it to the program's text. -/
def laid_math_bits_deBruijn32tab {H : Type} : DataW H := .agg [.lit (.int .u8 0), .lit (.int .u8 1), .lit (.int .u8 28), .lit (.int .u8 2), .lit (.int .u8 29), .lit (.int .u8 14), .lit (.int .u8 24), .lit (.int .u8 3), .lit (.int .u8 30), .lit (.int .u8 22), .lit (.int .u8 20), .lit (.int .u8 15), .lit (.int .u8 25), .lit (.int .u8 17), .lit (.int .u8 4), .lit (.int .u8 8), .lit (.int .u8 31), .lit (.int .u8 27), .lit (.int .u8 13), .lit (.int .u8 23), .lit (.int .u8 21), .lit (.int .u8 19), .lit (.int .u8 16), .lit (.int .u8 7), .lit (.int .u8 26), .lit (.int .u8 12), .lit (.int .u8 18), .lit (.int .u8 6), .lit (.int .u8 11), .lit (.int .u8 5), .lit (.int .u8 10), .lit (.int .u8 9)]
def laid_math_bits_deBruijn64tab {H : Type} : DataW H := .agg [.lit (.int .u8 0), .lit (.int .u8 1), .lit (.int .u8 56), .lit (.int .u8 2), .lit (.int .u8 57), .lit (.int .u8 49), .lit (.int .u8 28), .lit (.int .u8 3), .lit (.int .u8 61), .lit (.int .u8 58), .lit (.int .u8 42), .lit (.int .u8 50), .lit (.int .u8 38), .lit (.int .u8 29), .lit (.int .u8 17), .lit (.int .u8 4), .lit (.int .u8 62), .lit (.int .u8 47), .lit (.int .u8 59), .lit (.int .u8 36), .lit (.int .u8 45), .lit (.int .u8 43), .lit (.int .u8 51), .lit (.int .u8 22), .lit (.int .u8 53), .lit (.int .u8 39), .lit (.int .u8 33), .lit (.int .u8 30), .lit (.int .u8 24), .lit (.int .u8 18), .lit (.int .u8 12), .lit (.int .u8 5), .lit (.int .u8 63), .lit (.int .u8 55), .lit (.int .u8 48), .lit (.int .u8 27), .lit (.int .u8 60), .lit (.int .u8 41), .lit (.int .u8 37), .lit (.int .u8 16), .lit (.int .u8 46), .lit (.int .u8 35), .lit (.int .u8 44), .lit (.int .u8 21), .lit (.int .u8 52), .lit (.int .u8 32), .lit (.int .u8 23), .lit (.int .u8 11), .lit (.int .u8 54), .lit (.int .u8 26), .lit (.int .u8 40), .lit (.int .u8 15), .lit (.int .u8 34), .lit (.int .u8 20), .lit (.int .u8 31), .lit (.int .u8 10), .lit (.int .u8 25), .lit (.int .u8 14), .lit (.int .u8 19), .lit (.int .u8 9), .lit (.int .u8 13), .lit (.int .u8 8), .lit (.int .u8 7), .lit (.int .u8 6)]
def laid_internal_strconv_uint64pow10 {H : Type} : DataW H := .agg [.lit (.int .u64 1), .lit (.int .u64 10), .lit (.int .u64 100), .lit (.int .u64 1000), .lit (.int .u64 10000), .lit (.int .u64 100000), .lit (.int .u64 1000000), .lit (.int .u64 10000000), .lit (.int .u64 100000000), .lit (.int .u64 1000000000), .lit (.int .u64 10000000000), .lit (.int .u64 100000000000), .lit (.int .u64 1000000000000), .lit (.int .u64 10000000000000), .lit (.int .u64 100000000000000), .lit (.int .u64 1000000000000000), .lit (.int .u64 10000000000000000), .lit (.int .u64 100000000000000000), .lit (.int .u64 1000000000000000000), .lit (.int .u64 10000000000000000000)]
def laid_httpcookies_pub_cookie_errBlankCookie {H : Type} : DataW H := .iface "*errors.errorString" (.ptr (.agg [.lit (.string [104, 116, 116, 112, 58, 32, 98, 108, 97, 110, 107, 32, 99, 111, 111, 107, 105, 101])]))
def laid_httpcookies_pub_cookie_errEqualNotFoundInCookie {H : Type} : DataW H := .iface "*errors.errorString" (.ptr (.agg [.lit (.string [104, 116, 116, 112, 58, 32, 39, 61, 39, 32, 110, 111, 116, 32, 102, 111, 117, 110, 100, 32, 105, 110, 32, 99, 111, 111, 107, 105, 101])]))
def laid_httpcookies_pub_cookie_errInvalidCookieName {H : Type} : DataW H := .iface "*errors.errorString" (.ptr (.agg [.lit (.string [104, 116, 116, 112, 58, 32, 105, 110, 118, 97, 108, 105, 100, 32, 99, 111, 111, 107, 105, 101, 32, 110, 97, 109, 101])]))
def laid_httpcookies_pub_cookie_errInvalidCookieValue {H : Type} : DataW H := .iface "*errors.errorString" (.ptr (.agg [.lit (.string [104, 116, 116, 112, 58, 32, 105, 110, 118, 97, 108, 105, 100, 32, 99, 111, 111, 107, 105, 101, 32, 118, 97, 108, 117, 101])]))
def laid_httpcookies_pub_cookie_errCookieNumLimitExceeded {H : Type} : DataW H := .iface "*errors.errorString" (.ptr (.agg [.lit (.string [104, 116, 116, 112, 58, 32, 110, 117, 109, 98, 101, 114, 32, 111, 102, 32, 99, 111, 111, 107, 105, 101, 115, 32, 101, 120, 99, 101, 101, 100, 101, 100, 32, 108, 105, 109, 105, 116])]))
def laid_unicode_utf8_acceptRanges {H : Type} : DataW H := .agg [.agg [.lit (.int .u8 128), .lit (.int .u8 191)], .agg [.lit (.int .u8 160), .lit (.int .u8 191)], .agg [.lit (.int .u8 128), .lit (.int .u8 159)], .agg [.lit (.int .u8 144), .lit (.int .u8 191)], .agg [.lit (.int .u8 128), .lit (.int .u8 143)], .agg [.lit (.int .u8 0), .lit (.int .u8 0)], .agg [.lit (.int .u8 0), .lit (.int .u8 0)], .agg [.lit (.int .u8 0), .lit (.int .u8 0)], .agg [.lit (.int .u8 0), .lit (.int .u8 0)], .agg [.lit (.int .u8 0), .lit (.int .u8 0)], .agg [.lit (.int .u8 0), .lit (.int .u8 0)], .agg [.lit (.int .u8 0), .lit (.int .u8 0)], .agg [.lit (.int .u8 0), .lit (.int .u8 0)], .agg [.lit (.int .u8 0), .lit (.int .u8 0)], .agg [.lit (.int .u8 0), .lit (.int .u8 0)], .agg [.lit (.int .u8 0), .lit (.int .u8 0)]]
def laid_strconv_ErrRange {H : Type} : DataW H := .iface "*errors.errorString" (.ptr (.agg [.lit (.string [118, 97, 108, 117, 101, 32, 111, 117, 116, 32, 111, 102, 32, 114, 97, 110, 103, 101])]))
def laid_strconv_ErrSyntax {H : Type} : DataW H := .iface "*errors.errorString" (.ptr (.agg [.lit (.string [105, 110, 118, 97, 108, 105, 100, 32, 115, 121, 110, 116, 97, 120])]))
/-- One of Go's own tables, pinned by name: the form's constant. -/
def laid_unicode_CaseRanges : DataW Unit := Go.Pinned.caseRanges
/-- One of Go's own tables, pinned by name: the form's constant. -/
def laid_unicode_utf8_first : DataW Unit := Go.Pinned.utf8First

/-- 'laws.FnDomain': WHATEVER THE INPUT: true; the input reads as it did. -/
def fnDomainSpec : ChangeSpec := { name := "fnDomain", fn := fun _ => fun
  | [d] => { results := [.lit (.bool true)], args := [d] }
  | _ => none }
def fnDomainRow : OpenClaim := { program := "ytfijncfoefbohaadoor", sum := "d719d9b40d25192f614b5edda6d3c95f3c442e3f91e90da9f2e3be8cffc17ba2", func := "httpcookies/laws.FnDomain", spec := "fnDomain", inPlace := ["internal/abi.NoEscape", "internal/bytealg.MakeNoZero"], unfollowed := true, recurses := true, named := ["internal/strconv.uint64pow10", "math/bits.deBruijn32tab", "math/bits.deBruijn64tab"], apart := false, laid := [("math/bits.deBruijn32tab", laid_math_bits_deBruijn32tab), ("math/bits.deBruijn64tab", laid_math_bits_deBruijn64tab), ("internal/strconv.uint64pow10", laid_internal_strconv_uint64pow10)] }
def FnDomainSaid : Prop := fnDomainRow.holds Tryd.pinned (OpenSpec.ofChange fnDomainSpec)

/-- ITS FALSE NEIGHBOUR: 'it returns false'. Refute it at one input. -/
def fnDomainWrong : ChangeSpec := { name := "fnDomain", fn := fun _ => fun
  | [d] => { results := [.lit (.bool false)], args := [d] }
  | _ => none }
def FnDomainWrongFalsely : Prop := fnDomainRow.holds Tryd.pinned (OpenSpec.ofChange fnDomainWrong)

/-- 'laws.FnSet': WHATEVER THE INPUT: true; the input reads as it did. -/
def fnSetSpec : ChangeSpec := { name := "fnSet", fn := fun _ => fun
  | [d] => { results := [.lit (.bool true)], args := [d] }
  | _ => none }
def fnSetRow : OpenClaim := { program := "ytfijncfoefbohaadoor", sum := "d719d9b40d25192f614b5edda6d3c95f3c442e3f91e90da9f2e3be8cffc17ba2", func := "httpcookies/laws.FnSet", spec := "fnSet", inPlace := ["internal/abi.NoEscape", "internal/bytealg.MakeNoZero"], unfollowed := true, recurses := true, named := ["internal/strconv.uint64pow10", "math/bits.deBruijn32tab", "math/bits.deBruijn64tab"], apart := false, laid := [("math/bits.deBruijn32tab", laid_math_bits_deBruijn32tab), ("math/bits.deBruijn64tab", laid_math_bits_deBruijn64tab), ("internal/strconv.uint64pow10", laid_internal_strconv_uint64pow10)] }
def FnSetSaid : Prop := fnSetRow.holds Tryd.pinned (OpenSpec.ofChange fnSetSpec)

/-- ITS FALSE NEIGHBOUR: 'it returns false'. Refute it at one input. -/
def fnSetWrong : ChangeSpec := { name := "fnSet", fn := fun _ => fun
  | [d] => { results := [.lit (.bool false)], args := [d] }
  | _ => none }
def FnSetWrongFalsely : Prop := fnSetRow.holds Tryd.pinned (OpenSpec.ofChange fnSetWrong)

/-- 'laws.FnClean': WHATEVER THE INPUT: true; the input reads as it did. -/
def fnCleanSpec : ChangeSpec := { name := "fnClean", fn := fun _ => fun
  | [d1, d2] => { results := [.lit (.bool true)], args := [d1, d2] }
  | _ => none }
def fnCleanRow : OpenClaim := { program := "ytfijncfoefbohaadoor", sum := "d719d9b40d25192f614b5edda6d3c95f3c442e3f91e90da9f2e3be8cffc17ba2", func := "httpcookies/laws.FnClean", spec := "fnClean", inPlace := ["internal/abi.NoEscape", "internal/bytealg.MakeNoZero"], unfollowed := true, recurses := true, named := ["internal/strconv.uint64pow10", "math/bits.deBruijn32tab", "math/bits.deBruijn64tab"], apart := false, laid := [("math/bits.deBruijn32tab", laid_math_bits_deBruijn32tab), ("math/bits.deBruijn64tab", laid_math_bits_deBruijn64tab), ("internal/strconv.uint64pow10", laid_internal_strconv_uint64pow10)] }
def FnCleanSaid : Prop := fnCleanRow.holds Tryd.pinned (OpenSpec.ofChange fnCleanSpec)

/-- ITS FALSE NEIGHBOUR: 'it returns false'. Refute it at one input. -/
def fnCleanWrong : ChangeSpec := { name := "fnClean", fn := fun _ => fun
  | [d1, d2] => { results := [.lit (.bool false)], args := [d1, d2] }
  | _ => none }
def FnCleanWrongFalsely : Prop := fnCleanRow.holds Tryd.pinned (OpenSpec.ofChange fnCleanWrong)

/-- 'laws.FnCleanName': WHATEVER THE INPUT: true; the input reads as it did. -/
def fnCleanNameSpec : ChangeSpec := { name := "fnCleanName", fn := fun _ => fun
  | [d] => { results := [.lit (.bool true)], args := [d] }
  | _ => none }
def fnCleanNameRow : OpenClaim := { program := "ytfijncfoefbohaadoor", sum := "d719d9b40d25192f614b5edda6d3c95f3c442e3f91e90da9f2e3be8cffc17ba2", func := "httpcookies/laws.FnCleanName", spec := "fnCleanName", inPlace := ["internal/abi.NoEscape", "internal/bytealg.MakeNoZero"], unfollowed := true, recurses := true, named := ["internal/strconv.uint64pow10", "math/bits.deBruijn32tab", "math/bits.deBruijn64tab"], apart := false, laid := [("math/bits.deBruijn32tab", laid_math_bits_deBruijn32tab), ("math/bits.deBruijn64tab", laid_math_bits_deBruijn64tab), ("internal/strconv.uint64pow10", laid_internal_strconv_uint64pow10)] }
def FnCleanNameSaid : Prop := fnCleanNameRow.holds Tryd.pinned (OpenSpec.ofChange fnCleanNameSpec)

/-- ITS FALSE NEIGHBOUR: 'it returns false'. Refute it at one input. -/
def fnCleanNameWrong : ChangeSpec := { name := "fnCleanName", fn := fun _ => fun
  | [d] => { results := [.lit (.bool false)], args := [d] }
  | _ => none }
def FnCleanNameWrongFalsely : Prop := fnCleanNameRow.holds Tryd.pinned (OpenSpec.ofChange fnCleanNameWrong)

/-- 'laws.FnValid': WHATEVER THE INPUT: true; the input reads as it did. -/
def fnValidSpec : ChangeSpec := { name := "fnValid", fn := fun _ => fun
  | [d] => { results := [.lit (.bool true)], args := [d] }
  | _ => none }
def fnValidRow : OpenClaim := { program := "ytfijncfoefbohaadoor", sum := "d719d9b40d25192f614b5edda6d3c95f3c442e3f91e90da9f2e3be8cffc17ba2", func := "httpcookies/laws.FnValid", spec := "fnValid", inPlace := ["internal/abi.NoEscape", "internal/bytealg.MakeNoZero"], unfollowed := true, recurses := true, named := ["internal/strconv.uint64pow10", "math/bits.deBruijn32tab", "math/bits.deBruijn64tab"], apart := false, laid := [("math/bits.deBruijn32tab", laid_math_bits_deBruijn32tab), ("math/bits.deBruijn64tab", laid_math_bits_deBruijn64tab), ("internal/strconv.uint64pow10", laid_internal_strconv_uint64pow10)] }
def FnValidSaid : Prop := fnValidRow.holds Tryd.pinned (OpenSpec.ofChange fnValidSpec)

/-- ITS FALSE NEIGHBOUR: 'it returns false'. Refute it at one input. -/
def fnValidWrong : ChangeSpec := { name := "fnValid", fn := fun _ => fun
  | [d] => { results := [.lit (.bool false)], args := [d] }
  | _ => none }
def FnValidWrongFalsely : Prop := fnValidRow.holds Tryd.pinned (OpenSpec.ofChange fnValidWrong)

/-- 'laws.FnBadPair': WHATEVER THE INPUT: true; the input reads as it did. -/
def fnBadPairSpec : ChangeSpec := { name := "fnBadPair", fn := fun _ => fun
  | [d1, d2, d3] => { results := [.lit (.bool true)], args := [d1, d2, d3] }
  | _ => none }
def fnBadPairRow : OpenClaim := { program := "ytfijncfoefbohaadoor", sum := "d719d9b40d25192f614b5edda6d3c95f3c442e3f91e90da9f2e3be8cffc17ba2", func := "httpcookies/laws.FnBadPair", spec := "fnBadPair", inPlace := ["internal/abi.NoEscape", "internal/bytealg.MakeNoZero"], unfollowed := true, recurses := true, named := ["internal/strconv.uint64pow10", "math/bits.deBruijn32tab", "math/bits.deBruijn64tab", "httpcookies/pub/cookie.errCookieNumLimitExceeded", "httpcookies/pub/cookie.errBlankCookie", "httpcookies/pub/cookie.errEqualNotFoundInCookie", "httpcookies/pub/cookie.errInvalidCookieName", "httpcookies/pub/cookie.errInvalidCookieValue"], apart := false, laid := [("math/bits.deBruijn32tab", laid_math_bits_deBruijn32tab), ("math/bits.deBruijn64tab", laid_math_bits_deBruijn64tab), ("internal/strconv.uint64pow10", laid_internal_strconv_uint64pow10), ("httpcookies/pub/cookie.errBlankCookie", laid_httpcookies_pub_cookie_errBlankCookie), ("httpcookies/pub/cookie.errEqualNotFoundInCookie", laid_httpcookies_pub_cookie_errEqualNotFoundInCookie), ("httpcookies/pub/cookie.errInvalidCookieName", laid_httpcookies_pub_cookie_errInvalidCookieName), ("httpcookies/pub/cookie.errInvalidCookieValue", laid_httpcookies_pub_cookie_errInvalidCookieValue), ("httpcookies/pub/cookie.errCookieNumLimitExceeded", laid_httpcookies_pub_cookie_errCookieNumLimitExceeded)] }
def FnBadPairSaid : Prop := fnBadPairRow.holds Tryd.pinned (OpenSpec.ofChange fnBadPairSpec)

/-- ITS FALSE NEIGHBOUR: 'it returns false'. Refute it at one input. -/
def fnBadPairWrong : ChangeSpec := { name := "fnBadPair", fn := fun _ => fun
  | [d1, d2, d3] => { results := [.lit (.bool false)], args := [d1, d2, d3] }
  | _ => none }
def FnBadPairWrongFalsely : Prop := fnBadPairRow.holds Tryd.pinned (OpenSpec.ofChange fnBadPairWrong)

/-- 'laws.FnParse': WHATEVER THE INPUT: true; the input reads as it did. -/
def fnParseSpec : ChangeSpec := { name := "fnParse", fn := fun _ => fun
  | [d1, d2, d3] => { results := [.lit (.bool true)], args := [d1, d2, d3] }
  | _ => none }
def fnParseRow : OpenClaim := { program := "ytfijncfoefbohaadoor", sum := "d719d9b40d25192f614b5edda6d3c95f3c442e3f91e90da9f2e3be8cffc17ba2", func := "httpcookies/laws.FnParse", spec := "fnParse", inPlace := ["internal/abi.NoEscape", "internal/bytealg.MakeNoZero"], unfollowed := true, recurses := true, named := ["internal/strconv.uint64pow10", "math/bits.deBruijn32tab", "math/bits.deBruijn64tab", "httpcookies/pub/cookie.errCookieNumLimitExceeded", "httpcookies/pub/cookie.errBlankCookie", "httpcookies/pub/cookie.errEqualNotFoundInCookie", "httpcookies/pub/cookie.errInvalidCookieName", "httpcookies/pub/cookie.errInvalidCookieValue"], apart := false, laid := [("math/bits.deBruijn32tab", laid_math_bits_deBruijn32tab), ("math/bits.deBruijn64tab", laid_math_bits_deBruijn64tab), ("internal/strconv.uint64pow10", laid_internal_strconv_uint64pow10), ("httpcookies/pub/cookie.errBlankCookie", laid_httpcookies_pub_cookie_errBlankCookie), ("httpcookies/pub/cookie.errEqualNotFoundInCookie", laid_httpcookies_pub_cookie_errEqualNotFoundInCookie), ("httpcookies/pub/cookie.errInvalidCookieName", laid_httpcookies_pub_cookie_errInvalidCookieName), ("httpcookies/pub/cookie.errInvalidCookieValue", laid_httpcookies_pub_cookie_errInvalidCookieValue), ("httpcookies/pub/cookie.errCookieNumLimitExceeded", laid_httpcookies_pub_cookie_errCookieNumLimitExceeded)] }
def FnParseSaid : Prop := fnParseRow.holds Tryd.pinned (OpenSpec.ofChange fnParseSpec)

/-- ITS FALSE NEIGHBOUR: 'it returns false'. Refute it at one input. -/
def fnParseWrong : ChangeSpec := { name := "fnParse", fn := fun _ => fun
  | [d1, d2, d3] => { results := [.lit (.bool false)], args := [d1, d2, d3] }
  | _ => none }
def FnParseWrongFalsely : Prop := fnParseRow.holds Tryd.pinned (OpenSpec.ofChange fnParseWrong)

/-- 'laws.FnReadLines': WHATEVER THE INPUT: true; the input reads as it did. -/
def fnReadLinesSpec : ChangeSpec := { name := "fnReadLines", fn := fun _ => fun
  | [d1, d2, d3] => { results := [.lit (.bool true)], args := [d1, d2, d3] }
  | _ => none }
def fnReadLinesRow : OpenClaim := { program := "ytfijncfoefbohaadoor", sum := "d719d9b40d25192f614b5edda6d3c95f3c442e3f91e90da9f2e3be8cffc17ba2", func := "httpcookies/laws.FnReadLines", spec := "fnReadLines", inPlace := ["internal/abi.NoEscape", "internal/bytealg.MakeNoZero"], unfollowed := true, recurses := true, named := ["internal/strconv.uint64pow10", "math/bits.deBruijn32tab", "math/bits.deBruijn64tab"], apart := false, laid := [("math/bits.deBruijn32tab", laid_math_bits_deBruijn32tab), ("math/bits.deBruijn64tab", laid_math_bits_deBruijn64tab), ("internal/strconv.uint64pow10", laid_internal_strconv_uint64pow10)] }
def FnReadLinesSaid : Prop := fnReadLinesRow.holds Tryd.pinned (OpenSpec.ofChange fnReadLinesSpec)

/-- ITS FALSE NEIGHBOUR: 'it returns false'. Refute it at one input. -/
def fnReadLinesWrong : ChangeSpec := { name := "fnReadLines", fn := fun _ => fun
  | [d1, d2, d3] => { results := [.lit (.bool false)], args := [d1, d2, d3] }
  | _ => none }
def FnReadLinesWrongFalsely : Prop := fnReadLinesRow.holds Tryd.pinned (OpenSpec.ofChange fnReadLinesWrong)

/-- 'laws.FnSent': WHATEVER THE INPUT: true; the input reads as it did. -/
def fnSentSpec : ChangeSpec := { name := "fnSent", fn := fun _ => fun
  | [d1, d2, d3] => { results := [.lit (.bool true)], args := [d1, d2, d3] }
  | _ => none }
def fnSentRow : OpenClaim := { program := "ytfijncfoefbohaadoor", sum := "d719d9b40d25192f614b5edda6d3c95f3c442e3f91e90da9f2e3be8cffc17ba2", func := "httpcookies/laws.FnSent", spec := "fnSent", inPlace := ["internal/abi.NoEscape", "internal/bytealg.MakeNoZero"], unfollowed := true, recurses := true, named := ["internal/strconv.uint64pow10", "math/bits.deBruijn32tab", "math/bits.deBruijn64tab", "httpcookies/pub/cookie.errCookieNumLimitExceeded", "httpcookies/pub/cookie.errBlankCookie", "httpcookies/pub/cookie.errEqualNotFoundInCookie", "httpcookies/pub/cookie.errInvalidCookieName", "httpcookies/pub/cookie.errInvalidCookieValue"], apart := false, laid := [("math/bits.deBruijn32tab", laid_math_bits_deBruijn32tab), ("math/bits.deBruijn64tab", laid_math_bits_deBruijn64tab), ("internal/strconv.uint64pow10", laid_internal_strconv_uint64pow10), ("httpcookies/pub/cookie.errBlankCookie", laid_httpcookies_pub_cookie_errBlankCookie), ("httpcookies/pub/cookie.errEqualNotFoundInCookie", laid_httpcookies_pub_cookie_errEqualNotFoundInCookie), ("httpcookies/pub/cookie.errInvalidCookieName", laid_httpcookies_pub_cookie_errInvalidCookieName), ("httpcookies/pub/cookie.errInvalidCookieValue", laid_httpcookies_pub_cookie_errInvalidCookieValue), ("httpcookies/pub/cookie.errCookieNumLimitExceeded", laid_httpcookies_pub_cookie_errCookieNumLimitExceeded)] }
def FnSentSaid : Prop := fnSentRow.holds Tryd.pinned (OpenSpec.ofChange fnSentSpec)

/-- ITS FALSE NEIGHBOUR: 'it returns false'. Refute it at one input. -/
def fnSentWrong : ChangeSpec := { name := "fnSent", fn := fun _ => fun
  | [d1, d2, d3] => { results := [.lit (.bool false)], args := [d1, d2, d3] }
  | _ => none }
def FnSentWrongFalsely : Prop := fnSentRow.holds Tryd.pinned (OpenSpec.ofChange fnSentWrong)

/-- 'laws.FnAnyLine': WHATEVER THE INPUT: true; the input reads as it did. -/
def fnAnyLineSpec : ChangeSpec := { name := "fnAnyLine", fn := fun _ => fun
  | [d] => { results := [.lit (.bool true)], args := [d] }
  | _ => none }
def fnAnyLineRow : OpenClaim := { program := "ytfijncfoefbohaadoor", sum := "d719d9b40d25192f614b5edda6d3c95f3c442e3f91e90da9f2e3be8cffc17ba2", func := "httpcookies/laws.FnAnyLine", spec := "fnAnyLine", inPlace := ["internal/abi.NoEscape", "internal/bytealg.MakeNoZero"], unfollowed := true, recurses := true, named := ["httpcookies/pub/cookie.errBlankCookie", "httpcookies/pub/cookie.errEqualNotFoundInCookie", "httpcookies/pub/cookie.errInvalidCookieName", "httpcookies/pub/cookie.errInvalidCookieValue", "unicode/utf8.first", "unicode/utf8.acceptRanges", "unicode.CaseRanges", "strconv.ErrSyntax", "strconv.ErrRange", "internal/strconv.uint64pow10", "math/bits.deBruijn32tab", "math/bits.deBruijn64tab"], apart := false, laid := [("math/bits.deBruijn32tab", laid_math_bits_deBruijn32tab), ("math/bits.deBruijn64tab", laid_math_bits_deBruijn64tab), ("internal/strconv.uint64pow10", laid_internal_strconv_uint64pow10), ("unicode/utf8.acceptRanges", laid_unicode_utf8_acceptRanges), ("strconv.ErrRange", laid_strconv_ErrRange), ("strconv.ErrSyntax", laid_strconv_ErrSyntax), ("httpcookies/pub/cookie.errBlankCookie", laid_httpcookies_pub_cookie_errBlankCookie), ("httpcookies/pub/cookie.errEqualNotFoundInCookie", laid_httpcookies_pub_cookie_errEqualNotFoundInCookie), ("httpcookies/pub/cookie.errInvalidCookieName", laid_httpcookies_pub_cookie_errInvalidCookieName), ("httpcookies/pub/cookie.errInvalidCookieValue", laid_httpcookies_pub_cookie_errInvalidCookieValue), ("unicode.CaseRanges", laid_unicode_CaseRanges), ("unicode/utf8.first", laid_unicode_utf8_first)] }
def FnAnyLineSaid : Prop := fnAnyLineRow.holds Tryd.pinned (OpenSpec.ofChange fnAnyLineSpec)

/-- ITS FALSE NEIGHBOUR: 'it returns false'. Refute it at one input. -/
def fnAnyLineWrong : ChangeSpec := { name := "fnAnyLine", fn := fun _ => fun
  | [d] => { results := [.lit (.bool false)], args := [d] }
  | _ => none }
def FnAnyLineWrongFalsely : Prop := fnAnyLineRow.holds Tryd.pinned (OpenSpec.ofChange fnAnyLineWrong)

/-- 'laws.FnBadSet': WHATEVER THE INPUT: true; the input reads as it did. -/
def fnBadSetSpec : ChangeSpec := { name := "fnBadSet", fn := fun _ => fun
  | [d] => { results := [.lit (.bool true)], args := [d] }
  | _ => none }
def fnBadSetRow : OpenClaim := { program := "ytfijncfoefbohaadoor", sum := "d719d9b40d25192f614b5edda6d3c95f3c442e3f91e90da9f2e3be8cffc17ba2", func := "httpcookies/laws.FnBadSet", spec := "fnBadSet", inPlace := ["internal/abi.NoEscape", "internal/bytealg.MakeNoZero"], unfollowed := true, recurses := true, named := ["internal/strconv.uint64pow10", "math/bits.deBruijn32tab", "math/bits.deBruijn64tab", "httpcookies/pub/cookie.errBlankCookie", "httpcookies/pub/cookie.errEqualNotFoundInCookie", "httpcookies/pub/cookie.errInvalidCookieName", "httpcookies/pub/cookie.errInvalidCookieValue", "unicode/utf8.first", "unicode/utf8.acceptRanges", "unicode.CaseRanges", "strconv.ErrSyntax", "strconv.ErrRange"], apart := false, laid := [("math/bits.deBruijn32tab", laid_math_bits_deBruijn32tab), ("math/bits.deBruijn64tab", laid_math_bits_deBruijn64tab), ("internal/strconv.uint64pow10", laid_internal_strconv_uint64pow10), ("unicode/utf8.acceptRanges", laid_unicode_utf8_acceptRanges), ("strconv.ErrRange", laid_strconv_ErrRange), ("strconv.ErrSyntax", laid_strconv_ErrSyntax), ("httpcookies/pub/cookie.errBlankCookie", laid_httpcookies_pub_cookie_errBlankCookie), ("httpcookies/pub/cookie.errEqualNotFoundInCookie", laid_httpcookies_pub_cookie_errEqualNotFoundInCookie), ("httpcookies/pub/cookie.errInvalidCookieName", laid_httpcookies_pub_cookie_errInvalidCookieName), ("httpcookies/pub/cookie.errInvalidCookieValue", laid_httpcookies_pub_cookie_errInvalidCookieValue), ("unicode.CaseRanges", laid_unicode_CaseRanges), ("unicode/utf8.first", laid_unicode_utf8_first)] }
def FnBadSetSaid : Prop := fnBadSetRow.holds Tryd.pinned (OpenSpec.ofChange fnBadSetSpec)

/-- ITS FALSE NEIGHBOUR: 'it returns false'. Refute it at one input. -/
def fnBadSetWrong : ChangeSpec := { name := "fnBadSet", fn := fun _ => fun
  | [d] => { results := [.lit (.bool false)], args := [d] }
  | _ => none }
def FnBadSetWrongFalsely : Prop := fnBadSetRow.holds Tryd.pinned (OpenSpec.ofChange fnBadSetWrong)

/-- 'laws.FnReadSet': WHATEVER THE INPUT: true; the input reads as it did. -/
def fnReadSetSpec : ChangeSpec := { name := "fnReadSet", fn := fun _ => fun
  | [d] => { results := [.lit (.bool true)], args := [d] }
  | _ => none }
def fnReadSetRow : OpenClaim := { program := "ytfijncfoefbohaadoor", sum := "d719d9b40d25192f614b5edda6d3c95f3c442e3f91e90da9f2e3be8cffc17ba2", func := "httpcookies/laws.FnReadSet", spec := "fnReadSet", inPlace := ["internal/abi.NoEscape", "internal/bytealg.MakeNoZero"], unfollowed := true, recurses := true, named := ["internal/strconv.uint64pow10", "math/bits.deBruijn32tab", "math/bits.deBruijn64tab", "httpcookies/pub/cookie.errBlankCookie", "httpcookies/pub/cookie.errEqualNotFoundInCookie", "httpcookies/pub/cookie.errInvalidCookieName", "httpcookies/pub/cookie.errInvalidCookieValue", "unicode/utf8.first", "unicode/utf8.acceptRanges", "unicode.CaseRanges", "strconv.ErrSyntax", "strconv.ErrRange"], apart := false, laid := [("math/bits.deBruijn32tab", laid_math_bits_deBruijn32tab), ("math/bits.deBruijn64tab", laid_math_bits_deBruijn64tab), ("internal/strconv.uint64pow10", laid_internal_strconv_uint64pow10), ("unicode/utf8.acceptRanges", laid_unicode_utf8_acceptRanges), ("strconv.ErrRange", laid_strconv_ErrRange), ("strconv.ErrSyntax", laid_strconv_ErrSyntax), ("httpcookies/pub/cookie.errBlankCookie", laid_httpcookies_pub_cookie_errBlankCookie), ("httpcookies/pub/cookie.errEqualNotFoundInCookie", laid_httpcookies_pub_cookie_errEqualNotFoundInCookie), ("httpcookies/pub/cookie.errInvalidCookieName", laid_httpcookies_pub_cookie_errInvalidCookieName), ("httpcookies/pub/cookie.errInvalidCookieValue", laid_httpcookies_pub_cookie_errInvalidCookieValue), ("unicode.CaseRanges", laid_unicode_CaseRanges), ("unicode/utf8.first", laid_unicode_utf8_first)] }
def FnReadSetSaid : Prop := fnReadSetRow.holds Tryd.pinned (OpenSpec.ofChange fnReadSetSpec)

/-- ITS FALSE NEIGHBOUR: 'it returns false'. Refute it at one input. -/
def fnReadSetWrong : ChangeSpec := { name := "fnReadSet", fn := fun _ => fun
  | [d] => { results := [.lit (.bool false)], args := [d] }
  | _ => none }
def FnReadSetWrongFalsely : Prop := fnReadSetRow.holds Tryd.pinned (OpenSpec.ofChange fnReadSetWrong)

/-- 'laws.FnRoundTrip': WHATEVER THE INPUT: true; the input reads as it did. -/
def fnRoundTripSpec : ChangeSpec := { name := "fnRoundTrip", fn := fun _ => fun
  | [d] => { results := [.lit (.bool true)], args := [d] }
  | _ => none }
def fnRoundTripRow : OpenClaim := { program := "ytfijncfoefbohaadoor", sum := "d719d9b40d25192f614b5edda6d3c95f3c442e3f91e90da9f2e3be8cffc17ba2", func := "httpcookies/laws.FnRoundTrip", spec := "fnRoundTrip", inPlace := ["internal/abi.NoEscape", "internal/bytealg.MakeNoZero"], unfollowed := true, recurses := true, named := ["internal/strconv.uint64pow10", "math/bits.deBruijn32tab", "math/bits.deBruijn64tab", "httpcookies/pub/cookie.errBlankCookie", "httpcookies/pub/cookie.errEqualNotFoundInCookie", "httpcookies/pub/cookie.errInvalidCookieName", "httpcookies/pub/cookie.errInvalidCookieValue", "unicode/utf8.first", "unicode/utf8.acceptRanges", "unicode.CaseRanges", "strconv.ErrSyntax", "strconv.ErrRange"], apart := false, laid := [("math/bits.deBruijn32tab", laid_math_bits_deBruijn32tab), ("math/bits.deBruijn64tab", laid_math_bits_deBruijn64tab), ("internal/strconv.uint64pow10", laid_internal_strconv_uint64pow10), ("unicode/utf8.acceptRanges", laid_unicode_utf8_acceptRanges), ("strconv.ErrRange", laid_strconv_ErrRange), ("strconv.ErrSyntax", laid_strconv_ErrSyntax), ("httpcookies/pub/cookie.errBlankCookie", laid_httpcookies_pub_cookie_errBlankCookie), ("httpcookies/pub/cookie.errEqualNotFoundInCookie", laid_httpcookies_pub_cookie_errEqualNotFoundInCookie), ("httpcookies/pub/cookie.errInvalidCookieName", laid_httpcookies_pub_cookie_errInvalidCookieName), ("httpcookies/pub/cookie.errInvalidCookieValue", laid_httpcookies_pub_cookie_errInvalidCookieValue), ("unicode.CaseRanges", laid_unicode_CaseRanges), ("unicode/utf8.first", laid_unicode_utf8_first)] }
def FnRoundTripSaid : Prop := fnRoundTripRow.holds Tryd.pinned (OpenSpec.ofChange fnRoundTripSpec)

/-- ITS FALSE NEIGHBOUR: 'it returns false'. Refute it at one input. -/
def fnRoundTripWrong : ChangeSpec := { name := "fnRoundTrip", fn := fun _ => fun
  | [d] => { results := [.lit (.bool false)], args := [d] }
  | _ => none }
def FnRoundTripWrongFalsely : Prop := fnRoundTripRow.holds Tryd.pinned (OpenSpec.ofChange fnRoundTripWrong)

/- THE SECOND FORM. 'bulk': how many values and letters a reading holds, each counted each time it is reached (what is shared counts as often as it is met; a slice's spare places count too). A statement '..UptoSaid' is the law's where the arguments, and the package variables that the reading takes, are together of bulk at most 1048576: NARROWER than '..Said'. Prove '..Said' where nothing that the law and all that it calls make is longer than what came in: it says more and counts as full. Else prove '..UptoSaid'. A law counts once. -/
mutual
def uptoBulk {H : Type} : DataW H → Nat
  | .lit (.string bytes) => bytes.length + 1
  | .lit _ => 1
  | .nil => 1
  | .ptr d => uptoBulk d + 1
  | .slice elems spare => uptoBulkAll elems + uptoBulkAll spare + 1
  | .agg parts => uptoBulkAll parts + 1
  | .iface _ d => uptoBulk d + 1
  | .map entries => uptoBulkEntries entries + 1
  | .held _ => 1
def uptoBulkAll {H : Type} : List (DataW H) → Nat
  | [] => 0
  | d :: r => uptoBulk d + uptoBulkAll r
def uptoBulkEntries {H : Type} : List (Lit × DataW H) → Nat
  | [] => 0
  | x :: r => uptoBulkEntry x + uptoBulkEntries r
def uptoBulkEntry {H : Type} : Lit × DataW H → Nat
  | (.string bytes, d) => bytes.length + uptoBulk d + 1
  | (_, d) => uptoBulk d + 1
 end
def uptoSmall : (H : Type) → List (DataW H) → Bool := fun _ ds => decide (uptoBulkAll ds ≤ 1048576)
def OpenSpec.upto (s : _root_.Go.ChangeSpec) : _root_.Go.OpenSpec := { _root_.Go.OpenSpec.ofChange s with cond := some uptoSmall }

/-- 'laws.FnDomain', WHERE WHAT IT READS IS OF BULK AT MOST 1048576: true; the input reads as it did. -/
def fnDomainUptoRow : OpenClaim := { program := "ytfijncfoefbohaadoor", sum := "d719d9b40d25192f614b5edda6d3c95f3c442e3f91e90da9f2e3be8cffc17ba2", func := "httpcookies/laws.FnDomain", spec := "fnDomain", inPlace := ["internal/abi.NoEscape", "internal/bytealg.MakeNoZero"], unfollowed := true, recurses := true, named := ["internal/strconv.uint64pow10", "math/bits.deBruijn32tab", "math/bits.deBruijn64tab"], apart := false, laid := [("math/bits.deBruijn32tab", laid_math_bits_deBruijn32tab), ("math/bits.deBruijn64tab", laid_math_bits_deBruijn64tab), ("internal/strconv.uint64pow10", laid_internal_strconv_uint64pow10)], narrowed := true }
def FnDomainUptoSaid : Prop := fnDomainUptoRow.holds Tryd.pinned (OpenSpec.upto fnDomainSpec)

/-- 'laws.FnSet', WHERE WHAT IT READS IS OF BULK AT MOST 1048576: true; the input reads as it did. -/
def fnSetUptoRow : OpenClaim := { program := "ytfijncfoefbohaadoor", sum := "d719d9b40d25192f614b5edda6d3c95f3c442e3f91e90da9f2e3be8cffc17ba2", func := "httpcookies/laws.FnSet", spec := "fnSet", inPlace := ["internal/abi.NoEscape", "internal/bytealg.MakeNoZero"], unfollowed := true, recurses := true, named := ["internal/strconv.uint64pow10", "math/bits.deBruijn32tab", "math/bits.deBruijn64tab"], apart := false, laid := [("math/bits.deBruijn32tab", laid_math_bits_deBruijn32tab), ("math/bits.deBruijn64tab", laid_math_bits_deBruijn64tab), ("internal/strconv.uint64pow10", laid_internal_strconv_uint64pow10)], narrowed := true }
def FnSetUptoSaid : Prop := fnSetUptoRow.holds Tryd.pinned (OpenSpec.upto fnSetSpec)

/-- 'laws.FnClean', WHERE WHAT IT READS IS OF BULK AT MOST 1048576: true; the input reads as it did. -/
def fnCleanUptoRow : OpenClaim := { program := "ytfijncfoefbohaadoor", sum := "d719d9b40d25192f614b5edda6d3c95f3c442e3f91e90da9f2e3be8cffc17ba2", func := "httpcookies/laws.FnClean", spec := "fnClean", inPlace := ["internal/abi.NoEscape", "internal/bytealg.MakeNoZero"], unfollowed := true, recurses := true, named := ["internal/strconv.uint64pow10", "math/bits.deBruijn32tab", "math/bits.deBruijn64tab"], apart := false, laid := [("math/bits.deBruijn32tab", laid_math_bits_deBruijn32tab), ("math/bits.deBruijn64tab", laid_math_bits_deBruijn64tab), ("internal/strconv.uint64pow10", laid_internal_strconv_uint64pow10)], narrowed := true }
def FnCleanUptoSaid : Prop := fnCleanUptoRow.holds Tryd.pinned (OpenSpec.upto fnCleanSpec)

/-- 'laws.FnCleanName', WHERE WHAT IT READS IS OF BULK AT MOST 1048576: true; the input reads as it did. -/
def fnCleanNameUptoRow : OpenClaim := { program := "ytfijncfoefbohaadoor", sum := "d719d9b40d25192f614b5edda6d3c95f3c442e3f91e90da9f2e3be8cffc17ba2", func := "httpcookies/laws.FnCleanName", spec := "fnCleanName", inPlace := ["internal/abi.NoEscape", "internal/bytealg.MakeNoZero"], unfollowed := true, recurses := true, named := ["internal/strconv.uint64pow10", "math/bits.deBruijn32tab", "math/bits.deBruijn64tab"], apart := false, laid := [("math/bits.deBruijn32tab", laid_math_bits_deBruijn32tab), ("math/bits.deBruijn64tab", laid_math_bits_deBruijn64tab), ("internal/strconv.uint64pow10", laid_internal_strconv_uint64pow10)], narrowed := true }
def FnCleanNameUptoSaid : Prop := fnCleanNameUptoRow.holds Tryd.pinned (OpenSpec.upto fnCleanNameSpec)

/-- 'laws.FnValid', WHERE WHAT IT READS IS OF BULK AT MOST 1048576: true; the input reads as it did. -/
def fnValidUptoRow : OpenClaim := { program := "ytfijncfoefbohaadoor", sum := "d719d9b40d25192f614b5edda6d3c95f3c442e3f91e90da9f2e3be8cffc17ba2", func := "httpcookies/laws.FnValid", spec := "fnValid", inPlace := ["internal/abi.NoEscape", "internal/bytealg.MakeNoZero"], unfollowed := true, recurses := true, named := ["internal/strconv.uint64pow10", "math/bits.deBruijn32tab", "math/bits.deBruijn64tab"], apart := false, laid := [("math/bits.deBruijn32tab", laid_math_bits_deBruijn32tab), ("math/bits.deBruijn64tab", laid_math_bits_deBruijn64tab), ("internal/strconv.uint64pow10", laid_internal_strconv_uint64pow10)], narrowed := true }
def FnValidUptoSaid : Prop := fnValidUptoRow.holds Tryd.pinned (OpenSpec.upto fnValidSpec)

/-- 'laws.FnBadPair', WHERE WHAT IT READS IS OF BULK AT MOST 1048576: true; the input reads as it did. -/
def fnBadPairUptoRow : OpenClaim := { program := "ytfijncfoefbohaadoor", sum := "d719d9b40d25192f614b5edda6d3c95f3c442e3f91e90da9f2e3be8cffc17ba2", func := "httpcookies/laws.FnBadPair", spec := "fnBadPair", inPlace := ["internal/abi.NoEscape", "internal/bytealg.MakeNoZero"], unfollowed := true, recurses := true, named := ["internal/strconv.uint64pow10", "math/bits.deBruijn32tab", "math/bits.deBruijn64tab", "httpcookies/pub/cookie.errCookieNumLimitExceeded", "httpcookies/pub/cookie.errBlankCookie", "httpcookies/pub/cookie.errEqualNotFoundInCookie", "httpcookies/pub/cookie.errInvalidCookieName", "httpcookies/pub/cookie.errInvalidCookieValue"], apart := false, laid := [("math/bits.deBruijn32tab", laid_math_bits_deBruijn32tab), ("math/bits.deBruijn64tab", laid_math_bits_deBruijn64tab), ("internal/strconv.uint64pow10", laid_internal_strconv_uint64pow10), ("httpcookies/pub/cookie.errBlankCookie", laid_httpcookies_pub_cookie_errBlankCookie), ("httpcookies/pub/cookie.errEqualNotFoundInCookie", laid_httpcookies_pub_cookie_errEqualNotFoundInCookie), ("httpcookies/pub/cookie.errInvalidCookieName", laid_httpcookies_pub_cookie_errInvalidCookieName), ("httpcookies/pub/cookie.errInvalidCookieValue", laid_httpcookies_pub_cookie_errInvalidCookieValue), ("httpcookies/pub/cookie.errCookieNumLimitExceeded", laid_httpcookies_pub_cookie_errCookieNumLimitExceeded)], narrowed := true }
def FnBadPairUptoSaid : Prop := fnBadPairUptoRow.holds Tryd.pinned (OpenSpec.upto fnBadPairSpec)

/-- 'laws.FnParse', WHERE WHAT IT READS IS OF BULK AT MOST 1048576: true; the input reads as it did. -/
def fnParseUptoRow : OpenClaim := { program := "ytfijncfoefbohaadoor", sum := "d719d9b40d25192f614b5edda6d3c95f3c442e3f91e90da9f2e3be8cffc17ba2", func := "httpcookies/laws.FnParse", spec := "fnParse", inPlace := ["internal/abi.NoEscape", "internal/bytealg.MakeNoZero"], unfollowed := true, recurses := true, named := ["internal/strconv.uint64pow10", "math/bits.deBruijn32tab", "math/bits.deBruijn64tab", "httpcookies/pub/cookie.errCookieNumLimitExceeded", "httpcookies/pub/cookie.errBlankCookie", "httpcookies/pub/cookie.errEqualNotFoundInCookie", "httpcookies/pub/cookie.errInvalidCookieName", "httpcookies/pub/cookie.errInvalidCookieValue"], apart := false, laid := [("math/bits.deBruijn32tab", laid_math_bits_deBruijn32tab), ("math/bits.deBruijn64tab", laid_math_bits_deBruijn64tab), ("internal/strconv.uint64pow10", laid_internal_strconv_uint64pow10), ("httpcookies/pub/cookie.errBlankCookie", laid_httpcookies_pub_cookie_errBlankCookie), ("httpcookies/pub/cookie.errEqualNotFoundInCookie", laid_httpcookies_pub_cookie_errEqualNotFoundInCookie), ("httpcookies/pub/cookie.errInvalidCookieName", laid_httpcookies_pub_cookie_errInvalidCookieName), ("httpcookies/pub/cookie.errInvalidCookieValue", laid_httpcookies_pub_cookie_errInvalidCookieValue), ("httpcookies/pub/cookie.errCookieNumLimitExceeded", laid_httpcookies_pub_cookie_errCookieNumLimitExceeded)], narrowed := true }
def FnParseUptoSaid : Prop := fnParseUptoRow.holds Tryd.pinned (OpenSpec.upto fnParseSpec)

/-- 'laws.FnReadLines', WHERE WHAT IT READS IS OF BULK AT MOST 1048576: true; the input reads as it did. -/
def fnReadLinesUptoRow : OpenClaim := { program := "ytfijncfoefbohaadoor", sum := "d719d9b40d25192f614b5edda6d3c95f3c442e3f91e90da9f2e3be8cffc17ba2", func := "httpcookies/laws.FnReadLines", spec := "fnReadLines", inPlace := ["internal/abi.NoEscape", "internal/bytealg.MakeNoZero"], unfollowed := true, recurses := true, named := ["internal/strconv.uint64pow10", "math/bits.deBruijn32tab", "math/bits.deBruijn64tab"], apart := false, laid := [("math/bits.deBruijn32tab", laid_math_bits_deBruijn32tab), ("math/bits.deBruijn64tab", laid_math_bits_deBruijn64tab), ("internal/strconv.uint64pow10", laid_internal_strconv_uint64pow10)], narrowed := true }
def FnReadLinesUptoSaid : Prop := fnReadLinesUptoRow.holds Tryd.pinned (OpenSpec.upto fnReadLinesSpec)

/-- 'laws.FnSent', WHERE WHAT IT READS IS OF BULK AT MOST 1048576: true; the input reads as it did. -/
def fnSentUptoRow : OpenClaim := { program := "ytfijncfoefbohaadoor", sum := "d719d9b40d25192f614b5edda6d3c95f3c442e3f91e90da9f2e3be8cffc17ba2", func := "httpcookies/laws.FnSent", spec := "fnSent", inPlace := ["internal/abi.NoEscape", "internal/bytealg.MakeNoZero"], unfollowed := true, recurses := true, named := ["internal/strconv.uint64pow10", "math/bits.deBruijn32tab", "math/bits.deBruijn64tab", "httpcookies/pub/cookie.errCookieNumLimitExceeded", "httpcookies/pub/cookie.errBlankCookie", "httpcookies/pub/cookie.errEqualNotFoundInCookie", "httpcookies/pub/cookie.errInvalidCookieName", "httpcookies/pub/cookie.errInvalidCookieValue"], apart := false, laid := [("math/bits.deBruijn32tab", laid_math_bits_deBruijn32tab), ("math/bits.deBruijn64tab", laid_math_bits_deBruijn64tab), ("internal/strconv.uint64pow10", laid_internal_strconv_uint64pow10), ("httpcookies/pub/cookie.errBlankCookie", laid_httpcookies_pub_cookie_errBlankCookie), ("httpcookies/pub/cookie.errEqualNotFoundInCookie", laid_httpcookies_pub_cookie_errEqualNotFoundInCookie), ("httpcookies/pub/cookie.errInvalidCookieName", laid_httpcookies_pub_cookie_errInvalidCookieName), ("httpcookies/pub/cookie.errInvalidCookieValue", laid_httpcookies_pub_cookie_errInvalidCookieValue), ("httpcookies/pub/cookie.errCookieNumLimitExceeded", laid_httpcookies_pub_cookie_errCookieNumLimitExceeded)], narrowed := true }
def FnSentUptoSaid : Prop := fnSentUptoRow.holds Tryd.pinned (OpenSpec.upto fnSentSpec)

/-- 'laws.FnAnyLine', WHERE WHAT IT READS IS OF BULK AT MOST 1048576: true; the input reads as it did. -/
def fnAnyLineUptoRow : OpenClaim := { program := "ytfijncfoefbohaadoor", sum := "d719d9b40d25192f614b5edda6d3c95f3c442e3f91e90da9f2e3be8cffc17ba2", func := "httpcookies/laws.FnAnyLine", spec := "fnAnyLine", inPlace := ["internal/abi.NoEscape", "internal/bytealg.MakeNoZero"], unfollowed := true, recurses := true, named := ["httpcookies/pub/cookie.errBlankCookie", "httpcookies/pub/cookie.errEqualNotFoundInCookie", "httpcookies/pub/cookie.errInvalidCookieName", "httpcookies/pub/cookie.errInvalidCookieValue", "unicode/utf8.first", "unicode/utf8.acceptRanges", "unicode.CaseRanges", "strconv.ErrSyntax", "strconv.ErrRange", "internal/strconv.uint64pow10", "math/bits.deBruijn32tab", "math/bits.deBruijn64tab"], apart := false, laid := [("math/bits.deBruijn32tab", laid_math_bits_deBruijn32tab), ("math/bits.deBruijn64tab", laid_math_bits_deBruijn64tab), ("internal/strconv.uint64pow10", laid_internal_strconv_uint64pow10), ("unicode/utf8.acceptRanges", laid_unicode_utf8_acceptRanges), ("strconv.ErrRange", laid_strconv_ErrRange), ("strconv.ErrSyntax", laid_strconv_ErrSyntax), ("httpcookies/pub/cookie.errBlankCookie", laid_httpcookies_pub_cookie_errBlankCookie), ("httpcookies/pub/cookie.errEqualNotFoundInCookie", laid_httpcookies_pub_cookie_errEqualNotFoundInCookie), ("httpcookies/pub/cookie.errInvalidCookieName", laid_httpcookies_pub_cookie_errInvalidCookieName), ("httpcookies/pub/cookie.errInvalidCookieValue", laid_httpcookies_pub_cookie_errInvalidCookieValue), ("unicode.CaseRanges", laid_unicode_CaseRanges), ("unicode/utf8.first", laid_unicode_utf8_first)], narrowed := true }
def FnAnyLineUptoSaid : Prop := fnAnyLineUptoRow.holds Tryd.pinned (OpenSpec.upto fnAnyLineSpec)

/-- 'laws.FnBadSet', WHERE WHAT IT READS IS OF BULK AT MOST 1048576: true; the input reads as it did. -/
def fnBadSetUptoRow : OpenClaim := { program := "ytfijncfoefbohaadoor", sum := "d719d9b40d25192f614b5edda6d3c95f3c442e3f91e90da9f2e3be8cffc17ba2", func := "httpcookies/laws.FnBadSet", spec := "fnBadSet", inPlace := ["internal/abi.NoEscape", "internal/bytealg.MakeNoZero"], unfollowed := true, recurses := true, named := ["internal/strconv.uint64pow10", "math/bits.deBruijn32tab", "math/bits.deBruijn64tab", "httpcookies/pub/cookie.errBlankCookie", "httpcookies/pub/cookie.errEqualNotFoundInCookie", "httpcookies/pub/cookie.errInvalidCookieName", "httpcookies/pub/cookie.errInvalidCookieValue", "unicode/utf8.first", "unicode/utf8.acceptRanges", "unicode.CaseRanges", "strconv.ErrSyntax", "strconv.ErrRange"], apart := false, laid := [("math/bits.deBruijn32tab", laid_math_bits_deBruijn32tab), ("math/bits.deBruijn64tab", laid_math_bits_deBruijn64tab), ("internal/strconv.uint64pow10", laid_internal_strconv_uint64pow10), ("unicode/utf8.acceptRanges", laid_unicode_utf8_acceptRanges), ("strconv.ErrRange", laid_strconv_ErrRange), ("strconv.ErrSyntax", laid_strconv_ErrSyntax), ("httpcookies/pub/cookie.errBlankCookie", laid_httpcookies_pub_cookie_errBlankCookie), ("httpcookies/pub/cookie.errEqualNotFoundInCookie", laid_httpcookies_pub_cookie_errEqualNotFoundInCookie), ("httpcookies/pub/cookie.errInvalidCookieName", laid_httpcookies_pub_cookie_errInvalidCookieName), ("httpcookies/pub/cookie.errInvalidCookieValue", laid_httpcookies_pub_cookie_errInvalidCookieValue), ("unicode.CaseRanges", laid_unicode_CaseRanges), ("unicode/utf8.first", laid_unicode_utf8_first)], narrowed := true }
def FnBadSetUptoSaid : Prop := fnBadSetUptoRow.holds Tryd.pinned (OpenSpec.upto fnBadSetSpec)

/-- 'laws.FnReadSet', WHERE WHAT IT READS IS OF BULK AT MOST 1048576: true; the input reads as it did. -/
def fnReadSetUptoRow : OpenClaim := { program := "ytfijncfoefbohaadoor", sum := "d719d9b40d25192f614b5edda6d3c95f3c442e3f91e90da9f2e3be8cffc17ba2", func := "httpcookies/laws.FnReadSet", spec := "fnReadSet", inPlace := ["internal/abi.NoEscape", "internal/bytealg.MakeNoZero"], unfollowed := true, recurses := true, named := ["internal/strconv.uint64pow10", "math/bits.deBruijn32tab", "math/bits.deBruijn64tab", "httpcookies/pub/cookie.errBlankCookie", "httpcookies/pub/cookie.errEqualNotFoundInCookie", "httpcookies/pub/cookie.errInvalidCookieName", "httpcookies/pub/cookie.errInvalidCookieValue", "unicode/utf8.first", "unicode/utf8.acceptRanges", "unicode.CaseRanges", "strconv.ErrSyntax", "strconv.ErrRange"], apart := false, laid := [("math/bits.deBruijn32tab", laid_math_bits_deBruijn32tab), ("math/bits.deBruijn64tab", laid_math_bits_deBruijn64tab), ("internal/strconv.uint64pow10", laid_internal_strconv_uint64pow10), ("unicode/utf8.acceptRanges", laid_unicode_utf8_acceptRanges), ("strconv.ErrRange", laid_strconv_ErrRange), ("strconv.ErrSyntax", laid_strconv_ErrSyntax), ("httpcookies/pub/cookie.errBlankCookie", laid_httpcookies_pub_cookie_errBlankCookie), ("httpcookies/pub/cookie.errEqualNotFoundInCookie", laid_httpcookies_pub_cookie_errEqualNotFoundInCookie), ("httpcookies/pub/cookie.errInvalidCookieName", laid_httpcookies_pub_cookie_errInvalidCookieName), ("httpcookies/pub/cookie.errInvalidCookieValue", laid_httpcookies_pub_cookie_errInvalidCookieValue), ("unicode.CaseRanges", laid_unicode_CaseRanges), ("unicode/utf8.first", laid_unicode_utf8_first)], narrowed := true }
def FnReadSetUptoSaid : Prop := fnReadSetUptoRow.holds Tryd.pinned (OpenSpec.upto fnReadSetSpec)

/-- 'laws.FnRoundTrip', WHERE WHAT IT READS IS OF BULK AT MOST 1048576: true; the input reads as it did. -/
def fnRoundTripUptoRow : OpenClaim := { program := "ytfijncfoefbohaadoor", sum := "d719d9b40d25192f614b5edda6d3c95f3c442e3f91e90da9f2e3be8cffc17ba2", func := "httpcookies/laws.FnRoundTrip", spec := "fnRoundTrip", inPlace := ["internal/abi.NoEscape", "internal/bytealg.MakeNoZero"], unfollowed := true, recurses := true, named := ["internal/strconv.uint64pow10", "math/bits.deBruijn32tab", "math/bits.deBruijn64tab", "httpcookies/pub/cookie.errBlankCookie", "httpcookies/pub/cookie.errEqualNotFoundInCookie", "httpcookies/pub/cookie.errInvalidCookieName", "httpcookies/pub/cookie.errInvalidCookieValue", "unicode/utf8.first", "unicode/utf8.acceptRanges", "unicode.CaseRanges", "strconv.ErrSyntax", "strconv.ErrRange"], apart := false, laid := [("math/bits.deBruijn32tab", laid_math_bits_deBruijn32tab), ("math/bits.deBruijn64tab", laid_math_bits_deBruijn64tab), ("internal/strconv.uint64pow10", laid_internal_strconv_uint64pow10), ("unicode/utf8.acceptRanges", laid_unicode_utf8_acceptRanges), ("strconv.ErrRange", laid_strconv_ErrRange), ("strconv.ErrSyntax", laid_strconv_ErrSyntax), ("httpcookies/pub/cookie.errBlankCookie", laid_httpcookies_pub_cookie_errBlankCookie), ("httpcookies/pub/cookie.errEqualNotFoundInCookie", laid_httpcookies_pub_cookie_errEqualNotFoundInCookie), ("httpcookies/pub/cookie.errInvalidCookieName", laid_httpcookies_pub_cookie_errInvalidCookieName), ("httpcookies/pub/cookie.errInvalidCookieValue", laid_httpcookies_pub_cookie_errInvalidCookieValue), ("unicode.CaseRanges", laid_unicode_CaseRanges), ("unicode/utf8.first", laid_unicode_utf8_first)], narrowed := true }
def FnRoundTripUptoSaid : Prop := fnRoundTripUptoRow.holds Tryd.pinned (OpenSpec.upto fnRoundTripSpec)

end Rows
end Go.Proofs.YtfijncfoefbohaaDoor
