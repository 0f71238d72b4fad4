/-
  NARROWER THAN 'FOR EVERY INPUT', by the rows' own cells (each row's printed sentence says how): FnParse: laid · FnEscaped: laid · FnAgain: laid · FnText: laid · FnResolve: laid · FnRedacted: laid · FnJoin: laid · FnResolveText: laid · FnJoinText: laid.
  DERIVED. THE GIVEN ROWS OF THIS SEAT. 9 by the template 'for every input the law returns true; each argument reads behind the call as it read before'; 0 by the template 'total and deterministic' (their statements: YtphkohpphdcjhaaGreatDoorTotals.lean).
  GIVEN WITH THE SEED: the statements are not yours to turn. If you find one false, say at which input.
  Laid BY PROGRAM, IN A SANDBOX (cutbox-rows.mjs): the forced cells as the released guide's own fill.sh prints them over the translation a1c002155c681138… (all of the seat's roots in one cut). By AI agents, Wed Nov 11 2026. No macro, syntax, notation, axiom, sorry.
-/
import Derived.Test.YtphkohpphdcjhaaGreatDoorChecked
import GoSem.PinnedTables
import GoSem.Claim
import GoSem.ClaimJoined
import GoSem.ClaimMapViews
import Derived.JoinedTies
import Derived.KernelRfl
namespace Go.Proofs.YtphkohpphdcjhaaGreatDoor
/- THE CELL 'sum', in the pinned program and in every row, IS THE sha256 OF THE DUMP (.gsa) THAT YtphkohpphdcjhaaGreatDoorProg.lean LOADS. Nothing in Lean hashes anything: it is a label: what it is worth is what the hold of that sum in a sandbox is worth. -/
noncomputable def Tryz.pinned : Pinned := { name := "ytphkohpphdcjhaagreatdoor", sum := "a1c002155c681138fba3ea9bb14c21d78bf8fecc4a4e596336015411c5f27aaa", checked := Tryz.checked }
namespace Rows
def none {H : Type} : Left H := { results := [], args := [] }

/- WHAT THE LISTED PACKAGE-LEVEL VARIABLES READ AS WHEN THE CALL BEGINS. Each datum BY PROGRAM (the guide's laid-datum.mjs) off the statement by which the dump's own 'gosem.cut.vars' lays the variable. In a bare row this is a premise. The card (YtphkohpphdcjhaaGreatDoorCards.lean) ties it to the program's text. -/
def laid_unicode_utf8_acceptRanges {H : Type} : DataW H := .agg [.agg [.lit (.int .u8 128), .lit (.int .u8 191)], .agg [.lit (.int .u8 160), .lit (.int .u8 191)], .agg [.lit (.int .u8 128), .lit (.int .u8 159)], .agg [.lit (.int .u8 144), .lit (.int .u8 191)], .agg [.lit (.int .u8 128), .lit (.int .u8 143)], .agg [.lit (.int .u8 0), .lit (.int .u8 0)], .agg [.lit (.int .u8 0), .lit (.int .u8 0)], .agg [.lit (.int .u8 0), .lit (.int .u8 0)], .agg [.lit (.int .u8 0), .lit (.int .u8 0)], .agg [.lit (.int .u8 0), .lit (.int .u8 0)], .agg [.lit (.int .u8 0), .lit (.int .u8 0)], .agg [.lit (.int .u8 0), .lit (.int .u8 0)], .agg [.lit (.int .u8 0), .lit (.int .u8 0)], .agg [.lit (.int .u8 0), .lit (.int .u8 0)], .agg [.lit (.int .u8 0), .lit (.int .u8 0)], .agg [.lit (.int .u8 0), .lit (.int .u8 0)]]
def laid_net_netip_z4 {H : Type} : DataW H := .agg [.ptr (.agg [.lit (.bool false), .lit (.string [])])]
def laid_net_netip_z6noz {H : Type} : DataW H := .agg [.ptr (.agg [.lit (.bool true), .lit (.string [])])]
def laid_loop_example_pub_g03278_pub_neturl_table {H : Type} : DataW H := .agg [.lit (.int .u8 0), .lit (.int .u8 0), .lit (.int .u8 0), .lit (.int .u8 0), .lit (.int .u8 0), .lit (.int .u8 0), .lit (.int .u8 0), .lit (.int .u8 0), .lit (.int .u8 0), .lit (.int .u8 0), .lit (.int .u8 0), .lit (.int .u8 0), .lit (.int .u8 0), .lit (.int .u8 0), .lit (.int .u8 0), .lit (.int .u8 0), .lit (.int .u8 0), .lit (.int .u8 0), .lit (.int .u8 0), .lit (.int .u8 0), .lit (.int .u8 0), .lit (.int .u8 0), .lit (.int .u8 0), .lit (.int .u8 0), .lit (.int .u8 0), .lit (.int .u8 0), .lit (.int .u8 0), .lit (.int .u8 0), .lit (.int .u8 0), .lit (.int .u8 0), .lit (.int .u8 0), .lit (.int .u8 0), .lit (.int .u8 0), .lit (.int .u8 76), .lit (.int .u8 12), .lit (.int .u8 0), .lit (.int .u8 95), .lit (.int .u8 0), .lit (.int .u8 95), .lit (.int .u8 12), .lit (.int .u8 76), .lit (.int .u8 76), .lit (.int .u8 76), .lit (.int .u8 95), .lit (.int .u8 93), .lit (.int .u8 127), .lit (.int .u8 127), .lit (.int .u8 65), .lit (.int .u8 255), .lit (.int .u8 255), .lit (.int .u8 255), .lit (.int .u8 255), .lit (.int .u8 255), .lit (.int .u8 255), .lit (.int .u8 255), .lit (.int .u8 255), .lit (.int .u8 255), .lit (.int .u8 255), .lit (.int .u8 79), .lit (.int .u8 93), .lit (.int .u8 12), .lit (.int .u8 95), .lit (.int .u8 12), .lit (.int .u8 64), .lit (.int .u8 67), .lit (.int .u8 255), .lit (.int .u8 255), .lit (.int .u8 255), .lit (.int .u8 255), .lit (.int .u8 255), .lit (.int .u8 255), .lit (.int .u8 127), .lit (.int .u8 127), .lit (.int .u8 127), .lit (.int .u8 127), .lit (.int .u8 127), .lit (.int .u8 127), .lit (.int .u8 127), .lit (.int .u8 127), .lit (.int .u8 127), .lit (.int .u8 127), .lit (.int .u8 127), .lit (.int .u8 127), .lit (.int .u8 127), .lit (.int .u8 127), .lit (.int .u8 127), .lit (.int .u8 127), .lit (.int .u8 127), .lit (.int .u8 127), .lit (.int .u8 127), .lit (.int .u8 127), .lit (.int .u8 12), .lit (.int .u8 0), .lit (.int .u8 12), .lit (.int .u8 0), .lit (.int .u8 127), .lit (.int .u8 0), .lit (.int .u8 255), .lit (.int .u8 255), .lit (.int .u8 255), .lit (.int .u8 255), .lit (.int .u8 255), .lit (.int .u8 255), .lit (.int .u8 127), .lit (.int .u8 127), .lit (.int .u8 127), .lit (.int .u8 127), .lit (.int .u8 127), .lit (.int .u8 127), .lit (.int .u8 127), .lit (.int .u8 127), .lit (.int .u8 127), .lit (.int .u8 127), .lit (.int .u8 127), .lit (.int .u8 127), .lit (.int .u8 127), .lit (.int .u8 127), .lit (.int .u8 127), .lit (.int .u8 127), .lit (.int .u8 127), .lit (.int .u8 127), .lit (.int .u8 127), .lit (.int .u8 127), .lit (.int .u8 0), .lit (.int .u8 0), .lit (.int .u8 0), .lit (.int .u8 127), .lit (.int .u8 0), .lit (.int .u8 0), .lit (.int .u8 0), .lit (.int .u8 0), .lit (.int .u8 0), .lit (.int .u8 0), .lit (.int .u8 0), .lit (.int .u8 0), .lit (.int .u8 0), .lit (.int .u8 0), .lit (.int .u8 0), .lit (.int .u8 0), .lit (.int .u8 0), .lit (.int .u8 0), .lit (.int .u8 0), .lit (.int .u8 0), .lit (.int .u8 0), .lit (.int .u8 0), .lit (.int .u8 0), .lit (.int .u8 0), .lit (.int .u8 0), .lit (.int .u8 0), .lit (.int .u8 0), .lit (.int .u8 0), .lit (.int .u8 0), .lit (.int .u8 0), .lit (.int .u8 0), .lit (.int .u8 0), .lit (.int .u8 0), .lit (.int .u8 0), .lit (.int .u8 0), .lit (.int .u8 0), .lit (.int .u8 0), .lit (.int .u8 0), .lit (.int .u8 0), .lit (.int .u8 0), .lit (.int .u8 0), .lit (.int .u8 0), .lit (.int .u8 0), .lit (.int .u8 0), .lit (.int .u8 0), .lit (.int .u8 0), .lit (.int .u8 0), .lit (.int .u8 0), .lit (.int .u8 0), .lit (.int .u8 0), .lit (.int .u8 0), .lit (.int .u8 0), .lit (.int .u8 0), .lit (.int .u8 0), .lit (.int .u8 0), .lit (.int .u8 0), .lit (.int .u8 0), .lit (.int .u8 0), .lit (.int .u8 0), .lit (.int .u8 0), .lit (.int .u8 0), .lit (.int .u8 0), .lit (.int .u8 0), .lit (.int .u8 0), .lit (.int .u8 0), .lit (.int .u8 0), .lit (.int .u8 0), .lit (.int .u8 0), .lit (.int .u8 0), .lit (.int .u8 0), .lit (.int .u8 0), .lit (.int .u8 0), .lit (.int .u8 0), .lit (.int .u8 0), .lit (.int .u8 0), .lit (.int .u8 0), .lit (.int .u8 0), .lit (.int .u8 0), .lit (.int .u8 0), .lit (.int .u8 0), .lit (.int .u8 0), .lit (.int .u8 0), .lit (.int .u8 0), .lit (.int .u8 0), .lit (.int .u8 0), .lit (.int .u8 0), .lit (.int .u8 0), .lit (.int .u8 0), .lit (.int .u8 0), .lit (.int .u8 0), .lit (.int .u8 0), .lit (.int .u8 0), .lit (.int .u8 0), .lit (.int .u8 0), .lit (.int .u8 0), .lit (.int .u8 0), .lit (.int .u8 0), .lit (.int .u8 0), .lit (.int .u8 0), .lit (.int .u8 0), .lit (.int .u8 0), .lit (.int .u8 0), .lit (.int .u8 0), .lit (.int .u8 0), .lit (.int .u8 0), .lit (.int .u8 0), .lit (.int .u8 0), .lit (.int .u8 0), .lit (.int .u8 0), .lit (.int .u8 0), .lit (.int .u8 0), .lit (.int .u8 0), .lit (.int .u8 0), .lit (.int .u8 0), .lit (.int .u8 0), .lit (.int .u8 0), .lit (.int .u8 0), .lit (.int .u8 0), .lit (.int .u8 0), .lit (.int .u8 0), .lit (.int .u8 0), .lit (.int .u8 0), .lit (.int .u8 0), .lit (.int .u8 0), .lit (.int .u8 0), .lit (.int .u8 0), .lit (.int .u8 0), .lit (.int .u8 0), .lit (.int .u8 0), .lit (.int .u8 0), .lit (.int .u8 0), .lit (.int .u8 0), .lit (.int .u8 0)]
def laid_net_netip_z0 {H : Type} : DataW H := .agg [.nil]
/-- One of Go's own tables, pinned by name: the form's constant. -/
def laid_unicode_CaseRanges : DataW Unit := Go.Pinned.caseRanges
/-- One of Go's own tables, pinned by name: the form's constant. -/
def laid_unicode_utf8_first : DataW Unit := Go.Pinned.utf8First

/-- 'laws.FnParse': WHATEVER THE INPUT: true; the input reads as it did. -/
def fnParseSpec : ChangeSpec := { name := "fnParse", vars := ["loop.example/pub-g03278/pub/neturl.table"], fn := fun _ => fun
  | [d1, d2, g1] => { results := [.lit (.bool true)], args := [d1, d2], vars := [g1] }
  | _ => none }
def fnParseRow : OpenClaim := { program := "ytphkohpphdcjhaagreatdoor", sum := "a1c002155c681138fba3ea9bb14c21d78bf8fecc4a4e596336015411c5f27aaa", func := "loop.example/pub-g03278/laws.FnParse", spec := "fnParse", inPlace := ["internal/abi.NoEscape", "internal/bytealg.MakeNoZero", "internal/bytealg.IndexByteString", "unique.Make[net/netip.addrDetail]"], unfollowed := true, recurses := true, named := ["unicode/utf8.first", "unicode/utf8.acceptRanges", "unicode.CaseRanges", "loop.example/pub-g03278/pub/neturl.table", "net/netip.z4", "net/netip.z6noz", "net/netip.z0"], apart := false, laid := [("unicode/utf8.acceptRanges", laid_unicode_utf8_acceptRanges), ("net/netip.z4", laid_net_netip_z4), ("net/netip.z6noz", laid_net_netip_z6noz), ("loop.example/pub-g03278/pub/neturl.table", laid_loop_example_pub_g03278_pub_neturl_table), ("net/netip.z0", laid_net_netip_z0), ("unicode.CaseRanges", laid_unicode_CaseRanges), ("unicode/utf8.first", laid_unicode_utf8_first)] }
def FnParseSaid : Prop := fnParseRow.holds Tryz.pinned (OpenSpec.ofChange fnParseSpec)

/-- ITS FALSE NEIGHBOUR: 'it returns false'. Refute it at one input. -/
def fnParseWrong : ChangeSpec := { name := "fnParse", vars := ["loop.example/pub-g03278/pub/neturl.table"], fn := fun _ => fun
  | [d1, d2, g1] => { results := [.lit (.bool false)], args := [d1, d2], vars := [g1] }
  | _ => none }
def FnParseWrongFalsely : Prop := fnParseRow.holds Tryz.pinned (OpenSpec.ofChange fnParseWrong)

/-- 'laws.FnEscaped': WHATEVER THE INPUT: true; the input reads as it did. -/
def fnEscapedSpec : ChangeSpec := { name := "fnEscaped", vars := ["loop.example/pub-g03278/pub/neturl.table"], fn := fun _ => fun
  | [d, g1] => { results := [.lit (.bool true)], args := [d], vars := [g1] }
  | _ => none }
def fnEscapedRow : OpenClaim := { program := "ytphkohpphdcjhaagreatdoor", sum := "a1c002155c681138fba3ea9bb14c21d78bf8fecc4a4e596336015411c5f27aaa", func := "loop.example/pub-g03278/laws.FnEscaped", spec := "fnEscaped", inPlace := ["internal/abi.NoEscape", "internal/bytealg.MakeNoZero", "internal/bytealg.IndexByteString", "unique.Make[net/netip.addrDetail]"], unfollowed := true, recurses := true, named := ["loop.example/pub-g03278/pub/neturl.table", "unicode/utf8.first", "unicode/utf8.acceptRanges", "unicode.CaseRanges", "net/netip.z4", "net/netip.z6noz", "net/netip.z0"], apart := false, laid := [("unicode/utf8.acceptRanges", laid_unicode_utf8_acceptRanges), ("net/netip.z4", laid_net_netip_z4), ("net/netip.z6noz", laid_net_netip_z6noz), ("loop.example/pub-g03278/pub/neturl.table", laid_loop_example_pub_g03278_pub_neturl_table), ("net/netip.z0", laid_net_netip_z0), ("unicode.CaseRanges", laid_unicode_CaseRanges), ("unicode/utf8.first", laid_unicode_utf8_first)] }
def FnEscapedSaid : Prop := fnEscapedRow.holds Tryz.pinned (OpenSpec.ofChange fnEscapedSpec)

/-- ITS FALSE NEIGHBOUR: 'it returns false'. Refute it at one input. -/
def fnEscapedWrong : ChangeSpec := { name := "fnEscaped", vars := ["loop.example/pub-g03278/pub/neturl.table"], fn := fun _ => fun
  | [d, g1] => { results := [.lit (.bool false)], args := [d], vars := [g1] }
  | _ => none }
def FnEscapedWrongFalsely : Prop := fnEscapedRow.holds Tryz.pinned (OpenSpec.ofChange fnEscapedWrong)

/-- 'laws.FnAgain': WHATEVER THE INPUT: true; the input reads as it did. -/
def fnAgainSpec : ChangeSpec := { name := "fnAgain", vars := ["loop.example/pub-g03278/pub/neturl.table"], fn := fun _ => fun
  | [d, g1] => { results := [.lit (.bool true)], args := [d], vars := [g1] }
  | _ => none }
def fnAgainRow : OpenClaim := { program := "ytphkohpphdcjhaagreatdoor", sum := "a1c002155c681138fba3ea9bb14c21d78bf8fecc4a4e596336015411c5f27aaa", func := "loop.example/pub-g03278/laws.FnAgain", spec := "fnAgain", inPlace := ["internal/abi.NoEscape", "internal/bytealg.MakeNoZero", "internal/bytealg.IndexByteString", "unique.Make[net/netip.addrDetail]"], unfollowed := true, recurses := true, named := ["unicode/utf8.first", "unicode/utf8.acceptRanges", "unicode.CaseRanges", "loop.example/pub-g03278/pub/neturl.table", "net/netip.z4", "net/netip.z6noz", "net/netip.z0"], apart := false, laid := [("unicode/utf8.acceptRanges", laid_unicode_utf8_acceptRanges), ("net/netip.z4", laid_net_netip_z4), ("net/netip.z6noz", laid_net_netip_z6noz), ("loop.example/pub-g03278/pub/neturl.table", laid_loop_example_pub_g03278_pub_neturl_table), ("net/netip.z0", laid_net_netip_z0), ("unicode.CaseRanges", laid_unicode_CaseRanges), ("unicode/utf8.first", laid_unicode_utf8_first)] }
def FnAgainSaid : Prop := fnAgainRow.holds Tryz.pinned (OpenSpec.ofChange fnAgainSpec)

/-- ITS FALSE NEIGHBOUR: 'it returns false'. Refute it at one input. -/
def fnAgainWrong : ChangeSpec := { name := "fnAgain", vars := ["loop.example/pub-g03278/pub/neturl.table"], fn := fun _ => fun
  | [d, g1] => { results := [.lit (.bool false)], args := [d], vars := [g1] }
  | _ => none }
def FnAgainWrongFalsely : Prop := fnAgainRow.holds Tryz.pinned (OpenSpec.ofChange fnAgainWrong)

/-- 'laws.FnText': WHATEVER THE INPUT: true; the input reads as it did. -/
def fnTextSpec : ChangeSpec := { name := "fnText", vars := ["loop.example/pub-g03278/pub/neturl.table"], fn := fun _ => fun
  | [d, g1] => { results := [.lit (.bool true)], args := [d], vars := [g1] }
  | _ => none }
def fnTextRow : OpenClaim := { program := "ytphkohpphdcjhaagreatdoor", sum := "a1c002155c681138fba3ea9bb14c21d78bf8fecc4a4e596336015411c5f27aaa", func := "loop.example/pub-g03278/laws.FnText", spec := "fnText", inPlace := ["internal/abi.NoEscape", "internal/bytealg.MakeNoZero", "internal/bytealg.IndexByteString", "unique.Make[net/netip.addrDetail]"], unfollowed := true, recurses := true, named := ["loop.example/pub-g03278/pub/neturl.table", "unicode/utf8.first", "unicode/utf8.acceptRanges", "unicode.CaseRanges", "net/netip.z4", "net/netip.z6noz", "net/netip.z0"], apart := false, laid := [("unicode/utf8.acceptRanges", laid_unicode_utf8_acceptRanges), ("net/netip.z4", laid_net_netip_z4), ("net/netip.z6noz", laid_net_netip_z6noz), ("loop.example/pub-g03278/pub/neturl.table", laid_loop_example_pub_g03278_pub_neturl_table), ("net/netip.z0", laid_net_netip_z0), ("unicode.CaseRanges", laid_unicode_CaseRanges), ("unicode/utf8.first", laid_unicode_utf8_first)] }
def FnTextSaid : Prop := fnTextRow.holds Tryz.pinned (OpenSpec.ofChange fnTextSpec)

/-- ITS FALSE NEIGHBOUR: 'it returns false'. Refute it at one input. -/
def fnTextWrong : ChangeSpec := { name := "fnText", vars := ["loop.example/pub-g03278/pub/neturl.table"], fn := fun _ => fun
  | [d, g1] => { results := [.lit (.bool false)], args := [d], vars := [g1] }
  | _ => none }
def FnTextWrongFalsely : Prop := fnTextRow.holds Tryz.pinned (OpenSpec.ofChange fnTextWrong)

/-- 'laws.FnResolve': WHATEVER THE INPUT: true; the input reads as it did. -/
def fnResolveSpec : ChangeSpec := { name := "fnResolve", vars := ["loop.example/pub-g03278/pub/neturl.table"], fn := fun _ => fun
  | [d1, d2, g1] => { results := [.lit (.bool true)], args := [d1, d2], vars := [g1] }
  | _ => none }
def fnResolveRow : OpenClaim := { program := "ytphkohpphdcjhaagreatdoor", sum := "a1c002155c681138fba3ea9bb14c21d78bf8fecc4a4e596336015411c5f27aaa", func := "loop.example/pub-g03278/laws.FnResolve", spec := "fnResolve", inPlace := ["internal/abi.NoEscape", "internal/bytealg.MakeNoZero", "internal/bytealg.IndexByteString", "unique.Make[net/netip.addrDetail]"], unfollowed := true, recurses := true, named := ["loop.example/pub-g03278/pub/neturl.table", "unicode/utf8.first", "unicode/utf8.acceptRanges", "unicode.CaseRanges", "net/netip.z4", "net/netip.z6noz", "net/netip.z0"], apart := false, laid := [("unicode/utf8.acceptRanges", laid_unicode_utf8_acceptRanges), ("net/netip.z4", laid_net_netip_z4), ("net/netip.z6noz", laid_net_netip_z6noz), ("loop.example/pub-g03278/pub/neturl.table", laid_loop_example_pub_g03278_pub_neturl_table), ("net/netip.z0", laid_net_netip_z0), ("unicode.CaseRanges", laid_unicode_CaseRanges), ("unicode/utf8.first", laid_unicode_utf8_first)] }
def FnResolveSaid : Prop := fnResolveRow.holds Tryz.pinned (OpenSpec.ofChange fnResolveSpec)

/-- ITS FALSE NEIGHBOUR: 'it returns false'. Refute it at one input. -/
def fnResolveWrong : ChangeSpec := { name := "fnResolve", vars := ["loop.example/pub-g03278/pub/neturl.table"], fn := fun _ => fun
  | [d1, d2, g1] => { results := [.lit (.bool false)], args := [d1, d2], vars := [g1] }
  | _ => none }
def FnResolveWrongFalsely : Prop := fnResolveRow.holds Tryz.pinned (OpenSpec.ofChange fnResolveWrong)

/-- 'laws.FnRedacted': WHATEVER THE INPUT: true; the input reads as it did. -/
def fnRedactedSpec : ChangeSpec := { name := "fnRedacted", vars := ["loop.example/pub-g03278/pub/neturl.table"], fn := fun _ => fun
  | [d, g1] => { results := [.lit (.bool true)], args := [d], vars := [g1] }
  | _ => none }
def fnRedactedRow : OpenClaim := { program := "ytphkohpphdcjhaagreatdoor", sum := "a1c002155c681138fba3ea9bb14c21d78bf8fecc4a4e596336015411c5f27aaa", func := "loop.example/pub-g03278/laws.FnRedacted", spec := "fnRedacted", inPlace := ["internal/abi.NoEscape", "internal/bytealg.MakeNoZero", "internal/bytealg.IndexByteString", "unique.Make[net/netip.addrDetail]"], unfollowed := true, recurses := true, named := ["loop.example/pub-g03278/pub/neturl.table", "unicode/utf8.first", "unicode/utf8.acceptRanges", "unicode.CaseRanges", "net/netip.z4", "net/netip.z6noz", "net/netip.z0"], apart := false, laid := [("unicode/utf8.acceptRanges", laid_unicode_utf8_acceptRanges), ("net/netip.z4", laid_net_netip_z4), ("net/netip.z6noz", laid_net_netip_z6noz), ("loop.example/pub-g03278/pub/neturl.table", laid_loop_example_pub_g03278_pub_neturl_table), ("net/netip.z0", laid_net_netip_z0), ("unicode.CaseRanges", laid_unicode_CaseRanges), ("unicode/utf8.first", laid_unicode_utf8_first)] }
def FnRedactedSaid : Prop := fnRedactedRow.holds Tryz.pinned (OpenSpec.ofChange fnRedactedSpec)

/-- ITS FALSE NEIGHBOUR: 'it returns false'. Refute it at one input. -/
def fnRedactedWrong : ChangeSpec := { name := "fnRedacted", vars := ["loop.example/pub-g03278/pub/neturl.table"], fn := fun _ => fun
  | [d, g1] => { results := [.lit (.bool false)], args := [d], vars := [g1] }
  | _ => none }
def FnRedactedWrongFalsely : Prop := fnRedactedRow.holds Tryz.pinned (OpenSpec.ofChange fnRedactedWrong)

/-- 'laws.FnJoin': WHATEVER THE INPUT: true; the input reads as it did. -/
def fnJoinSpec : ChangeSpec := { name := "fnJoin", vars := ["loop.example/pub-g03278/pub/neturl.table"], fn := fun _ => fun
  | [d1, d2, g1] => { results := [.lit (.bool true)], args := [d1, d2], vars := [g1] }
  | _ => none }
def fnJoinRow : OpenClaim := { program := "ytphkohpphdcjhaagreatdoor", sum := "a1c002155c681138fba3ea9bb14c21d78bf8fecc4a4e596336015411c5f27aaa", func := "loop.example/pub-g03278/laws.FnJoin", spec := "fnJoin", inPlace := ["internal/abi.NoEscape", "internal/bytealg.MakeNoZero", "internal/bytealg.IndexByteString", "unique.Make[net/netip.addrDetail]"], unfollowed := true, recurses := true, named := ["loop.example/pub-g03278/pub/neturl.table", "unicode/utf8.first", "unicode/utf8.acceptRanges", "unicode.CaseRanges", "net/netip.z4", "net/netip.z6noz", "net/netip.z0"], apart := false, laid := [("unicode/utf8.acceptRanges", laid_unicode_utf8_acceptRanges), ("net/netip.z4", laid_net_netip_z4), ("net/netip.z6noz", laid_net_netip_z6noz), ("loop.example/pub-g03278/pub/neturl.table", laid_loop_example_pub_g03278_pub_neturl_table), ("net/netip.z0", laid_net_netip_z0), ("unicode.CaseRanges", laid_unicode_CaseRanges), ("unicode/utf8.first", laid_unicode_utf8_first)] }
def FnJoinSaid : Prop := fnJoinRow.holds Tryz.pinned (OpenSpec.ofChange fnJoinSpec)

/-- ITS FALSE NEIGHBOUR: 'it returns false'. Refute it at one input. -/
def fnJoinWrong : ChangeSpec := { name := "fnJoin", vars := ["loop.example/pub-g03278/pub/neturl.table"], fn := fun _ => fun
  | [d1, d2, g1] => { results := [.lit (.bool false)], args := [d1, d2], vars := [g1] }
  | _ => none }
def FnJoinWrongFalsely : Prop := fnJoinRow.holds Tryz.pinned (OpenSpec.ofChange fnJoinWrong)

/-- 'laws.FnResolveText': WHATEVER THE INPUT: true; the input reads as it did. -/
def fnResolveTextSpec : ChangeSpec := { name := "fnResolveText", vars := ["loop.example/pub-g03278/pub/neturl.table"], fn := fun _ => fun
  | [d1, d2, g1] => { results := [.lit (.bool true)], args := [d1, d2], vars := [g1] }
  | _ => none }
def fnResolveTextRow : OpenClaim := { program := "ytphkohpphdcjhaagreatdoor", sum := "a1c002155c681138fba3ea9bb14c21d78bf8fecc4a4e596336015411c5f27aaa", func := "loop.example/pub-g03278/laws.FnResolveText", spec := "fnResolveText", inPlace := ["internal/abi.NoEscape", "internal/bytealg.MakeNoZero", "internal/bytealg.IndexByteString", "unique.Make[net/netip.addrDetail]"], unfollowed := true, recurses := true, named := ["unicode/utf8.first", "unicode/utf8.acceptRanges", "unicode.CaseRanges", "loop.example/pub-g03278/pub/neturl.table", "net/netip.z4", "net/netip.z6noz", "net/netip.z0"], apart := false, laid := [("unicode/utf8.acceptRanges", laid_unicode_utf8_acceptRanges), ("net/netip.z4", laid_net_netip_z4), ("net/netip.z6noz", laid_net_netip_z6noz), ("loop.example/pub-g03278/pub/neturl.table", laid_loop_example_pub_g03278_pub_neturl_table), ("net/netip.z0", laid_net_netip_z0), ("unicode.CaseRanges", laid_unicode_CaseRanges), ("unicode/utf8.first", laid_unicode_utf8_first)] }
def FnResolveTextSaid : Prop := fnResolveTextRow.holds Tryz.pinned (OpenSpec.ofChange fnResolveTextSpec)

/-- ITS FALSE NEIGHBOUR: 'it returns false'. Refute it at one input. -/
def fnResolveTextWrong : ChangeSpec := { name := "fnResolveText", vars := ["loop.example/pub-g03278/pub/neturl.table"], fn := fun _ => fun
  | [d1, d2, g1] => { results := [.lit (.bool false)], args := [d1, d2], vars := [g1] }
  | _ => none }
def FnResolveTextWrongFalsely : Prop := fnResolveTextRow.holds Tryz.pinned (OpenSpec.ofChange fnResolveTextWrong)

/-- 'laws.FnJoinText': WHATEVER THE INPUT: true; the input reads as it did. -/
def fnJoinTextSpec : ChangeSpec := { name := "fnJoinText", vars := ["loop.example/pub-g03278/pub/neturl.table"], fn := fun _ => fun
  | [d1, d2, g1] => { results := [.lit (.bool true)], args := [d1, d2], vars := [g1] }
  | _ => none }
def fnJoinTextRow : OpenClaim := { program := "ytphkohpphdcjhaagreatdoor", sum := "a1c002155c681138fba3ea9bb14c21d78bf8fecc4a4e596336015411c5f27aaa", func := "loop.example/pub-g03278/laws.FnJoinText", spec := "fnJoinText", inPlace := ["internal/abi.NoEscape", "internal/bytealg.MakeNoZero", "internal/bytealg.IndexByteString", "unique.Make[net/netip.addrDetail]"], unfollowed := true, recurses := true, named := ["unicode/utf8.first", "unicode/utf8.acceptRanges", "unicode.CaseRanges", "loop.example/pub-g03278/pub/neturl.table", "net/netip.z4", "net/netip.z6noz", "net/netip.z0"], apart := false, laid := [("unicode/utf8.acceptRanges", laid_unicode_utf8_acceptRanges), ("net/netip.z4", laid_net_netip_z4), ("net/netip.z6noz", laid_net_netip_z6noz), ("loop.example/pub-g03278/pub/neturl.table", laid_loop_example_pub_g03278_pub_neturl_table), ("net/netip.z0", laid_net_netip_z0), ("unicode.CaseRanges", laid_unicode_CaseRanges), ("unicode/utf8.first", laid_unicode_utf8_first)] }
def FnJoinTextSaid : Prop := fnJoinTextRow.holds Tryz.pinned (OpenSpec.ofChange fnJoinTextSpec)

/-- ITS FALSE NEIGHBOUR: 'it returns false'. Refute it at one input. -/
def fnJoinTextWrong : ChangeSpec := { name := "fnJoinText", vars := ["loop.example/pub-g03278/pub/neturl.table"], fn := fun _ => fun
  | [d1, d2, g1] => { results := [.lit (.bool false)], args := [d1, d2], vars := [g1] }
  | _ => none }
def FnJoinTextWrongFalsely : Prop := fnJoinTextRow.holds Tryz.pinned (OpenSpec.ofChange fnJoinTextWrong)

/- THE SECOND FORM. 'bulk': how many values and letters a reading holds, each counted each time it is reached (what is shared counts as often as it is met; a slice's spare places count too). A statement '..UptoSaid' is the law's where the arguments, and the package variables that the reading takes, are together of bulk at most 1048576: NARROWER than '..Said'. Prove '..Said' where nothing that the law and all that it calls make is longer than what came in: it says more and counts as full. Else prove '..UptoSaid'. A law counts once. -/
mutual
def uptoBulk {H : Type} : DataW H → Nat
  | .lit (.string bytes) => bytes.length + 1
  | .lit _ => 1
  | .nil => 1
  | .ptr d => uptoBulk d + 1
  | .slice elems spare => uptoBulkAll elems + uptoBulkAll spare + 1
  | .agg parts => uptoBulkAll parts + 1
  | .iface _ d => uptoBulk d + 1
  | .map entries => uptoBulkEntries entries + 1
  | .held _ => 1
def uptoBulkAll {H : Type} : List (DataW H) → Nat
  | [] => 0
  | d :: r => uptoBulk d + uptoBulkAll r
def uptoBulkEntries {H : Type} : List (Lit × DataW H) → Nat
  | [] => 0
  | x :: r => uptoBulkEntry x + uptoBulkEntries r
def uptoBulkEntry {H : Type} : Lit × DataW H → Nat
  | (.string bytes, d) => bytes.length + uptoBulk d + 1
  | (_, d) => uptoBulk d + 1
 end
def uptoSmall : (H : Type) → List (DataW H) → Bool := fun _ ds => decide (uptoBulkAll ds ≤ 1048576)
def OpenSpec.upto (s : _root_.Go.ChangeSpec) : _root_.Go.OpenSpec := { _root_.Go.OpenSpec.ofChange s with cond := some uptoSmall }

/-- 'laws.FnParse', WHERE WHAT IT READS IS OF BULK AT MOST 1048576: true; the input reads as it did. -/
def fnParseUptoRow : OpenClaim := { program := "ytphkohpphdcjhaagreatdoor", sum := "a1c002155c681138fba3ea9bb14c21d78bf8fecc4a4e596336015411c5f27aaa", func := "loop.example/pub-g03278/laws.FnParse", spec := "fnParse", inPlace := ["internal/abi.NoEscape", "internal/bytealg.MakeNoZero", "internal/bytealg.IndexByteString", "unique.Make[net/netip.addrDetail]"], unfollowed := true, recurses := true, named := ["unicode/utf8.first", "unicode/utf8.acceptRanges", "unicode.CaseRanges", "loop.example/pub-g03278/pub/neturl.table", "net/netip.z4", "net/netip.z6noz", "net/netip.z0"], apart := false, laid := [("unicode/utf8.acceptRanges", laid_unicode_utf8_acceptRanges), ("net/netip.z4", laid_net_netip_z4), ("net/netip.z6noz", laid_net_netip_z6noz), ("loop.example/pub-g03278/pub/neturl.table", laid_loop_example_pub_g03278_pub_neturl_table), ("net/netip.z0", laid_net_netip_z0), ("unicode.CaseRanges", laid_unicode_CaseRanges), ("unicode/utf8.first", laid_unicode_utf8_first)], narrowed := true }
def FnParseUptoSaid : Prop := fnParseUptoRow.holds Tryz.pinned (OpenSpec.upto fnParseSpec)

/-- 'laws.FnEscaped', WHERE WHAT IT READS IS OF BULK AT MOST 1048576: true; the input reads as it did. -/
def fnEscapedUptoRow : OpenClaim := { program := "ytphkohpphdcjhaagreatdoor", sum := "a1c002155c681138fba3ea9bb14c21d78bf8fecc4a4e596336015411c5f27aaa", func := "loop.example/pub-g03278/laws.FnEscaped", spec := "fnEscaped", inPlace := ["internal/abi.NoEscape", "internal/bytealg.MakeNoZero", "internal/bytealg.IndexByteString", "unique.Make[net/netip.addrDetail]"], unfollowed := true, recurses := true, named := ["loop.example/pub-g03278/pub/neturl.table", "unicode/utf8.first", "unicode/utf8.acceptRanges", "unicode.CaseRanges", "net/netip.z4", "net/netip.z6noz", "net/netip.z0"], apart := false, laid := [("unicode/utf8.acceptRanges", laid_unicode_utf8_acceptRanges), ("net/netip.z4", laid_net_netip_z4), ("net/netip.z6noz", laid_net_netip_z6noz), ("loop.example/pub-g03278/pub/neturl.table", laid_loop_example_pub_g03278_pub_neturl_table), ("net/netip.z0", laid_net_netip_z0), ("unicode.CaseRanges", laid_unicode_CaseRanges), ("unicode/utf8.first", laid_unicode_utf8_first)], narrowed := true }
def FnEscapedUptoSaid : Prop := fnEscapedUptoRow.holds Tryz.pinned (OpenSpec.upto fnEscapedSpec)

/-- 'laws.FnAgain', WHERE WHAT IT READS IS OF BULK AT MOST 1048576: true; the input reads as it did. -/
def fnAgainUptoRow : OpenClaim := { program := "ytphkohpphdcjhaagreatdoor", sum := "a1c002155c681138fba3ea9bb14c21d78bf8fecc4a4e596336015411c5f27aaa", func := "loop.example/pub-g03278/laws.FnAgain", spec := "fnAgain", inPlace := ["internal/abi.NoEscape", "internal/bytealg.MakeNoZero", "internal/bytealg.IndexByteString", "unique.Make[net/netip.addrDetail]"], unfollowed := true, recurses := true, named := ["unicode/utf8.first", "unicode/utf8.acceptRanges", "unicode.CaseRanges", "loop.example/pub-g03278/pub/neturl.table", "net/netip.z4", "net/netip.z6noz", "net/netip.z0"], apart := false, laid := [("unicode/utf8.acceptRanges", laid_unicode_utf8_acceptRanges), ("net/netip.z4", laid_net_netip_z4), ("net/netip.z6noz", laid_net_netip_z6noz), ("loop.example/pub-g03278/pub/neturl.table", laid_loop_example_pub_g03278_pub_neturl_table), ("net/netip.z0", laid_net_netip_z0), ("unicode.CaseRanges", laid_unicode_CaseRanges), ("unicode/utf8.first", laid_unicode_utf8_first)], narrowed := true }
def FnAgainUptoSaid : Prop := fnAgainUptoRow.holds Tryz.pinned (OpenSpec.upto fnAgainSpec)

/-- 'laws.FnText', WHERE WHAT IT READS IS OF BULK AT MOST 1048576: true; the input reads as it did. -/
def fnTextUptoRow : OpenClaim := { program := "ytphkohpphdcjhaagreatdoor", sum := "a1c002155c681138fba3ea9bb14c21d78bf8fecc4a4e596336015411c5f27aaa", func := "loop.example/pub-g03278/laws.FnText", spec := "fnText", inPlace := ["internal/abi.NoEscape", "internal/bytealg.MakeNoZero", "internal/bytealg.IndexByteString", "unique.Make[net/netip.addrDetail]"], unfollowed := true, recurses := true, named := ["loop.example/pub-g03278/pub/neturl.table", "unicode/utf8.first", "unicode/utf8.acceptRanges", "unicode.CaseRanges", "net/netip.z4", "net/netip.z6noz", "net/netip.z0"], apart := false, laid := [("unicode/utf8.acceptRanges", laid_unicode_utf8_acceptRanges), ("net/netip.z4", laid_net_netip_z4), ("net/netip.z6noz", laid_net_netip_z6noz), ("loop.example/pub-g03278/pub/neturl.table", laid_loop_example_pub_g03278_pub_neturl_table), ("net/netip.z0", laid_net_netip_z0), ("unicode.CaseRanges", laid_unicode_CaseRanges), ("unicode/utf8.first", laid_unicode_utf8_first)], narrowed := true }
def FnTextUptoSaid : Prop := fnTextUptoRow.holds Tryz.pinned (OpenSpec.upto fnTextSpec)

/-- 'laws.FnResolve', WHERE WHAT IT READS IS OF BULK AT MOST 1048576: true; the input reads as it did. -/
def fnResolveUptoRow : OpenClaim := { program := "ytphkohpphdcjhaagreatdoor", sum := "a1c002155c681138fba3ea9bb14c21d78bf8fecc4a4e596336015411c5f27aaa", func := "loop.example/pub-g03278/laws.FnResolve", spec := "fnResolve", inPlace := ["internal/abi.NoEscape", "internal/bytealg.MakeNoZero", "internal/bytealg.IndexByteString", "unique.Make[net/netip.addrDetail]"], unfollowed := true, recurses := true, named := ["loop.example/pub-g03278/pub/neturl.table", "unicode/utf8.first", "unicode/utf8.acceptRanges", "unicode.CaseRanges", "net/netip.z4", "net/netip.z6noz", "net/netip.z0"], apart := false, laid := [("unicode/utf8.acceptRanges", laid_unicode_utf8_acceptRanges), ("net/netip.z4", laid_net_netip_z4), ("net/netip.z6noz", laid_net_netip_z6noz), ("loop.example/pub-g03278/pub/neturl.table", laid_loop_example_pub_g03278_pub_neturl_table), ("net/netip.z0", laid_net_netip_z0), ("unicode.CaseRanges", laid_unicode_CaseRanges), ("unicode/utf8.first", laid_unicode_utf8_first)], narrowed := true }
def FnResolveUptoSaid : Prop := fnResolveUptoRow.holds Tryz.pinned (OpenSpec.upto fnResolveSpec)

/-- 'laws.FnRedacted', WHERE WHAT IT READS IS OF BULK AT MOST 1048576: true; the input reads as it did. -/
def fnRedactedUptoRow : OpenClaim := { program := "ytphkohpphdcjhaagreatdoor", sum := "a1c002155c681138fba3ea9bb14c21d78bf8fecc4a4e596336015411c5f27aaa", func := "loop.example/pub-g03278/laws.FnRedacted", spec := "fnRedacted", inPlace := ["internal/abi.NoEscape", "internal/bytealg.MakeNoZero", "internal/bytealg.IndexByteString", "unique.Make[net/netip.addrDetail]"], unfollowed := true, recurses := true, named := ["loop.example/pub-g03278/pub/neturl.table", "unicode/utf8.first", "unicode/utf8.acceptRanges", "unicode.CaseRanges", "net/netip.z4", "net/netip.z6noz", "net/netip.z0"], apart := false, laid := [("unicode/utf8.acceptRanges", laid_unicode_utf8_acceptRanges), ("net/netip.z4", laid_net_netip_z4), ("net/netip.z6noz", laid_net_netip_z6noz), ("loop.example/pub-g03278/pub/neturl.table", laid_loop_example_pub_g03278_pub_neturl_table), ("net/netip.z0", laid_net_netip_z0), ("unicode.CaseRanges", laid_unicode_CaseRanges), ("unicode/utf8.first", laid_unicode_utf8_first)], narrowed := true }
def FnRedactedUptoSaid : Prop := fnRedactedUptoRow.holds Tryz.pinned (OpenSpec.upto fnRedactedSpec)

/-- 'laws.FnJoin', WHERE WHAT IT READS IS OF BULK AT MOST 1048576: true; the input reads as it did. -/
def fnJoinUptoRow : OpenClaim := { program := "ytphkohpphdcjhaagreatdoor", sum := "a1c002155c681138fba3ea9bb14c21d78bf8fecc4a4e596336015411c5f27aaa", func := "loop.example/pub-g03278/laws.FnJoin", spec := "fnJoin", inPlace := ["internal/abi.NoEscape", "internal/bytealg.MakeNoZero", "internal/bytealg.IndexByteString", "unique.Make[net/netip.addrDetail]"], unfollowed := true, recurses := true, named := ["loop.example/pub-g03278/pub/neturl.table", "unicode/utf8.first", "unicode/utf8.acceptRanges", "unicode.CaseRanges", "net/netip.z4", "net/netip.z6noz", "net/netip.z0"], apart := false, laid := [("unicode/utf8.acceptRanges", laid_unicode_utf8_acceptRanges), ("net/netip.z4", laid_net_netip_z4), ("net/netip.z6noz", laid_net_netip_z6noz), ("loop.example/pub-g03278/pub/neturl.table", laid_loop_example_pub_g03278_pub_neturl_table), ("net/netip.z0", laid_net_netip_z0), ("unicode.CaseRanges", laid_unicode_CaseRanges), ("unicode/utf8.first", laid_unicode_utf8_first)], narrowed := true }
def FnJoinUptoSaid : Prop := fnJoinUptoRow.holds Tryz.pinned (OpenSpec.upto fnJoinSpec)

/-- 'laws.FnResolveText', WHERE WHAT IT READS IS OF BULK AT MOST 1048576: true; the input reads as it did. -/
def fnResolveTextUptoRow : OpenClaim := { program := "ytphkohpphdcjhaagreatdoor", sum := "a1c002155c681138fba3ea9bb14c21d78bf8fecc4a4e596336015411c5f27aaa", func := "loop.example/pub-g03278/laws.FnResolveText", spec := "fnResolveText", inPlace := ["internal/abi.NoEscape", "internal/bytealg.MakeNoZero", "internal/bytealg.IndexByteString", "unique.Make[net/netip.addrDetail]"], unfollowed := true, recurses := true, named := ["unicode/utf8.first", "unicode/utf8.acceptRanges", "unicode.CaseRanges", "loop.example/pub-g03278/pub/neturl.table", "net/netip.z4", "net/netip.z6noz", "net/netip.z0"], apart := false, laid := [("unicode/utf8.acceptRanges", laid_unicode_utf8_acceptRanges), ("net/netip.z4", laid_net_netip_z4), ("net/netip.z6noz", laid_net_netip_z6noz), ("loop.example/pub-g03278/pub/neturl.table", laid_loop_example_pub_g03278_pub_neturl_table), ("net/netip.z0", laid_net_netip_z0), ("unicode.CaseRanges", laid_unicode_CaseRanges), ("unicode/utf8.first", laid_unicode_utf8_first)], narrowed := true }
def FnResolveTextUptoSaid : Prop := fnResolveTextUptoRow.holds Tryz.pinned (OpenSpec.upto fnResolveTextSpec)

/-- 'laws.FnJoinText', WHERE WHAT IT READS IS OF BULK AT MOST 1048576: true; the input reads as it did. -/
def fnJoinTextUptoRow : OpenClaim := { program := "ytphkohpphdcjhaagreatdoor", sum := "a1c002155c681138fba3ea9bb14c21d78bf8fecc4a4e596336015411c5f27aaa", func := "loop.example/pub-g03278/laws.FnJoinText", spec := "fnJoinText", inPlace := ["internal/abi.NoEscape", "internal/bytealg.MakeNoZero", "internal/bytealg.IndexByteString", "unique.Make[net/netip.addrDetail]"], unfollowed := true, recurses := true, named := ["unicode/utf8.first", "unicode/utf8.acceptRanges", "unicode.CaseRanges", "loop.example/pub-g03278/pub/neturl.table", "net/netip.z4", "net/netip.z6noz", "net/netip.z0"], apart := false, laid := [("unicode/utf8.acceptRanges", laid_unicode_utf8_acceptRanges), ("net/netip.z4", laid_net_netip_z4), ("net/netip.z6noz", laid_net_netip_z6noz), ("loop.example/pub-g03278/pub/neturl.table", laid_loop_example_pub_g03278_pub_neturl_table), ("net/netip.z0", laid_net_netip_z0), ("unicode.CaseRanges", laid_unicode_CaseRanges), ("unicode/utf8.first", laid_unicode_utf8_first)], narrowed := true }
def FnJoinTextUptoSaid : Prop := fnJoinTextUptoRow.holds Tryz.pinned (OpenSpec.upto fnJoinTextSpec)

end Rows
end Go.Proofs.YtphkohpphdcjhaaGreatDoor
