/-
  NARROWER THAN 'FOR EVERY INPUT', by the rows' own cells (each row's printed sentence says how): FnAlignParts: loops, laid · FnAlignof: loops, laid · FnAlignofAny: loops, laid · FnArrayStruct: loops, laid · FnGuaranteed: laid · FnNothing: loops, laid · FnSizeof: loops, laid · FnSizeofAny: loops, laid · FnWords: loops, laid · FnOffsetsof: loops, laid · FnOneMore: loops, laid · FnOffsetsApart: loops, laid.
  DERIVED. THE GIVEN ROWS OF THIS SEAT. 12 by the template 'for every input the law returns true; each argument reads behind the call as it read before'; 0 by the template 'total and deterministic' (their statements: YtphfjojdiilneaaGreatDoorTotals.lean).
  GIVEN WITH THE SEED: the statements are not yours to turn. If you find one false, say at which input.
  Laid BY PROGRAM, IN A SANDBOX (cutbox-rows.mjs): the forced cells as the released guide's own fill.sh prints them over the translation e7226fcbe2142a06… (all of the seat's roots in one cut). By AI agents, Wed Nov 11 2026. No macro, syntax, notation, axiom, sorry.
-/
import Derived.Test.YtphfjojdiilneaaGreatDoorChecked
import GoSem.Claim
import GoSem.ClaimJoined
import GoSem.ClaimMapViews
import Derived.JoinedTies
import Derived.KernelRfl
namespace Go.Proofs.YtphfjojdiilneaaGreatDoor
/- THE CELL 'sum', in the pinned program and in every row, IS THE sha256 OF THE DUMP (.gsa) THAT YtphfjojdiilneaaGreatDoorProg.lean LOADS. Nothing in Lean hashes anything: it is a label: what it is worth is what the hold of that sum in a sandbox is worth. -/
noncomputable def Tryz.pinned : Pinned := { name := "ytphfjojdiilneaagreatdoor", sum := "e7226fcbe2142a069607027c923483dd242648aa24d0a0b13955b8ffaf1905aa", checked := Tryz.checked }
namespace Rows
def none {H : Type} : Left H := { results := [], args := [] }

/- WHAT THE LISTED PACKAGE-LEVEL VARIABLES READ AS WHEN THE CALL BEGINS. Each datum BY PROGRAM (the guide's laid-datum.mjs) off the statement by which the dump's own 'gosem.cut.vars' lays the variable. In a bare row this is a premise. The card (YtphfjojdiilneaaGreatDoorCards.lean) ties it to the program's text. -/
def laid_stowage_pub_gotypes_basicSizes {H : Type} : DataW H := .agg [.lit (.int .u8 0), .lit (.int .u8 1), .lit (.int .u8 0), .lit (.int .u8 1), .lit (.int .u8 2), .lit (.int .u8 4), .lit (.int .u8 8), .lit (.int .u8 0), .lit (.int .u8 1), .lit (.int .u8 2), .lit (.int .u8 4), .lit (.int .u8 8), .lit (.int .u8 0), .lit (.int .u8 4), .lit (.int .u8 8), .lit (.int .u8 8), .lit (.int .u8 16)]

/-- 'laws.FnAlignParts': WHATEVER THE INPUT: true; the input reads as it did. -/
def fnAlignPartsSpec : ChangeSpec := { name := "fnAlignParts", fn := fun _ => fun
  | [d1, d2, d3, d4, d5] => { results := [.lit (.bool true)], args := [d1, d2, d3, d4, d5] }
  | _ => none }
def fnAlignPartsRow : OpenClaim := { program := "ytphfjojdiilneaagreatdoor", sum := "e7226fcbe2142a069607027c923483dd242648aa24d0a0b13955b8ffaf1905aa", func := "stowage/laws.FnAlignParts", spec := "fnAlignParts", unfollowed := true, recurses := true, named := ["stowage/pub/gotypes.basicSizes"], loops := true, apart := false, laid := [("stowage/pub/gotypes.basicSizes", laid_stowage_pub_gotypes_basicSizes)] }
def FnAlignPartsSaid : Prop := fnAlignPartsRow.holds Tryz.pinned (OpenSpec.ofChange fnAlignPartsSpec)

/-- ITS FALSE NEIGHBOUR: 'it returns false'. Refute it at one input. -/
def fnAlignPartsWrong : ChangeSpec := { name := "fnAlignParts", fn := fun _ => fun
  | [d1, d2, d3, d4, d5] => { results := [.lit (.bool false)], args := [d1, d2, d3, d4, d5] }
  | _ => none }
def FnAlignPartsWrongFalsely : Prop := fnAlignPartsRow.holds Tryz.pinned (OpenSpec.ofChange fnAlignPartsWrong)

/-- 'laws.FnAlignof': WHATEVER THE INPUT: true; the input reads as it did. -/
def fnAlignofSpec : ChangeSpec := { name := "fnAlignof", fn := fun _ => fun
  | [d1, d2, d3] => { results := [.lit (.bool true)], args := [d1, d2, d3] }
  | _ => none }
def fnAlignofRow : OpenClaim := { program := "ytphfjojdiilneaagreatdoor", sum := "e7226fcbe2142a069607027c923483dd242648aa24d0a0b13955b8ffaf1905aa", func := "stowage/laws.FnAlignof", spec := "fnAlignof", unfollowed := true, recurses := true, named := ["stowage/pub/gotypes.basicSizes"], loops := true, apart := false, laid := [("stowage/pub/gotypes.basicSizes", laid_stowage_pub_gotypes_basicSizes)] }
def FnAlignofSaid : Prop := fnAlignofRow.holds Tryz.pinned (OpenSpec.ofChange fnAlignofSpec)

/-- ITS FALSE NEIGHBOUR: 'it returns false'. Refute it at one input. -/
def fnAlignofWrong : ChangeSpec := { name := "fnAlignof", fn := fun _ => fun
  | [d1, d2, d3] => { results := [.lit (.bool false)], args := [d1, d2, d3] }
  | _ => none }
def FnAlignofWrongFalsely : Prop := fnAlignofRow.holds Tryz.pinned (OpenSpec.ofChange fnAlignofWrong)

/-- 'laws.FnAlignofAny': WHATEVER THE INPUT: true; the input reads as it did. -/
def fnAlignofAnySpec : ChangeSpec := { name := "fnAlignofAny", fn := fun _ => fun
  | [d1, d2, d3] => { results := [.lit (.bool true)], args := [d1, d2, d3] }
  | _ => none }
def fnAlignofAnyRow : OpenClaim := { program := "ytphfjojdiilneaagreatdoor", sum := "e7226fcbe2142a069607027c923483dd242648aa24d0a0b13955b8ffaf1905aa", func := "stowage/laws.FnAlignofAny", spec := "fnAlignofAny", unfollowed := true, recurses := true, named := ["stowage/pub/gotypes.basicSizes"], loops := true, apart := false, laid := [("stowage/pub/gotypes.basicSizes", laid_stowage_pub_gotypes_basicSizes)] }
def FnAlignofAnySaid : Prop := fnAlignofAnyRow.holds Tryz.pinned (OpenSpec.ofChange fnAlignofAnySpec)

/-- ITS FALSE NEIGHBOUR: 'it returns false'. Refute it at one input. -/
def fnAlignofAnyWrong : ChangeSpec := { name := "fnAlignofAny", fn := fun _ => fun
  | [d1, d2, d3] => { results := [.lit (.bool false)], args := [d1, d2, d3] }
  | _ => none }
def FnAlignofAnyWrongFalsely : Prop := fnAlignofAnyRow.holds Tryz.pinned (OpenSpec.ofChange fnAlignofAnyWrong)

/-- 'laws.FnArrayStruct': WHATEVER THE INPUT: true; the input reads as it did. -/
def fnArrayStructSpec : ChangeSpec := { name := "fnArrayStruct", fn := fun _ => fun
  | [d1, d2, d3, d4] => { results := [.lit (.bool true)], args := [d1, d2, d3, d4] }
  | _ => none }
def fnArrayStructRow : OpenClaim := { program := "ytphfjojdiilneaagreatdoor", sum := "e7226fcbe2142a069607027c923483dd242648aa24d0a0b13955b8ffaf1905aa", func := "stowage/laws.FnArrayStruct", spec := "fnArrayStruct", unfollowed := true, recurses := true, named := ["stowage/pub/gotypes.basicSizes"], loops := true, apart := false, laid := [("stowage/pub/gotypes.basicSizes", laid_stowage_pub_gotypes_basicSizes)] }
def FnArrayStructSaid : Prop := fnArrayStructRow.holds Tryz.pinned (OpenSpec.ofChange fnArrayStructSpec)

/-- ITS FALSE NEIGHBOUR: 'it returns false'. Refute it at one input. -/
def fnArrayStructWrong : ChangeSpec := { name := "fnArrayStruct", fn := fun _ => fun
  | [d1, d2, d3, d4] => { results := [.lit (.bool false)], args := [d1, d2, d3, d4] }
  | _ => none }
def FnArrayStructWrongFalsely : Prop := fnArrayStructRow.holds Tryz.pinned (OpenSpec.ofChange fnArrayStructWrong)

/-- 'laws.FnGuaranteed': WHATEVER THE INPUT: true; the input reads as it did. -/
def fnGuaranteedSpec : ChangeSpec := { name := "fnGuaranteed", fn := fun _ => fun
  | [d1, d2, d3] => { results := [.lit (.bool true)], args := [d1, d2, d3] }
  | _ => none }
def fnGuaranteedRow : OpenClaim := { program := "ytphfjojdiilneaagreatdoor", sum := "e7226fcbe2142a069607027c923483dd242648aa24d0a0b13955b8ffaf1905aa", func := "stowage/laws.FnGuaranteed", spec := "fnGuaranteed", unfollowed := true, recurses := true, named := ["stowage/pub/gotypes.basicSizes"], apart := false, laid := [("stowage/pub/gotypes.basicSizes", laid_stowage_pub_gotypes_basicSizes)] }
def FnGuaranteedSaid : Prop := fnGuaranteedRow.holds Tryz.pinned (OpenSpec.ofChange fnGuaranteedSpec)

/-- ITS FALSE NEIGHBOUR: 'it returns false'. Refute it at one input. -/
def fnGuaranteedWrong : ChangeSpec := { name := "fnGuaranteed", fn := fun _ => fun
  | [d1, d2, d3] => { results := [.lit (.bool false)], args := [d1, d2, d3] }
  | _ => none }
def FnGuaranteedWrongFalsely : Prop := fnGuaranteedRow.holds Tryz.pinned (OpenSpec.ofChange fnGuaranteedWrong)

/-- 'laws.FnNothing': WHATEVER THE INPUT: true; the input reads as it did. -/
def fnNothingSpec : ChangeSpec := { name := "fnNothing", fn := fun _ => fun
  | [d1, d2, d3, d4] => { results := [.lit (.bool true)], args := [d1, d2, d3, d4] }
  | _ => none }
def fnNothingRow : OpenClaim := { program := "ytphfjojdiilneaagreatdoor", sum := "e7226fcbe2142a069607027c923483dd242648aa24d0a0b13955b8ffaf1905aa", func := "stowage/laws.FnNothing", spec := "fnNothing", unfollowed := true, recurses := true, named := ["stowage/pub/gotypes.basicSizes"], loops := true, apart := false, laid := [("stowage/pub/gotypes.basicSizes", laid_stowage_pub_gotypes_basicSizes)] }
def FnNothingSaid : Prop := fnNothingRow.holds Tryz.pinned (OpenSpec.ofChange fnNothingSpec)

/-- ITS FALSE NEIGHBOUR: 'it returns false'. Refute it at one input. -/
def fnNothingWrong : ChangeSpec := { name := "fnNothing", fn := fun _ => fun
  | [d1, d2, d3, d4] => { results := [.lit (.bool false)], args := [d1, d2, d3, d4] }
  | _ => none }
def FnNothingWrongFalsely : Prop := fnNothingRow.holds Tryz.pinned (OpenSpec.ofChange fnNothingWrong)

/-- 'laws.FnSizeof': WHATEVER THE INPUT: true; the input reads as it did. -/
def fnSizeofSpec : ChangeSpec := { name := "fnSizeof", fn := fun _ => fun
  | [d1, d2, d3] => { results := [.lit (.bool true)], args := [d1, d2, d3] }
  | _ => none }
def fnSizeofRow : OpenClaim := { program := "ytphfjojdiilneaagreatdoor", sum := "e7226fcbe2142a069607027c923483dd242648aa24d0a0b13955b8ffaf1905aa", func := "stowage/laws.FnSizeof", spec := "fnSizeof", unfollowed := true, recurses := true, named := ["stowage/pub/gotypes.basicSizes"], loops := true, apart := false, laid := [("stowage/pub/gotypes.basicSizes", laid_stowage_pub_gotypes_basicSizes)] }
def FnSizeofSaid : Prop := fnSizeofRow.holds Tryz.pinned (OpenSpec.ofChange fnSizeofSpec)

/-- ITS FALSE NEIGHBOUR: 'it returns false'. Refute it at one input. -/
def fnSizeofWrong : ChangeSpec := { name := "fnSizeof", fn := fun _ => fun
  | [d1, d2, d3] => { results := [.lit (.bool false)], args := [d1, d2, d3] }
  | _ => none }
def FnSizeofWrongFalsely : Prop := fnSizeofRow.holds Tryz.pinned (OpenSpec.ofChange fnSizeofWrong)

/-- 'laws.FnSizeofAny': WHATEVER THE INPUT: true; the input reads as it did. -/
def fnSizeofAnySpec : ChangeSpec := { name := "fnSizeofAny", fn := fun _ => fun
  | [d1, d2, d3] => { results := [.lit (.bool true)], args := [d1, d2, d3] }
  | _ => none }
def fnSizeofAnyRow : OpenClaim := { program := "ytphfjojdiilneaagreatdoor", sum := "e7226fcbe2142a069607027c923483dd242648aa24d0a0b13955b8ffaf1905aa", func := "stowage/laws.FnSizeofAny", spec := "fnSizeofAny", unfollowed := true, recurses := true, named := ["stowage/pub/gotypes.basicSizes"], loops := true, apart := false, laid := [("stowage/pub/gotypes.basicSizes", laid_stowage_pub_gotypes_basicSizes)] }
def FnSizeofAnySaid : Prop := fnSizeofAnyRow.holds Tryz.pinned (OpenSpec.ofChange fnSizeofAnySpec)

/-- ITS FALSE NEIGHBOUR: 'it returns false'. Refute it at one input. -/
def fnSizeofAnyWrong : ChangeSpec := { name := "fnSizeofAny", fn := fun _ => fun
  | [d1, d2, d3] => { results := [.lit (.bool false)], args := [d1, d2, d3] }
  | _ => none }
def FnSizeofAnyWrongFalsely : Prop := fnSizeofAnyRow.holds Tryz.pinned (OpenSpec.ofChange fnSizeofAnyWrong)

/-- 'laws.FnWords': WHATEVER THE INPUT: true; the input reads as it did. -/
def fnWordsSpec : ChangeSpec := { name := "fnWords", fn := fun _ => fun
  | [d1, d2, d3, d4] => { results := [.lit (.bool true)], args := [d1, d2, d3, d4] }
  | _ => none }
def fnWordsRow : OpenClaim := { program := "ytphfjojdiilneaagreatdoor", sum := "e7226fcbe2142a069607027c923483dd242648aa24d0a0b13955b8ffaf1905aa", func := "stowage/laws.FnWords", spec := "fnWords", unfollowed := true, recurses := true, named := ["stowage/pub/gotypes.basicSizes"], loops := true, apart := false, laid := [("stowage/pub/gotypes.basicSizes", laid_stowage_pub_gotypes_basicSizes)] }
def FnWordsSaid : Prop := fnWordsRow.holds Tryz.pinned (OpenSpec.ofChange fnWordsSpec)

/-- ITS FALSE NEIGHBOUR: 'it returns false'. Refute it at one input. -/
def fnWordsWrong : ChangeSpec := { name := "fnWords", fn := fun _ => fun
  | [d1, d2, d3, d4] => { results := [.lit (.bool false)], args := [d1, d2, d3, d4] }
  | _ => none }
def FnWordsWrongFalsely : Prop := fnWordsRow.holds Tryz.pinned (OpenSpec.ofChange fnWordsWrong)

/-- 'laws.FnOffsetsof': WHATEVER THE INPUT: true; the input reads as it did. -/
def fnOffsetsofSpec : ChangeSpec := { name := "fnOffsetsof", fn := fun _ => fun
  | [d1, d2, d3] => { results := [.lit (.bool true)], args := [d1, d2, d3] }
  | _ => none }
def fnOffsetsofRow : OpenClaim := { program := "ytphfjojdiilneaagreatdoor", sum := "e7226fcbe2142a069607027c923483dd242648aa24d0a0b13955b8ffaf1905aa", func := "stowage/laws.FnOffsetsof", spec := "fnOffsetsof", unfollowed := true, recurses := true, named := ["stowage/pub/gotypes.basicSizes"], loops := true, apart := false, laid := [("stowage/pub/gotypes.basicSizes", laid_stowage_pub_gotypes_basicSizes)] }
def FnOffsetsofSaid : Prop := fnOffsetsofRow.holds Tryz.pinned (OpenSpec.ofChange fnOffsetsofSpec)

/-- ITS FALSE NEIGHBOUR: 'it returns false'. Refute it at one input. -/
def fnOffsetsofWrong : ChangeSpec := { name := "fnOffsetsof", fn := fun _ => fun
  | [d1, d2, d3] => { results := [.lit (.bool false)], args := [d1, d2, d3] }
  | _ => none }
def FnOffsetsofWrongFalsely : Prop := fnOffsetsofRow.holds Tryz.pinned (OpenSpec.ofChange fnOffsetsofWrong)

/-- 'laws.FnOneMore': WHATEVER THE INPUT: true; the input reads as it did. -/
def fnOneMoreSpec : ChangeSpec := { name := "fnOneMore", fn := fun _ => fun
  | [d1, d2, d3, d4] => { results := [.lit (.bool true)], args := [d1, d2, d3, d4] }
  | _ => none }
def fnOneMoreRow : OpenClaim := { program := "ytphfjojdiilneaagreatdoor", sum := "e7226fcbe2142a069607027c923483dd242648aa24d0a0b13955b8ffaf1905aa", func := "stowage/laws.FnOneMore", spec := "fnOneMore", unfollowed := true, recurses := true, named := ["stowage/pub/gotypes.basicSizes"], loops := true, apart := false, laid := [("stowage/pub/gotypes.basicSizes", laid_stowage_pub_gotypes_basicSizes)] }
def FnOneMoreSaid : Prop := fnOneMoreRow.holds Tryz.pinned (OpenSpec.ofChange fnOneMoreSpec)

/-- ITS FALSE NEIGHBOUR: 'it returns false'. Refute it at one input. -/
def fnOneMoreWrong : ChangeSpec := { name := "fnOneMore", fn := fun _ => fun
  | [d1, d2, d3, d4] => { results := [.lit (.bool false)], args := [d1, d2, d3, d4] }
  | _ => none }
def FnOneMoreWrongFalsely : Prop := fnOneMoreRow.holds Tryz.pinned (OpenSpec.ofChange fnOneMoreWrong)

/-- 'laws.FnOffsetsApart': WHATEVER THE INPUT: true; the input reads as it did. -/
def fnOffsetsApartSpec : ChangeSpec := { name := "fnOffsetsApart", fn := fun _ => fun
  | [d1, d2, d3] => { results := [.lit (.bool true)], args := [d1, d2, d3] }
  | _ => none }
def fnOffsetsApartRow : OpenClaim := { program := "ytphfjojdiilneaagreatdoor", sum := "e7226fcbe2142a069607027c923483dd242648aa24d0a0b13955b8ffaf1905aa", func := "stowage/laws.FnOffsetsApart", spec := "fnOffsetsApart", unfollowed := true, recurses := true, named := ["stowage/pub/gotypes.basicSizes"], loops := true, apart := false, laid := [("stowage/pub/gotypes.basicSizes", laid_stowage_pub_gotypes_basicSizes)] }
def FnOffsetsApartSaid : Prop := fnOffsetsApartRow.holds Tryz.pinned (OpenSpec.ofChange fnOffsetsApartSpec)

/-- ITS FALSE NEIGHBOUR: 'it returns false'. Refute it at one input. -/
def fnOffsetsApartWrong : ChangeSpec := { name := "fnOffsetsApart", fn := fun _ => fun
  | [d1, d2, d3] => { results := [.lit (.bool false)], args := [d1, d2, d3] }
  | _ => none }
def FnOffsetsApartWrongFalsely : Prop := fnOffsetsApartRow.holds Tryz.pinned (OpenSpec.ofChange fnOffsetsApartWrong)

/- THE SECOND FORM. 'bulk': how many values and letters a reading holds, each counted each time it is reached (what is shared counts as often as it is met; a slice's spare places count too). A statement '..UptoSaid' is the law's where the arguments, and the package variables that the reading takes, are together of bulk at most 1048576: NARROWER than '..Said'. Prove '..Said' where nothing that the law and all that it calls make is longer than what came in: it says more and counts as full. Else prove '..UptoSaid'. A law counts once. -/
mutual
def uptoBulk {H : Type} : DataW H → Nat
  | .lit (.string bytes) => bytes.length + 1
  | .lit _ => 1
  | .nil => 1
  | .ptr d => uptoBulk d + 1
  | .slice elems spare => uptoBulkAll elems + uptoBulkAll spare + 1
  | .agg parts => uptoBulkAll parts + 1
  | .iface _ d => uptoBulk d + 1
  | .map entries => uptoBulkEntries entries + 1
  | .held _ => 1
def uptoBulkAll {H : Type} : List (DataW H) → Nat
  | [] => 0
  | d :: r => uptoBulk d + uptoBulkAll r
def uptoBulkEntries {H : Type} : List (Lit × DataW H) → Nat
  | [] => 0
  | x :: r => uptoBulkEntry x + uptoBulkEntries r
def uptoBulkEntry {H : Type} : Lit × DataW H → Nat
  | (.string bytes, d) => bytes.length + uptoBulk d + 1
  | (_, d) => uptoBulk d + 1
 end
def uptoSmall : (H : Type) → List (DataW H) → Bool := fun _ ds => decide (uptoBulkAll ds ≤ 1048576)
def OpenSpec.upto (s : _root_.Go.ChangeSpec) : _root_.Go.OpenSpec := { _root_.Go.OpenSpec.ofChange s with cond := some uptoSmall }

/-- 'laws.FnAlignParts', WHERE WHAT IT READS IS OF BULK AT MOST 1048576: true; the input reads as it did. -/
def fnAlignPartsUptoRow : OpenClaim := { program := "ytphfjojdiilneaagreatdoor", sum := "e7226fcbe2142a069607027c923483dd242648aa24d0a0b13955b8ffaf1905aa", func := "stowage/laws.FnAlignParts", spec := "fnAlignParts", unfollowed := true, recurses := true, named := ["stowage/pub/gotypes.basicSizes"], loops := true, apart := false, laid := [("stowage/pub/gotypes.basicSizes", laid_stowage_pub_gotypes_basicSizes)], narrowed := true }
def FnAlignPartsUptoSaid : Prop := fnAlignPartsUptoRow.holds Tryz.pinned (OpenSpec.upto fnAlignPartsSpec)

/-- 'laws.FnAlignof', WHERE WHAT IT READS IS OF BULK AT MOST 1048576: true; the input reads as it did. -/
def fnAlignofUptoRow : OpenClaim := { program := "ytphfjojdiilneaagreatdoor", sum := "e7226fcbe2142a069607027c923483dd242648aa24d0a0b13955b8ffaf1905aa", func := "stowage/laws.FnAlignof", spec := "fnAlignof", unfollowed := true, recurses := true, named := ["stowage/pub/gotypes.basicSizes"], loops := true, apart := false, laid := [("stowage/pub/gotypes.basicSizes", laid_stowage_pub_gotypes_basicSizes)], narrowed := true }
def FnAlignofUptoSaid : Prop := fnAlignofUptoRow.holds Tryz.pinned (OpenSpec.upto fnAlignofSpec)

/-- 'laws.FnAlignofAny', WHERE WHAT IT READS IS OF BULK AT MOST 1048576: true; the input reads as it did. -/
def fnAlignofAnyUptoRow : OpenClaim := { program := "ytphfjojdiilneaagreatdoor", sum := "e7226fcbe2142a069607027c923483dd242648aa24d0a0b13955b8ffaf1905aa", func := "stowage/laws.FnAlignofAny", spec := "fnAlignofAny", unfollowed := true, recurses := true, named := ["stowage/pub/gotypes.basicSizes"], loops := true, apart := false, laid := [("stowage/pub/gotypes.basicSizes", laid_stowage_pub_gotypes_basicSizes)], narrowed := true }
def FnAlignofAnyUptoSaid : Prop := fnAlignofAnyUptoRow.holds Tryz.pinned (OpenSpec.upto fnAlignofAnySpec)

/-- 'laws.FnArrayStruct', WHERE WHAT IT READS IS OF BULK AT MOST 1048576: true; the input reads as it did. -/
def fnArrayStructUptoRow : OpenClaim := { program := "ytphfjojdiilneaagreatdoor", sum := "e7226fcbe2142a069607027c923483dd242648aa24d0a0b13955b8ffaf1905aa", func := "stowage/laws.FnArrayStruct", spec := "fnArrayStruct", unfollowed := true, recurses := true, named := ["stowage/pub/gotypes.basicSizes"], loops := true, apart := false, laid := [("stowage/pub/gotypes.basicSizes", laid_stowage_pub_gotypes_basicSizes)], narrowed := true }
def FnArrayStructUptoSaid : Prop := fnArrayStructUptoRow.holds Tryz.pinned (OpenSpec.upto fnArrayStructSpec)

/-- 'laws.FnGuaranteed', WHERE WHAT IT READS IS OF BULK AT MOST 1048576: true; the input reads as it did. -/
def fnGuaranteedUptoRow : OpenClaim := { program := "ytphfjojdiilneaagreatdoor", sum := "e7226fcbe2142a069607027c923483dd242648aa24d0a0b13955b8ffaf1905aa", func := "stowage/laws.FnGuaranteed", spec := "fnGuaranteed", unfollowed := true, recurses := true, named := ["stowage/pub/gotypes.basicSizes"], apart := false, laid := [("stowage/pub/gotypes.basicSizes", laid_stowage_pub_gotypes_basicSizes)], narrowed := true }
def FnGuaranteedUptoSaid : Prop := fnGuaranteedUptoRow.holds Tryz.pinned (OpenSpec.upto fnGuaranteedSpec)

/-- 'laws.FnNothing', WHERE WHAT IT READS IS OF BULK AT MOST 1048576: true; the input reads as it did. -/
def fnNothingUptoRow : OpenClaim := { program := "ytphfjojdiilneaagreatdoor", sum := "e7226fcbe2142a069607027c923483dd242648aa24d0a0b13955b8ffaf1905aa", func := "stowage/laws.FnNothing", spec := "fnNothing", unfollowed := true, recurses := true, named := ["stowage/pub/gotypes.basicSizes"], loops := true, apart := false, laid := [("stowage/pub/gotypes.basicSizes", laid_stowage_pub_gotypes_basicSizes)], narrowed := true }
def FnNothingUptoSaid : Prop := fnNothingUptoRow.holds Tryz.pinned (OpenSpec.upto fnNothingSpec)

/-- 'laws.FnSizeof', WHERE WHAT IT READS IS OF BULK AT MOST 1048576: true; the input reads as it did. -/
def fnSizeofUptoRow : OpenClaim := { program := "ytphfjojdiilneaagreatdoor", sum := "e7226fcbe2142a069607027c923483dd242648aa24d0a0b13955b8ffaf1905aa", func := "stowage/laws.FnSizeof", spec := "fnSizeof", unfollowed := true, recurses := true, named := ["stowage/pub/gotypes.basicSizes"], loops := true, apart := false, laid := [("stowage/pub/gotypes.basicSizes", laid_stowage_pub_gotypes_basicSizes)], narrowed := true }
def FnSizeofUptoSaid : Prop := fnSizeofUptoRow.holds Tryz.pinned (OpenSpec.upto fnSizeofSpec)

/-- 'laws.FnSizeofAny', WHERE WHAT IT READS IS OF BULK AT MOST 1048576: true; the input reads as it did. -/
def fnSizeofAnyUptoRow : OpenClaim := { program := "ytphfjojdiilneaagreatdoor", sum := "e7226fcbe2142a069607027c923483dd242648aa24d0a0b13955b8ffaf1905aa", func := "stowage/laws.FnSizeofAny", spec := "fnSizeofAny", unfollowed := true, recurses := true, named := ["stowage/pub/gotypes.basicSizes"], loops := true, apart := false, laid := [("stowage/pub/gotypes.basicSizes", laid_stowage_pub_gotypes_basicSizes)], narrowed := true }
def FnSizeofAnyUptoSaid : Prop := fnSizeofAnyUptoRow.holds Tryz.pinned (OpenSpec.upto fnSizeofAnySpec)

/-- 'laws.FnWords', WHERE WHAT IT READS IS OF BULK AT MOST 1048576: true; the input reads as it did. -/
def fnWordsUptoRow : OpenClaim := { program := "ytphfjojdiilneaagreatdoor", sum := "e7226fcbe2142a069607027c923483dd242648aa24d0a0b13955b8ffaf1905aa", func := "stowage/laws.FnWords", spec := "fnWords", unfollowed := true, recurses := true, named := ["stowage/pub/gotypes.basicSizes"], loops := true, apart := false, laid := [("stowage/pub/gotypes.basicSizes", laid_stowage_pub_gotypes_basicSizes)], narrowed := true }
def FnWordsUptoSaid : Prop := fnWordsUptoRow.holds Tryz.pinned (OpenSpec.upto fnWordsSpec)

/-- 'laws.FnOffsetsof', WHERE WHAT IT READS IS OF BULK AT MOST 1048576: true; the input reads as it did. -/
def fnOffsetsofUptoRow : OpenClaim := { program := "ytphfjojdiilneaagreatdoor", sum := "e7226fcbe2142a069607027c923483dd242648aa24d0a0b13955b8ffaf1905aa", func := "stowage/laws.FnOffsetsof", spec := "fnOffsetsof", unfollowed := true, recurses := true, named := ["stowage/pub/gotypes.basicSizes"], loops := true, apart := false, laid := [("stowage/pub/gotypes.basicSizes", laid_stowage_pub_gotypes_basicSizes)], narrowed := true }
def FnOffsetsofUptoSaid : Prop := fnOffsetsofUptoRow.holds Tryz.pinned (OpenSpec.upto fnOffsetsofSpec)

/-- 'laws.FnOneMore', WHERE WHAT IT READS IS OF BULK AT MOST 1048576: true; the input reads as it did. -/
def fnOneMoreUptoRow : OpenClaim := { program := "ytphfjojdiilneaagreatdoor", sum := "e7226fcbe2142a069607027c923483dd242648aa24d0a0b13955b8ffaf1905aa", func := "stowage/laws.FnOneMore", spec := "fnOneMore", unfollowed := true, recurses := true, named := ["stowage/pub/gotypes.basicSizes"], loops := true, apart := false, laid := [("stowage/pub/gotypes.basicSizes", laid_stowage_pub_gotypes_basicSizes)], narrowed := true }
def FnOneMoreUptoSaid : Prop := fnOneMoreUptoRow.holds Tryz.pinned (OpenSpec.upto fnOneMoreSpec)

/-- 'laws.FnOffsetsApart', WHERE WHAT IT READS IS OF BULK AT MOST 1048576: true; the input reads as it did. -/
def fnOffsetsApartUptoRow : OpenClaim := { program := "ytphfjojdiilneaagreatdoor", sum := "e7226fcbe2142a069607027c923483dd242648aa24d0a0b13955b8ffaf1905aa", func := "stowage/laws.FnOffsetsApart", spec := "fnOffsetsApart", unfollowed := true, recurses := true, named := ["stowage/pub/gotypes.basicSizes"], loops := true, apart := false, laid := [("stowage/pub/gotypes.basicSizes", laid_stowage_pub_gotypes_basicSizes)], narrowed := true }
def FnOffsetsApartUptoSaid : Prop := fnOffsetsApartUptoRow.holds Tryz.pinned (OpenSpec.upto fnOffsetsApartSpec)

end Rows
end Go.Proofs.YtphfjojdiilneaaGreatDoor
