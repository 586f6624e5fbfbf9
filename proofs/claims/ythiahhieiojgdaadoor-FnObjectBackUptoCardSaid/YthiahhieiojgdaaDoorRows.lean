/-
  NARROWER THAN 'FOR EVERY INPUT', by the rows' own cells (each row's printed sentence says how): FnControls: laid · FnJSONCut: laid · FnJSONJoins: laid · FnJSONString: laid · FnNoHTML: laid · FnObjectBack: laid · FnSafe: laid.
  DERIVED. THE GIVEN ROWS OF THIS SEAT. 7 by the template 'for every input the law returns true; each argument reads behind the call as it read before'; 0 by the template 'total and deterministic' (their statements: YthiahhieiojgdaaDoorTotals.lean).
  GIVEN WITH THE SEED: the statements are not yours to turn. If you find one false, say at which input.
  Laid BY PROGRAM, IN A SANDBOX (cutbox-rows.mjs): the forced cells as the released guide's own fill.sh prints them over the translation dd766a20ac9f7b06… (all of the seat's roots in one cut). By AI agents, Wed Nov 11 2026. No macro, syntax, notation, axiom, sorry.
-/
import Derived.Test.YthiahhieiojgdaaDoorChecked
import GoSem.PinnedTables
import GoSem.Claim
import GoSem.ClaimJoined
import GoSem.ClaimMapViews
import Derived.JoinedTies
import Derived.KernelRfl
namespace Go.Proofs.YthiahhieiojgdaaDoor
/- THE CELL 'sum', in the pinned program and in every row, IS THE sha256 OF THE DUMP (.gsa) THAT YthiahhieiojgdaaDoorProg.lean LOADS. Nothing in Lean hashes anything: it is a label: what it is worth is what the hold of that sum in a sandbox is worth. -/
noncomputable def Tryd.pinned : Pinned := { name := "ythiahhieiojgdaadoor", sum := "dd766a20ac9f7b06d026ffba56b9f906c218a9f0835b380a6d03ad04ca7438d3", checked := Tryd.checked }
namespace Rows
def none {H : Type} : Left H := { results := [], args := [] }

/- WHAT THE LISTED PACKAGE-LEVEL VARIABLES READ AS WHEN THE CALL BEGINS. Each datum BY PROGRAM (the guide's laid-datum.mjs) off the statement by which the dump's own 'gosem.cut.vars' lays the variable. In a bare row this is a premise. The card (YthiahhieiojgdaaDoorCards.lean) ties it to the program's text. -/
def laid_unicode_utf8_acceptRanges {H : Type} : DataW H := .agg [.agg [.lit (.int .u8 128), .lit (.int .u8 191)], .agg [.lit (.int .u8 160), .lit (.int .u8 191)], .agg [.lit (.int .u8 128), .lit (.int .u8 159)], .agg [.lit (.int .u8 144), .lit (.int .u8 191)], .agg [.lit (.int .u8 128), .lit (.int .u8 143)], .agg [.lit (.int .u8 0), .lit (.int .u8 0)], .agg [.lit (.int .u8 0), .lit (.int .u8 0)], .agg [.lit (.int .u8 0), .lit (.int .u8 0)], .agg [.lit (.int .u8 0), .lit (.int .u8 0)], .agg [.lit (.int .u8 0), .lit (.int .u8 0)], .agg [.lit (.int .u8 0), .lit (.int .u8 0)], .agg [.lit (.int .u8 0), .lit (.int .u8 0)], .agg [.lit (.int .u8 0), .lit (.int .u8 0)], .agg [.lit (.int .u8 0), .lit (.int .u8 0)], .agg [.lit (.int .u8 0), .lit (.int .u8 0)], .agg [.lit (.int .u8 0), .lit (.int .u8 0)]]
def laid_unicode_White_Space {H : Type} : DataW H := .ptr (.agg [.slice [.agg [.lit (.int .u16 9), .lit (.int .u16 13), .lit (.int .u16 1)], .agg [.lit (.int .u16 32), .lit (.int .u16 133), .lit (.int .u16 101)], .agg [.lit (.int .u16 160), .lit (.int .u16 5760), .lit (.int .u16 5600)], .agg [.lit (.int .u16 8192), .lit (.int .u16 8202), .lit (.int .u16 1)], .agg [.lit (.int .u16 8232), .lit (.int .u16 8233), .lit (.int .u16 1)], .agg [.lit (.int .u16 8239), .lit (.int .u16 8287), .lit (.int .u16 48)], .agg [.lit (.int .u16 12288), .lit (.int .u16 12288), .lit (.int .u16 1)]] [], .nil, .lit (.int .i64 2)])
def laid_unicode_properties {H : Type} : DataW H := .agg [.lit (.int .u8 1), .lit (.int .u8 1), .lit (.int .u8 1), .lit (.int .u8 1), .lit (.int .u8 1), .lit (.int .u8 1), .lit (.int .u8 1), .lit (.int .u8 1), .lit (.int .u8 1), .lit (.int .u8 1), .lit (.int .u8 1), .lit (.int .u8 1), .lit (.int .u8 1), .lit (.int .u8 1), .lit (.int .u8 1), .lit (.int .u8 1), .lit (.int .u8 1), .lit (.int .u8 1), .lit (.int .u8 1), .lit (.int .u8 1), .lit (.int .u8 1), .lit (.int .u8 1), .lit (.int .u8 1), .lit (.int .u8 1), .lit (.int .u8 1), .lit (.int .u8 1), .lit (.int .u8 1), .lit (.int .u8 1), .lit (.int .u8 1), .lit (.int .u8 1), .lit (.int .u8 1), .lit (.int .u8 1), .lit (.int .u8 144), .lit (.int .u8 130), .lit (.int .u8 130), .lit (.int .u8 130), .lit (.int .u8 136), .lit (.int .u8 130), .lit (.int .u8 130), .lit (.int .u8 130), .lit (.int .u8 130), .lit (.int .u8 130), .lit (.int .u8 130), .lit (.int .u8 136), .lit (.int .u8 130), .lit (.int .u8 130), .lit (.int .u8 130), .lit (.int .u8 130), .lit (.int .u8 132), .lit (.int .u8 132), .lit (.int .u8 132), .lit (.int .u8 132), .lit (.int .u8 132), .lit (.int .u8 132), .lit (.int .u8 132), .lit (.int .u8 132), .lit (.int .u8 132), .lit (.int .u8 132), .lit (.int .u8 130), .lit (.int .u8 130), .lit (.int .u8 136), .lit (.int .u8 136), .lit (.int .u8 136), .lit (.int .u8 130), .lit (.int .u8 130), .lit (.int .u8 160), .lit (.int .u8 160), .lit (.int .u8 160), .lit (.int .u8 160), .lit (.int .u8 160), .lit (.int .u8 160), .lit (.int .u8 160), .lit (.int .u8 160), .lit (.int .u8 160), .lit (.int .u8 160), .lit (.int .u8 160), .lit (.int .u8 160), .lit (.int .u8 160), .lit (.int .u8 160), .lit (.int .u8 160), .lit (.int .u8 160), .lit (.int .u8 160), .lit (.int .u8 160), .lit (.int .u8 160), .lit (.int .u8 160), .lit (.int .u8 160), .lit (.int .u8 160), .lit (.int .u8 160), .lit (.int .u8 160), .lit (.int .u8 160), .lit (.int .u8 160), .lit (.int .u8 130), .lit (.int .u8 130), .lit (.int .u8 130), .lit (.int .u8 136), .lit (.int .u8 130), .lit (.int .u8 136), .lit (.int .u8 192), .lit (.int .u8 192), .lit (.int .u8 192), .lit (.int .u8 192), .lit (.int .u8 192), .lit (.int .u8 192), .lit (.int .u8 192), .lit (.int .u8 192), .lit (.int .u8 192), .lit (.int .u8 192), .lit (.int .u8 192), .lit (.int .u8 192), .lit (.int .u8 192), .lit (.int .u8 192), .lit (.int .u8 192), .lit (.int .u8 192), .lit (.int .u8 192), .lit (.int .u8 192), .lit (.int .u8 192), .lit (.int .u8 192), .lit (.int .u8 192), .lit (.int .u8 192), .lit (.int .u8 192), .lit (.int .u8 192), .lit (.int .u8 192), .lit (.int .u8 192), .lit (.int .u8 130), .lit (.int .u8 136), .lit (.int .u8 130), .lit (.int .u8 136), .lit (.int .u8 1), .lit (.int .u8 1), .lit (.int .u8 1), .lit (.int .u8 1), .lit (.int .u8 1), .lit (.int .u8 1), .lit (.int .u8 1), .lit (.int .u8 1), .lit (.int .u8 1), .lit (.int .u8 1), .lit (.int .u8 1), .lit (.int .u8 1), .lit (.int .u8 1), .lit (.int .u8 1), .lit (.int .u8 1), .lit (.int .u8 1), .lit (.int .u8 1), .lit (.int .u8 1), .lit (.int .u8 1), .lit (.int .u8 1), .lit (.int .u8 1), .lit (.int .u8 1), .lit (.int .u8 1), .lit (.int .u8 1), .lit (.int .u8 1), .lit (.int .u8 1), .lit (.int .u8 1), .lit (.int .u8 1), .lit (.int .u8 1), .lit (.int .u8 1), .lit (.int .u8 1), .lit (.int .u8 1), .lit (.int .u8 1), .lit (.int .u8 16), .lit (.int .u8 130), .lit (.int .u8 136), .lit (.int .u8 136), .lit (.int .u8 136), .lit (.int .u8 136), .lit (.int .u8 136), .lit (.int .u8 130), .lit (.int .u8 136), .lit (.int .u8 136), .lit (.int .u8 224), .lit (.int .u8 130), .lit (.int .u8 136), .lit (.int .u8 0), .lit (.int .u8 136), .lit (.int .u8 136), .lit (.int .u8 136), .lit (.int .u8 136), .lit (.int .u8 132), .lit (.int .u8 132), .lit (.int .u8 136), .lit (.int .u8 192), .lit (.int .u8 130), .lit (.int .u8 130), .lit (.int .u8 136), .lit (.int .u8 132), .lit (.int .u8 224), .lit (.int .u8 130), .lit (.int .u8 132), .lit (.int .u8 132), .lit (.int .u8 132), .lit (.int .u8 130), .lit (.int .u8 160), .lit (.int .u8 160), .lit (.int .u8 160), .lit (.int .u8 160), .lit (.int .u8 160), .lit (.int .u8 160), .lit (.int .u8 160), .lit (.int .u8 160), .lit (.int .u8 160), .lit (.int .u8 160), .lit (.int .u8 160), .lit (.int .u8 160), .lit (.int .u8 160), .lit (.int .u8 160), .lit (.int .u8 160), .lit (.int .u8 160), .lit (.int .u8 160), .lit (.int .u8 160), .lit (.int .u8 160), .lit (.int .u8 160), .lit (.int .u8 160), .lit (.int .u8 160), .lit (.int .u8 160), .lit (.int .u8 136), .lit (.int .u8 160), .lit (.int .u8 160), .lit (.int .u8 160), .lit (.int .u8 160), .lit (.int .u8 160), .lit (.int .u8 160), .lit (.int .u8 160), .lit (.int .u8 192), .lit (.int .u8 192), .lit (.int .u8 192), .lit (.int .u8 192), .lit (.int .u8 192), .lit (.int .u8 192), .lit (.int .u8 192), .lit (.int .u8 192), .lit (.int .u8 192), .lit (.int .u8 192), .lit (.int .u8 192), .lit (.int .u8 192), .lit (.int .u8 192), .lit (.int .u8 192), .lit (.int .u8 192), .lit (.int .u8 192), .lit (.int .u8 192), .lit (.int .u8 192), .lit (.int .u8 192), .lit (.int .u8 192), .lit (.int .u8 192), .lit (.int .u8 192), .lit (.int .u8 192), .lit (.int .u8 192), .lit (.int .u8 136), .lit (.int .u8 192), .lit (.int .u8 192), .lit (.int .u8 192), .lit (.int .u8 192), .lit (.int .u8 192), .lit (.int .u8 192), .lit (.int .u8 192), .lit (.int .u8 192)]
def laid_logquotes_pub_slogquote_safeSet {H : Type} : DataW H := .agg [.lit (.bool false), .lit (.bool false), .lit (.bool false), .lit (.bool false), .lit (.bool false), .lit (.bool false), .lit (.bool false), .lit (.bool false), .lit (.bool false), .lit (.bool false), .lit (.bool false), .lit (.bool false), .lit (.bool false), .lit (.bool false), .lit (.bool false), .lit (.bool false), .lit (.bool false), .lit (.bool false), .lit (.bool false), .lit (.bool false), .lit (.bool false), .lit (.bool false), .lit (.bool false), .lit (.bool false), .lit (.bool false), .lit (.bool false), .lit (.bool false), .lit (.bool false), .lit (.bool false), .lit (.bool false), .lit (.bool false), .lit (.bool false), .lit (.bool true), .lit (.bool true), .lit (.bool false), .lit (.bool true), .lit (.bool true), .lit (.bool true), .lit (.bool true), .lit (.bool true), .lit (.bool true), .lit (.bool true), .lit (.bool true), .lit (.bool true), .lit (.bool true), .lit (.bool true), .lit (.bool true), .lit (.bool true), .lit (.bool true), .lit (.bool true), .lit (.bool true), .lit (.bool true), .lit (.bool true), .lit (.bool true), .lit (.bool true), .lit (.bool true), .lit (.bool true), .lit (.bool true), .lit (.bool true), .lit (.bool true), .lit (.bool true), .lit (.bool true), .lit (.bool true), .lit (.bool true), .lit (.bool true), .lit (.bool true), .lit (.bool true), .lit (.bool true), .lit (.bool true), .lit (.bool true), .lit (.bool true), .lit (.bool true), .lit (.bool true), .lit (.bool true), .lit (.bool true), .lit (.bool true), .lit (.bool true), .lit (.bool true), .lit (.bool true), .lit (.bool true), .lit (.bool true), .lit (.bool true), .lit (.bool true), .lit (.bool true), .lit (.bool true), .lit (.bool true), .lit (.bool true), .lit (.bool true), .lit (.bool true), .lit (.bool true), .lit (.bool true), .lit (.bool true), .lit (.bool false), .lit (.bool true), .lit (.bool true), .lit (.bool true), .lit (.bool true), .lit (.bool true), .lit (.bool true), .lit (.bool true), .lit (.bool true), .lit (.bool true), .lit (.bool true), .lit (.bool true), .lit (.bool true), .lit (.bool true), .lit (.bool true), .lit (.bool true), .lit (.bool true), .lit (.bool true), .lit (.bool true), .lit (.bool true), .lit (.bool true), .lit (.bool true), .lit (.bool true), .lit (.bool true), .lit (.bool true), .lit (.bool true), .lit (.bool true), .lit (.bool true), .lit (.bool true), .lit (.bool true), .lit (.bool true), .lit (.bool true), .lit (.bool true), .lit (.bool true), .lit (.bool true), .lit (.bool true)]
/-- One of Go's own tables, pinned by name: the form's constant. -/
def laid_unicode_utf8_first : DataW Unit := Go.Pinned.utf8First

/-- 'laws.FnControls': WHATEVER THE INPUT: true; the input reads as it did. -/
def fnControlsSpec : ChangeSpec := { name := "fnControls", fn := fun _ => fun
  | [d] => { results := [.lit (.bool true)], args := [d] }
  | _ => none }
def fnControlsRow : OpenClaim := { program := "ythiahhieiojgdaadoor", sum := "dd766a20ac9f7b06d026ffba56b9f906c218a9f0835b380a6d03ad04ca7438d3", func := "logquotes/laws.FnControls", spec := "fnControls", unfollowed := true, recurses := true, named := ["logquotes/pub/slogquote.safeSet", "unicode/utf8.first", "unicode/utf8.acceptRanges", "unicode.White_Space", "unicode.properties", "unicode.PrintRanges"], apart := false, laid := [("unicode/utf8.acceptRanges", laid_unicode_utf8_acceptRanges), ("unicode.White_Space", laid_unicode_White_Space), ("unicode.properties", laid_unicode_properties), ("logquotes/pub/slogquote.safeSet", laid_logquotes_pub_slogquote_safeSet), ("unicode/utf8.first", laid_unicode_utf8_first)] }
def FnControlsSaid : Prop := fnControlsRow.holds Tryd.pinned (OpenSpec.ofChange fnControlsSpec)

/-- ITS FALSE NEIGHBOUR: 'it returns false'. Refute it at one input. -/
def fnControlsWrong : ChangeSpec := { name := "fnControls", fn := fun _ => fun
  | [d] => { results := [.lit (.bool false)], args := [d] }
  | _ => none }
def FnControlsWrongFalsely : Prop := fnControlsRow.holds Tryd.pinned (OpenSpec.ofChange fnControlsWrong)

/-- 'laws.FnJSONCut': WHATEVER THE INPUT: true; the input reads as it did. -/
def fnJSONCutSpec : ChangeSpec := { name := "fnJSONCut", fn := fun _ => fun
  | [d1, d2] => { results := [.lit (.bool true)], args := [d1, d2] }
  | _ => none }
def fnJSONCutRow : OpenClaim := { program := "ythiahhieiojgdaadoor", sum := "dd766a20ac9f7b06d026ffba56b9f906c218a9f0835b380a6d03ad04ca7438d3", func := "logquotes/laws.FnJSONCut", spec := "fnJSONCut", unfollowed := true, recurses := true, named := ["logquotes/pub/slogquote.safeSet", "unicode/utf8.first", "unicode/utf8.acceptRanges", "unicode.White_Space", "unicode.properties", "unicode.PrintRanges"], apart := false, laid := [("unicode/utf8.acceptRanges", laid_unicode_utf8_acceptRanges), ("unicode.White_Space", laid_unicode_White_Space), ("unicode.properties", laid_unicode_properties), ("logquotes/pub/slogquote.safeSet", laid_logquotes_pub_slogquote_safeSet), ("unicode/utf8.first", laid_unicode_utf8_first)] }
def FnJSONCutSaid : Prop := fnJSONCutRow.holds Tryd.pinned (OpenSpec.ofChange fnJSONCutSpec)

/-- ITS FALSE NEIGHBOUR: 'it returns false'. Refute it at one input. -/
def fnJSONCutWrong : ChangeSpec := { name := "fnJSONCut", fn := fun _ => fun
  | [d1, d2] => { results := [.lit (.bool false)], args := [d1, d2] }
  | _ => none }
def FnJSONCutWrongFalsely : Prop := fnJSONCutRow.holds Tryd.pinned (OpenSpec.ofChange fnJSONCutWrong)

/-- 'laws.FnJSONJoins': WHATEVER THE INPUT: true; the input reads as it did. -/
def fnJSONJoinsSpec : ChangeSpec := { name := "fnJSONJoins", fn := fun _ => fun
  | [d1, d2] => { results := [.lit (.bool true)], args := [d1, d2] }
  | _ => none }
def fnJSONJoinsRow : OpenClaim := { program := "ythiahhieiojgdaadoor", sum := "dd766a20ac9f7b06d026ffba56b9f906c218a9f0835b380a6d03ad04ca7438d3", func := "logquotes/laws.FnJSONJoins", spec := "fnJSONJoins", unfollowed := true, recurses := true, named := ["logquotes/pub/slogquote.safeSet", "unicode/utf8.first", "unicode/utf8.acceptRanges", "unicode.White_Space", "unicode.properties", "unicode.PrintRanges"], apart := false, laid := [("unicode/utf8.acceptRanges", laid_unicode_utf8_acceptRanges), ("unicode.White_Space", laid_unicode_White_Space), ("unicode.properties", laid_unicode_properties), ("logquotes/pub/slogquote.safeSet", laid_logquotes_pub_slogquote_safeSet), ("unicode/utf8.first", laid_unicode_utf8_first)] }
def FnJSONJoinsSaid : Prop := fnJSONJoinsRow.holds Tryd.pinned (OpenSpec.ofChange fnJSONJoinsSpec)

/-- ITS FALSE NEIGHBOUR: 'it returns false'. Refute it at one input. -/
def fnJSONJoinsWrong : ChangeSpec := { name := "fnJSONJoins", fn := fun _ => fun
  | [d1, d2] => { results := [.lit (.bool false)], args := [d1, d2] }
  | _ => none }
def FnJSONJoinsWrongFalsely : Prop := fnJSONJoinsRow.holds Tryd.pinned (OpenSpec.ofChange fnJSONJoinsWrong)

/-- 'laws.FnJSONString': WHATEVER THE INPUT: true; the input reads as it did. -/
def fnJSONStringSpec : ChangeSpec := { name := "fnJSONString", fn := fun _ => fun
  | [d] => { results := [.lit (.bool true)], args := [d] }
  | _ => none }
def fnJSONStringRow : OpenClaim := { program := "ythiahhieiojgdaadoor", sum := "dd766a20ac9f7b06d026ffba56b9f906c218a9f0835b380a6d03ad04ca7438d3", func := "logquotes/laws.FnJSONString", spec := "fnJSONString", unfollowed := true, recurses := true, named := ["logquotes/pub/slogquote.safeSet", "unicode/utf8.first", "unicode/utf8.acceptRanges", "unicode.White_Space", "unicode.properties", "unicode.PrintRanges"], apart := false, laid := [("unicode/utf8.acceptRanges", laid_unicode_utf8_acceptRanges), ("unicode.White_Space", laid_unicode_White_Space), ("unicode.properties", laid_unicode_properties), ("logquotes/pub/slogquote.safeSet", laid_logquotes_pub_slogquote_safeSet), ("unicode/utf8.first", laid_unicode_utf8_first)] }
def FnJSONStringSaid : Prop := fnJSONStringRow.holds Tryd.pinned (OpenSpec.ofChange fnJSONStringSpec)

/-- ITS FALSE NEIGHBOUR: 'it returns false'. Refute it at one input. -/
def fnJSONStringWrong : ChangeSpec := { name := "fnJSONString", fn := fun _ => fun
  | [d] => { results := [.lit (.bool false)], args := [d] }
  | _ => none }
def FnJSONStringWrongFalsely : Prop := fnJSONStringRow.holds Tryd.pinned (OpenSpec.ofChange fnJSONStringWrong)

/-- 'laws.FnNoHTML': WHATEVER THE INPUT: true; the input reads as it did. -/
def fnNoHTMLSpec : ChangeSpec := { name := "fnNoHTML", fn := fun _ => fun
  | [d] => { results := [.lit (.bool true)], args := [d] }
  | _ => none }
def fnNoHTMLRow : OpenClaim := { program := "ythiahhieiojgdaadoor", sum := "dd766a20ac9f7b06d026ffba56b9f906c218a9f0835b380a6d03ad04ca7438d3", func := "logquotes/laws.FnNoHTML", spec := "fnNoHTML", unfollowed := true, recurses := true, named := ["logquotes/pub/slogquote.safeSet", "unicode/utf8.first", "unicode/utf8.acceptRanges", "unicode.White_Space", "unicode.properties", "unicode.PrintRanges"], apart := false, laid := [("unicode/utf8.acceptRanges", laid_unicode_utf8_acceptRanges), ("unicode.White_Space", laid_unicode_White_Space), ("unicode.properties", laid_unicode_properties), ("logquotes/pub/slogquote.safeSet", laid_logquotes_pub_slogquote_safeSet), ("unicode/utf8.first", laid_unicode_utf8_first)] }
def FnNoHTMLSaid : Prop := fnNoHTMLRow.holds Tryd.pinned (OpenSpec.ofChange fnNoHTMLSpec)

/-- ITS FALSE NEIGHBOUR: 'it returns false'. Refute it at one input. -/
def fnNoHTMLWrong : ChangeSpec := { name := "fnNoHTML", fn := fun _ => fun
  | [d] => { results := [.lit (.bool false)], args := [d] }
  | _ => none }
def FnNoHTMLWrongFalsely : Prop := fnNoHTMLRow.holds Tryd.pinned (OpenSpec.ofChange fnNoHTMLWrong)

/-- 'laws.FnObjectBack': WHATEVER THE INPUT: true; the input reads as it did. -/
def fnObjectBackSpec : ChangeSpec := { name := "fnObjectBack", fn := fun _ => fun
  | [d] => { results := [.lit (.bool true)], args := [d] }
  | _ => none }
def fnObjectBackRow : OpenClaim := { program := "ythiahhieiojgdaadoor", sum := "dd766a20ac9f7b06d026ffba56b9f906c218a9f0835b380a6d03ad04ca7438d3", func := "logquotes/laws.FnObjectBack", spec := "fnObjectBack", unfollowed := true, recurses := true, named := ["logquotes/pub/slogquote.safeSet", "unicode/utf8.first", "unicode/utf8.acceptRanges", "unicode.White_Space", "unicode.properties", "unicode.PrintRanges"], apart := false, laid := [("unicode/utf8.acceptRanges", laid_unicode_utf8_acceptRanges), ("unicode.White_Space", laid_unicode_White_Space), ("unicode.properties", laid_unicode_properties), ("logquotes/pub/slogquote.safeSet", laid_logquotes_pub_slogquote_safeSet), ("unicode/utf8.first", laid_unicode_utf8_first)] }
def FnObjectBackSaid : Prop := fnObjectBackRow.holds Tryd.pinned (OpenSpec.ofChange fnObjectBackSpec)

/-- ITS FALSE NEIGHBOUR: 'it returns false'. Refute it at one input. -/
def fnObjectBackWrong : ChangeSpec := { name := "fnObjectBack", fn := fun _ => fun
  | [d] => { results := [.lit (.bool false)], args := [d] }
  | _ => none }
def FnObjectBackWrongFalsely : Prop := fnObjectBackRow.holds Tryd.pinned (OpenSpec.ofChange fnObjectBackWrong)

/-- 'laws.FnSafe': WHATEVER THE INPUT: true; the input reads as it did. -/
def fnSafeSpec : ChangeSpec := { name := "fnSafe", fn := fun _ => fun
  | [d] => { results := [.lit (.bool true)], args := [d] }
  | _ => none }
def fnSafeRow : OpenClaim := { program := "ythiahhieiojgdaadoor", sum := "dd766a20ac9f7b06d026ffba56b9f906c218a9f0835b380a6d03ad04ca7438d3", func := "logquotes/laws.FnSafe", spec := "fnSafe", unfollowed := true, recurses := true, named := ["logquotes/pub/slogquote.safeSet", "unicode/utf8.first", "unicode/utf8.acceptRanges", "unicode.White_Space", "unicode.properties", "unicode.PrintRanges"], apart := false, laid := [("unicode/utf8.acceptRanges", laid_unicode_utf8_acceptRanges), ("unicode.White_Space", laid_unicode_White_Space), ("unicode.properties", laid_unicode_properties), ("logquotes/pub/slogquote.safeSet", laid_logquotes_pub_slogquote_safeSet), ("unicode/utf8.first", laid_unicode_utf8_first)] }
def FnSafeSaid : Prop := fnSafeRow.holds Tryd.pinned (OpenSpec.ofChange fnSafeSpec)

/-- ITS FALSE NEIGHBOUR: 'it returns false'. Refute it at one input. -/
def fnSafeWrong : ChangeSpec := { name := "fnSafe", fn := fun _ => fun
  | [d] => { results := [.lit (.bool false)], args := [d] }
  | _ => none }
def FnSafeWrongFalsely : Prop := fnSafeRow.holds Tryd.pinned (OpenSpec.ofChange fnSafeWrong)

/- THE SECOND FORM. 'bulk': how many values and letters a reading holds, each counted each time it is reached (what is shared counts as often as it is met; a slice's spare places count too). A statement '..UptoSaid' is the law's where the arguments, and the package variables that the reading takes, are together of bulk at most 1048576: NARROWER than '..Said'. Prove '..Said' where nothing that the law and all that it calls make is longer than what came in: it says more and counts as full. Else prove '..UptoSaid'. A law counts once. -/
mutual
def uptoBulk {H : Type} : DataW H → Nat
  | .lit (.string bytes) => bytes.length + 1
  | .lit _ => 1
  | .nil => 1
  | .ptr d => uptoBulk d + 1
  | .slice elems spare => uptoBulkAll elems + uptoBulkAll spare + 1
  | .agg parts => uptoBulkAll parts + 1
  | .iface _ d => uptoBulk d + 1
  | .map entries => uptoBulkEntries entries + 1
  | .held _ => 1
def uptoBulkAll {H : Type} : List (DataW H) → Nat
  | [] => 0
  | d :: r => uptoBulk d + uptoBulkAll r
def uptoBulkEntries {H : Type} : List (Lit × DataW H) → Nat
  | [] => 0
  | x :: r => uptoBulkEntry x + uptoBulkEntries r
def uptoBulkEntry {H : Type} : Lit × DataW H → Nat
  | (.string bytes, d) => bytes.length + uptoBulk d + 1
  | (_, d) => uptoBulk d + 1
 end
def uptoSmall : (H : Type) → List (DataW H) → Bool := fun _ ds => decide (uptoBulkAll ds ≤ 1048576)
def OpenSpec.upto (s : _root_.Go.ChangeSpec) : _root_.Go.OpenSpec := { _root_.Go.OpenSpec.ofChange s with cond := some uptoSmall }

/-- 'laws.FnControls', WHERE WHAT IT READS IS OF BULK AT MOST 1048576: true; the input reads as it did. -/
def fnControlsUptoRow : OpenClaim := { program := "ythiahhieiojgdaadoor", sum := "dd766a20ac9f7b06d026ffba56b9f906c218a9f0835b380a6d03ad04ca7438d3", func := "logquotes/laws.FnControls", spec := "fnControls", unfollowed := true, recurses := true, named := ["logquotes/pub/slogquote.safeSet", "unicode/utf8.first", "unicode/utf8.acceptRanges", "unicode.White_Space", "unicode.properties", "unicode.PrintRanges"], apart := false, laid := [("unicode/utf8.acceptRanges", laid_unicode_utf8_acceptRanges), ("unicode.White_Space", laid_unicode_White_Space), ("unicode.properties", laid_unicode_properties), ("logquotes/pub/slogquote.safeSet", laid_logquotes_pub_slogquote_safeSet), ("unicode/utf8.first", laid_unicode_utf8_first)], narrowed := true }
def FnControlsUptoSaid : Prop := fnControlsUptoRow.holds Tryd.pinned (OpenSpec.upto fnControlsSpec)

/-- 'laws.FnJSONCut', WHERE WHAT IT READS IS OF BULK AT MOST 1048576: true; the input reads as it did. -/
def fnJSONCutUptoRow : OpenClaim := { program := "ythiahhieiojgdaadoor", sum := "dd766a20ac9f7b06d026ffba56b9f906c218a9f0835b380a6d03ad04ca7438d3", func := "logquotes/laws.FnJSONCut", spec := "fnJSONCut", unfollowed := true, recurses := true, named := ["logquotes/pub/slogquote.safeSet", "unicode/utf8.first", "unicode/utf8.acceptRanges", "unicode.White_Space", "unicode.properties", "unicode.PrintRanges"], apart := false, laid := [("unicode/utf8.acceptRanges", laid_unicode_utf8_acceptRanges), ("unicode.White_Space", laid_unicode_White_Space), ("unicode.properties", laid_unicode_properties), ("logquotes/pub/slogquote.safeSet", laid_logquotes_pub_slogquote_safeSet), ("unicode/utf8.first", laid_unicode_utf8_first)], narrowed := true }
def FnJSONCutUptoSaid : Prop := fnJSONCutUptoRow.holds Tryd.pinned (OpenSpec.upto fnJSONCutSpec)

/-- 'laws.FnJSONJoins', WHERE WHAT IT READS IS OF BULK AT MOST 1048576: true; the input reads as it did. -/
def fnJSONJoinsUptoRow : OpenClaim := { program := "ythiahhieiojgdaadoor", sum := "dd766a20ac9f7b06d026ffba56b9f906c218a9f0835b380a6d03ad04ca7438d3", func := "logquotes/laws.FnJSONJoins", spec := "fnJSONJoins", unfollowed := true, recurses := true, named := ["logquotes/pub/slogquote.safeSet", "unicode/utf8.first", "unicode/utf8.acceptRanges", "unicode.White_Space", "unicode.properties", "unicode.PrintRanges"], apart := false, laid := [("unicode/utf8.acceptRanges", laid_unicode_utf8_acceptRanges), ("unicode.White_Space", laid_unicode_White_Space), ("unicode.properties", laid_unicode_properties), ("logquotes/pub/slogquote.safeSet", laid_logquotes_pub_slogquote_safeSet), ("unicode/utf8.first", laid_unicode_utf8_first)], narrowed := true }
def FnJSONJoinsUptoSaid : Prop := fnJSONJoinsUptoRow.holds Tryd.pinned (OpenSpec.upto fnJSONJoinsSpec)

/-- 'laws.FnJSONString', WHERE WHAT IT READS IS OF BULK AT MOST 1048576: true; the input reads as it did. -/
def fnJSONStringUptoRow : OpenClaim := { program := "ythiahhieiojgdaadoor", sum := "dd766a20ac9f7b06d026ffba56b9f906c218a9f0835b380a6d03ad04ca7438d3", func := "logquotes/laws.FnJSONString", spec := "fnJSONString", unfollowed := true, recurses := true, named := ["logquotes/pub/slogquote.safeSet", "unicode/utf8.first", "unicode/utf8.acceptRanges", "unicode.White_Space", "unicode.properties", "unicode.PrintRanges"], apart := false, laid := [("unicode/utf8.acceptRanges", laid_unicode_utf8_acceptRanges), ("unicode.White_Space", laid_unicode_White_Space), ("unicode.properties", laid_unicode_properties), ("logquotes/pub/slogquote.safeSet", laid_logquotes_pub_slogquote_safeSet), ("unicode/utf8.first", laid_unicode_utf8_first)], narrowed := true }
def FnJSONStringUptoSaid : Prop := fnJSONStringUptoRow.holds Tryd.pinned (OpenSpec.upto fnJSONStringSpec)

/-- 'laws.FnNoHTML', WHERE WHAT IT READS IS OF BULK AT MOST 1048576: true; the input reads as it did. -/
def fnNoHTMLUptoRow : OpenClaim := { program := "ythiahhieiojgdaadoor", sum := "dd766a20ac9f7b06d026ffba56b9f906c218a9f0835b380a6d03ad04ca7438d3", func := "logquotes/laws.FnNoHTML", spec := "fnNoHTML", unfollowed := true, recurses := true, named := ["logquotes/pub/slogquote.safeSet", "unicode/utf8.first", "unicode/utf8.acceptRanges", "unicode.White_Space", "unicode.properties", "unicode.PrintRanges"], apart := false, laid := [("unicode/utf8.acceptRanges", laid_unicode_utf8_acceptRanges), ("unicode.White_Space", laid_unicode_White_Space), ("unicode.properties", laid_unicode_properties), ("logquotes/pub/slogquote.safeSet", laid_logquotes_pub_slogquote_safeSet), ("unicode/utf8.first", laid_unicode_utf8_first)], narrowed := true }
def FnNoHTMLUptoSaid : Prop := fnNoHTMLUptoRow.holds Tryd.pinned (OpenSpec.upto fnNoHTMLSpec)

/-- 'laws.FnObjectBack', WHERE WHAT IT READS IS OF BULK AT MOST 1048576: true; the input reads as it did. -/
def fnObjectBackUptoRow : OpenClaim := { program := "ythiahhieiojgdaadoor", sum := "dd766a20ac9f7b06d026ffba56b9f906c218a9f0835b380a6d03ad04ca7438d3", func := "logquotes/laws.FnObjectBack", spec := "fnObjectBack", unfollowed := true, recurses := true, named := ["logquotes/pub/slogquote.safeSet", "unicode/utf8.first", "unicode/utf8.acceptRanges", "unicode.White_Space", "unicode.properties", "unicode.PrintRanges"], apart := false, laid := [("unicode/utf8.acceptRanges", laid_unicode_utf8_acceptRanges), ("unicode.White_Space", laid_unicode_White_Space), ("unicode.properties", laid_unicode_properties), ("logquotes/pub/slogquote.safeSet", laid_logquotes_pub_slogquote_safeSet), ("unicode/utf8.first", laid_unicode_utf8_first)], narrowed := true }
def FnObjectBackUptoSaid : Prop := fnObjectBackUptoRow.holds Tryd.pinned (OpenSpec.upto fnObjectBackSpec)

/-- 'laws.FnSafe', WHERE WHAT IT READS IS OF BULK AT MOST 1048576: true; the input reads as it did. -/
def fnSafeUptoRow : OpenClaim := { program := "ythiahhieiojgdaadoor", sum := "dd766a20ac9f7b06d026ffba56b9f906c218a9f0835b380a6d03ad04ca7438d3", func := "logquotes/laws.FnSafe", spec := "fnSafe", unfollowed := true, recurses := true, named := ["logquotes/pub/slogquote.safeSet", "unicode/utf8.first", "unicode/utf8.acceptRanges", "unicode.White_Space", "unicode.properties", "unicode.PrintRanges"], apart := false, laid := [("unicode/utf8.acceptRanges", laid_unicode_utf8_acceptRanges), ("unicode.White_Space", laid_unicode_White_Space), ("unicode.properties", laid_unicode_properties), ("logquotes/pub/slogquote.safeSet", laid_logquotes_pub_slogquote_safeSet), ("unicode/utf8.first", laid_unicode_utf8_first)], narrowed := true }
def FnSafeUptoSaid : Prop := fnSafeUptoRow.holds Tryd.pinned (OpenSpec.upto fnSafeSpec)

end Rows
end Go.Proofs.YthiahhieiojgdaaDoor
