/-
  NARROWER THAN 'FOR EVERY INPUT', by the rows' own cells (each row's printed sentence says how): LawS0647AParse: laid · LawS0647CExact: laid · LawS0647CASCII: laid.
  DERIVED. THE GIVEN ROWS OF THIS SEAT. 3 by the template 'for every input the law returns true; each argument reads behind the call as it read before'; 0 by the template 'total and deterministic' (their statements: YbulkmjkFmtTotals.lean).
  GIVEN WITH THE SEED: the statements are not yours to turn. If you find one false, say at which input.
  Laid BY PROGRAM, IN A SANDBOX (cutbox-rows.mjs): the forced cells as the released guide's own fill.sh prints them over the translation d83597c4a6c3129e… (all of the seat's roots in one cut). By AI agents, Wed Nov 11 2026. No macro, syntax, notation, axiom, sorry.
-/
import Derived.Test.YbulkmjkFmtChecked
import GoSem.PinnedTables
import GoSem.Claim
import GoSem.ClaimJoined
import GoSem.ClaimMapViews
import Derived.JoinedTies
import Derived.KernelRfl
namespace Go.Proofs.YbulkmjkFmt
/- THE CELL 'sum', in the pinned program and in every row, IS THE sha256 OF THE DUMP (.gsa) THAT YbulkmjkFmtProg.lean LOADS. Nothing in Lean hashes anything: it is a label: what it is worth is what the hold of that sum in a sandbox is worth. -/
noncomputable def Ybaf.pinned : Pinned := { name := "ybulkmjkfmt", sum := "d83597c4a6c3129eeeb8bb8083fa09518f435f7cd7f022ffae9853a81bd815c2", checked := Ybaf.checked }
namespace Rows
def none {H : Type} : Left H := { results := [], args := [] }

/- WHAT THE LISTED PACKAGE-LEVEL VARIABLES READ AS WHEN THE CALL BEGINS. Each datum BY PROGRAM (the guide's laid-datum.mjs) off the statement by which the dump's own 'gosem.cut.vars' lays the variable. In a bare row this is a premise. The card (YbulkmjkFmtCards.lean) ties it to the program's text. -/
def laid_io_EOF {H : Type} : DataW H := .iface "*errors.errorString" (.ptr (.agg [.lit (.string [69, 79, 70])]))
def laid_math_big_errNoDigits {H : Type} : DataW H := .iface "*errors.errorString" (.ptr (.agg [.lit (.string [110, 117, 109, 98, 101, 114, 32, 104, 97, 115, 32, 110, 111, 32, 100, 105, 103, 105, 116, 115])]))
def laid_math_big_errInvalSep {H : Type} : DataW H := .iface "*errors.errorString" (.ptr (.agg [.lit (.string [39, 95, 39, 32, 109, 117, 115, 116, 32, 115, 101, 112, 97, 114, 97, 116, 101, 32, 115, 117, 99, 99, 101, 115, 115, 105, 118, 101, 32, 100, 105, 103, 105, 116, 115])]))
def laid_unicode_utf8_acceptRanges {H : Type} : DataW H := .agg [.agg [.lit (.int .u8 128), .lit (.int .u8 191)], .agg [.lit (.int .u8 160), .lit (.int .u8 191)], .agg [.lit (.int .u8 128), .lit (.int .u8 159)], .agg [.lit (.int .u8 144), .lit (.int .u8 191)], .agg [.lit (.int .u8 128), .lit (.int .u8 143)], .agg [.lit (.int .u8 0), .lit (.int .u8 0)], .agg [.lit (.int .u8 0), .lit (.int .u8 0)], .agg [.lit (.int .u8 0), .lit (.int .u8 0)], .agg [.lit (.int .u8 0), .lit (.int .u8 0)], .agg [.lit (.int .u8 0), .lit (.int .u8 0)], .agg [.lit (.int .u8 0), .lit (.int .u8 0)], .agg [.lit (.int .u8 0), .lit (.int .u8 0)], .agg [.lit (.int .u8 0), .lit (.int .u8 0)], .agg [.lit (.int .u8 0), .lit (.int .u8 0)], .agg [.lit (.int .u8 0), .lit (.int .u8 0)], .agg [.lit (.int .u8 0), .lit (.int .u8 0)]]
def laid_unicode_Cf {H : Type} : DataW H := .ptr (.agg [.slice [.agg [.lit (.int .u16 173), .lit (.int .u16 1536), .lit (.int .u16 1363)], .agg [.lit (.int .u16 1537), .lit (.int .u16 1541), .lit (.int .u16 1)], .agg [.lit (.int .u16 1564), .lit (.int .u16 1757), .lit (.int .u16 193)], .agg [.lit (.int .u16 1807), .lit (.int .u16 2192), .lit (.int .u16 385)], .agg [.lit (.int .u16 2193), .lit (.int .u16 2274), .lit (.int .u16 81)], .agg [.lit (.int .u16 6158), .lit (.int .u16 8203), .lit (.int .u16 2045)], .agg [.lit (.int .u16 8204), .lit (.int .u16 8207), .lit (.int .u16 1)], .agg [.lit (.int .u16 8234), .lit (.int .u16 8238), .lit (.int .u16 1)], .agg [.lit (.int .u16 8288), .lit (.int .u16 8292), .lit (.int .u16 1)], .agg [.lit (.int .u16 8294), .lit (.int .u16 8303), .lit (.int .u16 1)], .agg [.lit (.int .u16 65279), .lit (.int .u16 65529), .lit (.int .u16 250)], .agg [.lit (.int .u16 65530), .lit (.int .u16 65531), .lit (.int .u16 1)]] [], .slice [.agg [.lit (.int .u32 69821), .lit (.int .u32 69837), .lit (.int .u32 16)], .agg [.lit (.int .u32 78896), .lit (.int .u32 78911), .lit (.int .u32 1)], .agg [.lit (.int .u32 113824), .lit (.int .u32 113827), .lit (.int .u32 1)], .agg [.lit (.int .u32 119155), .lit (.int .u32 119162), .lit (.int .u32 1)], .agg [.lit (.int .u32 917505), .lit (.int .u32 917536), .lit (.int .u32 31)], .agg [.lit (.int .u32 917537), .lit (.int .u32 917631), .lit (.int .u32 1)]] [], .lit (.int .i64 0)])
/-- One of Go's own tables, pinned by name: the form's constant. -/
def laid_unicode_utf8_first : DataW Unit := Go.Pinned.utf8First

/-- 'schedule.LawS0647AParse': WHATEVER THE INPUT: true; the input reads as it did. -/
def lawS0647AParseSpec : ChangeSpec := { name := "lawS0647AParse", fn := fun _ => fun
  | [d] => { results := [.lit (.bool true)], args := [d] }
  | _ => none }
def lawS0647AParseRow : OpenClaim := { program := "ybulkmjkfmt", sum := "d83597c4a6c3129eeeb8bb8083fa09518f435f7cd7f022ffae9853a81bd815c2", func := "example.com/interlace/interlace/schedule.LawS0647AParse", spec := "lawS0647AParse", stops := ["fmt.Sprintf"], inPlace := ["fmt.Sprintf", "math/big.mulAddVWW", "math/bits.Add64", "math/big.rshVU"], unfollowed := true, recurses := true, named := ["io.EOF", "math/big.errInvalSep", "math/big.errNoDigits"], apart := false, laid := [("io.EOF", laid_io_EOF), ("math/big.errNoDigits", laid_math_big_errNoDigits), ("math/big.errInvalSep", laid_math_big_errInvalSep)] }
/-- NO THEOREM (fmt's text is open here; it may be false): for the released tool's asking of the row's closed facts alone. THE STATEMENT IS 'LawS0647AParseToldSaid' (YbulkmjkFmtCards.lean). -/
def LawS0647AParseFormAsk : Prop := lawS0647AParseRow.holds Ybaf.pinned (OpenSpec.ofChange lawS0647AParseSpec)

/-- ITS FALSE NEIGHBOUR: 'it returns false'. Refute it at one input. -/
def lawS0647AParseWrong : ChangeSpec := { name := "lawS0647AParse", fn := fun _ => fun
  | [d] => { results := [.lit (.bool false)], args := [d] }
  | _ => none }
def LawS0647AParseWrongFormAsk : Prop := lawS0647AParseRow.holds Ybaf.pinned (OpenSpec.ofChange lawS0647AParseWrong)

/-- 'schedule.LawS0647CExact': WHATEVER THE INPUT: true; the input reads as it did. -/
def lawS0647CExactSpec : ChangeSpec := { name := "lawS0647CExact", fn := fun _ => fun
  | [d] => { results := [.lit (.bool true)], args := [d] }
  | _ => none }
def lawS0647CExactRow : OpenClaim := { program := "ybulkmjkfmt", sum := "d83597c4a6c3129eeeb8bb8083fa09518f435f7cd7f022ffae9853a81bd815c2", func := "example.com/interlace/interlace/schedule.LawS0647CExact", spec := "lawS0647CExact", stops := ["fmt.Sprintf"], inPlace := ["fmt.Appendf", "fmt.Sprintf"], named := ["unicode/utf8.first", "unicode/utf8.acceptRanges", "unicode.Cf"], apart := false, laid := [("unicode/utf8.acceptRanges", laid_unicode_utf8_acceptRanges), ("unicode.Cf", laid_unicode_Cf), ("unicode/utf8.first", laid_unicode_utf8_first)] }
/-- NO THEOREM (fmt's text is open here; it may be false): for the released tool's asking of the row's closed facts alone. THE STATEMENT IS 'LawS0647CExactToldSaid' (YbulkmjkFmtCards.lean). -/
def LawS0647CExactFormAsk : Prop := lawS0647CExactRow.holds Ybaf.pinned (OpenSpec.ofChange lawS0647CExactSpec)

/-- ITS FALSE NEIGHBOUR: 'it returns false'. Refute it at one input. -/
def lawS0647CExactWrong : ChangeSpec := { name := "lawS0647CExact", fn := fun _ => fun
  | [d] => { results := [.lit (.bool false)], args := [d] }
  | _ => none }
def LawS0647CExactWrongFormAsk : Prop := lawS0647CExactRow.holds Ybaf.pinned (OpenSpec.ofChange lawS0647CExactWrong)

/-- 'schedule.LawS0647CASCII': WHATEVER THE INPUT: true; the input reads as it did. -/
def lawS0647CASCIISpec : ChangeSpec := { name := "lawS0647CASCII", fn := fun _ => fun
  | [d] => { results := [.lit (.bool true)], args := [d] }
  | _ => none }
def lawS0647CASCIIRow : OpenClaim := { program := "ybulkmjkfmt", sum := "d83597c4a6c3129eeeb8bb8083fa09518f435f7cd7f022ffae9853a81bd815c2", func := "example.com/interlace/interlace/schedule.LawS0647CASCII", spec := "lawS0647CASCII", stops := ["fmt.Sprintf"], inPlace := ["fmt.Appendf", "fmt.Sprintf"], named := ["unicode/utf8.first", "unicode/utf8.acceptRanges", "unicode.Cf"], apart := false, laid := [("unicode/utf8.acceptRanges", laid_unicode_utf8_acceptRanges), ("unicode.Cf", laid_unicode_Cf), ("unicode/utf8.first", laid_unicode_utf8_first)] }
/-- NO THEOREM (fmt's text is open here; it may be false): for the released tool's asking of the row's closed facts alone. THE STATEMENT IS 'LawS0647CASCIIToldSaid' (YbulkmjkFmtCards.lean). -/
def LawS0647CASCIIFormAsk : Prop := lawS0647CASCIIRow.holds Ybaf.pinned (OpenSpec.ofChange lawS0647CASCIISpec)

/-- ITS FALSE NEIGHBOUR: 'it returns false'. Refute it at one input. -/
def lawS0647CASCIIWrong : ChangeSpec := { name := "lawS0647CASCII", fn := fun _ => fun
  | [d] => { results := [.lit (.bool false)], args := [d] }
  | _ => none }
def LawS0647CASCIIWrongFormAsk : Prop := lawS0647CASCIIRow.holds Ybaf.pinned (OpenSpec.ofChange lawS0647CASCIIWrong)

end Rows
end Go.Proofs.YbulkmjkFmt
