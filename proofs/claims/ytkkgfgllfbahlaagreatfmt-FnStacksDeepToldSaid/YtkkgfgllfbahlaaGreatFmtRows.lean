/-
  NARROWER THAN 'FOR EVERY INPUT', by the rows' own cells (each row's printed sentence says how): FnExactVisits: loops, laid · FnExactEvents: loops, laid · FnEventsPair: loops, laid · FnExactYields: loops, laid · FnExactStacks: loops, laid · FnStacksDeep: loops, laid.
  DERIVED. THE GIVEN ROWS OF THIS SEAT. 6 by the template 'for every input the law returns true; each argument reads behind the call as it read before'; 0 by the template 'total and deterministic' (their statements: YtkkgfgllfbahlaaGreatFmtTotals.lean).
  GIVEN WITH THE SEED: the statements are not yours to turn. If you find one false, say at which input.
  Laid BY PROGRAM, IN A SANDBOX (cutbox-rows.mjs): the forced cells as the released guide's own fill.sh prints them over the translation 5a02a3943db35096… (all of the seat's roots in one cut). By AI agents, Wed Nov 11 2026. No macro, syntax, notation, axiom, sorry.
-/
import Derived.Test.YtkkgfgllfbahlaaGreatFmtChecked
import GoSem.Claim
import GoSem.ClaimJoined
import GoSem.ClaimMapViews
import Derived.JoinedTies
import Derived.KernelRfl
namespace Go.Proofs.YtkkgfgllfbahlaaGreatFmt
/- THE CELL 'sum', in the pinned program and in every row, IS THE sha256 OF THE DUMP (.gsa) THAT YtkkgfgllfbahlaaGreatFmtProg.lean LOADS. Nothing in Lean hashes anything: it is a label: what it is worth is what the hold of that sum in a sandbox is worth. -/
noncomputable def Tryz.pinned : Pinned := { name := "ytkkgfgllfbahlaagreatfmt", sum := "5a02a3943db35096db3a7562a7e71881b9e1b484fbe841f161c30953a21094d4", checked := Tryz.checked }
namespace Rows
def none {H : Type} : Left H := { results := [], args := [] }

/- WHAT THE LISTED PACKAGE-LEVEL VARIABLES READ AS WHEN THE CALL BEGINS. Each datum BY PROGRAM (the guide's laid-datum.mjs) off the statement by which the dump's own 'gosem.cut.vars' lays the variable. In a bare row this is a premise. The card (YtkkgfgllfbahlaaGreatFmtCards.lean) ties it to the program's text. -/
def laid_math_bits_deBruijn32tab {H : Type} : DataW H := .agg [.lit (.int .u8 0), .lit (.int .u8 1), .lit (.int .u8 28), .lit (.int .u8 2), .lit (.int .u8 29), .lit (.int .u8 14), .lit (.int .u8 24), .lit (.int .u8 3), .lit (.int .u8 30), .lit (.int .u8 22), .lit (.int .u8 20), .lit (.int .u8 15), .lit (.int .u8 25), .lit (.int .u8 17), .lit (.int .u8 4), .lit (.int .u8 8), .lit (.int .u8 31), .lit (.int .u8 27), .lit (.int .u8 13), .lit (.int .u8 23), .lit (.int .u8 21), .lit (.int .u8 19), .lit (.int .u8 16), .lit (.int .u8 7), .lit (.int .u8 26), .lit (.int .u8 12), .lit (.int .u8 18), .lit (.int .u8 6), .lit (.int .u8 11), .lit (.int .u8 5), .lit (.int .u8 10), .lit (.int .u8 9)]
def laid_math_bits_deBruijn64tab {H : Type} : DataW H := .agg [.lit (.int .u8 0), .lit (.int .u8 1), .lit (.int .u8 56), .lit (.int .u8 2), .lit (.int .u8 57), .lit (.int .u8 49), .lit (.int .u8 28), .lit (.int .u8 3), .lit (.int .u8 61), .lit (.int .u8 58), .lit (.int .u8 42), .lit (.int .u8 50), .lit (.int .u8 38), .lit (.int .u8 29), .lit (.int .u8 17), .lit (.int .u8 4), .lit (.int .u8 62), .lit (.int .u8 47), .lit (.int .u8 59), .lit (.int .u8 36), .lit (.int .u8 45), .lit (.int .u8 43), .lit (.int .u8 51), .lit (.int .u8 22), .lit (.int .u8 53), .lit (.int .u8 39), .lit (.int .u8 33), .lit (.int .u8 30), .lit (.int .u8 24), .lit (.int .u8 18), .lit (.int .u8 12), .lit (.int .u8 5), .lit (.int .u8 63), .lit (.int .u8 55), .lit (.int .u8 48), .lit (.int .u8 27), .lit (.int .u8 60), .lit (.int .u8 41), .lit (.int .u8 37), .lit (.int .u8 16), .lit (.int .u8 46), .lit (.int .u8 35), .lit (.int .u8 44), .lit (.int .u8 21), .lit (.int .u8 52), .lit (.int .u8 32), .lit (.int .u8 23), .lit (.int .u8 11), .lit (.int .u8 54), .lit (.int .u8 26), .lit (.int .u8 40), .lit (.int .u8 15), .lit (.int .u8 34), .lit (.int .u8 20), .lit (.int .u8 31), .lit (.int .u8 10), .lit (.int .u8 25), .lit (.int .u8 14), .lit (.int .u8 19), .lit (.int .u8 9), .lit (.int .u8 13), .lit (.int .u8 8), .lit (.int .u8 7), .lit (.int .u8 6)]
def laid_internal_strconv_uint64pow10 {H : Type} : DataW H := .agg [.lit (.int .u64 1), .lit (.int .u64 10), .lit (.int .u64 100), .lit (.int .u64 1000), .lit (.int .u64 10000), .lit (.int .u64 100000), .lit (.int .u64 1000000), .lit (.int .u64 10000000), .lit (.int .u64 100000000), .lit (.int .u64 1000000000), .lit (.int .u64 10000000000), .lit (.int .u64 100000000000), .lit (.int .u64 1000000000000), .lit (.int .u64 10000000000000), .lit (.int .u64 100000000000000), .lit (.int .u64 1000000000000000), .lit (.int .u64 10000000000000000), .lit (.int .u64 100000000000000000), .lit (.int .u64 1000000000000000000), .lit (.int .u64 10000000000000000000)]
def laid_loop_example_pub_gostatements_pub_goparse_go_token_tokens {H : Type} : DataW H := .agg [.lit (.string [73, 76, 76, 69, 71, 65, 76]), .lit (.string [69, 79, 70]), .lit (.string [67, 79, 77, 77, 69, 78, 84]), .lit (.string []), .lit (.string [73, 68, 69, 78, 84]), .lit (.string [73, 78, 84]), .lit (.string [70, 76, 79, 65, 84]), .lit (.string [73, 77, 65, 71]), .lit (.string [67, 72, 65, 82]), .lit (.string [83, 84, 82, 73, 78, 71]), .lit (.string []), .lit (.string []), .lit (.string [43]), .lit (.string [45]), .lit (.string [42]), .lit (.string [47]), .lit (.string [37]), .lit (.string [38]), .lit (.string [124]), .lit (.string [94]), .lit (.string [60, 60]), .lit (.string [62, 62]), .lit (.string [38, 94]), .lit (.string [43, 61]), .lit (.string [45, 61]), .lit (.string [42, 61]), .lit (.string [47, 61]), .lit (.string [37, 61]), .lit (.string [38, 61]), .lit (.string [124, 61]), .lit (.string [94, 61]), .lit (.string [60, 60, 61]), .lit (.string [62, 62, 61]), .lit (.string [38, 94, 61]), .lit (.string [38, 38]), .lit (.string [124, 124]), .lit (.string [60, 45]), .lit (.string [43, 43]), .lit (.string [45, 45]), .lit (.string [61, 61]), .lit (.string [60]), .lit (.string [62]), .lit (.string [61]), .lit (.string [33]), .lit (.string [33, 61]), .lit (.string [60, 61]), .lit (.string [62, 61]), .lit (.string [58, 61]), .lit (.string [46, 46, 46]), .lit (.string [40]), .lit (.string [91]), .lit (.string [123]), .lit (.string [44]), .lit (.string [46]), .lit (.string [41]), .lit (.string [93]), .lit (.string [125]), .lit (.string [59]), .lit (.string [58]), .lit (.string []), .lit (.string []), .lit (.string [98, 114, 101, 97, 107]), .lit (.string [99, 97, 115, 101]), .lit (.string [99, 104, 97, 110]), .lit (.string [99, 111, 110, 115, 116]), .lit (.string [99, 111, 110, 116, 105, 110, 117, 101]), .lit (.string [100, 101, 102, 97, 117, 108, 116]), .lit (.string [100, 101, 102, 101, 114]), .lit (.string [101, 108, 115, 101]), .lit (.string [102, 97, 108, 108, 116, 104, 114, 111, 117, 103, 104]), .lit (.string [102, 111, 114]), .lit (.string [102, 117, 110, 99]), .lit (.string [103, 111]), .lit (.string [103, 111, 116, 111]), .lit (.string [105, 102]), .lit (.string [105, 109, 112, 111, 114, 116]), .lit (.string [105, 110, 116, 101, 114, 102, 97, 99, 101]), .lit (.string [109, 97, 112]), .lit (.string [112, 97, 99, 107, 97, 103, 101]), .lit (.string [114, 97, 110, 103, 101]), .lit (.string [114, 101, 116, 117, 114, 110]), .lit (.string [115, 101, 108, 101, 99, 116]), .lit (.string [115, 116, 114, 117, 99, 116]), .lit (.string [115, 119, 105, 116, 99, 104]), .lit (.string [116, 121, 112, 101]), .lit (.string [118, 97, 114]), .lit (.string []), .lit (.string []), .lit (.string [126])]

/-- 'laws.FnExactVisits': WHATEVER THE INPUT: true; the input reads as it did. -/
def fnExactVisitsSpec : ChangeSpec := { name := "fnExactVisits", vars := ["loop.example/pub-gostatements/pub/goparse_go_token.tokens"], fn := fun _ => fun
  | [d1, d2, g1] => { results := [.lit (.bool true)], args := [d1, d2], vars := [g1] }
  | _ => none }
def fnExactVisitsRow : OpenClaim := { program := "ytkkgfgllfbahlaagreatfmt", sum := "5a02a3943db35096db3a7562a7e71881b9e1b484fbe841f161c30953a21094d4", func := "loop.example/pub-gostatements/laws.FnExactVisits", spec := "fnExactVisits", stops := ["fmt.Sprintf, its operands' methods called"], inPlace := ["fmt.Sprintf"], unfollowed := true, recurses := true, named := ["loop.example/pub-gostatements/pub/goparse_go_token.tokens", "internal/strconv.uint64pow10", "math/bits.deBruijn32tab", "math/bits.deBruijn64tab"], loops := true, apart := false, laid := [("math/bits.deBruijn32tab", laid_math_bits_deBruijn32tab), ("math/bits.deBruijn64tab", laid_math_bits_deBruijn64tab), ("internal/strconv.uint64pow10", laid_internal_strconv_uint64pow10), ("loop.example/pub-gostatements/pub/goparse_go_token.tokens", laid_loop_example_pub_gostatements_pub_goparse_go_token_tokens)] }
/-- NO THEOREM (fmt's text is open here; it may be false): for the released tool's asking of the row's closed facts alone. THE STATEMENT IS 'FnExactVisitsToldSaid' (YtkkgfgllfbahlaaGreatFmtCards.lean). -/
def FnExactVisitsFormAsk : Prop := fnExactVisitsRow.holds Tryz.pinned (OpenSpec.ofChange fnExactVisitsSpec)

/-- ITS FALSE NEIGHBOUR: 'it returns false'. Refute it at one input. -/
def fnExactVisitsWrong : ChangeSpec := { name := "fnExactVisits", vars := ["loop.example/pub-gostatements/pub/goparse_go_token.tokens"], fn := fun _ => fun
  | [d1, d2, g1] => { results := [.lit (.bool false)], args := [d1, d2], vars := [g1] }
  | _ => none }
def FnExactVisitsWrongFormAsk : Prop := fnExactVisitsRow.holds Tryz.pinned (OpenSpec.ofChange fnExactVisitsWrong)

/-- 'laws.FnExactEvents': WHATEVER THE INPUT: true; the input reads as it did. -/
def fnExactEventsSpec : ChangeSpec := { name := "fnExactEvents", vars := ["loop.example/pub-gostatements/pub/goparse_go_token.tokens"], fn := fun _ => fun
  | [d1, d2, g1] => { results := [.lit (.bool true)], args := [d1, d2], vars := [g1] }
  | _ => none }
def fnExactEventsRow : OpenClaim := { program := "ytkkgfgllfbahlaagreatfmt", sum := "5a02a3943db35096db3a7562a7e71881b9e1b484fbe841f161c30953a21094d4", func := "loop.example/pub-gostatements/laws.FnExactEvents", spec := "fnExactEvents", stops := ["fmt.Sprintf, its operands' methods called"], inPlace := ["fmt.Sprintf"], unfollowed := true, recurses := true, named := ["loop.example/pub-gostatements/pub/goparse_go_token.tokens", "internal/strconv.uint64pow10", "math/bits.deBruijn32tab", "math/bits.deBruijn64tab"], loops := true, apart := false, laid := [("math/bits.deBruijn32tab", laid_math_bits_deBruijn32tab), ("math/bits.deBruijn64tab", laid_math_bits_deBruijn64tab), ("internal/strconv.uint64pow10", laid_internal_strconv_uint64pow10), ("loop.example/pub-gostatements/pub/goparse_go_token.tokens", laid_loop_example_pub_gostatements_pub_goparse_go_token_tokens)] }
/-- NO THEOREM (fmt's text is open here; it may be false): for the released tool's asking of the row's closed facts alone. THE STATEMENT IS 'FnExactEventsToldSaid' (YtkkgfgllfbahlaaGreatFmtCards.lean). -/
def FnExactEventsFormAsk : Prop := fnExactEventsRow.holds Tryz.pinned (OpenSpec.ofChange fnExactEventsSpec)

/-- ITS FALSE NEIGHBOUR: 'it returns false'. Refute it at one input. -/
def fnExactEventsWrong : ChangeSpec := { name := "fnExactEvents", vars := ["loop.example/pub-gostatements/pub/goparse_go_token.tokens"], fn := fun _ => fun
  | [d1, d2, g1] => { results := [.lit (.bool false)], args := [d1, d2], vars := [g1] }
  | _ => none }
def FnExactEventsWrongFormAsk : Prop := fnExactEventsRow.holds Tryz.pinned (OpenSpec.ofChange fnExactEventsWrong)

/-- 'laws.FnEventsPair': WHATEVER THE INPUT: true; the input reads as it did. -/
def fnEventsPairSpec : ChangeSpec := { name := "fnEventsPair", vars := ["loop.example/pub-gostatements/pub/goparse_go_token.tokens"], fn := fun _ => fun
  | [d, g1] => { results := [.lit (.bool true)], args := [d], vars := [g1] }
  | _ => none }
def fnEventsPairRow : OpenClaim := { program := "ytkkgfgllfbahlaagreatfmt", sum := "5a02a3943db35096db3a7562a7e71881b9e1b484fbe841f161c30953a21094d4", func := "loop.example/pub-gostatements/laws.FnEventsPair", spec := "fnEventsPair", stops := ["fmt.Sprintf, its operands' methods called"], inPlace := ["fmt.Sprintf"], unfollowed := true, recurses := true, named := ["loop.example/pub-gostatements/pub/goparse_go_token.tokens", "internal/strconv.uint64pow10", "math/bits.deBruijn32tab", "math/bits.deBruijn64tab"], loops := true, apart := false, laid := [("math/bits.deBruijn32tab", laid_math_bits_deBruijn32tab), ("math/bits.deBruijn64tab", laid_math_bits_deBruijn64tab), ("internal/strconv.uint64pow10", laid_internal_strconv_uint64pow10), ("loop.example/pub-gostatements/pub/goparse_go_token.tokens", laid_loop_example_pub_gostatements_pub_goparse_go_token_tokens)] }
/-- NO THEOREM (fmt's text is open here; it may be false): for the released tool's asking of the row's closed facts alone. THE STATEMENT IS 'FnEventsPairToldSaid' (YtkkgfgllfbahlaaGreatFmtCards.lean). -/
def FnEventsPairFormAsk : Prop := fnEventsPairRow.holds Tryz.pinned (OpenSpec.ofChange fnEventsPairSpec)

/-- ITS FALSE NEIGHBOUR: 'it returns false'. Refute it at one input. -/
def fnEventsPairWrong : ChangeSpec := { name := "fnEventsPair", vars := ["loop.example/pub-gostatements/pub/goparse_go_token.tokens"], fn := fun _ => fun
  | [d, g1] => { results := [.lit (.bool false)], args := [d], vars := [g1] }
  | _ => none }
def FnEventsPairWrongFormAsk : Prop := fnEventsPairRow.holds Tryz.pinned (OpenSpec.ofChange fnEventsPairWrong)

/-- 'laws.FnExactYields': WHATEVER THE INPUT: true; the input reads as it did. -/
def fnExactYieldsSpec : ChangeSpec := { name := "fnExactYields", vars := ["loop.example/pub-gostatements/pub/goparse_go_token.tokens"], fn := fun _ => fun
  | [d1, d2, g1] => { results := [.lit (.bool true)], args := [d1, d2], vars := [g1] }
  | _ => none }
def fnExactYieldsRow : OpenClaim := { program := "ytkkgfgllfbahlaagreatfmt", sum := "5a02a3943db35096db3a7562a7e71881b9e1b484fbe841f161c30953a21094d4", func := "loop.example/pub-gostatements/laws.FnExactYields", spec := "fnExactYields", stops := ["fmt.Sprintf, its operands' methods called"], inPlace := ["fmt.Sprintf"], unfollowed := true, recurses := true, named := ["loop.example/pub-gostatements/pub/goparse_go_token.tokens", "internal/strconv.uint64pow10", "math/bits.deBruijn32tab", "math/bits.deBruijn64tab"], loops := true, apart := false, laid := [("math/bits.deBruijn32tab", laid_math_bits_deBruijn32tab), ("math/bits.deBruijn64tab", laid_math_bits_deBruijn64tab), ("internal/strconv.uint64pow10", laid_internal_strconv_uint64pow10), ("loop.example/pub-gostatements/pub/goparse_go_token.tokens", laid_loop_example_pub_gostatements_pub_goparse_go_token_tokens)] }
/-- NO THEOREM (fmt's text is open here; it may be false): for the released tool's asking of the row's closed facts alone. THE STATEMENT IS 'FnExactYieldsToldSaid' (YtkkgfgllfbahlaaGreatFmtCards.lean). -/
def FnExactYieldsFormAsk : Prop := fnExactYieldsRow.holds Tryz.pinned (OpenSpec.ofChange fnExactYieldsSpec)

/-- ITS FALSE NEIGHBOUR: 'it returns false'. Refute it at one input. -/
def fnExactYieldsWrong : ChangeSpec := { name := "fnExactYields", vars := ["loop.example/pub-gostatements/pub/goparse_go_token.tokens"], fn := fun _ => fun
  | [d1, d2, g1] => { results := [.lit (.bool false)], args := [d1, d2], vars := [g1] }
  | _ => none }
def FnExactYieldsWrongFormAsk : Prop := fnExactYieldsRow.holds Tryz.pinned (OpenSpec.ofChange fnExactYieldsWrong)

/-- 'laws.FnExactStacks': WHATEVER THE INPUT: true; the input reads as it did. -/
def fnExactStacksSpec : ChangeSpec := { name := "fnExactStacks", vars := ["loop.example/pub-gostatements/pub/goparse_go_token.tokens"], fn := fun _ => fun
  | [d1, d2, g1] => { results := [.lit (.bool true)], args := [d1, d2], vars := [g1] }
  | _ => none }
def fnExactStacksRow : OpenClaim := { program := "ytkkgfgllfbahlaagreatfmt", sum := "5a02a3943db35096db3a7562a7e71881b9e1b484fbe841f161c30953a21094d4", func := "loop.example/pub-gostatements/laws.FnExactStacks", spec := "fnExactStacks", stops := ["fmt.Sprintf, its operands' methods called"], inPlace := ["fmt.Sprintf"], unfollowed := true, recurses := true, named := ["loop.example/pub-gostatements/pub/goparse_go_token.tokens", "internal/strconv.uint64pow10", "math/bits.deBruijn32tab", "math/bits.deBruijn64tab"], loops := true, apart := false, laid := [("math/bits.deBruijn32tab", laid_math_bits_deBruijn32tab), ("math/bits.deBruijn64tab", laid_math_bits_deBruijn64tab), ("internal/strconv.uint64pow10", laid_internal_strconv_uint64pow10), ("loop.example/pub-gostatements/pub/goparse_go_token.tokens", laid_loop_example_pub_gostatements_pub_goparse_go_token_tokens)] }
/-- NO THEOREM (fmt's text is open here; it may be false): for the released tool's asking of the row's closed facts alone. THE STATEMENT IS 'FnExactStacksToldSaid' (YtkkgfgllfbahlaaGreatFmtCards.lean). -/
def FnExactStacksFormAsk : Prop := fnExactStacksRow.holds Tryz.pinned (OpenSpec.ofChange fnExactStacksSpec)

/-- ITS FALSE NEIGHBOUR: 'it returns false'. Refute it at one input. -/
def fnExactStacksWrong : ChangeSpec := { name := "fnExactStacks", vars := ["loop.example/pub-gostatements/pub/goparse_go_token.tokens"], fn := fun _ => fun
  | [d1, d2, g1] => { results := [.lit (.bool false)], args := [d1, d2], vars := [g1] }
  | _ => none }
def FnExactStacksWrongFormAsk : Prop := fnExactStacksRow.holds Tryz.pinned (OpenSpec.ofChange fnExactStacksWrong)

/-- 'laws.FnStacksDeep': WHATEVER THE INPUT: true; the input reads as it did. -/
def fnStacksDeepSpec : ChangeSpec := { name := "fnStacksDeep", vars := ["loop.example/pub-gostatements/pub/goparse_go_token.tokens"], fn := fun _ => fun
  | [d, g1] => { results := [.lit (.bool true)], args := [d], vars := [g1] }
  | _ => none }
def fnStacksDeepRow : OpenClaim := { program := "ytkkgfgllfbahlaagreatfmt", sum := "5a02a3943db35096db3a7562a7e71881b9e1b484fbe841f161c30953a21094d4", func := "loop.example/pub-gostatements/laws.FnStacksDeep", spec := "fnStacksDeep", stops := ["fmt.Sprintf, its operands' methods called"], inPlace := ["fmt.Sprintf"], unfollowed := true, recurses := true, named := ["loop.example/pub-gostatements/pub/goparse_go_token.tokens", "internal/strconv.uint64pow10", "math/bits.deBruijn32tab", "math/bits.deBruijn64tab"], loops := true, apart := false, laid := [("math/bits.deBruijn32tab", laid_math_bits_deBruijn32tab), ("math/bits.deBruijn64tab", laid_math_bits_deBruijn64tab), ("internal/strconv.uint64pow10", laid_internal_strconv_uint64pow10), ("loop.example/pub-gostatements/pub/goparse_go_token.tokens", laid_loop_example_pub_gostatements_pub_goparse_go_token_tokens)] }
/-- NO THEOREM (fmt's text is open here; it may be false): for the released tool's asking of the row's closed facts alone. THE STATEMENT IS 'FnStacksDeepToldSaid' (YtkkgfgllfbahlaaGreatFmtCards.lean). -/
def FnStacksDeepFormAsk : Prop := fnStacksDeepRow.holds Tryz.pinned (OpenSpec.ofChange fnStacksDeepSpec)

/-- ITS FALSE NEIGHBOUR: 'it returns false'. Refute it at one input. -/
def fnStacksDeepWrong : ChangeSpec := { name := "fnStacksDeep", vars := ["loop.example/pub-gostatements/pub/goparse_go_token.tokens"], fn := fun _ => fun
  | [d, g1] => { results := [.lit (.bool false)], args := [d], vars := [g1] }
  | _ => none }
def FnStacksDeepWrongFormAsk : Prop := fnStacksDeepRow.holds Tryz.pinned (OpenSpec.ofChange fnStacksDeepWrong)

end Rows
end Go.Proofs.YtkkgfgllfbahlaaGreatFmt
