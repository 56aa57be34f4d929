/-
  No cell of these rows narrows 'for every input' (looked for: loops, veiled, ifaces, maps, wideKeys, modest, calm, conditions, laid).
  DERIVED. THE GIVEN ROWS OF THIS SEAT. 6 by the template 'for every input the law returns true; each argument reads behind the call as it read before'; 0 by the template 'total and deterministic' (their statements: Qxb6601785aTotals.lean).
  GIVEN WITH THE SEED: the statements are not yours to turn. If you find one false, say at which input.
  Laid BY PROGRAM, IN A SANDBOX (cutbox-rows.mjs): the forced cells as the released guide's own fill.sh prints them over the translation 4c4f0ffe561ef691… (all of the seat's roots in one cut). By AI agents, Wed Nov 11 2026. No macro, syntax, notation, axiom, sorry.
-/
import Derived.Test.Qxb6601785aChecked
import GoSem.Claim
import GoSem.ClaimJoined
import GoSem.ClaimMapViews
import Derived.JoinedTies
import Derived.KernelRfl
namespace Go.Proofs.Qxb6601785a
/- THE CELL 'sum', in the pinned program and in every row, IS THE sha256 OF THE DUMP (.gsa) THAT Qxb6601785aProg.lean LOADS. Nothing in Lean hashes anything: it is a label: what it is worth is what the hold of that sum in a sandbox is worth. -/
noncomputable def Try.pinned : Pinned := { name := "qxb6601785a", sum := "4c4f0ffe561ef691166a2ffe8b8d20eb92452cafc2ccbe8f304eb0c3cfb89c17", checked := Try.checked }
namespace Rows
def none {H : Type} : Left H := { results := [], args := [] }

/-- 'zzlaws_internal_input_b1.FnIsTextIsGB18030TokenGrammar': WHATEVER THE INPUT: true; the input reads as it did. -/
def fnIsTextIsGB18030TokenGrammarSpec : ChangeSpec := { name := "fnIsTextIsGB18030TokenGrammar", fn := fun _ => fun
  | [d] => { results := [.lit (.bool true)], args := [d] }
  | _ => none }
def fnIsTextIsGB18030TokenGrammarRow : OpenClaim := { program := "qxb6601785a", sum := "4c4f0ffe561ef691166a2ffe8b8d20eb92452cafc2ccbe8f304eb0c3cfb89c17", func := "example.com/tuoguan/tuoguan/zzlaws_internal_input_b1.FnIsTextIsGB18030TokenGrammar", spec := "fnIsTextIsGB18030TokenGrammar", apart := false }
def FnIsTextIsGB18030TokenGrammarSaid : Prop := fnIsTextIsGB18030TokenGrammarRow.holds Try.pinned (OpenSpec.ofChange fnIsTextIsGB18030TokenGrammarSpec)

/-- ITS FALSE NEIGHBOUR: 'it returns false'. Refute it at one input. -/
def fnIsTextIsGB18030TokenGrammarWrong : ChangeSpec := { name := "fnIsTextIsGB18030TokenGrammar", fn := fun _ => fun
  | [d] => { results := [.lit (.bool false)], args := [d] }
  | _ => none }
def FnIsTextIsGB18030TokenGrammarWrongFalsely : Prop := fnIsTextIsGB18030TokenGrammarRow.holds Try.pinned (OpenSpec.ofChange fnIsTextIsGB18030TokenGrammarWrong)

/-- 'zzlaws_internal_input_b1.FnIsTextCancelsATextPrefix': WHATEVER THE INPUT: true; the input reads as it did. -/
def fnIsTextCancelsATextPrefixSpec : ChangeSpec := { name := "fnIsTextCancelsATextPrefix", fn := fun _ => fun
  | [d1, d2] => { results := [.lit (.bool true)], args := [d1, d2] }
  | _ => none }
def fnIsTextCancelsATextPrefixRow : OpenClaim := { program := "qxb6601785a", sum := "4c4f0ffe561ef691166a2ffe8b8d20eb92452cafc2ccbe8f304eb0c3cfb89c17", func := "example.com/tuoguan/tuoguan/zzlaws_internal_input_b1.FnIsTextCancelsATextPrefix", spec := "fnIsTextCancelsATextPrefix", apart := false }
def FnIsTextCancelsATextPrefixSaid : Prop := fnIsTextCancelsATextPrefixRow.holds Try.pinned (OpenSpec.ofChange fnIsTextCancelsATextPrefixSpec)

/-- ITS FALSE NEIGHBOUR: 'it returns false'. Refute it at one input. -/
def fnIsTextCancelsATextPrefixWrong : ChangeSpec := { name := "fnIsTextCancelsATextPrefix", fn := fun _ => fun
  | [d1, d2] => { results := [.lit (.bool false)], args := [d1, d2] }
  | _ => none }
def FnIsTextCancelsATextPrefixWrongFalsely : Prop := fnIsTextCancelsATextPrefixRow.holds Try.pinned (OpenSpec.ofChange fnIsTextCancelsATextPrefixWrong)

/-- 'zzlaws_internal_input_b1.FnIsTextRefusesControlBytesAndFF': WHATEVER THE INPUT: true; the input reads as it did. -/
def fnIsTextRefusesControlBytesAndFFSpec : ChangeSpec := { name := "fnIsTextRefusesControlBytesAndFF", fn := fun _ => fun
  | [d] => { results := [.lit (.bool true)], args := [d] }
  | _ => none }
def fnIsTextRefusesControlBytesAndFFRow : OpenClaim := { program := "qxb6601785a", sum := "4c4f0ffe561ef691166a2ffe8b8d20eb92452cafc2ccbe8f304eb0c3cfb89c17", func := "example.com/tuoguan/tuoguan/zzlaws_internal_input_b1.FnIsTextRefusesControlBytesAndFF", spec := "fnIsTextRefusesControlBytesAndFF", apart := false }
def FnIsTextRefusesControlBytesAndFFSaid : Prop := fnIsTextRefusesControlBytesAndFFRow.holds Try.pinned (OpenSpec.ofChange fnIsTextRefusesControlBytesAndFFSpec)

/-- ITS FALSE NEIGHBOUR: 'it returns false'. Refute it at one input. -/
def fnIsTextRefusesControlBytesAndFFWrong : ChangeSpec := { name := "fnIsTextRefusesControlBytesAndFF", fn := fun _ => fun
  | [d] => { results := [.lit (.bool false)], args := [d] }
  | _ => none }
def FnIsTextRefusesControlBytesAndFFWrongFalsely : Prop := fnIsTextRefusesControlBytesAndFFRow.holds Try.pinned (OpenSpec.ofChange fnIsTextRefusesControlBytesAndFFWrong)

/-- 'zzlaws_internal_input_b1.FnReadMatchesHeightWalkOnQuoteFreeLine': WHATEVER THE INPUT: true; the input reads as it did. -/
def fnReadMatchesHeightWalkOnQuoteFreeLineSpec : ChangeSpec := { name := "fnReadMatchesHeightWalkOnQuoteFreeLine", fn := fun _ => fun
  | [d1, d2, d3] => { results := [.lit (.bool true)], args := [d1, d2, d3] }
  | _ => none }
def fnReadMatchesHeightWalkOnQuoteFreeLineRow : OpenClaim := { program := "qxb6601785a", sum := "4c4f0ffe561ef691166a2ffe8b8d20eb92452cafc2ccbe8f304eb0c3cfb89c17", func := "example.com/tuoguan/tuoguan/zzlaws_internal_input_b1.FnReadMatchesHeightWalkOnQuoteFreeLine", spec := "fnReadMatchesHeightWalkOnQuoteFreeLine", inPlace := ["internal/abi.NoEscape", "internal/bytealg.MakeNoZero"], apart := false }
def FnReadMatchesHeightWalkOnQuoteFreeLineSaid : Prop := fnReadMatchesHeightWalkOnQuoteFreeLineRow.holds Try.pinned (OpenSpec.ofChange fnReadMatchesHeightWalkOnQuoteFreeLineSpec)

/-- ITS FALSE NEIGHBOUR: 'it returns false'. Refute it at one input. -/
def fnReadMatchesHeightWalkOnQuoteFreeLineWrong : ChangeSpec := { name := "fnReadMatchesHeightWalkOnQuoteFreeLine", fn := fun _ => fun
  | [d1, d2, d3] => { results := [.lit (.bool false)], args := [d1, d2, d3] }
  | _ => none }
def FnReadMatchesHeightWalkOnQuoteFreeLineWrongFalsely : Prop := fnReadMatchesHeightWalkOnQuoteFreeLineRow.holds Try.pinned (OpenSpec.ofChange fnReadMatchesHeightWalkOnQuoteFreeLineWrong)

/-- 'zzlaws_internal_input_b1.FnReadOpenStringWithoutDelimiterKeepsAll': WHATEVER THE INPUT: true; the input reads as it did. -/
def fnReadOpenStringWithoutDelimiterKeepsAllSpec : ChangeSpec := { name := "fnReadOpenStringWithoutDelimiterKeepsAll", fn := fun _ => fun
  | [d1, d2, d3] => { results := [.lit (.bool true)], args := [d1, d2, d3] }
  | _ => none }
def fnReadOpenStringWithoutDelimiterKeepsAllRow : OpenClaim := { program := "qxb6601785a", sum := "4c4f0ffe561ef691166a2ffe8b8d20eb92452cafc2ccbe8f304eb0c3cfb89c17", func := "example.com/tuoguan/tuoguan/zzlaws_internal_input_b1.FnReadOpenStringWithoutDelimiterKeepsAll", spec := "fnReadOpenStringWithoutDelimiterKeepsAll", inPlace := ["internal/abi.NoEscape", "internal/bytealg.MakeNoZero"], apart := false }
def FnReadOpenStringWithoutDelimiterKeepsAllSaid : Prop := fnReadOpenStringWithoutDelimiterKeepsAllRow.holds Try.pinned (OpenSpec.ofChange fnReadOpenStringWithoutDelimiterKeepsAllSpec)

/-- ITS FALSE NEIGHBOUR: 'it returns false'. Refute it at one input. -/
def fnReadOpenStringWithoutDelimiterKeepsAllWrong : ChangeSpec := { name := "fnReadOpenStringWithoutDelimiterKeepsAll", fn := fun _ => fun
  | [d1, d2, d3] => { results := [.lit (.bool false)], args := [d1, d2, d3] }
  | _ => none }
def FnReadOpenStringWithoutDelimiterKeepsAllWrongFalsely : Prop := fnReadOpenStringWithoutDelimiterKeepsAllRow.holds Try.pinned (OpenSpec.ofChange fnReadOpenStringWithoutDelimiterKeepsAllWrong)

/-- 'zzlaws_internal_input_b1.FnReadLowWaterMarkBoundsAndKeepsDeepStack': WHATEVER THE INPUT: true; the input reads as it did. -/
def fnReadLowWaterMarkBoundsAndKeepsDeepStackSpec : ChangeSpec := { name := "fnReadLowWaterMarkBoundsAndKeepsDeepStack", fn := fun _ => fun
  | [d1, d2, d3] => { results := [.lit (.bool true)], args := [d1, d2, d3] }
  | _ => none }
def fnReadLowWaterMarkBoundsAndKeepsDeepStackRow : OpenClaim := { program := "qxb6601785a", sum := "4c4f0ffe561ef691166a2ffe8b8d20eb92452cafc2ccbe8f304eb0c3cfb89c17", func := "example.com/tuoguan/tuoguan/zzlaws_internal_input_b1.FnReadLowWaterMarkBoundsAndKeepsDeepStack", spec := "fnReadLowWaterMarkBoundsAndKeepsDeepStack", inPlace := ["internal/abi.NoEscape", "internal/bytealg.MakeNoZero"], apart := false }
def FnReadLowWaterMarkBoundsAndKeepsDeepStackSaid : Prop := fnReadLowWaterMarkBoundsAndKeepsDeepStackRow.holds Try.pinned (OpenSpec.ofChange fnReadLowWaterMarkBoundsAndKeepsDeepStackSpec)

/-- ITS FALSE NEIGHBOUR: 'it returns false'. Refute it at one input. -/
def fnReadLowWaterMarkBoundsAndKeepsDeepStackWrong : ChangeSpec := { name := "fnReadLowWaterMarkBoundsAndKeepsDeepStack", fn := fun _ => fun
  | [d1, d2, d3] => { results := [.lit (.bool false)], args := [d1, d2, d3] }
  | _ => none }
def FnReadLowWaterMarkBoundsAndKeepsDeepStackWrongFalsely : Prop := fnReadLowWaterMarkBoundsAndKeepsDeepStackRow.holds Try.pinned (OpenSpec.ofChange fnReadLowWaterMarkBoundsAndKeepsDeepStackWrong)

end Rows
end Go.Proofs.Qxb6601785a
