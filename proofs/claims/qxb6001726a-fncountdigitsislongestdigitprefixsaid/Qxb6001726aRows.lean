/-
  No cell of these rows narrows 'for every input' (looked for: loops, veiled, ifaces, maps, wideKeys, modest, calm, conditions, laid).
  DERIVED. THE GIVEN ROWS OF THIS SEAT. 6 by the template 'for every input the law returns true; each argument reads behind the call as it read before'; 0 by the template 'total and deterministic' (their statements: Qxb6001726aTotals.lean).
  GIVEN WITH THE SEED: the statements are not yours to turn. If you find one false, say at which input.
  Laid BY PROGRAM, IN A SANDBOX (cutbox-rows.mjs): the forced cells as the released guide's own fill.sh prints them over the translation 691d881b59b5a248… (all of the seat's roots in one cut). By AI agents, Wed Nov 11 2026. No macro, syntax, notation, axiom, sorry.
-/
import Derived.Test.Qxb6001726aChecked
import GoSem.Claim
import GoSem.ClaimJoined
import GoSem.ClaimMapViews
import Derived.JoinedTies
import Derived.KernelRfl
namespace Go.Proofs.Qxb6001726a
/- THE CELL 'sum', in the pinned program and in every row, IS THE sha256 OF THE DUMP (.gsa) THAT Qxb6001726aProg.lean LOADS. Nothing in Lean hashes anything: it is a label: what it is worth is what the hold of that sum in a sandbox is worth. -/
noncomputable def Try.pinned : Pinned := { name := "qxb6001726a", sum := "691d881b59b5a248a9d402dfe8e2482f0bc74a039e2faa00a437b0ce1a633925", checked := Try.checked }
namespace Rows
def none {H : Type} : Left H := { results := [], args := [] }

/-- 'zzlaws_root_b1.FnCountDigitsIsLongestDigitPrefix': WHATEVER THE INPUT: true; the input reads as it did. -/
def fnCountDigitsIsLongestDigitPrefixSpec : ChangeSpec := { name := "fnCountDigitsIsLongestDigitPrefix", fn := fun _ => fun
  | [d] => { results := [.lit (.bool true)], args := [d] }
  | _ => none }
def fnCountDigitsIsLongestDigitPrefixRow : OpenClaim := { program := "qxb6001726a", sum := "691d881b59b5a248a9d402dfe8e2482f0bc74a039e2faa00a437b0ce1a633925", func := "example.com/onceguard/onceguard/zzlaws_root_b1.FnCountDigitsIsLongestDigitPrefix", spec := "fnCountDigitsIsLongestDigitPrefix", apart := false }
def FnCountDigitsIsLongestDigitPrefixSaid : Prop := fnCountDigitsIsLongestDigitPrefixRow.holds Try.pinned (OpenSpec.ofChange fnCountDigitsIsLongestDigitPrefixSpec)

/-- ITS FALSE NEIGHBOUR: 'it returns false'. Refute it at one input. -/
def fnCountDigitsIsLongestDigitPrefixWrong : ChangeSpec := { name := "fnCountDigitsIsLongestDigitPrefix", fn := fun _ => fun
  | [d] => { results := [.lit (.bool false)], args := [d] }
  | _ => none }
def FnCountDigitsIsLongestDigitPrefixWrongFalsely : Prop := fnCountDigitsIsLongestDigitPrefixRow.holds Try.pinned (OpenSpec.ofChange fnCountDigitsIsLongestDigitPrefixWrong)

/-- 'zzlaws_root_b1.FnCountDigitsOfConcatenation': WHATEVER THE INPUT: true; the input reads as it did. -/
def fnCountDigitsOfConcatenationSpec : ChangeSpec := { name := "fnCountDigitsOfConcatenation", fn := fun _ => fun
  | [d1, d2] => { results := [.lit (.bool true)], args := [d1, d2] }
  | _ => none }
def fnCountDigitsOfConcatenationRow : OpenClaim := { program := "qxb6001726a", sum := "691d881b59b5a248a9d402dfe8e2482f0bc74a039e2faa00a437b0ce1a633925", func := "example.com/onceguard/onceguard/zzlaws_root_b1.FnCountDigitsOfConcatenation", spec := "fnCountDigitsOfConcatenation", apart := false }
def FnCountDigitsOfConcatenationSaid : Prop := fnCountDigitsOfConcatenationRow.holds Try.pinned (OpenSpec.ofChange fnCountDigitsOfConcatenationSpec)

/-- ITS FALSE NEIGHBOUR: 'it returns false'. Refute it at one input. -/
def fnCountDigitsOfConcatenationWrong : ChangeSpec := { name := "fnCountDigitsOfConcatenation", fn := fun _ => fun
  | [d1, d2] => { results := [.lit (.bool false)], args := [d1, d2] }
  | _ => none }
def FnCountDigitsOfConcatenationWrongFalsely : Prop := fnCountDigitsOfConcatenationRow.holds Try.pinned (OpenSpec.ofChange fnCountDigitsOfConcatenationWrong)

/-- 'zzlaws_root_b1.FnSkipTokenSwallowsDigitRun': WHATEVER THE INPUT: true; the input reads as it did. -/
def fnSkipTokenSwallowsDigitRunSpec : ChangeSpec := { name := "fnSkipTokenSwallowsDigitRun", fn := fun _ => fun
  | [d] => { results := [.lit (.bool true)], args := [d] }
  | _ => none }
def fnSkipTokenSwallowsDigitRunRow : OpenClaim := { program := "qxb6001726a", sum := "691d881b59b5a248a9d402dfe8e2482f0bc74a039e2faa00a437b0ce1a633925", func := "example.com/onceguard/onceguard/zzlaws_root_b1.FnSkipTokenSwallowsDigitRun", spec := "fnSkipTokenSwallowsDigitRun", inPlace := ["internal/bytealg.IndexByteString"], apart := false }
def FnSkipTokenSwallowsDigitRunSaid : Prop := fnSkipTokenSwallowsDigitRunRow.holds Try.pinned (OpenSpec.ofChange fnSkipTokenSwallowsDigitRunSpec)

/-- ITS FALSE NEIGHBOUR: 'it returns false'. Refute it at one input. -/
def fnSkipTokenSwallowsDigitRunWrong : ChangeSpec := { name := "fnSkipTokenSwallowsDigitRun", fn := fun _ => fun
  | [d] => { results := [.lit (.bool false)], args := [d] }
  | _ => none }
def FnSkipTokenSwallowsDigitRunWrongFalsely : Prop := fnSkipTokenSwallowsDigitRunRow.holds Try.pinned (OpenSpec.ofChange fnSkipTokenSwallowsDigitRunWrong)

/-- 'zzlaws_root_b1.FnSkipTokenStopsAtFirstNonTokenChar': WHATEVER THE INPUT: true; the input reads as it did. -/
def fnSkipTokenStopsAtFirstNonTokenCharSpec : ChangeSpec := { name := "fnSkipTokenStopsAtFirstNonTokenChar", fn := fun _ => fun
  | [d] => { results := [.lit (.bool true)], args := [d] }
  | _ => none }
def fnSkipTokenStopsAtFirstNonTokenCharRow : OpenClaim := { program := "qxb6001726a", sum := "691d881b59b5a248a9d402dfe8e2482f0bc74a039e2faa00a437b0ce1a633925", func := "example.com/onceguard/onceguard/zzlaws_root_b1.FnSkipTokenStopsAtFirstNonTokenChar", spec := "fnSkipTokenStopsAtFirstNonTokenChar", inPlace := ["internal/bytealg.IndexByteString"], apart := false }
def FnSkipTokenStopsAtFirstNonTokenCharSaid : Prop := fnSkipTokenStopsAtFirstNonTokenCharRow.holds Try.pinned (OpenSpec.ofChange fnSkipTokenStopsAtFirstNonTokenCharSpec)

/-- ITS FALSE NEIGHBOUR: 'it returns false'. Refute it at one input. -/
def fnSkipTokenStopsAtFirstNonTokenCharWrong : ChangeSpec := { name := "fnSkipTokenStopsAtFirstNonTokenChar", fn := fun _ => fun
  | [d] => { results := [.lit (.bool false)], args := [d] }
  | _ => none }
def FnSkipTokenStopsAtFirstNonTokenCharWrongFalsely : Prop := fnSkipTokenStopsAtFirstNonTokenCharRow.holds Try.pinned (OpenSpec.ofChange fnSkipTokenStopsAtFirstNonTokenCharWrong)

/-- 'zzlaws_root_b1.FnSkipTokenIgnoresFirstChar': WHATEVER THE INPUT: true; the input reads as it did. -/
def fnSkipTokenIgnoresFirstCharSpec : ChangeSpec := { name := "fnSkipTokenIgnoresFirstChar", fn := fun _ => fun
  | [d1, d2] => { results := [.lit (.bool true)], args := [d1, d2] }
  | _ => none }
def fnSkipTokenIgnoresFirstCharRow : OpenClaim := { program := "qxb6001726a", sum := "691d881b59b5a248a9d402dfe8e2482f0bc74a039e2faa00a437b0ce1a633925", func := "example.com/onceguard/onceguard/zzlaws_root_b1.FnSkipTokenIgnoresFirstChar", spec := "fnSkipTokenIgnoresFirstChar", inPlace := ["internal/bytealg.IndexByteString"], apart := false }
def FnSkipTokenIgnoresFirstCharSaid : Prop := fnSkipTokenIgnoresFirstCharRow.holds Try.pinned (OpenSpec.ofChange fnSkipTokenIgnoresFirstCharSpec)

/-- ITS FALSE NEIGHBOUR: 'it returns false'. Refute it at one input. -/
def fnSkipTokenIgnoresFirstCharWrong : ChangeSpec := { name := "fnSkipTokenIgnoresFirstChar", fn := fun _ => fun
  | [d1, d2] => { results := [.lit (.bool false)], args := [d1, d2] }
  | _ => none }
def FnSkipTokenIgnoresFirstCharWrongFalsely : Prop := fnSkipTokenIgnoresFirstCharRow.holds Try.pinned (OpenSpec.ofChange fnSkipTokenIgnoresFirstCharWrong)

/-- 'zzlaws_root_b1.FnSkipTokenStableUnderAppend': WHATEVER THE INPUT: true; the input reads as it did. -/
def fnSkipTokenStableUnderAppendSpec : ChangeSpec := { name := "fnSkipTokenStableUnderAppend", fn := fun _ => fun
  | [d1, d2] => { results := [.lit (.bool true)], args := [d1, d2] }
  | _ => none }
def fnSkipTokenStableUnderAppendRow : OpenClaim := { program := "qxb6001726a", sum := "691d881b59b5a248a9d402dfe8e2482f0bc74a039e2faa00a437b0ce1a633925", func := "example.com/onceguard/onceguard/zzlaws_root_b1.FnSkipTokenStableUnderAppend", spec := "fnSkipTokenStableUnderAppend", inPlace := ["internal/bytealg.IndexByteString"], apart := false }
def FnSkipTokenStableUnderAppendSaid : Prop := fnSkipTokenStableUnderAppendRow.holds Try.pinned (OpenSpec.ofChange fnSkipTokenStableUnderAppendSpec)

/-- ITS FALSE NEIGHBOUR: 'it returns false'. Refute it at one input. -/
def fnSkipTokenStableUnderAppendWrong : ChangeSpec := { name := "fnSkipTokenStableUnderAppend", fn := fun _ => fun
  | [d1, d2] => { results := [.lit (.bool false)], args := [d1, d2] }
  | _ => none }
def FnSkipTokenStableUnderAppendWrongFalsely : Prop := fnSkipTokenStableUnderAppendRow.holds Try.pinned (OpenSpec.ofChange fnSkipTokenStableUnderAppendWrong)

end Rows
end Go.Proofs.Qxb6001726a
