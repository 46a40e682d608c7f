/-
  No cell of these rows narrows 'for every input' (looked for: loops, veiled, ifaces, maps, wideKeys, modest, calm, conditions, laid).
  DERIVED. THE GIVEN ROWS OF THIS SEAT. 6 by the template 'for every input the law returns true; each argument reads behind the call as it read before'; 0 by the template 'total and deterministic' (their statements: Qxb6601381aTotals.lean).
  GIVEN WITH THE SEED: the statements are not yours to turn. If you find one false, say at which input.
  Laid BY PROGRAM, IN A SANDBOX (cutbox-rows.mjs): the forced cells as the released guide's own fill.sh prints them over the translation d6ce650258db3dd6… (all of the seat's roots in one cut). By AI agents, Wed Nov 11 2026. No macro, syntax, notation, axiom, sorry.
-/
import Derived.Test.Qxb6601381aChecked
import GoSem.Claim
import GoSem.ClaimJoined
import GoSem.ClaimMapViews
import Derived.JoinedTies
import Derived.KernelRfl
namespace Go.Proofs.Qxb6601381a
/- THE CELL 'sum', in the pinned program and in every row, IS THE sha256 OF THE DUMP (.gsa) THAT Qxb6601381aProg.lean LOADS. Nothing in Lean hashes anything: it is a label: what it is worth is what the hold of that sum in a sandbox is worth. -/
noncomputable def Try.pinned : Pinned := { name := "qxb6601381a", sum := "d6ce650258db3dd659daacd8aa1294c7315075ae8eec7d23a2aa5b97d65ddf85", checked := Try.checked }
namespace Rows
def none {H : Type} : Left H := { results := [], args := [] }

/-- 'zzlaws_pkg_protocol_b1.FnShortIntegerMatchesDecimalModel': WHATEVER THE INPUT: true; the input reads as it did. -/
def fnShortIntegerMatchesDecimalModelSpec : ChangeSpec := { name := "fnShortIntegerMatchesDecimalModel", fn := fun _ => fun
  | [d1, d2] => { results := [.lit (.bool true)], args := [d1, d2] }
  | _ => none }
def fnShortIntegerMatchesDecimalModelRow : OpenClaim := { program := "qxb6601381a", sum := "d6ce650258db3dd659daacd8aa1294c7315075ae8eec7d23a2aa5b97d65ddf85", func := "example.com/brigantine/brigantine/zzlaws_pkg_protocol_b1.FnShortIntegerMatchesDecimalModel", spec := "fnShortIntegerMatchesDecimalModel", apart := false }
def FnShortIntegerMatchesDecimalModelSaid : Prop := fnShortIntegerMatchesDecimalModelRow.holds Try.pinned (OpenSpec.ofChange fnShortIntegerMatchesDecimalModelSpec)

/-- ITS FALSE NEIGHBOUR: 'it returns false'. Refute it at one input. -/
def fnShortIntegerMatchesDecimalModelWrong : ChangeSpec := { name := "fnShortIntegerMatchesDecimalModel", fn := fun _ => fun
  | [d1, d2] => { results := [.lit (.bool false)], args := [d1, d2] }
  | _ => none }
def FnShortIntegerMatchesDecimalModelWrongFalsely : Prop := fnShortIntegerMatchesDecimalModelRow.holds Try.pinned (OpenSpec.ofChange fnShortIntegerMatchesDecimalModelWrong)

/-- 'zzlaws_pkg_protocol_b1.FnShortIntegerReadsFormattedInteger': WHATEVER THE INPUT: true; the input reads as it did. -/
def fnShortIntegerReadsFormattedIntegerSpec : ChangeSpec := { name := "fnShortIntegerReadsFormattedInteger", fn := fun _ => fun
  | [d1, d2] => { results := [.lit (.bool true)], args := [d1, d2] }
  | _ => none }
def fnShortIntegerReadsFormattedIntegerRow : OpenClaim := { program := "qxb6601381a", sum := "d6ce650258db3dd659daacd8aa1294c7315075ae8eec7d23a2aa5b97d65ddf85", func := "example.com/brigantine/brigantine/zzlaws_pkg_protocol_b1.FnShortIntegerReadsFormattedInteger", spec := "fnShortIntegerReadsFormattedInteger", apart := false }
def FnShortIntegerReadsFormattedIntegerSaid : Prop := fnShortIntegerReadsFormattedIntegerRow.holds Try.pinned (OpenSpec.ofChange fnShortIntegerReadsFormattedIntegerSpec)

/-- ITS FALSE NEIGHBOUR: 'it returns false'. Refute it at one input. -/
def fnShortIntegerReadsFormattedIntegerWrong : ChangeSpec := { name := "fnShortIntegerReadsFormattedInteger", fn := fun _ => fun
  | [d1, d2] => { results := [.lit (.bool false)], args := [d1, d2] }
  | _ => none }
def FnShortIntegerReadsFormattedIntegerWrongFalsely : Prop := fnShortIntegerReadsFormattedIntegerRow.holds Try.pinned (OpenSpec.ofChange fnShortIntegerReadsFormattedIntegerWrong)

/-- 'zzlaws_pkg_protocol_b1.FnShortIntegerWiderBitSizeKeepsValue': WHATEVER THE INPUT: true; the input reads as it did. -/
def fnShortIntegerWiderBitSizeKeepsValueSpec : ChangeSpec := { name := "fnShortIntegerWiderBitSizeKeepsValue", fn := fun _ => fun
  | [d1, d2, d3] => { results := [.lit (.bool true)], args := [d1, d2, d3] }
  | _ => none }
def fnShortIntegerWiderBitSizeKeepsValueRow : OpenClaim := { program := "qxb6601381a", sum := "d6ce650258db3dd659daacd8aa1294c7315075ae8eec7d23a2aa5b97d65ddf85", func := "example.com/brigantine/brigantine/zzlaws_pkg_protocol_b1.FnShortIntegerWiderBitSizeKeepsValue", spec := "fnShortIntegerWiderBitSizeKeepsValue", apart := false }
def FnShortIntegerWiderBitSizeKeepsValueSaid : Prop := fnShortIntegerWiderBitSizeKeepsValueRow.holds Try.pinned (OpenSpec.ofChange fnShortIntegerWiderBitSizeKeepsValueSpec)

/-- ITS FALSE NEIGHBOUR: 'it returns false'. Refute it at one input. -/
def fnShortIntegerWiderBitSizeKeepsValueWrong : ChangeSpec := { name := "fnShortIntegerWiderBitSizeKeepsValue", fn := fun _ => fun
  | [d1, d2, d3] => { results := [.lit (.bool false)], args := [d1, d2, d3] }
  | _ => none }
def FnShortIntegerWiderBitSizeKeepsValueWrongFalsely : Prop := fnShortIntegerWiderBitSizeKeepsValueRow.holds Try.pinned (OpenSpec.ofChange fnShortIntegerWiderBitSizeKeepsValueWrong)

/-- 'zzlaws_pkg_protocol_b1.FnCompactIntegerMatchesTokenModel': WHATEVER THE INPUT: true; the input reads as it did. -/
def fnCompactIntegerMatchesTokenModelSpec : ChangeSpec := { name := "fnCompactIntegerMatchesTokenModel", fn := fun _ => fun
  | [d1, d2, d3, d4] => { results := [.lit (.bool true)], args := [d1, d2, d3, d4] }
  | _ => none }
def fnCompactIntegerMatchesTokenModelRow : OpenClaim := { program := "qxb6601381a", sum := "d6ce650258db3dd659daacd8aa1294c7315075ae8eec7d23a2aa5b97d65ddf85", func := "example.com/brigantine/brigantine/zzlaws_pkg_protocol_b1.FnCompactIntegerMatchesTokenModel", spec := "fnCompactIntegerMatchesTokenModel", apart := false }
def FnCompactIntegerMatchesTokenModelSaid : Prop := fnCompactIntegerMatchesTokenModelRow.holds Try.pinned (OpenSpec.ofChange fnCompactIntegerMatchesTokenModelSpec)

/-- ITS FALSE NEIGHBOUR: 'it returns false'. Refute it at one input. -/
def fnCompactIntegerMatchesTokenModelWrong : ChangeSpec := { name := "fnCompactIntegerMatchesTokenModel", fn := fun _ => fun
  | [d1, d2, d3, d4] => { results := [.lit (.bool false)], args := [d1, d2, d3, d4] }
  | _ => none }
def FnCompactIntegerMatchesTokenModelWrongFalsely : Prop := fnCompactIntegerMatchesTokenModelRow.holds Try.pinned (OpenSpec.ofChange fnCompactIntegerMatchesTokenModelWrong)

/-- 'zzlaws_pkg_protocol_b1.FnCompactIntegerReadsWrittenInteger': WHATEVER THE INPUT: true; the input reads as it did. -/
def fnCompactIntegerReadsWrittenIntegerSpec : ChangeSpec := { name := "fnCompactIntegerReadsWrittenInteger", fn := fun _ => fun
  | [d1, d2, d3, d4, d5] => { results := [.lit (.bool true)], args := [d1, d2, d3, d4, d5] }
  | _ => none }
def fnCompactIntegerReadsWrittenIntegerRow : OpenClaim := { program := "qxb6601381a", sum := "d6ce650258db3dd659daacd8aa1294c7315075ae8eec7d23a2aa5b97d65ddf85", func := "example.com/brigantine/brigantine/zzlaws_pkg_protocol_b1.FnCompactIntegerReadsWrittenInteger", spec := "fnCompactIntegerReadsWrittenInteger", apart := false }
def FnCompactIntegerReadsWrittenIntegerSaid : Prop := fnCompactIntegerReadsWrittenIntegerRow.holds Try.pinned (OpenSpec.ofChange fnCompactIntegerReadsWrittenIntegerSpec)

/-- ITS FALSE NEIGHBOUR: 'it returns false'. Refute it at one input. -/
def fnCompactIntegerReadsWrittenIntegerWrong : ChangeSpec := { name := "fnCompactIntegerReadsWrittenInteger", fn := fun _ => fun
  | [d1, d2, d3, d4, d5] => { results := [.lit (.bool false)], args := [d1, d2, d3, d4, d5] }
  | _ => none }
def FnCompactIntegerReadsWrittenIntegerWrongFalsely : Prop := fnCompactIntegerReadsWrittenIntegerRow.holds Try.pinned (OpenSpec.ofChange fnCompactIntegerReadsWrittenIntegerWrong)

/-- 'zzlaws_pkg_protocol_b1.FnParseCompactHeaderTouchesOnlyWhatItReads': WHATEVER THE INPUT: true; the input reads as it did. -/
def fnParseCompactHeaderTouchesOnlyWhatItReadsSpec : ChangeSpec := { name := "fnParseCompactHeaderTouchesOnlyWhatItReads", fn := fun _ => fun
  | [d1, d2, d3, d4, d5, d6, d7, d8, d9] => { results := [.lit (.bool true)], args := [d1, d2, d3, d4, d5, d6, d7, d8, d9] }
  | _ => none }
def fnParseCompactHeaderTouchesOnlyWhatItReadsRow : OpenClaim := { program := "qxb6601381a", sum := "d6ce650258db3dd659daacd8aa1294c7315075ae8eec7d23a2aa5b97d65ddf85", func := "example.com/brigantine/brigantine/zzlaws_pkg_protocol_b1.FnParseCompactHeaderTouchesOnlyWhatItReads", spec := "fnParseCompactHeaderTouchesOnlyWhatItReads", apart := false }
def FnParseCompactHeaderTouchesOnlyWhatItReadsSaid : Prop := fnParseCompactHeaderTouchesOnlyWhatItReadsRow.holds Try.pinned (OpenSpec.ofChange fnParseCompactHeaderTouchesOnlyWhatItReadsSpec)

/-- ITS FALSE NEIGHBOUR: 'it returns false'. Refute it at one input. -/
def fnParseCompactHeaderTouchesOnlyWhatItReadsWrong : ChangeSpec := { name := "fnParseCompactHeaderTouchesOnlyWhatItReads", fn := fun _ => fun
  | [d1, d2, d3, d4, d5, d6, d7, d8, d9] => { results := [.lit (.bool false)], args := [d1, d2, d3, d4, d5, d6, d7, d8, d9] }
  | _ => none }
def FnParseCompactHeaderTouchesOnlyWhatItReadsWrongFalsely : Prop := fnParseCompactHeaderTouchesOnlyWhatItReadsRow.holds Try.pinned (OpenSpec.ofChange fnParseCompactHeaderTouchesOnlyWhatItReadsWrong)

end Rows
end Go.Proofs.Qxb6601381a
