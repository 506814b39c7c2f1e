/-
  No cell of these rows narrows 'for every input' (looked for: loops, veiled, ifaces, maps, wideKeys, modest, calm, conditions, laid).
  DERIVED. THE GIVEN ROWS OF THIS SEAT. 4 by the template 'for every input the law returns true; each argument reads behind the call as it read before'; 0 by the template 'total and deterministic' (their statements: Qxb6603514aTotals.lean).
  GIVEN WITH THE SEED: the statements are not yours to turn. If you find one false, say at which input.
  Laid BY PROGRAM, IN A SANDBOX (cutbox-rows.mjs): the forced cells as the released guide's own fill.sh prints them over the translation bda07b30b36949eb… (all of the seat's roots in one cut). By AI agents, Wed Nov 11 2026. No macro, syntax, notation, axiom, sorry.
-/
import Derived.Test.Qxb6603514aChecked
import GoSem.Claim
import GoSem.ClaimJoined
import GoSem.ClaimMapViews
import Derived.JoinedTies
import Derived.KernelRfl
namespace Go.Proofs.Qxb6603514a
/- THE CELL 'sum', in the pinned program and in every row, IS THE sha256 OF THE DUMP (.gsa) THAT Qxb6603514aProg.lean LOADS. Nothing in Lean hashes anything: it is a label: what it is worth is what the hold of that sum in a sandbox is worth. -/
noncomputable def Try.pinned : Pinned := { name := "qxb6603514a", sum := "bda07b30b36949eb58b9f347af1e119d5f9f0a705d474b5281507e051d265aaf", checked := Try.checked }
namespace Rows
def none {H : Type} : Left H := { results := [], args := [] }

/-- 'zzlaws_internal_jsontext_b1.FnHexRuneIsPositionalValue': WHATEVER THE INPUT: true; the input reads as it did. -/
def fnHexRuneIsPositionalValueSpec : ChangeSpec := { name := "fnHexRuneIsPositionalValue", fn := fun _ => fun
  | [d] => { results := [.lit (.bool true)], args := [d] }
  | _ => none }
def fnHexRuneIsPositionalValueRow : OpenClaim := { program := "qxb6603514a", sum := "bda07b30b36949eb58b9f347af1e119d5f9f0a705d474b5281507e051d265aaf", func := "example.com/querent/querent/zzlaws_internal_jsontext_b1.FnHexRuneIsPositionalValue", spec := "fnHexRuneIsPositionalValue", apart := false }
def FnHexRuneIsPositionalValueSaid : Prop := fnHexRuneIsPositionalValueRow.holds Try.pinned (OpenSpec.ofChange fnHexRuneIsPositionalValueSpec)

/-- ITS FALSE NEIGHBOUR: 'it returns false'. Refute it at one input. -/
def fnHexRuneIsPositionalValueWrong : ChangeSpec := { name := "fnHexRuneIsPositionalValue", fn := fun _ => fun
  | [d] => { results := [.lit (.bool false)], args := [d] }
  | _ => none }
def FnHexRuneIsPositionalValueWrongFalsely : Prop := fnHexRuneIsPositionalValueRow.holds Try.pinned (OpenSpec.ofChange fnHexRuneIsPositionalValueWrong)

/-- 'zzlaws_internal_jsontext_b1.FnHexRuneReadsBackFourDigitSpelling': WHATEVER THE INPUT: true; the input reads as it did. -/
def fnHexRuneReadsBackFourDigitSpellingSpec : ChangeSpec := { name := "fnHexRuneReadsBackFourDigitSpelling", fn := fun _ => fun
  | [d1, d2] => { results := [.lit (.bool true)], args := [d1, d2] }
  | _ => none }
def fnHexRuneReadsBackFourDigitSpellingRow : OpenClaim := { program := "qxb6603514a", sum := "bda07b30b36949eb58b9f347af1e119d5f9f0a705d474b5281507e051d265aaf", func := "example.com/querent/querent/zzlaws_internal_jsontext_b1.FnHexRuneReadsBackFourDigitSpelling", spec := "fnHexRuneReadsBackFourDigitSpelling", apart := false }
def FnHexRuneReadsBackFourDigitSpellingSaid : Prop := fnHexRuneReadsBackFourDigitSpellingRow.holds Try.pinned (OpenSpec.ofChange fnHexRuneReadsBackFourDigitSpellingSpec)

/-- ITS FALSE NEIGHBOUR: 'it returns false'. Refute it at one input. -/
def fnHexRuneReadsBackFourDigitSpellingWrong : ChangeSpec := { name := "fnHexRuneReadsBackFourDigitSpelling", fn := fun _ => fun
  | [d1, d2] => { results := [.lit (.bool false)], args := [d1, d2] }
  | _ => none }
def FnHexRuneReadsBackFourDigitSpellingWrongFalsely : Prop := fnHexRuneReadsBackFourDigitSpellingRow.holds Try.pinned (OpenSpec.ofChange fnHexRuneReadsBackFourDigitSpellingWrong)

/-- 'zzlaws_internal_jsontext_b1.FnEachYieldsTheTopLevelMembers': WHATEVER THE INPUT: true; the input reads as it did. -/
def fnEachYieldsTheTopLevelMembersSpec : ChangeSpec := { name := "fnEachYieldsTheTopLevelMembers", fn := fun _ => fun
  | [d1, d2] => { results := [.lit (.bool true)], args := [d1, d2] }
  | _ => none }
def fnEachYieldsTheTopLevelMembersRow : OpenClaim := { program := "qxb6603514a", sum := "bda07b30b36949eb58b9f347af1e119d5f9f0a705d474b5281507e051d265aaf", func := "example.com/querent/querent/zzlaws_internal_jsontext_b1.FnEachYieldsTheTopLevelMembers", spec := "fnEachYieldsTheTopLevelMembers", unfollowed := true, recurses := true, apart := false }
def FnEachYieldsTheTopLevelMembersSaid : Prop := fnEachYieldsTheTopLevelMembersRow.holds Try.pinned (OpenSpec.ofChange fnEachYieldsTheTopLevelMembersSpec)

/-- ITS FALSE NEIGHBOUR: 'it returns false'. Refute it at one input. -/
def fnEachYieldsTheTopLevelMembersWrong : ChangeSpec := { name := "fnEachYieldsTheTopLevelMembers", fn := fun _ => fun
  | [d1, d2] => { results := [.lit (.bool false)], args := [d1, d2] }
  | _ => none }
def FnEachYieldsTheTopLevelMembersWrongFalsely : Prop := fnEachYieldsTheTopLevelMembersRow.holds Try.pinned (OpenSpec.ofChange fnEachYieldsTheTopLevelMembersWrong)

/-- 'zzlaws_internal_jsontext_b1.FnEachStopsWhenYieldRefuses': WHATEVER THE INPUT: true; the input reads as it did. -/
def fnEachStopsWhenYieldRefusesSpec : ChangeSpec := { name := "fnEachStopsWhenYieldRefuses", fn := fun _ => fun
  | [d1, d2, d3] => { results := [.lit (.bool true)], args := [d1, d2, d3] }
  | _ => none }
def fnEachStopsWhenYieldRefusesRow : OpenClaim := { program := "qxb6603514a", sum := "bda07b30b36949eb58b9f347af1e119d5f9f0a705d474b5281507e051d265aaf", func := "example.com/querent/querent/zzlaws_internal_jsontext_b1.FnEachStopsWhenYieldRefuses", spec := "fnEachStopsWhenYieldRefuses", unfollowed := true, recurses := true, apart := false }
def FnEachStopsWhenYieldRefusesSaid : Prop := fnEachStopsWhenYieldRefusesRow.holds Try.pinned (OpenSpec.ofChange fnEachStopsWhenYieldRefusesSpec)

/-- ITS FALSE NEIGHBOUR: 'it returns false'. Refute it at one input. -/
def fnEachStopsWhenYieldRefusesWrong : ChangeSpec := { name := "fnEachStopsWhenYieldRefuses", fn := fun _ => fun
  | [d1, d2, d3] => { results := [.lit (.bool false)], args := [d1, d2, d3] }
  | _ => none }
def FnEachStopsWhenYieldRefusesWrongFalsely : Prop := fnEachStopsWhenYieldRefusesRow.holds Try.pinned (OpenSpec.ofChange fnEachStopsWhenYieldRefusesWrong)

end Rows
end Go.Proofs.Qxb6603514a
