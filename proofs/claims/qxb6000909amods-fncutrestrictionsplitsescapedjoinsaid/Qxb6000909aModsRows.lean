/-
  No cell of these rows narrows 'for every input' (looked for: loops, veiled, ifaces, maps, wideKeys, modest, calm, conditions, laid).
  DERIVED. THE GIVEN ROWS OF THIS SEAT. 5 by the template 'for every input the law returns true; each argument reads behind the call as it read before'; 0 by the template 'total and deterministic' (their statements: Qxb6000909aModsTotals.lean).
  GIVEN WITH THE SEED: the statements are not yours to turn. If you find one false, say at which input.
  Laid BY PROGRAM, IN A SANDBOX (cutbox-rows.mjs): the forced cells as the released guide's own fill.sh prints them over the translation f27a4c7f7e324d05… (all of the seat's roots in one cut). By AI agents, Wed Nov 11 2026. No macro, syntax, notation, axiom, sorry.
-/
import Derived.Test.Qxb6000909aModsChecked
import GoSem.Claim
import GoSem.ClaimJoined
import GoSem.ClaimMapViews
import Derived.JoinedTies
import Derived.KernelRfl
namespace Go.Proofs.Qxb6000909aMods
/- THE CELL 'sum', in the pinned program and in every row, IS THE sha256 OF THE DUMP (.gsa) THAT Qxb6000909aModsProg.lean LOADS. Nothing in Lean hashes anything: it is a label: what it is worth is what the hold of that sum in a sandbox is worth. -/
noncomputable def Trym.pinned : Pinned := { name := "qxb6000909amods", sum := "f27a4c7f7e324d0536c9953653e5b7f4840a15849bf0337c18e1054cd17ed608", checked := Trym.checked }
namespace Rows
def none {H : Type} : Left H := { results := [], args := [] }

/-- 'zzlaws_root_b1.FnCutRestrictionSplitsEscapedJoin': WHATEVER THE INPUT: true; the input reads as it did. -/
def fnCutRestrictionSplitsEscapedJoinSpec : ChangeSpec := { name := "fnCutRestrictionSplitsEscapedJoin", fn := fun _ => fun
  | [d] => { results := [.lit (.bool true)], args := [d] }
  | _ => none }
def fnCutRestrictionSplitsEscapedJoinRow : OpenClaim := { program := "qxb6000909amods", sum := "f27a4c7f7e324d0536c9953653e5b7f4840a15849bf0337c18e1054cd17ed608", func := "example.com/attenuant/attenuant/zzlaws_root_b1.FnCutRestrictionSplitsEscapedJoin", spec := "fnCutRestrictionSplitsEscapedJoin", make := .lifted ["publicsums"], apart := false }
def FnCutRestrictionSplitsEscapedJoinSaid : Prop := fnCutRestrictionSplitsEscapedJoinRow.holds Trym.pinned (OpenSpec.ofChange fnCutRestrictionSplitsEscapedJoinSpec)

/-- ITS FALSE NEIGHBOUR: 'it returns false'. Refute it at one input. -/
def fnCutRestrictionSplitsEscapedJoinWrong : ChangeSpec := { name := "fnCutRestrictionSplitsEscapedJoin", fn := fun _ => fun
  | [d] => { results := [.lit (.bool false)], args := [d] }
  | _ => none }
def FnCutRestrictionSplitsEscapedJoinWrongFalsely : Prop := fnCutRestrictionSplitsEscapedJoinRow.holds Trym.pinned (OpenSpec.ofChange fnCutRestrictionSplitsEscapedJoinWrong)

/-- 'zzlaws_root_b1.FnCutRestrictionReassemblesAndIsIdempotent': WHATEVER THE INPUT: true; the input reads as it did. -/
def fnCutRestrictionReassemblesAndIsIdempotentSpec : ChangeSpec := { name := "fnCutRestrictionReassemblesAndIsIdempotent", fn := fun _ => fun
  | [d] => { results := [.lit (.bool true)], args := [d] }
  | _ => none }
def fnCutRestrictionReassemblesAndIsIdempotentRow : OpenClaim := { program := "qxb6000909amods", sum := "f27a4c7f7e324d0536c9953653e5b7f4840a15849bf0337c18e1054cd17ed608", func := "example.com/attenuant/attenuant/zzlaws_root_b1.FnCutRestrictionReassemblesAndIsIdempotent", spec := "fnCutRestrictionReassemblesAndIsIdempotent", make := .lifted ["publicsums"], apart := false }
def FnCutRestrictionReassemblesAndIsIdempotentSaid : Prop := fnCutRestrictionReassemblesAndIsIdempotentRow.holds Trym.pinned (OpenSpec.ofChange fnCutRestrictionReassemblesAndIsIdempotentSpec)

/-- ITS FALSE NEIGHBOUR: 'it returns false'. Refute it at one input. -/
def fnCutRestrictionReassemblesAndIsIdempotentWrong : ChangeSpec := { name := "fnCutRestrictionReassemblesAndIsIdempotent", fn := fun _ => fun
  | [d] => { results := [.lit (.bool false)], args := [d] }
  | _ => none }
def FnCutRestrictionReassemblesAndIsIdempotentWrongFalsely : Prop := fnCutRestrictionReassemblesAndIsIdempotentRow.holds Trym.pinned (OpenSpec.ofChange fnCutRestrictionReassemblesAndIsIdempotentWrong)

/-- 'zzlaws_root_b1.FnCutRestrictionIgnoresWhatFollows': WHATEVER THE INPUT: true; the input reads as it did. -/
def fnCutRestrictionIgnoresWhatFollowsSpec : ChangeSpec := { name := "fnCutRestrictionIgnoresWhatFollows", fn := fun _ => fun
  | [d1, d2] => { results := [.lit (.bool true)], args := [d1, d2] }
  | _ => none }
def fnCutRestrictionIgnoresWhatFollowsRow : OpenClaim := { program := "qxb6000909amods", sum := "f27a4c7f7e324d0536c9953653e5b7f4840a15849bf0337c18e1054cd17ed608", func := "example.com/attenuant/attenuant/zzlaws_root_b1.FnCutRestrictionIgnoresWhatFollows", spec := "fnCutRestrictionIgnoresWhatFollows", make := .lifted ["publicsums"], apart := false }
def FnCutRestrictionIgnoresWhatFollowsSaid : Prop := fnCutRestrictionIgnoresWhatFollowsRow.holds Trym.pinned (OpenSpec.ofChange fnCutRestrictionIgnoresWhatFollowsSpec)

/-- ITS FALSE NEIGHBOUR: 'it returns false'. Refute it at one input. -/
def fnCutRestrictionIgnoresWhatFollowsWrong : ChangeSpec := { name := "fnCutRestrictionIgnoresWhatFollows", fn := fun _ => fun
  | [d1, d2] => { results := [.lit (.bool false)], args := [d1, d2] }
  | _ => none }
def FnCutRestrictionIgnoresWhatFollowsWrongFalsely : Prop := fnCutRestrictionIgnoresWhatFollowsRow.holds Trym.pinned (OpenSpec.ofChange fnCutRestrictionIgnoresWhatFollowsWrong)

/-- 'zzlaws_root_b1.FnBase64AlphabetMatchesLastIndexModel': WHATEVER THE INPUT: true; the input reads as it did. -/
def fnBase64AlphabetMatchesLastIndexModelSpec : ChangeSpec := { name := "fnBase64AlphabetMatchesLastIndexModel", fn := fun _ => fun
  | [d] => { results := [.lit (.bool true)], args := [d] }
  | _ => none }
def fnBase64AlphabetMatchesLastIndexModelRow : OpenClaim := { program := "qxb6000909amods", sum := "f27a4c7f7e324d0536c9953653e5b7f4840a15849bf0337c18e1054cd17ed608", func := "example.com/attenuant/attenuant/zzlaws_root_b1.FnBase64AlphabetMatchesLastIndexModel", spec := "fnBase64AlphabetMatchesLastIndexModel", make := .lifted ["publicsums"], apart := false }
def FnBase64AlphabetMatchesLastIndexModelSaid : Prop := fnBase64AlphabetMatchesLastIndexModelRow.holds Trym.pinned (OpenSpec.ofChange fnBase64AlphabetMatchesLastIndexModelSpec)

/-- ITS FALSE NEIGHBOUR: 'it returns false'. Refute it at one input. -/
def fnBase64AlphabetMatchesLastIndexModelWrong : ChangeSpec := { name := "fnBase64AlphabetMatchesLastIndexModel", fn := fun _ => fun
  | [d] => { results := [.lit (.bool false)], args := [d] }
  | _ => none }
def FnBase64AlphabetMatchesLastIndexModelWrongFalsely : Prop := fnBase64AlphabetMatchesLastIndexModelRow.holds Trym.pinned (OpenSpec.ofChange fnBase64AlphabetMatchesLastIndexModelWrong)

/-- 'zzlaws_root_b1.FnBase64AlphabetInvertsDistinctChars': WHATEVER THE INPUT: true; the input reads as it did. -/
def fnBase64AlphabetInvertsDistinctCharsSpec : ChangeSpec := { name := "fnBase64AlphabetInvertsDistinctChars", fn := fun _ => fun
  | [d] => { results := [.lit (.bool true)], args := [d] }
  | _ => none }
def fnBase64AlphabetInvertsDistinctCharsRow : OpenClaim := { program := "qxb6000909amods", sum := "f27a4c7f7e324d0536c9953653e5b7f4840a15849bf0337c18e1054cd17ed608", func := "example.com/attenuant/attenuant/zzlaws_root_b1.FnBase64AlphabetInvertsDistinctChars", spec := "fnBase64AlphabetInvertsDistinctChars", make := .lifted ["publicsums"], apart := false }
def FnBase64AlphabetInvertsDistinctCharsSaid : Prop := fnBase64AlphabetInvertsDistinctCharsRow.holds Trym.pinned (OpenSpec.ofChange fnBase64AlphabetInvertsDistinctCharsSpec)

/-- ITS FALSE NEIGHBOUR: 'it returns false'. Refute it at one input. -/
def fnBase64AlphabetInvertsDistinctCharsWrong : ChangeSpec := { name := "fnBase64AlphabetInvertsDistinctChars", fn := fun _ => fun
  | [d] => { results := [.lit (.bool false)], args := [d] }
  | _ => none }
def FnBase64AlphabetInvertsDistinctCharsWrongFalsely : Prop := fnBase64AlphabetInvertsDistinctCharsRow.holds Trym.pinned (OpenSpec.ofChange fnBase64AlphabetInvertsDistinctCharsWrong)

end Rows
end Go.Proofs.Qxb6000909aMods
