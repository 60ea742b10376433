/-
  No cell of these rows narrows 'for every input' (looked for: loops, veiled, ifaces, maps, wideKeys, modest, calm, conditions, laid).
  DERIVED. THE GIVEN ROWS OF THIS SEAT. 6 by the template 'for every input the law returns true; each argument reads behind the call as it read before'; 0 by the template 'total and deterministic' (their statements: Qxb6602934aModsTotals.lean).
  GIVEN WITH THE SEED: the statements are not yours to turn. If you find one false, say at which input.
  Laid BY PROGRAM, IN A SANDBOX (cutbox-rows.mjs): the forced cells as the released guide's own fill.sh prints them over the translation c8ef6d2c2e8026eb… (all of the seat's roots in one cut). By AI agents, Wed Nov 11 2026. No macro, syntax, notation, axiom, sorry.
-/
import Derived.Test.Qxb6602934aModsChecked
import GoSem.Claim
import GoSem.ClaimJoined
import GoSem.ClaimMapViews
import Derived.JoinedTies
import Derived.KernelRfl
namespace Go.Proofs.Qxb6602934aMods
/- THE CELL 'sum', in the pinned program and in every row, IS THE sha256 OF THE DUMP (.gsa) THAT Qxb6602934aModsProg.lean LOADS. Nothing in Lean hashes anything: it is a label: what it is worth is what the hold of that sum in a sandbox is worth. -/
noncomputable def Trym.pinned : Pinned := { name := "qxb6602934amods", sum := "c8ef6d2c2e8026eb886a0f91685e3574f24daa5a6069ec337f0215cc1c057b2d", checked := Trym.checked }
namespace Rows
def none {H : Type} : Left H := { results := [], args := [] }

/-- 'zzlaws_pkg_feed_b1.FnLeadingDigitsSpec': WHATEVER THE INPUT: true; the input reads as it did. -/
def fnLeadingDigitsSpecSpec : ChangeSpec := { name := "fnLeadingDigitsSpec", fn := fun _ => fun
  | [d] => { results := [.lit (.bool true)], args := [d] }
  | _ => none }
def fnLeadingDigitsSpecRow : OpenClaim := { program := "qxb6602934amods", sum := "c8ef6d2c2e8026eb886a0f91685e3574f24daa5a6069ec337f0215cc1c057b2d", func := "example.com/fairmark/fairmark/zzlaws_pkg_feed_b1.FnLeadingDigitsSpec", spec := "fnLeadingDigitsSpec", make := .lifted ["publicsums"], apart := false }
def FnLeadingDigitsSpecSaid : Prop := fnLeadingDigitsSpecRow.holds Trym.pinned (OpenSpec.ofChange fnLeadingDigitsSpecSpec)

/-- ITS FALSE NEIGHBOUR: 'it returns false'. Refute it at one input. -/
def fnLeadingDigitsSpecWrong : ChangeSpec := { name := "fnLeadingDigitsSpec", fn := fun _ => fun
  | [d] => { results := [.lit (.bool false)], args := [d] }
  | _ => none }
def FnLeadingDigitsSpecWrongFalsely : Prop := fnLeadingDigitsSpecRow.holds Trym.pinned (OpenSpec.ofChange fnLeadingDigitsSpecWrong)

/-- 'zzlaws_pkg_feed_b1.FnLeadingDigitsConcat': WHATEVER THE INPUT: true; the input reads as it did. -/
def fnLeadingDigitsConcatSpec : ChangeSpec := { name := "fnLeadingDigitsConcat", fn := fun _ => fun
  | [d1, d2] => { results := [.lit (.bool true)], args := [d1, d2] }
  | _ => none }
def fnLeadingDigitsConcatRow : OpenClaim := { program := "qxb6602934amods", sum := "c8ef6d2c2e8026eb886a0f91685e3574f24daa5a6069ec337f0215cc1c057b2d", func := "example.com/fairmark/fairmark/zzlaws_pkg_feed_b1.FnLeadingDigitsConcat", spec := "fnLeadingDigitsConcat", make := .lifted ["publicsums"], apart := false }
def FnLeadingDigitsConcatSaid : Prop := fnLeadingDigitsConcatRow.holds Trym.pinned (OpenSpec.ofChange fnLeadingDigitsConcatSpec)

/-- ITS FALSE NEIGHBOUR: 'it returns false'. Refute it at one input. -/
def fnLeadingDigitsConcatWrong : ChangeSpec := { name := "fnLeadingDigitsConcat", fn := fun _ => fun
  | [d1, d2] => { results := [.lit (.bool false)], args := [d1, d2] }
  | _ => none }
def FnLeadingDigitsConcatWrongFalsely : Prop := fnLeadingDigitsConcatRow.holds Trym.pinned (OpenSpec.ofChange fnLeadingDigitsConcatWrong)

/-- 'zzlaws_pkg_feed_b1.FnHeaderTextRoundTrip': WHATEVER THE INPUT: true; the input reads as it did. -/
def fnHeaderTextRoundTripSpec : ChangeSpec := { name := "fnHeaderTextRoundTrip", fn := fun _ => fun
  | [d1, d2] => { results := [.lit (.bool true)], args := [d1, d2] }
  | _ => none }
def fnHeaderTextRoundTripRow : OpenClaim := { program := "qxb6602934amods", sum := "c8ef6d2c2e8026eb886a0f91685e3574f24daa5a6069ec337f0215cc1c057b2d", func := "example.com/fairmark/fairmark/zzlaws_pkg_feed_b1.FnHeaderTextRoundTrip", spec := "fnHeaderTextRoundTrip", inPlace := ["internal/abi.NoEscape"], make := .lifted ["publicsums"], apart := false }
def FnHeaderTextRoundTripSaid : Prop := fnHeaderTextRoundTripRow.holds Trym.pinned (OpenSpec.ofChange fnHeaderTextRoundTripSpec)

/-- ITS FALSE NEIGHBOUR: 'it returns false'. Refute it at one input. -/
def fnHeaderTextRoundTripWrong : ChangeSpec := { name := "fnHeaderTextRoundTrip", fn := fun _ => fun
  | [d1, d2] => { results := [.lit (.bool false)], args := [d1, d2] }
  | _ => none }
def FnHeaderTextRoundTripWrongFalsely : Prop := fnHeaderTextRoundTripRow.holds Trym.pinned (OpenSpec.ofChange fnHeaderTextRoundTripWrong)

/-- 'zzlaws_pkg_feed_b1.FnHeaderTextBracketsAndCommas': WHATEVER THE INPUT: true; the input reads as it did. -/
def fnHeaderTextBracketsAndCommasSpec : ChangeSpec := { name := "fnHeaderTextBracketsAndCommas", fn := fun _ => fun
  | [d1, d2] => { results := [.lit (.bool true)], args := [d1, d2] }
  | _ => none }
def fnHeaderTextBracketsAndCommasRow : OpenClaim := { program := "qxb6602934amods", sum := "c8ef6d2c2e8026eb886a0f91685e3574f24daa5a6069ec337f0215cc1c057b2d", func := "example.com/fairmark/fairmark/zzlaws_pkg_feed_b1.FnHeaderTextBracketsAndCommas", spec := "fnHeaderTextBracketsAndCommas", inPlace := ["internal/abi.NoEscape"], make := .lifted ["publicsums"], apart := false }
def FnHeaderTextBracketsAndCommasSaid : Prop := fnHeaderTextBracketsAndCommasRow.holds Trym.pinned (OpenSpec.ofChange fnHeaderTextBracketsAndCommasSpec)

/-- ITS FALSE NEIGHBOUR: 'it returns false'. Refute it at one input. -/
def fnHeaderTextBracketsAndCommasWrong : ChangeSpec := { name := "fnHeaderTextBracketsAndCommas", fn := fun _ => fun
  | [d1, d2] => { results := [.lit (.bool false)], args := [d1, d2] }
  | _ => none }
def FnHeaderTextBracketsAndCommasWrongFalsely : Prop := fnHeaderTextBracketsAndCommasRow.holds Trym.pinned (OpenSpec.ofChange fnHeaderTextBracketsAndCommasWrong)

/-- 'zzlaws_pkg_feed_b1.FnMatchHeaderSpec': WHATEVER THE INPUT: true; the input reads as it did. -/
def fnMatchHeaderSpecSpec : ChangeSpec := { name := "fnMatchHeaderSpec", fn := fun _ => fun
  | [d1, d2, d3] => { results := [.lit (.bool true)], args := [d1, d2, d3] }
  | _ => none }
def fnMatchHeaderSpecRow : OpenClaim := { program := "qxb6602934amods", sum := "c8ef6d2c2e8026eb886a0f91685e3574f24daa5a6069ec337f0215cc1c057b2d", func := "example.com/fairmark/fairmark/zzlaws_pkg_feed_b1.FnMatchHeaderSpec", spec := "fnMatchHeaderSpec", make := .lifted ["publicsums"], apart := false }
def FnMatchHeaderSpecSaid : Prop := fnMatchHeaderSpecRow.holds Trym.pinned (OpenSpec.ofChange fnMatchHeaderSpecSpec)

/-- ITS FALSE NEIGHBOUR: 'it returns false'. Refute it at one input. -/
def fnMatchHeaderSpecWrong : ChangeSpec := { name := "fnMatchHeaderSpec", fn := fun _ => fun
  | [d1, d2, d3] => { results := [.lit (.bool false)], args := [d1, d2, d3] }
  | _ => none }
def FnMatchHeaderSpecWrongFalsely : Prop := fnMatchHeaderSpecRow.holds Trym.pinned (OpenSpec.ofChange fnMatchHeaderSpecWrong)

/-- 'zzlaws_pkg_feed_b1.FnMatchHeaderFullFile': WHATEVER THE INPUT: true; the input reads as it did. -/
def fnMatchHeaderFullFileSpec : ChangeSpec := { name := "fnMatchHeaderFullFile", fn := fun _ => fun
  | [d1, d2] => { results := [.lit (.bool true)], args := [d1, d2] }
  | _ => none }
def fnMatchHeaderFullFileRow : OpenClaim := { program := "qxb6602934amods", sum := "c8ef6d2c2e8026eb886a0f91685e3574f24daa5a6069ec337f0215cc1c057b2d", func := "example.com/fairmark/fairmark/zzlaws_pkg_feed_b1.FnMatchHeaderFullFile", spec := "fnMatchHeaderFullFile", make := .lifted ["publicsums"], apart := false }
def FnMatchHeaderFullFileSaid : Prop := fnMatchHeaderFullFileRow.holds Trym.pinned (OpenSpec.ofChange fnMatchHeaderFullFileSpec)

/-- ITS FALSE NEIGHBOUR: 'it returns false'. Refute it at one input. -/
def fnMatchHeaderFullFileWrong : ChangeSpec := { name := "fnMatchHeaderFullFile", fn := fun _ => fun
  | [d1, d2] => { results := [.lit (.bool false)], args := [d1, d2] }
  | _ => none }
def FnMatchHeaderFullFileWrongFalsely : Prop := fnMatchHeaderFullFileRow.holds Trym.pinned (OpenSpec.ofChange fnMatchHeaderFullFileWrong)

end Rows
end Go.Proofs.Qxb6602934aMods
