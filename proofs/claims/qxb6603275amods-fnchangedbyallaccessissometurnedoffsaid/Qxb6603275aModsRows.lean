/-
  NARROWER THAN 'FOR EVERY INPUT', by the rows' own cells (each row's printed sentence says how): FnChangedByIsWhetherApplyingChanges: maps · FnChangedByAllAccessIsSomeTurnedOff: maps.
  DERIVED. THE GIVEN ROWS OF THIS SEAT. 3 by the template 'for every input the law returns true; each argument reads behind the call as it read before'; 0 by the template 'total and deterministic' (their statements: Qxb6603275aModsTotals.lean).
  GIVEN WITH THE SEED: the statements are not yours to turn. If you find one false, say at which input.
  Laid BY PROGRAM, IN A SANDBOX (cutbox-rows.mjs): the forced cells as the released guide's own fill.sh prints them over the translation 6e7c4e1ce8f82358… (all of the seat's roots in one cut). By AI agents, Wed Nov 11 2026. No macro, syntax, notation, axiom, sorry.
-/
import Derived.Test.Qxb6603275aModsChecked
import GoSem.Claim
import GoSem.ClaimJoined
import GoSem.ClaimMapViews
import Derived.JoinedTies
import Derived.KernelRfl
namespace Go.Proofs.Qxb6603275aMods
/- THE CELL 'sum', in the pinned program and in every row, IS THE sha256 OF THE DUMP (.gsa) THAT Qxb6603275aModsProg.lean LOADS. Nothing in Lean hashes anything: it is a label: what it is worth is what the hold of that sum in a sandbox is worth. -/
noncomputable def Trym.pinned : Pinned := { name := "qxb6603275amods", sum := "6e7c4e1ce8f823585653e0f0564122c45ebdc9607714c65b21376ce90e0d4d7a", checked := Trym.checked }
namespace Rows
def none {H : Type} : Left H := { results := [], args := [] }

/-- 'zzlaws_internal_store_b1.FnChangedByIsWhetherApplyingChanges': WHATEVER THE INPUT: true; the input reads as it did. -/
def fnChangedByIsWhetherApplyingChangesSpec : ChangeSpec := { name := "fnChangedByIsWhetherApplyingChanges", fn := fun _ => fun
  | [d1, d2] => { results := [.lit (.bool true)], args := [d1, d2] }
  | _ => none }
def fnChangedByIsWhetherApplyingChangesRow : OpenClaim := { program := "qxb6603275amods", sum := "6e7c4e1ce8f823585653e0f0564122c45ebdc9607714c65b21376ce90e0d4d7a", func := "example.com/simurgh/simurgh/zzlaws_internal_store_b1.FnChangedByIsWhetherApplyingChanges", spec := "fnChangedByIsWhetherApplyingChanges", maps := true, make := .lifted ["publicsums"], apart := false }
def FnChangedByIsWhetherApplyingChangesSaid : Prop := fnChangedByIsWhetherApplyingChangesRow.holds Trym.pinned (OpenSpec.ofChange fnChangedByIsWhetherApplyingChangesSpec)

/-- ITS FALSE NEIGHBOUR: 'it returns false'. Refute it at one input. -/
def fnChangedByIsWhetherApplyingChangesWrong : ChangeSpec := { name := "fnChangedByIsWhetherApplyingChanges", fn := fun _ => fun
  | [d1, d2] => { results := [.lit (.bool false)], args := [d1, d2] }
  | _ => none }
def FnChangedByIsWhetherApplyingChangesWrongFalsely : Prop := fnChangedByIsWhetherApplyingChangesRow.holds Trym.pinned (OpenSpec.ofChange fnChangedByIsWhetherApplyingChangesWrong)

/-- 'zzlaws_internal_store_b1.FnChangedByAllAccessIsSomeTurnedOff': WHATEVER THE INPUT: true; the input reads as it did. -/
def fnChangedByAllAccessIsSomeTurnedOffSpec : ChangeSpec := { name := "fnChangedByAllAccessIsSomeTurnedOff", fn := fun _ => fun
  | [d] => { results := [.lit (.bool true)], args := [d] }
  | _ => none }
def fnChangedByAllAccessIsSomeTurnedOffRow : OpenClaim := { program := "qxb6603275amods", sum := "6e7c4e1ce8f823585653e0f0564122c45ebdc9607714c65b21376ce90e0d4d7a", func := "example.com/simurgh/simurgh/zzlaws_internal_store_b1.FnChangedByAllAccessIsSomeTurnedOff", spec := "fnChangedByAllAccessIsSomeTurnedOff", maps := true, make := .lifted ["publicsums"], apart := false }
def FnChangedByAllAccessIsSomeTurnedOffSaid : Prop := fnChangedByAllAccessIsSomeTurnedOffRow.holds Trym.pinned (OpenSpec.ofChange fnChangedByAllAccessIsSomeTurnedOffSpec)

/-- ITS FALSE NEIGHBOUR: 'it returns false'. Refute it at one input. -/
def fnChangedByAllAccessIsSomeTurnedOffWrong : ChangeSpec := { name := "fnChangedByAllAccessIsSomeTurnedOff", fn := fun _ => fun
  | [d] => { results := [.lit (.bool false)], args := [d] }
  | _ => none }
def FnChangedByAllAccessIsSomeTurnedOffWrongFalsely : Prop := fnChangedByAllAccessIsSomeTurnedOffRow.holds Trym.pinned (OpenSpec.ofChange fnChangedByAllAccessIsSomeTurnedOffWrong)

/-- 'zzlaws_internal_store_b1.FnAllAccessGivesEveryPermission': WHATEVER THE INPUT: true; the input reads as it did. -/
def fnAllAccessGivesEveryPermissionSpec : ChangeSpec := { name := "fnAllAccessGivesEveryPermission", fn := fun _ => fun
  | [d] => { results := [.lit (.bool true)], args := [d] }
  | _ => none }
def fnAllAccessGivesEveryPermissionRow : OpenClaim := { program := "qxb6603275amods", sum := "6e7c4e1ce8f823585653e0f0564122c45ebdc9607714c65b21376ce90e0d4d7a", func := "example.com/simurgh/simurgh/zzlaws_internal_store_b1.FnAllAccessGivesEveryPermission", spec := "fnAllAccessGivesEveryPermission", make := .lifted ["publicsums"], apart := false }
def FnAllAccessGivesEveryPermissionSaid : Prop := fnAllAccessGivesEveryPermissionRow.holds Trym.pinned (OpenSpec.ofChange fnAllAccessGivesEveryPermissionSpec)

/-- ITS FALSE NEIGHBOUR: 'it returns false'. Refute it at one input. -/
def fnAllAccessGivesEveryPermissionWrong : ChangeSpec := { name := "fnAllAccessGivesEveryPermission", fn := fun _ => fun
  | [d] => { results := [.lit (.bool false)], args := [d] }
  | _ => none }
def FnAllAccessGivesEveryPermissionWrongFalsely : Prop := fnAllAccessGivesEveryPermissionRow.holds Trym.pinned (OpenSpec.ofChange fnAllAccessGivesEveryPermissionWrong)

end Rows
end Go.Proofs.Qxb6603275aMods
