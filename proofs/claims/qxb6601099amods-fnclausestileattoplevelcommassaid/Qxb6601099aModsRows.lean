/-
  No cell of these rows narrows 'for every input' (looked for: loops, veiled, ifaces, maps, wideKeys, modest, calm, conditions, laid).
  DERIVED. THE GIVEN ROWS OF THIS SEAT. 3 by the template 'for every input the law returns true; each argument reads behind the call as it read before'; 0 by the template 'total and deterministic' (their statements: Qxb6601099aModsTotals.lean).
  GIVEN WITH THE SEED: the statements are not yours to turn. If you find one false, say at which input.
  Laid BY PROGRAM, IN A SANDBOX (cutbox-rows.mjs): the forced cells as the released guide's own fill.sh prints them over the translation 52618bebdb58c29a… (all of the seat's roots in one cut). By AI agents, Wed Nov 11 2026. No macro, syntax, notation, axiom, sorry.
-/
import Derived.Test.Qxb6601099aModsChecked
import GoSem.Claim
import GoSem.ClaimJoined
import GoSem.ClaimMapViews
import Derived.JoinedTies
import Derived.KernelRfl
namespace Go.Proofs.Qxb6601099aMods
/- THE CELL 'sum', in the pinned program and in every row, IS THE sha256 OF THE DUMP (.gsa) THAT Qxb6601099aModsProg.lean LOADS. Nothing in Lean hashes anything: it is a label: what it is worth is what the hold of that sum in a sandbox is worth. -/
noncomputable def Trym.pinned : Pinned := { name := "qxb6601099amods", sum := "52618bebdb58c29af2986a6b3ab5b299eb4abda2be25fca39a63b1c721348fa3", checked := Trym.checked }
namespace Rows
def none {H : Type} : Left H := { results := [], args := [] }

/-- 'zzlaws_internal_migration_b1.FnClausesTileAtTopLevelCommas': WHATEVER THE INPUT: true; the input reads as it did. -/
def fnClausesTileAtTopLevelCommasSpec : ChangeSpec := { name := "fnClausesTileAtTopLevelCommas", fn := fun _ => fun
  | [d1, d2] => { results := [.lit (.bool true)], args := [d1, d2] }
  | _ => none }
def fnClausesTileAtTopLevelCommasRow : OpenClaim := { program := "qxb6601099amods", sum := "52618bebdb58c29af2986a6b3ab5b299eb4abda2be25fca39a63b1c721348fa3", func := "example.com/kagefumi/kagefumi/zzlaws_internal_migration_b1.FnClausesTileAtTopLevelCommas", spec := "fnClausesTileAtTopLevelCommas", make := .lifted ["publicsums"], apart := false }
def FnClausesTileAtTopLevelCommasSaid : Prop := fnClausesTileAtTopLevelCommasRow.holds Trym.pinned (OpenSpec.ofChange fnClausesTileAtTopLevelCommasSpec)

/-- ITS FALSE NEIGHBOUR: 'it returns false'. Refute it at one input. -/
def fnClausesTileAtTopLevelCommasWrong : ChangeSpec := { name := "fnClausesTileAtTopLevelCommas", fn := fun _ => fun
  | [d1, d2] => { results := [.lit (.bool false)], args := [d1, d2] }
  | _ => none }
def FnClausesTileAtTopLevelCommasWrongFalsely : Prop := fnClausesTileAtTopLevelCommasRow.holds Trym.pinned (OpenSpec.ofChange fnClausesTileAtTopLevelCommasWrong)

/-- 'zzlaws_internal_migration_b1.FnClausesEachClauseIsOne': WHATEVER THE INPUT: true; the input reads as it did. -/
def fnClausesEachClauseIsOneSpec : ChangeSpec := { name := "fnClausesEachClauseIsOne", fn := fun _ => fun
  | [d1, d2] => { results := [.lit (.bool true)], args := [d1, d2] }
  | _ => none }
def fnClausesEachClauseIsOneRow : OpenClaim := { program := "qxb6601099amods", sum := "52618bebdb58c29af2986a6b3ab5b299eb4abda2be25fca39a63b1c721348fa3", func := "example.com/kagefumi/kagefumi/zzlaws_internal_migration_b1.FnClausesEachClauseIsOne", spec := "fnClausesEachClauseIsOne", make := .lifted ["publicsums"], apart := false }
def FnClausesEachClauseIsOneSaid : Prop := fnClausesEachClauseIsOneRow.holds Trym.pinned (OpenSpec.ofChange fnClausesEachClauseIsOneSpec)

/-- ITS FALSE NEIGHBOUR: 'it returns false'. Refute it at one input. -/
def fnClausesEachClauseIsOneWrong : ChangeSpec := { name := "fnClausesEachClauseIsOne", fn := fun _ => fun
  | [d1, d2] => { results := [.lit (.bool false)], args := [d1, d2] }
  | _ => none }
def FnClausesEachClauseIsOneWrongFalsely : Prop := fnClausesEachClauseIsOneRow.holds Trym.pinned (OpenSpec.ofChange fnClausesEachClauseIsOneWrong)

/-- 'zzlaws_internal_migration_b1.FnClausesSplitAtBalancedComma': WHATEVER THE INPUT: true; the input reads as it did. -/
def fnClausesSplitAtBalancedCommaSpec : ChangeSpec := { name := "fnClausesSplitAtBalancedComma", fn := fun _ => fun
  | [d1, d2, d3, d4] => { results := [.lit (.bool true)], args := [d1, d2, d3, d4] }
  | _ => none }
def fnClausesSplitAtBalancedCommaRow : OpenClaim := { program := "qxb6601099amods", sum := "52618bebdb58c29af2986a6b3ab5b299eb4abda2be25fca39a63b1c721348fa3", func := "example.com/kagefumi/kagefumi/zzlaws_internal_migration_b1.FnClausesSplitAtBalancedComma", spec := "fnClausesSplitAtBalancedComma", make := .lifted ["publicsums"], apart := false }
def FnClausesSplitAtBalancedCommaSaid : Prop := fnClausesSplitAtBalancedCommaRow.holds Trym.pinned (OpenSpec.ofChange fnClausesSplitAtBalancedCommaSpec)

/-- ITS FALSE NEIGHBOUR: 'it returns false'. Refute it at one input. -/
def fnClausesSplitAtBalancedCommaWrong : ChangeSpec := { name := "fnClausesSplitAtBalancedComma", fn := fun _ => fun
  | [d1, d2, d3, d4] => { results := [.lit (.bool false)], args := [d1, d2, d3, d4] }
  | _ => none }
def FnClausesSplitAtBalancedCommaWrongFalsely : Prop := fnClausesSplitAtBalancedCommaRow.holds Trym.pinned (OpenSpec.ofChange fnClausesSplitAtBalancedCommaWrong)

end Rows
end Go.Proofs.Qxb6601099aMods
