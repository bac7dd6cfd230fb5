/-
  No cell of these rows narrows 'for every input' (looked for: loops, veiled, ifaces, maps, wideKeys, modest, calm, conditions, laid).
  DERIVED. THE GIVEN ROWS OF THIS SEAT. 3 by the template 'for every input the law returns true; each argument reads behind the call as it read before'; 0 by the template 'total and deterministic' (their statements: Qxb6602649aModsTotals.lean).
  GIVEN WITH THE SEED: the statements are not yours to turn. If you find one false, say at which input.
  Laid BY PROGRAM, IN A SANDBOX (cutbox-rows.mjs): the forced cells as the released guide's own fill.sh prints them over the translation 1243ae38002c99f2… (all of the seat's roots in one cut). By AI agents, Wed Nov 11 2026. No macro, syntax, notation, axiom, sorry.
-/
import Derived.Test.Qxb6602649aModsChecked
import GoSem.Claim
import GoSem.ClaimJoined
import GoSem.ClaimMapViews
import Derived.JoinedTies
import Derived.KernelRfl
namespace Go.Proofs.Qxb6602649aMods
/- THE CELL 'sum', in the pinned program and in every row, IS THE sha256 OF THE DUMP (.gsa) THAT Qxb6602649aModsProg.lean LOADS. Nothing in Lean hashes anything: it is a label: what it is worth is what the hold of that sum in a sandbox is worth. -/
noncomputable def Trym.pinned : Pinned := { name := "qxb6602649amods", sum := "1243ae38002c99f20ddfc0be1b2fe65ac36b63a488e46fb717c6d611b0b52416", checked := Trym.checked }
namespace Rows
def none {H : Type} : Left H := { results := [], args := [] }

/-- 'zzlaws_root_b1.FnValidIDMatchesAlphabetModel': WHATEVER THE INPUT: true; the input reads as it did. -/
def fnValidIDMatchesAlphabetModelSpec : ChangeSpec := { name := "fnValidIDMatchesAlphabetModel", fn := fun _ => fun
  | [d] => { results := [.lit (.bool true)], args := [d] }
  | _ => none }
def fnValidIDMatchesAlphabetModelRow : OpenClaim := { program := "qxb6602649amods", sum := "1243ae38002c99f20ddfc0be1b2fe65ac36b63a488e46fb717c6d611b0b52416", func := "example.com/pactum/pactum/zzlaws_root_b1.FnValidIDMatchesAlphabetModel", spec := "fnValidIDMatchesAlphabetModel", make := .lifted ["publicsums"], apart := false }
def FnValidIDMatchesAlphabetModelSaid : Prop := fnValidIDMatchesAlphabetModelRow.holds Trym.pinned (OpenSpec.ofChange fnValidIDMatchesAlphabetModelSpec)

/-- ITS FALSE NEIGHBOUR: 'it returns false'. Refute it at one input. -/
def fnValidIDMatchesAlphabetModelWrong : ChangeSpec := { name := "fnValidIDMatchesAlphabetModel", fn := fun _ => fun
  | [d] => { results := [.lit (.bool false)], args := [d] }
  | _ => none }
def FnValidIDMatchesAlphabetModelWrongFalsely : Prop := fnValidIDMatchesAlphabetModelRow.holds Trym.pinned (OpenSpec.ofChange fnValidIDMatchesAlphabetModelWrong)

/-- 'zzlaws_root_b1.FnValidIDConcatenation': WHATEVER THE INPUT: true; the input reads as it did. -/
def fnValidIDConcatenationSpec : ChangeSpec := { name := "fnValidIDConcatenation", fn := fun _ => fun
  | [d1, d2] => { results := [.lit (.bool true)], args := [d1, d2] }
  | _ => none }
def fnValidIDConcatenationRow : OpenClaim := { program := "qxb6602649amods", sum := "1243ae38002c99f20ddfc0be1b2fe65ac36b63a488e46fb717c6d611b0b52416", func := "example.com/pactum/pactum/zzlaws_root_b1.FnValidIDConcatenation", spec := "fnValidIDConcatenation", make := .lifted ["publicsums"], apart := false }
def FnValidIDConcatenationSaid : Prop := fnValidIDConcatenationRow.holds Trym.pinned (OpenSpec.ofChange fnValidIDConcatenationSpec)

/-- ITS FALSE NEIGHBOUR: 'it returns false'. Refute it at one input. -/
def fnValidIDConcatenationWrong : ChangeSpec := { name := "fnValidIDConcatenation", fn := fun _ => fun
  | [d1, d2] => { results := [.lit (.bool false)], args := [d1, d2] }
  | _ => none }
def FnValidIDConcatenationWrongFalsely : Prop := fnValidIDConcatenationRow.holds Trym.pinned (OpenSpec.ofChange fnValidIDConcatenationWrong)

/-- 'zzlaws_root_b1.FnOpUsesAcyclic': WHATEVER THE INPUT: true; the input reads as it did. -/
def fnOpUsesAcyclicSpec : ChangeSpec := { name := "fnOpUsesAcyclic", fn := fun _ => fun
  | [d] => { results := [.lit (.bool true)], args := [d] }
  | _ => none }
def fnOpUsesAcyclicRow : OpenClaim := { program := "qxb6602649amods", sum := "1243ae38002c99f20ddfc0be1b2fe65ac36b63a488e46fb717c6d611b0b52416", func := "example.com/pactum/pactum/zzlaws_root_b1.FnOpUsesAcyclic", spec := "fnOpUsesAcyclic", make := .lifted ["publicsums"], apart := false }
def FnOpUsesAcyclicSaid : Prop := fnOpUsesAcyclicRow.holds Trym.pinned (OpenSpec.ofChange fnOpUsesAcyclicSpec)

/-- ITS FALSE NEIGHBOUR: 'it returns false'. Refute it at one input. -/
def fnOpUsesAcyclicWrong : ChangeSpec := { name := "fnOpUsesAcyclic", fn := fun _ => fun
  | [d] => { results := [.lit (.bool false)], args := [d] }
  | _ => none }
def FnOpUsesAcyclicWrongFalsely : Prop := fnOpUsesAcyclicRow.holds Trym.pinned (OpenSpec.ofChange fnOpUsesAcyclicWrong)

end Rows
end Go.Proofs.Qxb6602649aMods
