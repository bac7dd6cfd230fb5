/-
  No cell of these rows narrows 'for every input' (looked for: loops, veiled, ifaces, maps, wideKeys, modest, calm, conditions, laid).
  DERIVED. THE GIVEN ROWS OF THIS SEAT. 3 by the template 'for every input the law returns true; each argument reads behind the call as it read before'; 0 by the template 'total and deterministic' (their statements: Qxb6602940aModsTotals.lean).
  GIVEN WITH THE SEED: the statements are not yours to turn. If you find one false, say at which input.
  Laid BY PROGRAM, IN A SANDBOX (cutbox-rows.mjs): the forced cells as the released guide's own fill.sh prints them over the translation d55faf878113b3a7… (all of the seat's roots in one cut). By AI agents, Wed Nov 11 2026. No macro, syntax, notation, axiom, sorry.
-/
import Derived.Test.Qxb6602940aModsChecked
import GoSem.Claim
import GoSem.ClaimJoined
import GoSem.ClaimMapViews
import Derived.JoinedTies
import Derived.KernelRfl
namespace Go.Proofs.Qxb6602940aMods
/- THE CELL 'sum', in the pinned program and in every row, IS THE sha256 OF THE DUMP (.gsa) THAT Qxb6602940aModsProg.lean LOADS. Nothing in Lean hashes anything: it is a label: what it is worth is what the hold of that sum in a sandbox is worth. -/
noncomputable def Trym.pinned : Pinned := { name := "qxb6602940amods", sum := "d55faf878113b3a75290c6a1b8dcc76d7759f6e2b7c323ef346578bb853b3c13", checked := Trym.checked }
namespace Rows
def none {H : Type} : Left H := { results := [], args := [] }

/-- 'zzlaws_root_b1.FnWithoutEnumPrefixMatchesPositionModel': WHATEVER THE INPUT: true; the input reads as it did. -/
def fnWithoutEnumPrefixMatchesPositionModelSpec : ChangeSpec := { name := "fnWithoutEnumPrefixMatchesPositionModel", fn := fun _ => fun
  | [d1, d2] => { results := [.lit (.bool true)], args := [d1, d2] }
  | _ => none }
def fnWithoutEnumPrefixMatchesPositionModelRow : OpenClaim := { program := "qxb6602940amods", sum := "d55faf878113b3a75290c6a1b8dcc76d7759f6e2b7c323ef346578bb853b3c13", func := "example.com/descriptwright/descriptwright/zzlaws_root_b1.FnWithoutEnumPrefixMatchesPositionModel", spec := "fnWithoutEnumPrefixMatchesPositionModel", make := .lifted ["publicsums"], apart := false }
def FnWithoutEnumPrefixMatchesPositionModelSaid : Prop := fnWithoutEnumPrefixMatchesPositionModelRow.holds Trym.pinned (OpenSpec.ofChange fnWithoutEnumPrefixMatchesPositionModelSpec)

/-- ITS FALSE NEIGHBOUR: 'it returns false'. Refute it at one input. -/
def fnWithoutEnumPrefixMatchesPositionModelWrong : ChangeSpec := { name := "fnWithoutEnumPrefixMatchesPositionModel", fn := fun _ => fun
  | [d1, d2] => { results := [.lit (.bool false)], args := [d1, d2] }
  | _ => none }
def FnWithoutEnumPrefixMatchesPositionModelWrongFalsely : Prop := fnWithoutEnumPrefixMatchesPositionModelRow.holds Trym.pinned (OpenSpec.ofChange fnWithoutEnumPrefixMatchesPositionModelWrong)

/-- 'zzlaws_root_b1.FnWithoutEnumPrefixIgnoresEnumCaseAndUnderscores': WHATEVER THE INPUT: true; the input reads as it did. -/
def fnWithoutEnumPrefixIgnoresEnumCaseAndUnderscoresSpec : ChangeSpec := { name := "fnWithoutEnumPrefixIgnoresEnumCaseAndUnderscores", fn := fun _ => fun
  | [d1, d2] => { results := [.lit (.bool true)], args := [d1, d2] }
  | _ => none }
def fnWithoutEnumPrefixIgnoresEnumCaseAndUnderscoresRow : OpenClaim := { program := "qxb6602940amods", sum := "d55faf878113b3a75290c6a1b8dcc76d7759f6e2b7c323ef346578bb853b3c13", func := "example.com/descriptwright/descriptwright/zzlaws_root_b1.FnWithoutEnumPrefixIgnoresEnumCaseAndUnderscores", spec := "fnWithoutEnumPrefixIgnoresEnumCaseAndUnderscores", make := .lifted ["publicsums"], apart := false }
def FnWithoutEnumPrefixIgnoresEnumCaseAndUnderscoresSaid : Prop := fnWithoutEnumPrefixIgnoresEnumCaseAndUnderscoresRow.holds Trym.pinned (OpenSpec.ofChange fnWithoutEnumPrefixIgnoresEnumCaseAndUnderscoresSpec)

/-- ITS FALSE NEIGHBOUR: 'it returns false'. Refute it at one input. -/
def fnWithoutEnumPrefixIgnoresEnumCaseAndUnderscoresWrong : ChangeSpec := { name := "fnWithoutEnumPrefixIgnoresEnumCaseAndUnderscores", fn := fun _ => fun
  | [d1, d2] => { results := [.lit (.bool false)], args := [d1, d2] }
  | _ => none }
def FnWithoutEnumPrefixIgnoresEnumCaseAndUnderscoresWrongFalsely : Prop := fnWithoutEnumPrefixIgnoresEnumCaseAndUnderscoresRow.holds Trym.pinned (OpenSpec.ofChange fnWithoutEnumPrefixIgnoresEnumCaseAndUnderscoresWrong)

/-- 'zzlaws_root_b1.FnWithoutEnumPrefixStripsAnAddedPrefix': WHATEVER THE INPUT: true; the input reads as it did. -/
def fnWithoutEnumPrefixStripsAnAddedPrefixSpec : ChangeSpec := { name := "fnWithoutEnumPrefixStripsAnAddedPrefix", fn := fun _ => fun
  | [d1, d2] => { results := [.lit (.bool true)], args := [d1, d2] }
  | _ => none }
def fnWithoutEnumPrefixStripsAnAddedPrefixRow : OpenClaim := { program := "qxb6602940amods", sum := "d55faf878113b3a75290c6a1b8dcc76d7759f6e2b7c323ef346578bb853b3c13", func := "example.com/descriptwright/descriptwright/zzlaws_root_b1.FnWithoutEnumPrefixStripsAnAddedPrefix", spec := "fnWithoutEnumPrefixStripsAnAddedPrefix", make := .lifted ["publicsums"], apart := false }
def FnWithoutEnumPrefixStripsAnAddedPrefixSaid : Prop := fnWithoutEnumPrefixStripsAnAddedPrefixRow.holds Trym.pinned (OpenSpec.ofChange fnWithoutEnumPrefixStripsAnAddedPrefixSpec)

/-- ITS FALSE NEIGHBOUR: 'it returns false'. Refute it at one input. -/
def fnWithoutEnumPrefixStripsAnAddedPrefixWrong : ChangeSpec := { name := "fnWithoutEnumPrefixStripsAnAddedPrefix", fn := fun _ => fun
  | [d1, d2] => { results := [.lit (.bool false)], args := [d1, d2] }
  | _ => none }
def FnWithoutEnumPrefixStripsAnAddedPrefixWrongFalsely : Prop := fnWithoutEnumPrefixStripsAnAddedPrefixRow.holds Trym.pinned (OpenSpec.ofChange fnWithoutEnumPrefixStripsAnAddedPrefixWrong)

end Rows
end Go.Proofs.Qxb6602940aMods
