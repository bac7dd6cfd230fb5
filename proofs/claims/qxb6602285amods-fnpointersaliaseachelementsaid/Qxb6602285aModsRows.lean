/-
  No cell of these rows narrows 'for every input' (looked for: loops, veiled, ifaces, maps, wideKeys, modest, calm, conditions, laid).
  DERIVED. THE GIVEN ROWS OF THIS SEAT. 4 by the template 'for every input the law returns true; each argument reads behind the call as it read before'; 0 by the template 'total and deterministic' (their statements: Qxb6602285aModsTotals.lean).
  GIVEN WITH THE SEED: the statements are not yours to turn. If you find one false, say at which input.
  Laid BY PROGRAM, IN A SANDBOX (cutbox-rows.mjs): the forced cells as the released guide's own fill.sh prints them over the translation c33b3674b1d93b2c… (all of the seat's roots in one cut). By AI agents, Wed Nov 11 2026. No macro, syntax, notation, axiom, sorry.
-/
import Derived.Test.Qxb6602285aModsChecked
import GoSem.Claim
import GoSem.ClaimJoined
import GoSem.ClaimMapViews
import Derived.JoinedTies
import Derived.KernelRfl
namespace Go.Proofs.Qxb6602285aMods
/- THE CELL 'sum', in the pinned program and in every row, IS THE sha256 OF THE DUMP (.gsa) THAT Qxb6602285aModsProg.lean LOADS. Nothing in Lean hashes anything: it is a label: what it is worth is what the hold of that sum in a sandbox is worth. -/
noncomputable def Trym.pinned : Pinned := { name := "qxb6602285amods", sum := "c33b3674b1d93b2cefe4ed0a293daea9eb7daf76fb8e3410f309e5225e5af035", checked := Trym.checked }
namespace Rows
def none {H : Type} : Left H := { results := [], args := [] }

/-- 'zzlaws_root_b1.FnPartsSizeSplitAdds': WHATEVER THE INPUT: true; the input reads as it did. -/
def fnPartsSizeSplitAddsSpec : ChangeSpec := { name := "fnPartsSizeSplitAdds", fn := fun _ => fun
  | [d1, d2] => { results := [.lit (.bool true)], args := [d1, d2] }
  | _ => none }
def fnPartsSizeSplitAddsRow : OpenClaim := { program := "qxb6602285amods", sum := "c33b3674b1d93b2cefe4ed0a293daea9eb7daf76fb8e3410f309e5225e5af035", func := "example.com/throughway/throughway/zzlaws_root_b1.FnPartsSizeSplitAdds", spec := "fnPartsSizeSplitAdds", make := .lifted ["publicsums"], apart := false }
def FnPartsSizeSplitAddsSaid : Prop := fnPartsSizeSplitAddsRow.holds Trym.pinned (OpenSpec.ofChange fnPartsSizeSplitAddsSpec)

/-- ITS FALSE NEIGHBOUR: 'it returns false'. Refute it at one input. -/
def fnPartsSizeSplitAddsWrong : ChangeSpec := { name := "fnPartsSizeSplitAdds", fn := fun _ => fun
  | [d1, d2] => { results := [.lit (.bool false)], args := [d1, d2] }
  | _ => none }
def FnPartsSizeSplitAddsWrongFalsely : Prop := fnPartsSizeSplitAddsRow.holds Trym.pinned (OpenSpec.ofChange fnPartsSizeSplitAddsWrong)

/-- 'zzlaws_root_b1.FnPointersAliasEachElement': WHATEVER THE INPUT: true; the input reads as it did. -/
def fnPointersAliasEachElementSpec : ChangeSpec := { name := "fnPointersAliasEachElement", fn := fun _ => fun
  | [d] => { results := [.lit (.bool true)], args := [d] }
  | _ => none }
def fnPointersAliasEachElementRow : OpenClaim := { program := "qxb6602285amods", sum := "c33b3674b1d93b2cefe4ed0a293daea9eb7daf76fb8e3410f309e5225e5af035", func := "example.com/throughway/throughway/zzlaws_root_b1.FnPointersAliasEachElement", spec := "fnPointersAliasEachElement", make := .lifted ["publicsums"], apart := false }
def FnPointersAliasEachElementSaid : Prop := fnPointersAliasEachElementRow.holds Trym.pinned (OpenSpec.ofChange fnPointersAliasEachElementSpec)

/-- ITS FALSE NEIGHBOUR: 'it returns false'. Refute it at one input. -/
def fnPointersAliasEachElementWrong : ChangeSpec := { name := "fnPointersAliasEachElement", fn := fun _ => fun
  | [d] => { results := [.lit (.bool false)], args := [d] }
  | _ => none }
def FnPointersAliasEachElementWrongFalsely : Prop := fnPointersAliasEachElementRow.holds Trym.pinned (OpenSpec.ofChange fnPointersAliasEachElementWrong)

/-- 'zzlaws_root_b1.FnCursorReadFlatSpec': WHATEVER THE INPUT: true; the input reads as it did. -/
def fnCursorReadFlatSpecSpec : ChangeSpec := { name := "fnCursorReadFlatSpec", fn := fun _ => fun
  | [d1, d2, d3, d4] => { results := [.lit (.bool true)], args := [d1, d2, d3, d4] }
  | _ => none }
def fnCursorReadFlatSpecRow : OpenClaim := { program := "qxb6602285amods", sum := "c33b3674b1d93b2cefe4ed0a293daea9eb7daf76fb8e3410f309e5225e5af035", func := "example.com/throughway/throughway/zzlaws_root_b1.FnCursorReadFlatSpec", spec := "fnCursorReadFlatSpec", make := .lifted ["publicsums"], apart := false }
def FnCursorReadFlatSpecSaid : Prop := fnCursorReadFlatSpecRow.holds Trym.pinned (OpenSpec.ofChange fnCursorReadFlatSpecSpec)

/-- ITS FALSE NEIGHBOUR: 'it returns false'. Refute it at one input. -/
def fnCursorReadFlatSpecWrong : ChangeSpec := { name := "fnCursorReadFlatSpec", fn := fun _ => fun
  | [d1, d2, d3, d4] => { results := [.lit (.bool false)], args := [d1, d2, d3, d4] }
  | _ => none }
def FnCursorReadFlatSpecWrongFalsely : Prop := fnCursorReadFlatSpecRow.holds Trym.pinned (OpenSpec.ofChange fnCursorReadFlatSpecWrong)

/-- 'zzlaws_root_b1.FnCursorReadSplitComposes': WHATEVER THE INPUT: true; the input reads as it did. -/
def fnCursorReadSplitComposesSpec : ChangeSpec := { name := "fnCursorReadSplitComposes", fn := fun _ => fun
  | [d1, d2, d3, d4, d5] => { results := [.lit (.bool true)], args := [d1, d2, d3, d4, d5] }
  | _ => none }
def fnCursorReadSplitComposesRow : OpenClaim := { program := "qxb6602285amods", sum := "c33b3674b1d93b2cefe4ed0a293daea9eb7daf76fb8e3410f309e5225e5af035", func := "example.com/throughway/throughway/zzlaws_root_b1.FnCursorReadSplitComposes", spec := "fnCursorReadSplitComposes", make := .lifted ["publicsums"], apart := false }
def FnCursorReadSplitComposesSaid : Prop := fnCursorReadSplitComposesRow.holds Trym.pinned (OpenSpec.ofChange fnCursorReadSplitComposesSpec)

/-- ITS FALSE NEIGHBOUR: 'it returns false'. Refute it at one input. -/
def fnCursorReadSplitComposesWrong : ChangeSpec := { name := "fnCursorReadSplitComposes", fn := fun _ => fun
  | [d1, d2, d3, d4, d5] => { results := [.lit (.bool false)], args := [d1, d2, d3, d4, d5] }
  | _ => none }
def FnCursorReadSplitComposesWrongFalsely : Prop := fnCursorReadSplitComposesRow.holds Trym.pinned (OpenSpec.ofChange fnCursorReadSplitComposesWrong)

end Rows
end Go.Proofs.Qxb6602285aMods
