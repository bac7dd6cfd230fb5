/-
  The row's proof, over the walks of Qxb6602649aModsAlpha and Qxb6602649aModsValid; its frame is the one that the tool for shells writes for this function, with 'Below' in the place of 'Grown' (the conversion to bytes lays a block that bears a mark).
-/
import Derived.Test.Qxb6602649aModsRows
import Derived.Test.Qxb6602649aModsValid
import Derived.WalkKit
import Derived.ProofKit
import Derived.OpenShut
import Derived.ShutString
import Derived.ChangeOld
import Derived.Below
namespace Go.Proofs.Qxb6602649aMods.fnValidIDMatchesAlphabetModel
open Go.ChangeShapes Go.WideShapes Go.ChangeAt Go.RowKit
open Go.ChangeMaps (open_string shut_string)
set_option linter.unusedVariables false      -- a walk need not use every 'w<i>' (that an integer argument fits its kind)

theorem own : ownKnob Trym.prog.godebug = none := by kernel_rfl

/-! ### STEP 1: THE WALK -/
theorem same_answer {s : ByteArray} {a b : Bool} (ha : a = true ↔ Valid s) (hb : b = true ↔ Valid s) : (a == b) = true := by
  cases a <;> cases b <;> simp_all

theorem walk (a0 : ByteArray) (w0 : a0.size ≤ maxLen) (w : World) :
    Calls Trym.prog 3 #[.string a0] w fun e w' => e = .returned (.bool true) ∧ Below w.heap.size w w' := by
  by_cases h1 : a0.size ≤ 1048576
  · have d1 : decide (a0.size ≤ 1048576) = true := by simpa using h1
    by_cases h2 : a0.size ≤ 65536
    · have d2 : decide ((65536 : Int) < (a0.size : Int)) = false := by simp; omega
      go_enter Trym.func3, Trym.ntmps3
      go_wp2_with fail
      refine (bytes_any a0 _ w0).mono ?_
      rintro e w' ⟨rfl, hw'⟩
      have hw := hw'.symm
      clear hw'
      subst hw
      go_wp2_with fail
      refine (zzvalid_any a0 _ h2).mono ?_
      rintro e w1 ⟨⟨r, rfl, hr⟩, hB⟩
      have HR : Hid (r = true ↔ Valid a0) := hr
      clear hr
      go_wp2_with fail
      refine (model_any a0 _ h2).mono ?_
      rintro e w2 ⟨⟨r2, rfl, hr2⟩, hw2⟩
      have HR2 : Hid (r2 = true ↔ Valid a0) := hr2
      have hw3 := hw2.symm
      clear hr2 hw2
      subst hw3
      have HE : Hid ((r == r2) = true) := same_answer HR.out HR2.out
      clear HR HR2
      go_wp2
      go_ret
      exact ⟨ret_bool HE.out, hB⟩
    · have d2 : decide ((65536 : Int) < (a0.size : Int)) = true := by simp; omega
      go_enter Trym.func3, Trym.ntmps3
      go_wp2_with fail
      refine (bytes_any a0 _ w0).mono ?_
      rintro e w' ⟨rfl, rfl⟩
      go_wp2
      go_ret
      exact ⟨rfl, Below.refl _ _⟩
  · have d1 : decide (a0.size ≤ 1048576) = false := by simpa using h1
    go_enter Trym.func3, Trym.ntmps3
    go_wp2_with fail
    refine (bytes_any a0 _ w0).mono ?_
    rintro e w' ⟨rfl, rfl⟩
    go_wp2
    go_ret
    exact ⟨rfl, Below.refl _ _⟩

/-! ### THE ROW's STEP -/
set_option maxRecDepth 100000 in
theorem lifted (os : Os) (started : os.Started) (H : Type) (enc : TypeId × Value → H) :
    ReturnsInHanded {} Trym.checked os 3 .any (Rows.fnValidIDMatchesAlphabetModelSpec.pre6 enc Trym.prog Trym.f3 Rows.fnValidIDMatchesAlphabetModelRow.domain false) (Rows.fnValidIDMatchesAlphabetModelSpec.post enc Trym.prog Trym.f3 false true false false) := by
  refine returnsInHanded_of_change (C := Trym.checked) own started (by kernel_rfl) Trym.func3
    (ChangeSpec.witness6 (enc := enc) (C := Trym.checked) false ⟨#[], #[.string ByteArray.empty], []⟩ 8 (by kernel_rfl) (by kernel_rfl) (by kernel_rfl) (by kernel_rfl)) ?_
  intro W base args ds gs before hval0 hW hcnd _
  have hval : ∀ (j : Nat) t v, Trym.f3.params[j]? = some t → args[j]? = some v → Value.okWide Trym.prog W .any base t v := hval0
  have hW' := hW
  obtain ⟨p, q, hA0, hV, rfl, hfz, hnd⟩ := hW
  have hA : DataW.TrodAll enc Trym.prog W 0 (fun _ => true) true Trym.f3.params.toList args.toList ds p := hA0
  rw [Trym.params3] at hA hval
  obtain ⟨v0, vs0, d0, ds0, p0, q0, hargs, rfl, rfl, h0, r0⟩ := trodAll_cons hA
  obtain ⟨rfl, rfl, rfl⟩ := trodAll_nil r0
  obtain rfl : args = #[v0] := by cases args; simp_all
  obtain ⟨rfl, rfl⟩ := trodVars_none hV
  obtain ⟨a0, rfl, rfl, rfl, w0⟩ := open_string Trym.underlying9 (hval 0 9 v0 rfl rfl) h0
  clear hA0 hval0
  refine (walk a0 w0 W).mono fun e W' ⟨he, bel⟩ => ?_
  subst he
  exact ⟨_, rfl, _, _, _, [], [], [], hW', trodAll_mk1 (shut_bool Trym.underlying4 _), (trodAll_cons_mk (shut_string Trym.underlying9 w0) trodAll_mk0), rfl, bel.frame _, fun h => by cases h⟩

theorem over : Rows.fnValidIDMatchesAlphabetModelRow.holds Trym.pinned (OpenSpec.ofChange Rows.fnValidIDMatchesAlphabetModelSpec) :=
  OpenClaim.holds_of_wide 3 Trym.f3 rfl rfl rfl rfl rfl rfl rfl ⟨rfl, rfl, rfl, rfl, rfl⟩ rfl rfl rfl rfl rfl (by kernel_rfl) Trym.func3 (by kernel_rfl)
    (of_decide_eq_true (by kernel_rfl)) (by unfold Func.isWrapper; first | (rw [if_pos (by decide +kernel)]; kernel_rfl) | (rw [if_neg (by decide +kernel)]; exact ⟨rfl, rfl⟩))
    (fun os started H enc _ => lifted os started H enc)

/-- ████ THE STATEMENT ████ -/
theorem proved : Rows.FnValidIDMatchesAlphabetModelSaid :=
  over
#print axioms proved
end Go.Proofs.Qxb6602649aMods.fnValidIDMatchesAlphabetModel
