/-
  The row's proof, over the walks of Qxb6602940aModsWep and Qxb6602940aModsModel; its frame is the one that the tool for shells writes for this function, with 'Below' in the place of 'Grown'.
-/
import Derived.Test.Qxb6602940aModsRows
import Derived.Test.Qxb6602940aModsModel
import Derived.WalkKit
import Derived.ProofKit
import Derived.OpenShut
import Derived.ShutString
import Derived.ChangeOld
import Derived.Below
namespace Go.Proofs.Qxb6602940aMods.fnWithoutEnumPrefixMatchesPositionModel
open Go.ChangeShapes Go.WideShapes Go.ChangeAt Go.RowKit
open Go.ChangeMaps (open_string shut_string)
set_option linter.unusedVariables false      -- a walk need not use every 'w<i>' (that an integer argument fits its kind)

theorem own : ownKnob Trym.prog.godebug = none := by kernel_rfl

/-! ### STEP 1: THE WALK -/
/-- It returns a bool. -/
def SomeBool (e : Ending) : Prop := ∃ r, e = .returned (.bool r)

set_option maxHeartbeats 400000 in
theorem bytes_any (a b : ByteArray) (w : World) (ha : a.size ≤ maxLen) (hb : b.size ≤ maxLen) :
    Calls Trym.prog 6 #[.string a, .string b] w fun e w' => SomeBool e ∧ w' = w := by
  unfold maxLen at ha hb
  go_enter Trym.func6, Trym.ntmps6
  go_wp2
  all_goals
    go_ret
    exact ⟨⟨_, rfl⟩, rfl⟩

theorem walk (a0 : ByteArray) (a1 : ByteArray) (w0 : a0.size ≤ maxLen) (w1 : a1.size ≤ maxLen) (w : World) :
    Calls Trym.prog 3 #[.string a0, .string a1] w fun e w' => e = .returned (.bool true) ∧ Below w.heap.size w w' := by
  by_cases h1 : a0.size ≤ 65536
  · have d1 : decide ((65536 : Int) < (a0.size : Int)) = false := by simp; omega
    by_cases h2 : a1.size ≤ 65536
    · have d2 : decide ((65536 : Int) < (a1.size : Int)) = false := by simp; omega
      go_enter Trym.func3, Trym.ntmps3
      go_wp2_with fail
      refine (bytes_any a0 a1 _ w0 w1).mono ?_
      rintro e w' ⟨⟨r, rfl⟩, hw'⟩
      have hw := hw'.symm
      clear hw'
      subst hw
      cases r
      · go_wp2
        go_ret
        exact ⟨rfl, Below.refl _ _⟩
      go_wp2_with fail
      refine (zzwep_any a0 a1 _ (by omega) (by omega)).mono ?_
      rintro e w1 ⟨⟨r1, rfl, hr1⟩, hB1⟩
      have HR1 : Hid (WEP a0 a1 r1) := hr1
      clear hr1
      go_wp2_with fail
      refine (model_any a0 a1 _ h1 h2).mono ?_
      rintro e w2 ⟨⟨r2, rfl, hr2⟩, hB2⟩
      have hrr : r2 = r1 := WEP_uniq hr2 HR1.out
      clear hr2 HR1
      subst hrr
      go_wp2
      go_ret
      exact ⟨ret_bool (by simp), hB1.trans (hB2.mono hB1.size)⟩
    · have d2 : decide ((65536 : Int) < (a1.size : Int)) = true := by simp; omega
      go_enter Trym.func3, Trym.ntmps3
      go_wp2_with fail
      refine (bytes_any a0 a1 _ w0 w1).mono ?_
      rintro e w' ⟨⟨r, rfl⟩, rfl⟩
      cases r
      all_goals
        go_wp2
        go_ret
        exact ⟨rfl, Below.refl _ _⟩
  · have d1 : decide ((65536 : Int) < (a0.size : Int)) = true := by simp; omega
    go_enter Trym.func3, Trym.ntmps3
    go_wp2_with fail
    refine (bytes_any a0 a1 _ w0 w1).mono ?_
    rintro e w' ⟨⟨r, rfl⟩, rfl⟩
    cases r
    all_goals
      go_wp2
      go_ret
      exact ⟨rfl, Below.refl _ _⟩

/-! ### THE ROW's STEP -/
set_option maxRecDepth 100000 in
theorem lifted (os : Os) (started : os.Started) (H : Type) (enc : TypeId × Value → H) :
    ReturnsInHanded {} Trym.checked os 3 .any (Rows.fnWithoutEnumPrefixMatchesPositionModelSpec.pre6 enc Trym.prog Trym.f3 Rows.fnWithoutEnumPrefixMatchesPositionModelRow.domain false) (Rows.fnWithoutEnumPrefixMatchesPositionModelSpec.post enc Trym.prog Trym.f3 false true false false) := by
  refine returnsInHanded_of_change (C := Trym.checked) own started (by kernel_rfl) Trym.func3
    (ChangeSpec.witness6 (enc := enc) (C := Trym.checked) false ⟨#[], #[.string ByteArray.empty, .string ByteArray.empty], []⟩ 8 (by kernel_rfl) (by kernel_rfl) (by kernel_rfl) (by kernel_rfl)) ?_
  intro W base args ds gs before hval0 hW hcnd _
  have hval : ∀ (j : Nat) t v, Trym.f3.params[j]? = some t → args[j]? = some v → Value.okWide Trym.prog W .any base t v := hval0
  have hW' := hW
  obtain ⟨p, q, hA0, hV, rfl, hfz, hnd⟩ := hW
  have hA : DataW.TrodAll enc Trym.prog W 0 (fun _ => true) true Trym.f3.params.toList args.toList ds p := hA0
  rw [Trym.params3] at hA hval
  obtain ⟨v0, vs0, d0, ds0, p0, q0, hargs, rfl, rfl, h0, r0⟩ := trodAll_cons hA
  obtain ⟨v1, vs1, d1, ds1, p1, q1, rfl, rfl, rfl, h1, r1⟩ := trodAll_cons r0
  obtain ⟨rfl, rfl, rfl⟩ := trodAll_nil r1
  obtain rfl : args = #[v0, v1] := by cases args; simp_all
  obtain ⟨rfl, rfl⟩ := trodVars_none hV
  obtain ⟨a0, rfl, rfl, rfl, w0⟩ := open_string Trym.underlying9 (hval 0 9 v0 rfl rfl) h0
  obtain ⟨a1, rfl, rfl, rfl, w1⟩ := open_string Trym.underlying9 (hval 1 9 v1 rfl rfl) h1
  clear hA0 hval0
  refine (walk a0 a1 w0 w1 W).mono fun e W' ⟨he, bel⟩ => ?_
  subst he
  exact ⟨_, rfl, _, _, _, [], [], [], hW', trodAll_mk1 (shut_bool Trym.underlying4 _), (trodAll_cons_mk (shut_string Trym.underlying9 w0) (trodAll_cons_mk (shut_string Trym.underlying9 w1) trodAll_mk0)), rfl, bel.frame _, fun h => by cases h⟩

theorem over : Rows.fnWithoutEnumPrefixMatchesPositionModelRow.holds Trym.pinned (OpenSpec.ofChange Rows.fnWithoutEnumPrefixMatchesPositionModelSpec) :=
  OpenClaim.holds_of_wide 3 Trym.f3 rfl rfl rfl rfl rfl rfl rfl ⟨rfl, rfl, rfl, rfl, rfl⟩ rfl rfl rfl rfl rfl (by kernel_rfl) Trym.func3 (by kernel_rfl)
    (of_decide_eq_true (by kernel_rfl)) (by unfold Func.isWrapper; first | (rw [if_pos (by decide +kernel)]; kernel_rfl) | (rw [if_neg (by decide +kernel)]; exact ⟨rfl, rfl⟩))
    (fun os started H enc _ => lifted os started H enc)

/-- ████ THE STATEMENT ████ -/
theorem proved : Rows.FnWithoutEnumPrefixMatchesPositionModelSaid :=
  over
#print axioms proved
end Go.Proofs.Qxb6602940aMods.fnWithoutEnumPrefixMatchesPositionModel
