/-
  'Rows.FnClausesTileAtTopLevelCommasSaid': the row's proof, over the walk of Qxb6601099aModsLaw.lean.
-/
import Derived.Test.Qxb6601099aModsRows
import Derived.Test.Qxb6601099aModsLaw
import Derived.ProofKit
import Derived.OpenShut
import Derived.ShutString
import Derived.SliceStrings
import Derived.ChangeOld
import Derived.Below
namespace Go.Proofs.Qxb6601099aMods.fnClausesTileAtTopLevelCommas
open Go.ChangeShapes Go.WideShapes Go.ChangeAt Go.RowKit

theorem own : ownKnob Trym.prog.godebug = none := by kernel_rfl
theorem laidOut : laidOutB Trym.prog = true := by kernel_rfl

/-- The walk, at whatever lengths. -/
theorem walk (ka : Option Addr) (kn kc : Nat) (ta : Option Addr) (tn tc : Nat) (kx : Nat → Int) (tx : Nat → ByteArray) (w : World) (hk : kn ≤ maxLen) (ht : tn ≤ maxLen)
    (hK : KindsAt w ka kn kx) (hT : TextsAt w ta tn tx) (hx : ∀ k, k < tn → (tx k).size ≤ maxLen) :
    Calls Trym.prog 3 #[.slice ka kn kc, .slice ta tn tc] w fun e w' => e = .returned (.bool true) ∧ Below w.heap.size w w' := by
  by_cases h1 : kn ≤ 65536
  · by_cases h2 : tn ≤ 65536
    · exact law_main ka kn kc ta tn tc kx tx w h1 h2 hK hT hx
    · have d1 : decide ((65536 : Int) < (kn : Int)) = false := by simp; omega
      have d2 : decide ((65536 : Int) < (tn : Int)) = true := by simp; omega
      go_enter Trym.func3, Trym.ntmps3
      go_wp2_with fail
      refine (bytes6_any ka kn kc ta tn tc tx _ hk ht hT hx).mono ?_
      rintro e w' ⟨⟨r, rfl⟩, hw'⟩
      have hw := hw'.symm
      clear hw'
      subst hw
      cases r
      all_goals
        go_wp2
        go_ret
        exact ⟨rfl, Below.refl _ _⟩
  · have d1 : decide ((65536 : Int) < (kn : Int)) = true := by simp; omega
    go_enter Trym.func3, Trym.ntmps3
    go_wp2_with fail
    refine (bytes6_any ka kn kc ta tn tc tx _ hk ht hT hx).mono ?_
    rintro e w' ⟨⟨r, rfl⟩, hw'⟩
    have hw := hw'.symm
    clear hw'
    subst hw
    cases r
    all_goals
      go_wp2
      go_ret
      exact ⟨rfl, Below.refl _ _⟩

theorem spot_none {w : World} {x : Addr} {v : Value} (h : w.cell? (x.add 0) = some v) : x.spot = none := by
  have := World.cell?_spot h
  simpa [Addr.add] using this

/-! ### THE ROW's STEP -/
set_option maxRecDepth 100000 in
theorem lifted (os : Os) (started : os.Started) (H : Type) (enc : TypeId × Value → H) :
    ReturnsInHanded {} Trym.checked os 3 .any (Rows.fnClausesTileAtTopLevelCommasSpec.pre6 enc Trym.prog Trym.f3 Rows.fnClausesTileAtTopLevelCommasRow.domain false) (Rows.fnClausesTileAtTopLevelCommasSpec.post enc Trym.prog Trym.f3 false true false false) := by
  refine returnsInHanded_of_change (C := Trym.checked) own started (by kernel_rfl) Trym.func3
    (ChangeSpec.witness6 (enc := enc) (C := Trym.checked) false ⟨#[], #[.slice none 0 0, .slice none 0 0], []⟩ 8 (by kernel_rfl) (by kernel_rfl) (by kernel_rfl) (by kernel_rfl)) ?_
  intro W base args ds gs before hval0 hW hcnd _
  have hval : ∀ (j : Nat) t v, Trym.f3.params[j]? = some t → args[j]? = some v → Value.okWide Trym.prog W .any base t v := hval0
  have hW' := hW
  obtain ⟨p, q, hA0, hV, rfl, hfz, hnd⟩ := hW
  have hA : DataW.TrodAll enc Trym.prog W 0 (fun _ => true) true Trym.f3.params.toList args.toList ds p := hA0
  rw [Trym.params3] at hA hval
  obtain ⟨v0, vs0, d0, ds0, p0, q0, hargs, rfl, rfl, h0, r0⟩ := trodAll_cons hA
  obtain ⟨v1, vs1, d1, ds1, p1, q1, rfl, rfl, rfl, h1, r1⟩ := trodAll_cons r0
  obtain ⟨rfl, rfl, rfl⟩ := trodAll_nil r1
  obtain rfl : args = #[v0, v1] := by cases args; simp_all
  obtain ⟨rfl, rfl⟩ := trodVars_none hV
  obtain ⟨a0, len0, cap0, rfl⟩ := okWide_slice Trym.underlying22 (hval 0 22 v0 rfl rfl)
  obtain ⟨a1, len1, cap1, rfl⟩ := okWide_slice Trym.underlying23 (hval 1 23 v1 rfl rfl)
  have k0 := h0
  have k1 := h1
  have lt0 : ∀ x ∈ p0, x.block < W.heap.size := by obtain ⟨m, hm⟩ := k0; exact DataW.trod_lt m _ _ _ hm
  have lt1 : ∀ x ∈ p1, x.block < W.heap.size := by obtain ⟨m, hm⟩ := k1; exact DataW.trod_lt m _ _ _ hm
  obtain ⟨kx, m0, w0⟩ : ∃ kx : Nat → Int, len0 ≤ maxLen ∧ KindsAt W a0 len0 kx := by
    obtain ⟨fuel, hf⟩ := h0
    rcases open_ints Trym.underlying22 Trym.underlying3 (by kernel_rfl) hf with ⟨hcs, _⟩ | ⟨x, l, c, zs, hcs, _, hl, hm, hz, _, hcell, hwz⟩
    · simp [Value.cells] at hcs
      obtain ⟨rfl, rfl, rfl⟩ := hcs
      exact ⟨fun _ => 0, Nat.zero_le _, fun h => absurd h (by omega)⟩
    · simp [Value.cells] at hcs
      obtain ⟨rfl, rfl, rfl⟩ := hcs
      have hz' : zs.length = cap0 := by simpa using hz
      refine ⟨fun i => zs.getD i 0, by omega, fun hp => ?_⟩
      obtain ⟨b, off, spot⟩ := x
      have hspot : spot = none := spot_none (hcell 0 (by omega))
      subst hspot
      exact ⟨b, off, rfl, fun k hk => by rw [← add_plain]; exact hcell k (by omega)⟩
  obtain ⟨tx, m1, w1, x1⟩ : ∃ tx : Nat → ByteArray, len1 ≤ maxLen ∧ TextsAt W a1 len1 tx ∧ ∀ k, k < len1 → (tx k).size ≤ maxLen := by
    obtain ⟨fuel, hf⟩ := h1
    rcases open_strings Trym.underlying23 Trym.underlying9 (by kernel_rfl) hf with ⟨hcs, _⟩ | ⟨x, l, c, zs, hcs, _, hl, hm, hz, _, hcell, hwz⟩
    · simp [Value.cells] at hcs
      obtain ⟨rfl, rfl, rfl⟩ := hcs
      exact ⟨fun _ => ByteArray.empty, Nat.zero_le _, fun h => absurd h (by omega), fun k hk => absurd hk (by omega)⟩
    · simp [Value.cells] at hcs
      obtain ⟨rfl, rfl, rfl⟩ := hcs
      have hz' : zs.length = cap1 := by simpa using hz
      refine ⟨fun i => zs.getD i ByteArray.empty, by omega, fun hp => ?_, fun k hk => ?_⟩
      · obtain ⟨b, off, spot⟩ := x
        have hspot : spot = none := spot_none (hcell 0 (by omega))
        subst hspot
        exact ⟨b, off, rfl, fun k hk => by rw [← add_plain]; exact hcell k (by omega)⟩
      · have hk' : k < zs.length := by omega
        simp only [List.getD_eq_getElem?_getD, List.getElem?_eq_getElem hk', Option.getD_some]
        exact hwz _ (List.getElem_mem hk')
  clear hA0 hval0
  refine (walk a0 len0 cap0 a1 len1 cap1 kx tx W m0 m1 w0 w1 x1).mono fun e W' ⟨he, bel⟩ => ?_
  subst he
  exact ⟨_, rfl, _, _, _, [], _, [], hW', trodAll_mk1 (shut_bool Trym.underlying4 _), (trodAll_cons_mk (Below.trod laidOut (by kernel_rfl) (of_decide_eq_true (by kernel_rfl)) k0 bel lt0) (trodAll_cons_mk (Below.trod laidOut (by kernel_rfl) (of_decide_eq_true (by kernel_rfl)) k1 bel lt1) trodAll_mk0)), rfl, bel.frame _, fun h => by cases h⟩

theorem over : Rows.fnClausesTileAtTopLevelCommasRow.holds Trym.pinned (OpenSpec.ofChange Rows.fnClausesTileAtTopLevelCommasSpec) :=
  OpenClaim.holds_of_wide 3 Trym.f3 rfl rfl rfl rfl rfl rfl rfl ⟨rfl, rfl, rfl, rfl, rfl⟩ rfl rfl rfl rfl rfl (by kernel_rfl) Trym.func3 (by kernel_rfl)
    (of_decide_eq_true (by kernel_rfl)) (by unfold Func.isWrapper; first | (rw [if_pos (by decide +kernel)]; kernel_rfl) | (rw [if_neg (by decide +kernel)]; exact ⟨rfl, rfl⟩))
    (fun os started H enc _ => lifted os started H enc)

/-- ████ THE STATEMENT ████ -/
theorem proved : Rows.FnClausesTileAtTopLevelCommasSaid := over
end Go.Proofs.Qxb6601099aMods.fnClausesTileAtTopLevelCommas
