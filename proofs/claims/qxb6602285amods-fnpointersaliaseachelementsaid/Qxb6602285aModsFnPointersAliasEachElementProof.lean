/-
  The row's proof, over the walks of Qxb6602285aModsClone and Qxb6602285aModsLaw; its frame is the one that the tool for shells writes for this function.
-/
import Derived.Test.Qxb6602285aModsRows
import Derived.Test.Qxb6602285aModsLaw
import Derived.WalkKit
import Derived.ProofKit
import Derived.OpenShut
import Derived.ShutString
import Derived.ChangeOld
import Derived.Below
namespace Go.Proofs.Qxb6602285aMods.fnPointersAliasEachElement
open Go.ChangeShapes Go.WideShapes Go.ChangeAt Go.RowKit
open Go.ChangeMaps (open_string shut_string)
set_option linter.unusedVariables false

theorem own : ownKnob Trym.prog.godebug = none := by kernel_rfl
theorem laidOut : laidOutB Trym.prog = true := by kernel_rfl

/-- WHAT THE WALK IS TOLD OF A SLICE OF INTEGERS THAT CAME IN: it is nil; or it leads to a row of 'cap' cells, the numbers 'zs' (the first 'len' are its elements, the rest its spare room), each fitting its kind. -/
def IsRow (k : IntKind) (w : World) (a : Option Addr) (len cap : Nat) (zs : List Int) : Prop :=
  (a = none ∧ len = 0 ∧ cap = 0 ∧ zs = []) ∨
  ∃ x, a = some x ∧ len ≤ cap ∧ cap ≤ maxLen ∧ zs.length = cap ∧ (∀ i, i < zs.length → w.cell? (x.add i) = some (.int k (zs.getD i 0))) ∧ ∀ n ∈ zs, (Lit.int k n).wf = true

/-! ### STEP 1: THE WALK -/
/-- More than 131072 numbers: the law looks no further. -/
theorem walk_long (ao : Option Addr) (n c : Nat) (w : World) (hn : n ≤ maxLen) (h : 131072 < n) :
    Calls Trym.prog 4 #[.slice ao n c] w fun e w' => e = .returned (.bool true) ∧ Below w.heap.size w w' := by
  have d2 : decide ((131072 : Int) < (n : Int)) = true := by simp; omega
  by_cases h1 : n ≤ 1048576
  · have d1 : decide (n ≤ 1048576) = true := by simpa using h1
    go_enter Trym.func4, Trym.ntmps4
    go_wp2_with fail
    refine (bytes_any _ n c _ hn).mono ?_
    rintro e w' ⟨rfl, rfl⟩
    go_wp2
    go_ret
    exact ⟨rfl, Below.refl _ _⟩
  · have d1 : decide (n ≤ 1048576) = false := by simpa using h1
    go_enter Trym.func4, Trym.ntmps4
    go_wp2_with fail
    refine (bytes_any _ n c _ hn).mono ?_
    rintro e w' ⟨rfl, rfl⟩
    go_wp2
    go_ret
    exact ⟨rfl, Below.refl _ _⟩

set_option maxRecDepth 100000 in
set_option maxHeartbeats 1000000 in
/-- No number: the five loops are left at once. -/
theorem walk_empty (ao : Option Addr) (c : Nat) (w : World) (h0 : ao = none → c = 0) :
    Calls Trym.prog 4 #[.slice ao 0 c] w fun e w' => e = .returned (.bool true) ∧ Below w.heap.size w w' := by
  go_enter Trym.func4, Trym.ntmps4
  go_wp2_with fail
  refine (bytes_any _ 0 c _ (Nat.zero_le _)).mono ?_
  rintro e w' ⟨rfl, hw'⟩
  have hw := hw'.symm
  clear hw'
  subst hw
  go_wp2_with fail
  refine (clone_any ao 0 c (fun _ => 0) _ (by omega) (fun h => ⟨rfl, h0 h⟩) (fun _ _ k hk => absurd hk (by omega))).mono ?_
  rintro e w1 ⟨ao1, c1, rfl, hB1, h1, _⟩
  go_wp2_with fail
  refine (clone_any ao1 0 c1 (fun _ => 0) _ (by omega) (fun h => ⟨rfl, (h1 h).2⟩) (fun _ _ k hk => absurd hk (by omega))).mono ?_
  rintro e w2 ⟨ao2, c2, rfl, hB2, h2, _⟩
  go_wp2_with fail
  refine (zzpointers_any ao2 0 c2 0 _ (by omega) (fun h => absurd h (by omega))).mono ?_
  rintro e w3 ⟨rfl, hB3, _⟩
  have hB : Below w.heap.size w w3 := (hB1.trans (hB2.mono hB1.size)).trans (hB3.mono (Nat.le_trans hB1.size hB2.size))
  clear hB1 hB2 hB3 h1 h2 h0
  generalize w2.heap.size = g3 at *
  go_wp2
  go_loop [5] (fun i => i = .int .i64 0) (fun _ => 0)
  case atStart => rfl
  case round =>
  obtain rfl := hrel
  go_wp2
  go_loop [6] (fun i => i = .int .i64 0) (fun _ => 0)
  case atStart => rfl
  case round =>
  obtain rfl := hrel
  go_wp2
  go_loop [7] (fun i => i = .int .i64 0) (fun _ => 0)
  case atStart => rfl
  case round =>
  obtain rfl := hrel
  go_wp2
  go_loop [8] (fun i => i = .int .i64 0) (fun _ => 0)
  case atStart => rfl
  case round =>
  obtain rfl := hrel
  go_wp2
  go_loop [9] (fun i => i = .int .i64 0) (fun _ => 0)
  case atStart => rfl
  case round =>
  obtain rfl := hrel
  go_wp2
  go_ret
  exact ⟨rfl, hB⟩

theorem walk (a0 : Option Addr) (len0 cap0 : Nat) (z0 : List Int) (w : World) (w0 : IsRow .u64 w a0 len0 cap0 z0) :
    Calls Trym.prog 4 #[.slice a0 len0 cap0] w fun e w' => e = .returned (.bool true) ∧ Below w.heap.size w w' := by
  rcases w0 with ⟨rfl, rfl, rfl, rfl⟩ | ⟨x, rfl, hl, hm, hz, hc, hw⟩
  · exact walk_empty none 0 w (fun _ => rfl)
  · by_cases h1 : 131072 < len0
    · exact walk_long (some x) len0 cap0 w (by omega) h1
    · rcases Nat.eq_zero_or_pos len0 with rfl | hp
      · exact walk_empty (some x) cap0 w (fun h => by cases h)
      · exact law_pos x len0 cap0 (fun i => z0.getD i 0) w (by omega) hp (fun k hk => hc k (by omega))

/-! ### THE ROW's STEP: WRITTEN OUT: LEAVE IT -/
set_option maxRecDepth 100000 in
theorem lifted (os : Os) (started : os.Started) (H : Type) (enc : TypeId × Value → H) :
    ReturnsInHanded {} Trym.checked os 4 .any (Rows.fnPointersAliasEachElementSpec.pre6 enc Trym.prog Trym.f4 Rows.fnPointersAliasEachElementRow.domain false) (Rows.fnPointersAliasEachElementSpec.post enc Trym.prog Trym.f4 false true false false) := by
  refine returnsInHanded_of_change (C := Trym.checked) own started (by kernel_rfl) Trym.func4
    (ChangeSpec.witness6 (enc := enc) (C := Trym.checked) false ⟨#[], #[.slice none 0 0], []⟩ 8 (by kernel_rfl) (by kernel_rfl) (by kernel_rfl) (by kernel_rfl)) ?_
  intro W base args ds gs before hval0 hW hcnd _
  have hval : ∀ (j : Nat) t v, Trym.f4.params[j]? = some t → args[j]? = some v → Value.okWide Trym.prog W .any base t v := hval0
  have hW' := hW
  obtain ⟨p, q, hA0, hV, rfl, hfz, hnd⟩ := hW
  have hA : DataW.TrodAll enc Trym.prog W 0 (fun _ => true) true Trym.f4.params.toList args.toList ds p := hA0
  rw [Trym.params4] at hA hval
  obtain ⟨v0, vs0, d0, ds0, p0, q0, hargs, rfl, rfl, h0, r0⟩ := trodAll_cons hA
  obtain ⟨rfl, rfl, rfl⟩ := trodAll_nil r0
  obtain rfl : args = #[v0] := by cases args; simp_all
  obtain ⟨rfl, rfl⟩ := trodVars_none hV
  obtain ⟨a0, len0, cap0, rfl⟩ := okWide_slice Trym.underlying27 (hval 0 27 v0 rfl rfl)
  have k0 := h0
  have lt0 : ∀ x ∈ p0, x.block < W.heap.size := by obtain ⟨m, hm⟩ := k0; exact DataW.trod_lt m _ _ _ hm
  obtain ⟨z0, w0⟩ : ∃ zs, IsRow .u64 W a0 len0 cap0 zs := by
    obtain ⟨fuel, hf⟩ := h0
    rcases open_ints Trym.underlying27 Trym.underlying33 (by kernel_rfl) hf with ⟨hcs, _⟩ | ⟨x, l, c, zs, hcs, _, hl, hm, hz, _, hcell, hwz⟩
    · simp [Value.cells] at hcs
      obtain ⟨rfl, rfl, rfl⟩ := hcs
      exact ⟨[], .inl ⟨rfl, rfl, rfl, rfl⟩⟩
    · simp [Value.cells] at hcs
      obtain ⟨rfl, rfl, rfl⟩ := hcs
      exact ⟨zs, .inr ⟨_, rfl, hl, hm, by simpa using hz, hcell, hwz⟩⟩
  clear hA0 hval0
  refine (walk a0 len0 cap0 z0 W w0).mono fun e W' ⟨he, bel⟩ => ?_
  subst he
  exact ⟨_, rfl, _, _, _, [], _, [], hW', trodAll_mk1 (shut_bool Trym.underlying4 _), (trodAll_cons_mk (Below.trod laidOut (by kernel_rfl) (of_decide_eq_true (by kernel_rfl)) k0 bel lt0) trodAll_mk0), rfl, bel.frame _, fun h => by cases h⟩

theorem over : Rows.fnPointersAliasEachElementRow.holds Trym.pinned (OpenSpec.ofChange Rows.fnPointersAliasEachElementSpec) :=
  OpenClaim.holds_of_wide 4 Trym.f4 rfl rfl rfl rfl rfl rfl rfl ⟨rfl, rfl, rfl, rfl, rfl⟩ rfl rfl rfl rfl rfl (by kernel_rfl) Trym.func4 (by kernel_rfl)
    (of_decide_eq_true (by kernel_rfl)) (by unfold Func.isWrapper; first | (rw [if_pos (by decide +kernel)]; kernel_rfl) | (rw [if_neg (by decide +kernel)]; exact ⟨rfl, rfl⟩))
    (fun os started H enc _ => lifted os started H enc)

/-- ████ THE STATEMENT ████ -/
theorem proved : Rows.FnPointersAliasEachElementSaid := over
#print axioms proved
end Go.Proofs.Qxb6602285aMods.fnPointersAliasEachElement
