import Derived.Test.Qxb6601099aModsProg
import Derived.WalkKit
import Derived.WalkSpells
namespace Go.Proofs.Qxb6601099aMods
open Go.RowKit

/-- The texts lie at the slice's address. -/
def TextsAt (w : World) (ta : Option Addr) (tn : Nat) (tx : Nat → ByteArray) : Prop :=
  0 < tn → ∃ b off, ta = some ⟨b, off, none⟩ ∧ ∀ k, k < tn → w.cell? ⟨b, off + k, none⟩ = some (.string (tx k))

/-- It returns a bool. -/
def SomeBool (e : Ending) : Prop := ∃ r, e = .returned (.bool r)
/-- It returns a number. -/
def SomeInt (e : Ending) : Prop := ∃ r : Int, e = .returned (.int .i64 r)

set_option maxHeartbeats 400000 in
theorem bytes6_early (ka : Option Addr) (kn kc : Nat) (ta : Option Addr) (tn tc : Nat) (w : World) (hk : kn ≤ maxLen) (ht : tn ≤ maxLen) (h : 1048576 < kn + tn) :
    Calls Trym.prog 6 #[.slice ka kn kc, .slice ta tn tc] w fun e w' => SomeBool e ∧ w' = w := by
  unfold maxLen at hk ht
  go_enter Trym.func6, Trym.ntmps6
  go_wp2
  all_goals go_ret
  all_goals exact ⟨⟨_, rfl⟩, rfl⟩

set_option maxHeartbeats 400000 in
theorem bytes6_zero (ka : Option Addr) (kn kc : Nat) (ta : Option Addr) (tc : Nat) (w : World) (hk : kn ≤ 1048576) :
    Calls Trym.prog 6 #[.slice ka kn kc, .slice ta 0 tc] w fun e w' => SomeBool e ∧ w' = w := by
  have d1 : decide ((1048576 : Int) < (kn : Int)) = false := by simp; omega
  go_enter Trym.func6, Trym.ntmps6
  go_wp2
  go_loop [5, 6] (fun t i => i = .int .i64 0 ∧ ∃ m : Nat, m ≤ 1048576 ∧ t = .int .i64 m) (fun _ _ => 0)
  case atStart => exact ⟨rfl, kn, hk, rfl⟩
  case round =>
    obtain ⟨rfl, m, hm, rfl⟩ := hrel
    go_wp2
    go_ret
    exact ⟨⟨_, rfl⟩, rfl⟩

set_option maxHeartbeats 400000 in
theorem bytes6_pos (ka : Option Addr) (kn kc b off tn tc : Nat) (tx : Nat → ByteArray) (w : World) (h : kn + tn ≤ 1048576)
    (hc : ∀ k, k < tn → w.cell? ⟨b, off + k, none⟩ = some (.string (tx k))) (hx : ∀ k, k < tn → (tx k).size ≤ maxLen) :
    Calls Trym.prog 6 #[.slice ka kn kc, .slice (some ⟨b, off, none⟩) tn tc] w fun e w' => SomeBool e ∧ w' = w := by
  have d1 : decide ((1048576 : Int) < (kn : Int)) = false := by simp; omega
  have d2 : decide ((1048576 : Int) < (tn : Int)) = false := by simp; omega
  have d3 : decide ((1048576 : Int) < (kn : Int) + (tn : Int)) = false := by simp; omega
  go_enter Trym.func6, Trym.ntmps6
  go_wp2
  go_loop [5, 6] (fun t i => ∃ k : Nat, k ≤ tn ∧ i = .int .i64 k ∧ ∃ m : Nat, m ≤ 1048576 ∧ t = .int .i64 m) (fun _ i => tn - (intOf i).toNat)
  case atStart => exact ⟨0, Nat.zero_le _, rfl, kn + tn, h, by go_num⟩
  case round =>
    obtain ⟨k, hk, rfl, m, hm, rfl⟩ := hrel
    by_cases hlt : k < tn
    · have hcell := hc k hlt
      have hsz := hx k hlt
      unfold maxLen at hsz
      clear hc hx
      by_cases g1 : (tx k).size ≤ 1048576
      · by_cases g2 : m + (tx k).size ≤ 1048576
        · go_wp2
          go_round
          case rel => exact ⟨k + 1, by omega, by go_num, m + (tx k).size, g2, by go_num⟩
          case measure => simp [intOf]; omega
        · go_wp2
          go_ret
          exact ⟨⟨_, rfl⟩, rfl⟩
      · go_wp2
        go_ret
        exact ⟨⟨_, rfl⟩, rfl⟩
    · go_wp2
      go_ret
      exact ⟨⟨_, rfl⟩, rfl⟩

theorem bytes6_any (ka : Option Addr) (kn kc : Nat) (ta : Option Addr) (tn tc : Nat) (tx : Nat → ByteArray) (w : World) (hk : kn ≤ maxLen) (ht : tn ≤ maxLen) (hT : TextsAt w ta tn tx) (hx : ∀ k, k < tn → (tx k).size ≤ maxLen) :
    Calls Trym.prog 6 #[.slice ka kn kc, .slice ta tn tc] w fun e w' => SomeBool e ∧ w' = w := by
  by_cases h : 1048576 < kn + tn
  · exact bytes6_early ka kn kc ta tn tc w hk ht h
  · rcases Nat.eq_zero_or_pos tn with rfl | hp
    · exact bytes6_zero ka kn kc ta tc w (by omega)
    · obtain ⟨b, off, rfl, hc⟩ := hT hp
      exact bytes6_pos ka kn kc b off tn tc tx w (by omega) hc hx

set_option maxHeartbeats 400000 in
theorem bytes7_zero (ka : Option Addr) (kn kc : Nat) (ta : Option Addr) (tc : Nat) (w : World) (hk : kn ≤ 65536) :
    Calls Trym.prog 7 #[.slice ka kn kc, .slice ta 0 tc] w fun e w' => SomeInt e ∧ w' = w := by
  have d1 : decide ((65536 : Int) < (kn : Int)) = false := by simp; omega
  go_enter Trym.func7, Trym.ntmps7
  go_wp2
  go_loop [5, 6] (fun t i => i = .int .i64 0 ∧ ∃ m : Nat, m ≤ 4194304 ∧ t = .int .i64 m) (fun _ _ => 0)
  case atStart => exact ⟨rfl, 8 * kn, by omega, by go_num⟩
  case round =>
    obtain ⟨rfl, m, hm, rfl⟩ := hrel
    go_wp2
    go_ret
    exact ⟨⟨_, rfl⟩, rfl⟩

set_option maxHeartbeats 400000 in
theorem bytes7_pos (ka : Option Addr) (kn kc b off tn tc : Nat) (tx : Nat → ByteArray) (w : World) (h1 : kn ≤ 65536) (h2 : tn ≤ 65536)
    (hc : ∀ k, k < tn → w.cell? ⟨b, off + k, none⟩ = some (.string (tx k))) (hx : ∀ k, k < tn → (tx k).size ≤ maxLen) :
    Calls Trym.prog 7 #[.slice ka kn kc, .slice (some ⟨b, off, none⟩) tn tc] w fun e w' => SomeInt e ∧ w' = w := by
  have d1 : decide ((65536 : Int) < (kn : Int)) = false := by simp; omega
  have d2 : decide ((65536 : Int) < (tn : Int)) = false := by simp; omega
  go_enter Trym.func7, Trym.ntmps7
  go_wp2
  go_loop [5, 6] (fun t i => ∃ k : Nat, k ≤ tn ∧ i = .int .i64 k ∧ ∃ m : Nat, m ≤ 4194304 ∧ t = .int .i64 m) (fun _ i => tn - (intOf i).toNat)
  case atStart => exact ⟨0, Nat.zero_le _, rfl, 8 * kn + 16 * tn, by omega, by go_num⟩
  case round =>
    obtain ⟨k, hk, rfl, m, hm, rfl⟩ := hrel
    by_cases hlt : k < tn
    · have hcell := hc k hlt
      have hsz := hx k hlt
      unfold maxLen at hsz
      clear hc hx
      by_cases g1 : (tx k).size ≤ 1048576
      · by_cases g2 : m + (tx k).size ≤ 1048576
        · go_wp2
          go_round
          case rel => exact ⟨k + 1, by omega, by go_num, m + (tx k).size, by omega, by go_num⟩
          case measure => simp [intOf]; omega
        · go_wp2
          go_ret
          exact ⟨⟨_, rfl⟩, rfl⟩
      · go_wp2
        go_ret
        exact ⟨⟨_, rfl⟩, rfl⟩
    · go_wp2
      go_ret
      exact ⟨⟨_, rfl⟩, rfl⟩

theorem bytes7_any (ka : Option Addr) (kn kc : Nat) (ta : Option Addr) (tn tc : Nat) (tx : Nat → ByteArray) (w : World) (h1 : kn ≤ 65536) (h2 : tn ≤ 65536) (hT : TextsAt w ta tn tx) (hx : ∀ k, k < tn → (tx k).size ≤ maxLen) :
    Calls Trym.prog 7 #[.slice ka kn kc, .slice ta tn tc] w fun e w' => SomeInt e ∧ w' = w := by
  rcases Nat.eq_zero_or_pos tn with rfl | hp
  · exact bytes7_zero ka kn kc ta tc w h1
  · obtain ⟨b, off, rfl, hc⟩ := hT hp
    exact bytes7_pos ka kn kc b off tn tc tx w h1 h2 hc hx
end Go.Proofs.Qxb6601099aMods
