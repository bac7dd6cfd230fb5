import Derived.Test.Qxb6602649aModsProg
import Derived.WalkKit
import Derived.WalkSpells
import Derived.Laws.IdiomStrings
namespace Go.Proofs.Qxb6602649aMods
open Go.RowKit

/-- An allowed byte. -/
def okc (c : Int) : Bool := decide ((97 ≤ c ∧ c ≤ 122) ∨ (65 ≤ c ∧ c ≤ 90) ∨ (48 ≤ c ∧ c ≤ 57) ∨ c = 46 ∨ c = 95 ∨ c = 58 ∨ c = 45)

/-- The written alphabet. -/
def tabA : Array UInt8 := #[97, 98, 99, 100, 101, 102, 103, 104, 105, 106, 107, 108, 109, 110, 111, 112, 113, 114, 115, 116, 117, 118, 119, 120, 121, 122, 65, 66, 67, 68, 69, 70, 71, 72, 73, 74, 75, 76, 77, 78, 79, 80, 81, 82, 83, 84, 85, 86, 87, 88, 89, 90, 48, 49, 50, 51, 52, 53, 54, 55, 56, 57, 46, 95, 58, 45]
theorem tabA_size : tabA.size = 66 := by decide +kernel

theorem tab_ok : ∀ k, k < 66 → okc ((tabA.getD k 0).toNat : Int) = true := by decide +kernel
theorem tab_all : ∀ c : Nat, c < 256 → okc (c : Int) = true → ∃ j, j < 66 ∧ (tabA.getD j 0).toNat = c := by decide +kernel

theorem tab_get (k : Nat) (h : k < 66) (h' : k < (⟨tabA⟩ : ByteArray).size) : ((⟨tabA⟩ : ByteArray)[k]'h') = tabA.getD k 0 := by
  have hk : k < tabA.size := by rw [tabA_size]; exact h
  rw [Array.getD_eq_getD_getElem?, Array.getElem?_eq_getElem hk]
  rfl

theorem tab_hit {c : Int} {k : Nat} (h : k < 66) {h' : k < (⟨tabA⟩ : ByteArray).size} (ht : ((((⟨tabA⟩ : ByteArray)[k]'h').toNat : Int) == c) = true) : okc c = true := by
  rw [tab_get k h h'] at ht
  have e : ((tabA.getD k 0).toNat : Int) = c := by simpa using ht
  rw [← e]
  exact tab_ok k h
theorem tab_miss {c : Int} {k : Nat} (h : k < 66) {h' : k < (⟨tabA⟩ : ByteArray).size} (ht : ((((⟨tabA⟩ : ByteArray)[k]'h').toNat : Int) == c) = false) : ((tabA.getD k 0).toNat : Int) ≠ c := by
  rw [tab_get k h h'] at ht
  simpa using ht
theorem tab_none {c : Int} (h0 : 0 ≤ c) (h1 : c ≤ 255) (h : ∀ j, j < 66 → ((tabA.getD j 0).toNat : Int) ≠ c) : okc c = false := by
  cases hk : okc c with
  | false => rfl
  | true =>
    obtain ⟨j, hj, e⟩ := tab_all c.toNat (by omega) (by rw [show ((c.toNat : Nat) : Int) = c by omega]; exact hk)
    exact absurd (by omega) (h j hj)

theorem ret_bool {a b : Bool} (h : a = b) : Ending.returned (.bool a) = .returned (.bool b) := by rw [h]

set_option maxHeartbeats 400000 in
theorem alpha_any (c : Int) (w : World) (h0 : 0 ≤ c) (h1 : c ≤ 255) :
    Calls Trym.prog 13 #[.int .u8 c] w fun e w' => e = .returned (.bool (okc c)) ∧ w' = w := by
  go_enter Trym.func13, Trym.ntmps13
  go_wp2
  go_loop [3] (fun i => ∃ k : Nat, k ≤ 66 ∧ i = .int .i64 k ∧ Hid (∀ j, j < k → ((tabA.getD j 0).toNat : Int) ≠ c)) (fun i => 66 - (intOf i).toNat)
  case atStart => exact ⟨0, Nat.zero_le _, rfl, fun j hj => absurd hj (by omega)⟩
  case round =>
    obtain ⟨k, hk, rfl, H⟩ := hrel
    by_cases hk6 : k < 66
    · go_wp2
      · rename_i ht _
        have hc := tab_hit hk6 ht
        go_ret
        exact ⟨ret_bool hc.symm, rfl⟩
      · rename_i _ ht
        have hm := tab_miss hk6 ht
        go_round
        case rel => exact ⟨k + 1, by omega, by go_num, fun j hj => by
          by_cases e : j = k
          · subst e; exact hm
          · exact H.out j (by omega)⟩
        case measure => simp [intOf]; omega
    · obtain rfl : k = 66 := by omega
      have hc := tab_none h0 h1 H.out
      have HC : Hid (okc c = false) := hc
      clear hc
      go_wp2
      go_ret
      exact ⟨ret_bool HC.out.symm, rfl⟩
end Go.Proofs.Qxb6602649aMods
