import Derived.Test.Qxb6602285aModsClone
import Derived.Deep.RegionHeld3
namespace Go.Proofs.Qxb6602285aMods
open Go.RowKit

/-- 'cloneWords', whatever comes in. -/
theorem clone_any (ao : Option Addr) (n c : Nat) (f : Nat → Int) (w : World) (hn : n ≤ 131072) (h0 : ao = none → n = 0 ∧ c = 0) (hc : ∀ ad, ao = some ad → ∀ k, k < n → w.cell? (ad.add k) = some (.int .u64 (f k))) :
    Calls Trym.prog 12 #[.slice ao n c] w fun e w' => ∃ ao' c', e = .returned (.slice ao' n c') ∧ Below w.heap.size w w' ∧ (ao' = none → n = 0 ∧ c' = 0) ∧ (∀ ad, ao' = some ad → ad = ⟨w.heap.size, 0, none⟩ ∧ c' = n ∧ RowIs w' w.heap.size n 33 (fun i => .int .u64 (f i))) := by
  cases ao with
  | none =>
    obtain ⟨rfl, rfl⟩ := h0 rfl
    exact (clone_nil w).mono fun e w' h => ⟨none, 0, h.1, h.2 ▸ Below.refl _ _, fun _ => ⟨rfl, rfl⟩, fun ad h => by cases h⟩
  | some ad =>
    exact (clone_some ad n c f w hn (hc ad rfl)).mono fun e w' h => ⟨_, n, h.1, h.2.1, fun h => (by cases h), fun ad h' => (by cases h'; exact ⟨rfl, rfl, h.2.2⟩)⟩

/-- What '^(uint64(i) + 1)' comes to. -/
def xv (i : Nat) : Int := bits .xor .u64 (if IntKind.u64.signed = true then -1 else IntKind.u64.max) ((i : Int) + 1)

theorem add0 (g j : Nat) : (⟨g, 0, none⟩ : Addr).add j = ⟨g, j, none⟩ := by unfold Addr.add; split <;> simp_all

set_option maxRecDepth 100000 in
set_option maxHeartbeats 1000000 in
theorem law_pos (ad : Addr) (n c : Nat) (f : Nat → Int) (w : World) (hn : n ≤ 131072) (hp : 0 < n) (hc : ∀ k, k < n → w.cell? (ad.add k) = some (.int .u64 (f k))) :
    Calls Trym.prog 4 #[.slice (some ad) n c] w fun e w' => e = .returned (.bool true) ∧ Below w.heap.size w w' := by
  have d1 : decide (n ≤ 1048576) = true := by simp; omega
  have d2 : decide ((131072 : Int) < (n : Int)) = false := by simp; omega
  go_enter Trym.func4, Trym.ntmps4
  go_wp2_with fail
  refine (bytes_any _ n c _ (by unfold maxLen; omega)).mono ?_
  rintro e w' ⟨rfl, hw'⟩
  have hw := hw'.symm
  clear hw'
  subst hw
  go_wp2_with fail
  refine (clone_some ad n c f _ hn hc).mono ?_
  rintro e w1 ⟨rfl, hB1, hR1⟩
  clear hc
  go_wp2_with fail
  refine (clone_some ⟨w.heap.size, 0, none⟩ n n f _ hn (fun k hk => by rw [add0]; exact (hR1.cell k hk).1)).mono ?_
  rintro e w2 ⟨rfl, hB2, hR2⟩
  go_wp2_with fail
  refine (zzpointers_any _ n n w1.heap.size _ hn (fun _ => rfl)).mono ?_
  rintro e w3 ⟨rfl, hB3, hR3⟩
  have z1 := hR1.lt
  have z2 := hR2.lt
  have z3 := hR3.lt
  have R1 := (hR1.below hB2 z1).below hB3 (by have := hB2.size; omega)
  have R2 := hR2.below hB3 z2
  have hB : Below w.heap.size w w3 := (hB1.trans (hB2.mono (by omega))).trans (hB3.mono (by omega))
  clear hR1 hR2 hB1 hB2 hB3 d1
  generalize w1.heap.size = g2 at *
  generalize w2.heap.size = g3 at *
  go_wp2
  go_loopw [5] (fun i wr => ∃ k : Nat, k ≤ n ∧ i = .int .i64 k ∧ RowIs wr w.heap.size n 33 (fun i => .int .u64 (f i)) ∧ RowIs wr g2 n 33 (fun i => .int .u64 (f i)) ∧ RowIs wr g3 n 32 (fun i => .pointer (some ⟨g2, i, none⟩)) ∧ Below w.heap.size w wr) (fun i _ => n - (intOf i).toNat)
  case atStart => exact ⟨0, Nat.zero_le _, rfl, R1, R2, hR3, hB⟩
  case round =>
    clear R1 R2 hR3 hB z3
    obtain ⟨k, hk, rfl, R1, R2, R3, hB⟩ := hrel
    by_cases hkn : k < n
    · obtain ⟨c1, _⟩ := R1.cell k hkn
      obtain ⟨c2, _⟩ := R2.cell k hkn
      obtain ⟨c3, _⟩ := R3.cell k hkn
      have i1 : (0 : Int) ≤ (k : Int) := by omega
      have i2 : (k : Int) < (n : Int) := by omega
      have hBd := hB.drew
      go_wp2
      go_region_held3 (fun wr => wr.cell? ⟨w.heap.size, k, none⟩ = some (.int .u64 (f k)) ∧ wr.cell? ⟨g2, k, none⟩ = some (.int .u64 (f k)) ∧ wr.cell? ⟨g3, k, none⟩ = some (.pointer (some ⟨g2, k, none⟩))) (go_keep) (fail)
      go_wp2
      go_roundw
      case rel => exact ⟨k + 1, by omega, by go_num, R1, R2, R3, hBd⟩
      case measure => simp [intOf]; omega
    · obtain rfl : k = n := by omega
      go_wp2
      go_loopw [6] (fun i wr => ∃ j : Nat, j ≤ k ∧ i = .int .i64 j ∧ RowIs wr g2 k 33 (fun i => if i < j then .int .u64 ((i : Int) + 1) else .int .u64 (f i)) ∧ RowIs wr g3 k 32 (fun i => .pointer (some ⟨g2, i, none⟩)) ∧ Below w.heap.size w wr) (fun i _ => k - (intOf i).toNat)
      case atStart => exact ⟨0, Nat.zero_le _, rfl, by simpa using R2, R3, hB⟩
      case round =>
        clear R1 R2 R3 hB
        obtain ⟨j, hj, rfl, R2, R3, hB⟩ := hrel
        by_cases hjk : j < k
        · obtain ⟨c2, f2⟩ := R2.cell j hjk
          obtain ⟨c3, _⟩ := R3.cell j hjk
          simp only [Nat.lt_irrefl, if_false] at c2
          have hR' := R2.put (f' := fun i => if i < j + 1 then .int .u64 ((i : Int) + 1) else .int .u64 (f i)) j (.int .u64 ((j : Int) + 1)) (by simp) (fun m _ hm => by
            by_cases h1 : m < j
            · simp [h1, show m < j + 1 by omega]
            · simp [h1, show ¬ m < j + 1 by omega])
          have hR3' := R3.setCell_other ⟨g2, j, none⟩ (.int .u64 ((j : Int) + 1)) (by simp; omega)
          have hB' := hB.setCell (p := ⟨g2, j, none⟩) (by simp; omega) (.int .u64 ((j : Int) + 1))
          clear R2 R3 hB
          go_wp2
          go_roundw
          case rel => exact ⟨j + 1, by omega, by go_num, hR', hR3', hB'⟩
          case measure => simp [intOf]; omega
        · obtain rfl : j = k := by omega
          have R2' : RowIs wr g2 j 33 (fun i => .int .u64 ((i : Int) + 1)) := by
            obtain ⟨cur, hc, hs, hf⟩ := R2
            exact ⟨cur, hc, hs, fun i hi => by rw [hf i hi]; simp [hi]⟩
          clear R2
          go_wp2
          go_loop [7] (fun i => ∃ m : Nat, m ≤ j ∧ i = .int .i64 m) (fun i => j - (intOf i).toNat)
          case atStart => exact ⟨0, Nat.zero_le _, rfl⟩
          case round =>
            obtain ⟨m, hm, rfl⟩ := hrel
            by_cases hmj : m < j
            · obtain ⟨c2, _⟩ := R2'.cell m hmj
              go_wp2
              go_round
              case rel => exact ⟨m + 1, by omega, by go_num⟩
              case measure => simp [intOf]; omega
            · go_wp2
              go_loopw [8] (fun i wr => ∃ m : Nat, m ≤ j ∧ i = .int .i64 m ∧ RowIs wr g2 j 33 (fun i => if i < m then .int .u64 (xv i) else .int .u64 ((i : Int) + 1)) ∧ RowIs wr g3 j 32 (fun i => .pointer (some ⟨g2, i, none⟩)) ∧ Below w.heap.size w wr) (fun i _ => j - (intOf i).toNat)
              case atStart => exact ⟨0, Nat.zero_le _, rfl, by simpa using R2', R3, hB⟩
              case round =>
                clear R2' R3 hB
                obtain ⟨m', hm', rfl, R2, R3, hB⟩ := hrel
                by_cases hmj' : m' < j
                · obtain ⟨c2, f2⟩ := R2.cell m' hmj'
                  obtain ⟨c3, _⟩ := R3.cell m' hmj'
                  simp only [Nat.lt_irrefl, if_false] at c2
                  have hR' := R2.put (f' := fun i => if i < m' + 1 then .int .u64 (xv i) else .int .u64 ((i : Int) + 1)) m' (.int .u64 (bits .xor .u64 (if IntKind.u64.signed = true then -1 else IntKind.u64.max) ((m' : Int) + 1))) (by simp [xv]) (fun m _ hm => by
                    by_cases h1 : m < m'
                    · simp [h1, show m < m' + 1 by omega]
                    · simp [h1, show ¬ m < m' + 1 by omega])
                  have hR3' := R3.setCell_other ⟨g2, m', none⟩ (.int .u64 (bits .xor .u64 (if IntKind.u64.signed = true then -1 else IntKind.u64.max) ((m' : Int) + 1))) (by simp; omega)
                  have hB' := hB.setCell (p := ⟨g2, m', none⟩) (by simp; omega) (.int .u64 (bits .xor .u64 (if IntKind.u64.signed = true then -1 else IntKind.u64.max) ((m' : Int) + 1)))
                  clear R2 R3 hB
                  go_wp2
                  go_roundw
                  case rel => exact ⟨m' + 1, by omega, by go_num, hR', hR3', hB'⟩
                  case measure => simp [intOf]; omega
                · obtain rfl : m' = j := by omega
                  have R2' : RowIs wr g2 m' 33 (fun i => .int .u64 (xv i)) := by
                    obtain ⟨cur, hc, hs, hf⟩ := R2
                    exact ⟨cur, hc, hs, fun i hi => by rw [hf i hi]; simp [hi]⟩
                  clear R2 R3
                  go_wp2
                  go_loop [9] (fun i => ∃ m : Nat, m ≤ m' ∧ i = .int .i64 m) (fun i => m' - (intOf i).toNat)
                  case atStart => exact ⟨0, Nat.zero_le _, rfl⟩
                  case round =>
                    obtain ⟨q, hq, rfl⟩ := hrel
                    by_cases hqj : q < m'
                    · obtain ⟨c2, _⟩ := R2'.cell q hqj
                      unfold xv at c2
                      go_wp2
                      go_round
                      case rel => exact ⟨q + 1, by omega, by go_num⟩
                      case measure => simp [intOf]; omega
                    · go_wp2
                      go_ret
                      exact ⟨rfl, hB⟩
end Go.Proofs.Qxb6602285aMods
