import Derived.Test.Qxb6602940aModsWep
import Derived.Test.Qxb6602940aModsPlainB
import Derived.Laws.IdiomStrings
namespace Go.Proofs.Qxb6602940aMods
open Go.RowKit

theorem Trym.infoB : (Trym.prog.info? 5).map (fun i => (i.zero, i.size, i.bytes)) = some (some (.int .u8 0), 1, 1) := by kernel_rfl

theorem swap_any (c : Nat) (w : World) (h : c < 256) : Calls Trym.prog 15 #[.int .u8 (c : Int)] w fun e w' => e = .returned (.int .u8 (swN c : Int)) ∧ w' = w := by
  by_cases h1 : 97 ≤ c
  · by_cases h2 : c ≤ 122
    · have HE : Hid (((swN c : Nat) : Int) = (c : Int) - 97 + 65) := by show _ = _; unfold swN; rw [if_pos ⟨h1, h2⟩]; omega
      have d1 : decide ((97 : Int) ≤ (c : Int)) = true := by simp; omega
      have d2 : decide ((c : Int) ≤ 122) = true := by simp; omega
      go_enter Trym.func15, Trym.ntmps15
      go_wp2
      go_ret
      exact ⟨ret_u8 HE.out.symm, rfl⟩
    · have HE : Hid (((swN c : Nat) : Int) = (c : Int)) := by show _ = _; unfold swN; rw [if_neg (by omega), if_neg (by omega)]
      have d1 : decide ((97 : Int) ≤ (c : Int)) = true := by simp; omega
      have d2 : decide ((c : Int) ≤ 122) = false := by simp; omega
      have d3 : decide ((65 : Int) ≤ (c : Int)) = true := by simp; omega
      have d4 : decide ((c : Int) ≤ 90) = false := by simp; omega
      go_enter Trym.func15, Trym.ntmps15
      go_wp2
      go_ret
      exact ⟨ret_u8 HE.out.symm, rfl⟩
  · have d1 : decide ((97 : Int) ≤ (c : Int)) = false := by simp; omega
    by_cases h3 : 65 ≤ c
    · have d3 : decide ((65 : Int) ≤ (c : Int)) = true := by simp; omega
      by_cases h4 : c ≤ 90
      · have HE : Hid (((swN c : Nat) : Int) = (c : Int) - 65 + 97) := by show _ = _; unfold swN; rw [if_neg (by omega), if_pos ⟨h3, h4⟩]; omega
        have d4 : decide ((c : Int) ≤ 90) = true := by simp; omega
        go_enter Trym.func15, Trym.ntmps15
        go_wp2
        go_ret
        exact ⟨ret_u8 HE.out.symm, rfl⟩
      · have HE : Hid (((swN c : Nat) : Int) = (c : Int)) := by show _ = _; unfold swN; rw [if_neg (by omega), if_neg (by omega)]
        have d4 : decide ((c : Int) ≤ 90) = false := by simp; omega
        go_enter Trym.func15, Trym.ntmps15
        go_wp2
        go_ret
        exact ⟨ret_u8 HE.out.symm, rfl⟩
    · have HE : Hid (((swN c : Nat) : Int) = (c : Int)) := by show _ = _; unfold swN; rw [if_neg (by omega), if_neg (by omega)]
      have d3 : decide ((65 : Int) ≤ (c : Int)) = false := by simp; omega
      go_enter Trym.func15, Trym.ntmps15
      go_wp2
      go_ret
      exact ⟨ret_u8 HE.out.symm, rfl⟩

/-- The row behind k rounds. -/
def SwRow (w : World) (g : Nat) (s : ByteArray) (k : Nat) : Prop :=
  ∃ cur : Array Value, w.heap[g]? = some (.cells cur 5 (0, 0)) ∧ cur.size = s.size ∧ ∀ i, i < k → cur[i]? = some (.int .u8 ((swN (bt s i) : Nat) : Int))
theorem SwRow.start {w : World} {g : Nat} {s : ByteArray} {z : List Value} {base : Nat} (h : w.ownsRow base 5 1 (.slice (some ⟨g, 0, none⟩) s.size s.size) s.size z) : SwRow w g s 0 := by
  rcases h.2 with ⟨h', _⟩ | ⟨g', cap', cur, h', _, hg, _, _, hs, _⟩
  · simp at h'
  · simp only [Value.slice.injEq, Option.some.injEq, Addr.mk.injEq, and_true, true_and] at h'
    obtain ⟨rfl, rfl⟩ := h'
    exact ⟨cur, hg, by omega, fun i hi => by omega⟩
theorem SwRow.put {w : World} {g k : Nat} {s : ByteArray} (h : SwRow w g s k) (hk : k < s.size) : SwRow (w.setCell ⟨g, k, none⟩ (.int .u8 ((swN (bt s k) : Nat) : Int))) g s (k + 1) := by
  obtain ⟨cur, hc, hs, hf⟩ := h
  refine ⟨_, heap_setCell_same w g k cur 5 _ hc, by simpa using hs, fun i hi => ?_⟩
  rw [Array.getElem?_setIfInBounds]
  by_cases e : k = i
  · subst e; simp [hs, hk]
  · rw [if_neg e]; exact hf i (by omega)
theorem SwRow.there {w : World} {g k : Nat} {s : ByteArray} (h : SwRow w g s k) (i : Nat) (hi : i < s.size) : (∃ v, w.cell? ⟨g, i, none⟩ = some v) ∧ w.frozen? ⟨g, i, none⟩ = false := by
  obtain ⟨cur, hc, hs, hf⟩ := h
  exact ⟨⟨cur[i]'(by omega), by rw [cell_of_row w g _ cur 5 (0, 0) hc]; simp [hs, hi]⟩, frozen_of_row w g i cur 5 hc⟩
theorem SwRow.back {w : World} {g : Nat} {s : ByteArray} (h : SwRow w g s s.size) : (convert 25 9 (.slice (some ⟨g, 0, none⟩) s.size s.size)).run Trym.prog w = .ok (.string (swapS s)) w := by
  obtain ⟨cur, hc, hs, hf⟩ := h
  have := run_convert_bytes_back (P := Trym.prog) w 25 9 5 ⟨g, 0, none⟩ s.size (swapL s) Trym.underlying25 Trym.underlying5 Trym.underlying9 (fun j hj => by
    have e : (⟨g, 0, none⟩ : Addr).add j = ⟨g, j, none⟩ := by unfold Addr.add; split <;> simp_all
    rw [e, cell_of_row w g _ cur 5 (0, 0) hc, hf j (by rw [swapL_len] at hj; exact hj), swapL_at])
  rw [swapL_len] at this
  exact this

set_option maxHeartbeats 400000 in
theorem swapCase_any (s : ByteArray) (w : World) (hs : s.size ≤ 65536) :
    Calls Trym.prog 12 #[.string s] w fun e w' => e = .returned (.string (swapS s)) ∧ Below w.heap.size w w' := by
  obtain ⟨i5, hi, hz0, hz1, hz2⟩ := info_parts Trym.infoB
  go_enter Trym.func12, Trym.ntmps12
  go_wp2_with (at_make; refine wpList_make_full _ rfl _ _ 25 rfl w.heap.size 5 i5 _ 1 Trym.underlying25 hi hz0 hz1 _ _ _ _ s.size rfl rfl rfl rfl (by rw [hz2]; omega) (by unfold maxLen; omega) (Nat.le_refl _) ?_; intro w1 hown hgrow)
  have hR0 := SwRow.start hown
  have hB0 : Below w.heap.size w w1 := (Below.refl _ _).grown hgrow (Nat.le_refl _) (by intro k hk; cases hk)
  clear hown hgrow hi hz0 hz1 hz2
  go_loopw [4] (fun i wr => ∃ k : Nat, k ≤ s.size ∧ i = .int .i64 k ∧ SwRow wr w.heap.size s k ∧ Below w.heap.size w wr) (fun i _ => s.size - (intOf i).toNat)
  case atStart => exact ⟨0, Nat.zero_le _, rfl, hR0, hB0⟩
  case round =>
    clear hR0 hB0
    obtain ⟨k, hk, rfl, hR, hB⟩ := hrel
    by_cases hks : k < s.size
    · obtain ⟨⟨v, c0⟩, f0⟩ := hR.there k hks
      have l1 : (s[k]'hks).toNat < 256 := UInt8.toNat_lt _
      have hR' := hR.put hks
      have hB' := hB.setCell (p := ⟨w.heap.size, k, none⟩) (Nat.le_refl _) (.int .u8 ((swN (bt s k) : Nat) : Int))
      rw [bt_eq s k hks] at hR' hB'
      clear hR hB
      go_wp2_with (go_at_call 15; refine (swap_any _ _ (by assumption)).mono ?_; rintro e w' ⟨rfl, hw'⟩; have hw2 := hw'.symm; clear hw'; subst hw2)
      go_roundw
      case rel => exact ⟨k + 1, by omega, by go_num, hR', hB'⟩
      case measure => simp [intOf]; omega
    · obtain rfl : k = s.size := by omega
      have hcv := hR.back
      clear hR
      go_wp2
      go_ret
      exact ⟨rfl, hB⟩
end Go.Proofs.Qxb6602940aMods
