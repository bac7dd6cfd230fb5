import Derived.Test.Qxb6602285aModsProg
import Derived.WalkKit
import Derived.WalkSpells
import Derived.Laws.CopyOwn
import Derived.Lib.SliceRun
namespace Go.Proofs.Qxb6602285aMods
open Go.RowKit

theorem Trym.info33 : (Trym.prog.info? 33).map (fun i => (i.zero, i.size, i.bytes)) = some (some (.int .u64 0), 1, 8) := by kernel_rfl
theorem Trym.info32 : (Trym.prog.info? 32).map (fun i => (i.zero, i.size, i.bytes)) = some (some (.pointer none), 1, 8) := by kernel_rfl
theorem Trym.size33 : (Trym.prog.info? 33).map (·.size) = some 1 := by kernel_rfl

/-- Block g holds the n cells f. -/
def RowIs (w : World) (g n : Nat) (t : TypeId) (f : Nat → Value) : Prop :=
  ∃ cur : Array Value, w.heap[g]? = some (.cells cur t (0, 0)) ∧ cur.size = n ∧ ∀ i, i < n → cur[i]? = some (f i)

theorem RowIs.lt {w : World} {g n : Nat} {t : TypeId} {f : Nat → Value} (h : RowIs w g n t f) : g < w.heap.size := by
  obtain ⟨cur, hc, _⟩ := h
  exact (Array.getElem?_eq_some_iff.1 hc).1
theorem RowIs.below {B : Nat} {w w' : World} {g n : Nat} {t : TypeId} {f : Nat → Value} (h : RowIs w g n t f) (hb : Below B w w') (hg : g < B) : RowIs w' g n t f := by
  obtain ⟨cur, hc, hr⟩ := h
  exact ⟨cur, (hb.block g hg).trans hc, hr⟩
theorem RowIs.cell {w : World} {g n : Nat} {t : TypeId} {f : Nat → Value} (h : RowIs w g n t f) (i : Nat) (hi : i < n) : w.cell? ⟨g, i, none⟩ = some (f i) ∧ w.frozen? ⟨g, i, none⟩ = false := by
  obtain ⟨cur, hc, hs, hf⟩ := h
  exact ⟨by rw [cell_of_row w g _ cur t (0, 0) hc]; exact hf i hi, frozen_of_row w g i cur t hc⟩
theorem RowIs.put {w : World} {g n : Nat} {t : TypeId} {f f' : Nat → Value} (h : RowIs w g n t f) (i : Nat) (v : Value) (hv : f' i = v) (ho : ∀ j, j < n → j ≠ i → f' j = f j) : RowIs (w.setCell ⟨g, i, none⟩ v) g n t f' := by
  obtain ⟨cur, hc, hs, hf⟩ := h
  refine ⟨_, heap_setCell_same w g i cur t _ hc, by simpa using hs, fun j hj => ?_⟩
  rw [Array.getElem?_setIfInBounds]
  by_cases hm : i = j
  · subst hm; simp [hv, hs, hj]
  · rw [if_neg hm, hf j hj, ho j hj (fun e => hm e.symm)]
theorem RowIs.setCell_other {w : World} {g n : Nat} {t : TypeId} {f : Nat → Value} (h : RowIs w g n t f) (a : Addr) (v : Value) (ha : g ≠ a.block) : RowIs (w.setCell a v) g n t f := by
  obtain ⟨cur, hc, hr⟩ := h
  exact ⟨cur, (heap_setCell_other w a g v ha).trans hc, hr⟩

/-- A made row of one-cell elements. -/
theorem RowIs.made {w : World} {T n : Nat} {t : TypeId} {z : Value} {base : Nat} (h : w.ownsRow base t 1 (.slice (some ⟨T, 0, none⟩) n n) n (madeCells #[z] (n * 1)).toList) : RowIs w T n t (fun _ => z) := by
  rcases h.2 with ⟨h', _⟩ | ⟨g', cap', cur, h', _, hg, _, _, hs, htake⟩
  · simp at h'
  · simp only [Value.slice.injEq, Option.some.injEq, Addr.mk.injEq, and_true, true_and] at h'
    obtain ⟨rfl, rfl⟩ := h'
    refine ⟨cur, hg, by omega, fun i hi => ?_⟩
    have := congrArg (fun l => l[i]?) htake
    simp only [toList_madeCells_one] at this
    rw [List.getElem?_take, if_pos (by omega)] at this
    simp at this ⊢
    rw [this]
    simp [hi]

/-- The numbers lie at the slice's address. -/
def WordsAt (w : World) (ao : Option Addr) (n : Nat) (f : Nat → Int) : Prop :=
  ∃ b off, ao = some ⟨b, off, none⟩ ∧ ∀ k, k < n → w.cell? ⟨b, off + k, none⟩ = some (.int .u64 (f k))

def words (f : Nat → Int) (n : Nat) : List Value := (List.range n).map fun i => Value.int .u64 (f i)
theorem words_len (f : Nat → Int) (n : Nat) : (words f n).length = n := by simp [words]
theorem words_one (f : Nat → Int) (n : Nat) : ∀ v ∈ words f n, v.oneCell' = true := by
  intro v hv
  simp only [words, List.mem_map] at hv
  obtain ⟨i, _, rfl⟩ := hv
  rfl
theorem words_at (f : Nat → Int) (n j : Nat) (v : Value) (h : (words f n)[j]? = some v) : j < n ∧ v = .int .u64 (f j) := by
  have hj : j < n := by
    rcases Nat.lt_or_ge j n with h1 | h1
    · exact h1
    · rw [List.getElem?_eq_none (by rw [words_len]; exact h1)] at h; cases h
  simp [words, hj] at h
  exact ⟨hj, h.symm⟩

/-- What a row holds behind a copy over all of it. -/
theorem rowIs_copied {w : World} {g n : Nat} {cur : List Value} (f : Nat → Int) (hs : cur.length = n) (hg : w.heap[g]? = some (.cells (splice cur 0 (words f n)).toArray 33 (0, 0))) : RowIs w g n 33 (fun i => .int .u64 (f i)) := by
  have e : splice cur 0 (words f n) = words f n := by
    unfold splice
    rw [List.drop_eq_nil_of_le (by rw [words_len]; omega)]; simp
  rw [e] at hg
  refine ⟨_, hg, by simp [words_len], fun i hi => ?_⟩
  simp [words, hi]

set_option maxHeartbeats 400000 in
theorem clone_some (ad : Addr) (n c : Nat) (f : Nat → Int) (w : World) (hn : n ≤ 131072) (hc : ∀ k, k < n → w.cell? (ad.add k) = some (.int .u64 (f k))) :
    Calls Trym.prog 12 #[.slice (some ad) n c] w fun e w' => e = .returned (.slice (some ⟨w.heap.size, 0, none⟩) n n) ∧ Below w.heap.size w w' ∧ RowIs w' w.heap.size n 33 (fun i => .int .u64 (f i)) := by
  obtain ⟨i0, hi, hz0, hz1, hz2⟩ := info_parts Trym.info33
  have hnil := fun (wx : World) (a : Option Addr) (m k : Nat) => Lib.run_eql_slice_nil (P := Trym.prog) wx 27 33 a m k 0 0 Trym.underlying27
  have HC : Hid (∀ k, k < n → w.cell? (ad.add k) = some (.int .u64 (f k))) := hc
  clear hc
  go_enter Trym.func12, Trym.ntmps12
  go_wp2_with (first
    | (at_make; refine wpList_make_full _ rfl _ _ 27 rfl w.heap.size 33 i0 _ 1 Trym.underlying27 hi hz0 hz1 _ _ _ _ n rfl rfl (by omega) (by omega) (by rw [hz2]; omega) (by unfold maxLen; omega) (Nat.le_refl _) ?_; intro w1 hown hgrow; obtain ⟨cur, hcur, hsz, _⟩ := RowIs.made hown; have hB1 : Below w.heap.size w w1 := (Below.refl _ _).grown hgrow (Nat.le_refl _) (by intro k hk; cases hk); clear hown hgrow)
    | (have _t := hcur; refine wpList_copy_splice rfl (.tmp 9) (.tmp 10) 27 27 rfl 33 Trym.underlying27 Trym.size33 _ _ _ _ _ _ rfl rfl w.heap.size 0 cur.toList 33 (by simpa using hcur) (words f n) (by rw [words_len]; exact (Nat.min_self n).symm) (fun _ => ⟨rfl, ad, rfl, fun j v hj => by obtain ⟨hjn, rfl⟩ := words_at f n j v hj; have hcj := HC.out j hjn; exact (hB1.cell (World.block_lt_of_cell? w _ hcj)).trans hcj⟩) (by rw [words_len]; simp [hsz]) (words_one f n) w.heap.size w hB1 (Nat.le_refl _) ?_; intro w2 HG2 hB2))
  go_ret
  exact ⟨rfl, hB2, rowIs_copied f (by simpa using hsz) HG2.out⟩

set_option maxHeartbeats 400000 in
theorem clone_nil (w : World) : Calls Trym.prog 12 #[.slice none 0 0] w fun e w' => e = .returned (.slice none 0 0) ∧ w' = w := by
  have hnil := fun (wx : World) (a : Option Addr) (m k : Nat) => Lib.run_eql_slice_nil (P := Trym.prog) wx 27 33 a m k 0 0 Trym.underlying27
  go_enter Trym.func12, Trym.ntmps12
  go_wp2
  go_ret
  exact ⟨rfl, rfl⟩

theorem bytes_any (ao : Option Addr) (n c : Nat) (w : World) (hn : n ≤ maxLen) :
    Calls Trym.prog 11 #[.slice ao n c] w fun e w' => e = .returned (.bool (decide (n ≤ 1048576))) ∧ w' = w := by
  unfold maxLen at hn
  by_cases h : n ≤ 1048576
  · have d1 : decide ((1048576 : Int) < (n : Int)) = false := by simp; omega
    go_enter Trym.func11, Trym.ntmps11
    go_wp2
    go_ret
    exact ⟨by simp [h], rfl⟩
  · have d1 : decide ((1048576 : Int) < (n : Int)) = true := by simp; omega
    go_enter Trym.func11, Trym.ntmps11
    go_wp2
    go_ret
    exact ⟨by simp [h], rfl⟩

set_option maxHeartbeats 400000 in
theorem pointers_any (ao : Option Addr) (n c g : Nat) (w : World) (hn : n ≤ 131072) (hao : 0 < n → ao = some ⟨g, 0, none⟩) :
    Calls Trym.prog 22 #[.slice ao n c] w fun e w' => e = .returned (.slice (some ⟨w.heap.size, 0, none⟩) n n) ∧ Below w.heap.size w w' ∧ RowIs w' w.heap.size n 32 (fun i => .pointer (some ⟨g, i, none⟩)) := by
  obtain ⟨i0, hi, hz0, hz1, hz2⟩ := info_parts Trym.info32
  rcases Nat.eq_zero_or_pos n with rfl | hp
  · go_enter Trym.func22, Trym.ntmps22
    go_wp2_with (at_make; refine wpList_make_full _ rfl _ _ 30 rfl w.heap.size 32 i0 _ 1 Trym.underlying30 hi hz0 hz1 _ _ _ _ 0 rfl rfl (by omega) (by omega) (by rw [hz2]; omega) (by unfold maxLen; omega) (Nat.le_refl _) ?_; intro w1 hown hgrow)
    have hR := RowIs.made hown
    have hB : Below w.heap.size w w1 := (Below.refl _ _).grown hgrow (Nat.le_refl _) (by intro k hk; cases hk)
    clear hown hgrow
    go_loop [10] (fun i => i = .int .i64 0) (fun _ => 0)
    case atStart => rfl
    case round =>
      obtain rfl := hrel
      go_wp2
      go_ret
      obtain ⟨cur, hc, hs, _⟩ := hR
      exact ⟨rfl, hB, cur, hc, hs, fun i hi => absurd hi (by omega)⟩
  · have hao' := hao hp
    subst hao'
    clear hao
    go_enter Trym.func22, Trym.ntmps22
    go_wp2_with (at_make; refine wpList_make_full _ rfl _ _ 30 rfl w.heap.size 32 i0 _ 1 Trym.underlying30 hi hz0 hz1 _ _ _ _ n rfl rfl (by omega) (by omega) (by rw [hz2]; omega) (by unfold maxLen; omega) (Nat.le_refl _) ?_; intro w1 hown hgrow)
    have hR := RowIs.made hown
    have hB : Below w.heap.size w w1 := (Below.refl _ _).grown hgrow (Nat.le_refl _) (by intro k hk; cases hk)
    clear hown hgrow hi hz0 hz1 hz2
    go_loopw [10] (fun i wr => ∃ k : Nat, k ≤ n ∧ i = .int .i64 k ∧ Below w.heap.size w wr ∧ RowIs wr w.heap.size n 32 (fun i => if i < k then .pointer (some ⟨g, i, none⟩) else .pointer none)) (fun i _ => n - (intOf i).toNat)
    case atStart => exact ⟨0, Nat.zero_le _, rfl, hB, by simpa using hR⟩
    case round =>
      clear hB hR
      obtain ⟨k, hk, rfl, hB, hR⟩ := hrel
      by_cases hkn : k < n
      · obtain ⟨c0, f0⟩ := hR.cell k hkn
        simp only [Nat.lt_irrefl, if_false] at c0
        have hB' := hB.setCell (p := ⟨w.heap.size, k, none⟩) (Nat.le_refl _) (.pointer (some ⟨g, k, none⟩))
        have hR' := hR.put (f' := fun i => if i < k + 1 then .pointer (some ⟨g, i, none⟩) else .pointer none) k (.pointer (some ⟨g, k, none⟩)) (by simp) (fun j _ hj => by
          by_cases h1 : j < k
          · simp [h1, show j < k + 1 by omega]
          · simp [h1, show ¬ j < k + 1 by omega])
        clear hB hR
        go_wp2
        go_roundw
        case rel => exact ⟨k + 1, by omega, by go_num, hB', hR'⟩
        case measure => simp [intOf]; omega
      · obtain rfl : k = n := by omega
        go_wp2
        go_ret
        obtain ⟨cur, hc, hs, hf⟩ := hR
        exact ⟨rfl, hB, cur, hc, hs, fun i hi => by rw [hf i hi]; simp [hi]⟩

theorem zzpointers_any (ao : Option Addr) (n c g : Nat) (w : World) (hn : n ≤ 131072) (hao : 0 < n → ao = some ⟨g, 0, none⟩) :
    Calls Trym.prog 13 #[.slice ao n c] w fun e w' => e = .returned (.slice (some ⟨w.heap.size, 0, none⟩) n n) ∧ Below w.heap.size w w' ∧ RowIs w' w.heap.size n 32 (fun i => .pointer (some ⟨g, i, none⟩)) := by
  go_enter Trym.func13, Trym.ntmps13
  go_wp2_with (go_at_call 22; refine (pointers_any ao n c g _ hn hao).mono ?_; rintro e w' ⟨rfl, hB, hR⟩)
  go_ret
  exact ⟨rfl, hB, hR⟩
end Go.Proofs.Qxb6602285aMods
