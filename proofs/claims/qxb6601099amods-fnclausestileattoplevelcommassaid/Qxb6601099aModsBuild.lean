import Derived.Test.Qxb6601099aModsLeaf
import Derived.Test.Qxb6601099aModsBytes
namespace Go.Proofs.Qxb6601099aMods
open Go.RowKit

theorem Trym.info32 : (Trym.prog.info? 32).map (fun i => (i.zero, i.size, i.bytes)) = some (some (.agg #[.int .i64 0, .string ByteArray.empty, .int .i64 0, .int .i64 0]), 4, 40) := by kernel_rfl

/-- The numbers lie at the slice's address. -/
def KindsAt (w : World) (ka : Option Addr) (kn : Nat) (kx : Nat → Int) : Prop :=
  0 < kn → ∃ b off, ka = some ⟨b, off, none⟩ ∧ ∀ k, k < kn → w.cell? ⟨b, off + k, none⟩ = some (.int .i64 (kx k))

/-- The first m tokens lie in block g, which holds n of them. -/
def Toks (w : World) (g n : Nat) (kx : Nat → Int) (tx : Nat → ByteArray) (m : Nat) : Prop :=
  ∃ cur : Array Value, w.heap[g]? = some (.cells cur 32 (0, 0)) ∧ cur.size = n * 4 ∧ ∀ i, i < m → cur[i * 4]? = some (.int .i64 (kx i)) ∧ cur[i * 4 + 1]? = some (.string (tx i)) ∧ cur[i * 4 + 2]? = some (.int .i64 (i : Int)) ∧ cur[i * 4 + 3]? = some (.int .i64 ((i : Int) + 1))

theorem Toks.start {w : World} {g n : Nat} {z : List Value} (kx : Nat → Int) (tx : Nat → ByteArray) {base : Nat} (h : w.ownsRow base 32 4 (.slice (some ⟨g, 0, none⟩) n n) n z) : Toks w g n kx tx 0 := by
  rcases h.2 with ⟨h', _⟩ | ⟨g', cap', cur, h', _, hg, _, _, hs, _⟩
  · simp at h'
  · simp only [Value.slice.injEq, Option.some.injEq, Addr.mk.injEq, and_true, true_and] at h'
    obtain ⟨rfl, rfl⟩ := h'
    exact ⟨cur, hg, hs, fun i hi => by omega⟩

/-- The world behind the round: four cells stored, a block laid, a draw. -/
def putTok (wr : World) (g k : Nat) (x : Int) (s : ByteArray) : World :=
  (((((wr.setCell ⟨g, k * 4, none⟩ (.int .i64 x)).setCell ⟨g, k * 4 + 1, none⟩ (.string s)).setCell ⟨g, k * 4 + 2, none⟩ (.int .i64 (k : Int))).setCell ⟨g, k * 4 + 3, none⟩ (.int .i64 ((k : Int) + 1))).alloc
    (.cells #[.int .i64 x, .string s, .int .i64 (k : Int), .int .i64 ((k : Int) + 1)] 32)).drew

theorem Toks.step {w : World} {g n k : Nat} {kx : Nat → Int} {tx : Nat → ByteArray} (h : Toks w g n kx tx k) (hk : k < n) : Toks (putTok w g k (kx k) (tx k)) g n kx tx (k + 1) := by
  obtain ⟨cur, hc, hs, hf⟩ := h
  have hgz : g < w.heap.size := (Array.getElem?_eq_some_iff.1 hc).1
  have e1 := heap_setCell_same w g (k * 4) cur 32 (.int .i64 (kx k)) hc
  have e2 := heap_setCell_same _ g (k * 4 + 1) _ 32 (.string (tx k)) e1
  have e3 := heap_setCell_same _ g (k * 4 + 2) _ 32 (.int .i64 (k : Int)) e2
  have e4 := heap_setCell_same _ g (k * 4 + 3) _ 32 (.int .i64 ((k : Int) + 1)) e3
  refine ⟨_, (Below.heap_alloc _ _ g (by simpa using hgz)).trans e4, ?_, ?_⟩
  · simpa using hs
  · intro i hi
    by_cases hik : i = k
    · subst hik
      refine ⟨?_, ?_, ?_, ?_⟩ <;> simp [Array.getElem?_setIfInBounds, hs] <;> omega
    · obtain ⟨f0, f1, f2, f3⟩ := hf i (by omega)
      refine ⟨?_, ?_, ?_, ?_⟩
      all_goals
        simp only [Array.getElem?_setIfInBounds]
        rw [if_neg (by omega), if_neg (by omega), if_neg (by omega), if_neg (by omega)]
        assumption

theorem below_putTok {B : Nat} {w wr : World} {g k : Nat} {x : Int} {s : ByteArray} (h : Below B w wr) (hg : B ≤ g) (hB : B ≤ wr.heap.size) : Below B w (putTok wr g k x s) :=
  (((((h.setCell (by exact hg) _).setCell (by exact hg) _).setCell (by exact hg) _).setCell (by exact hg) _).alloc (by simpa using hB) _).drew

set_option maxHeartbeats 1000000 in
theorem build_pos_t (kb koff kn kc tb toff tn tc : Nat) (kx : Nat → Int) (tx : Nat → ByteArray) (w : World) (h1 : kn ≤ 65536) (h2 : tn ≤ 65536) (hlt : tn < kn)
    (hk : ∀ k, k < kn → w.cell? ⟨kb, koff + k, none⟩ = some (.int .i64 (kx k))) (ht : ∀ k, k < tn → w.cell? ⟨tb, toff + k, none⟩ = some (.string (tx k))) :
    Calls Trym.prog 8 #[.slice (some ⟨kb, koff, none⟩) kn kc, .slice (some ⟨tb, toff, none⟩) tn tc] w fun e w' => e = .returned (.slice (some ⟨w.heap.size, 0, none⟩) tn tn) ∧ Below w.heap.size w w' ∧ Toks w' w.heap.size tn kx tx tn := by
  obtain ⟨i0, hi, hz0, hz1, hz2⟩ := info_parts Trym.info32
  go_enter Trym.func8, Trym.ntmps8
  go_wp2_with (first
    | (at_make; refine wpList_make_full _ rfl _ _ 26 rfl w.heap.size 32 i0 _ 4 Trym.underlying26 hi hz0 hz1 _ _ _ _ tn rfl rfl (by omega) (by omega) (by rw [hz2]; omega) (by unfold maxLen; omega) (Nat.le_refl _) ?_; intro w1 hown hgrow))
  have hT0 := Toks.start kx tx hown
  have hB0 : Below w.heap.size w w1 := (Below.refl _ _).grown hgrow (Nat.le_refl _) (by intro k hk; cases hk)
  clear hown hgrow hi hz0 hz1 hz2
  go_loopw [7] (fun i wr => ∃ k : Nat, k ≤ tn ∧ i = .int .i64 k ∧ Below w.heap.size w wr ∧ Toks wr w.heap.size tn kx tx k) (fun i _ => tn - (intOf i).toNat)
  case atStart => exact ⟨0, Nat.zero_le _, rfl, hB0, hT0⟩
  case round =>
    clear hT0 hB0
    obtain ⟨k, hkt, rfl, hB, hT⟩ := hrel
    by_cases hkn : k < tn
    · have ck0 := hk k (by omega)
      have ct0 := ht k hkn
      have nk : kb < w.heap.size := World.block_lt_of_cell? w _ ck0
      have nt : tb < w.heap.size := World.block_lt_of_cell? w _ ct0
      have ck : wr.cell? ⟨kb, koff + k, none⟩ = some (.int .i64 (kx k)) := (hB.cell nk).trans ck0
      have ct : wr.cell? ⟨tb, toff + k, none⟩ = some (.string (tx k)) := (hB.cell nt).trans ct0
      clear hk ht ck0 ct0
      have i1 : (0 : Int) ≤ (k : Int) := by omega
      have i2 : (k : Int) < (kn : Int) := by omega
      have i3 : (k : Int) < (tn : Int) := by omega
      have n1 : ¬ w.heap.size = kb := by omega
      have n2 : ¬ w.heap.size = tb := by omega
      have HT' := hT.step hkn
      obtain ⟨cur, hcur, hsz, hcs⟩ := hT
      have HB' : Below w.heap.size w (putTok wr w.heap.size k (kx k) (tx k)) := below_putTok hB (Nat.le_refl _) hB.size
      have ew : IntKind.i64.wrap ((k : Int) + 1) = (k : Int) + 1 := by rw [IntKind.wrap_i64]; omega
      have hgz : w.heap.size < wr.heap.size := (Array.getElem?_eq_some_iff.1 hcur).1
      have m1 : ¬ wr.heap.size = kb := by omega
      have m2 : ¬ wr.heap.size = tb := by omega
      have m3 : ¬ w.heap.size = wr.heap.size := by omega
      have cc : ∀ j, k * 4 + j < cur.size → ∃ v, wr.cell? ⟨w.heap.size, k * 4 + j, none⟩ = some v := fun j hj => ⟨cur[k * 4 + j], by rw [cell_of_row wr _ _ cur 32 (0, 0) hcur]; simp [hj]⟩
      obtain ⟨v0, c0⟩ := cc 0 (by omega)
      obtain ⟨v1, c1⟩ := cc 1 (by omega)
      obtain ⟨v2, c2⟩ := cc 2 (by omega)
      obtain ⟨v3, c3⟩ := cc 3 (by omega)
      have f0 : ∀ j, wr.frozen? ⟨w.heap.size, j, none⟩ = false := fun j => frozen_of_row wr _ j cur 32 hcur
      simp only [Nat.add_zero] at c0
      clear cc
      go_wp2
      go_region_held3 (fun w' => w'.cell? ⟨kb, koff + k, none⟩ = some (.int .i64 (kx k)) ∧ w'.cell? ⟨tb, toff + k, none⟩ = some (.string (tx k))) (go_keep)
        (first | (go_at_call 15; refine (make_any _ _ _ _ _).mono ?_; rintro e w' ⟨rfl, rfl⟩))
      clear c0 c1 c2 c3 f0 hcs hsz hcur ck ct
      go_wp2
      go_roundw
      case rel => exact ⟨k + 1, by omega, by go_num, HB', HT'⟩
      case measure => simp [intOf]; omega
    · obtain rfl : k = tn := by omega
      go_wp2
      go_ret
      exact ⟨rfl, hB, hT⟩
set_option maxHeartbeats 1000000 in
theorem build_pos_k (kb koff kn kc tb toff tn tc : Nat) (kx : Nat → Int) (tx : Nat → ByteArray) (w : World) (h1 : kn ≤ 65536) (h2 : tn ≤ 65536) (hlt : ¬ tn < kn)
    (hk : ∀ k, k < kn → w.cell? ⟨kb, koff + k, none⟩ = some (.int .i64 (kx k))) (ht : ∀ k, k < tn → w.cell? ⟨tb, toff + k, none⟩ = some (.string (tx k))) :
    Calls Trym.prog 8 #[.slice (some ⟨kb, koff, none⟩) kn kc, .slice (some ⟨tb, toff, none⟩) tn tc] w fun e w' => e = .returned (.slice (some ⟨w.heap.size, 0, none⟩) kn kn) ∧ Below w.heap.size w w' ∧ Toks w' w.heap.size kn kx tx kn := by
  obtain ⟨i0, hi, hz0, hz1, hz2⟩ := info_parts Trym.info32
  go_enter Trym.func8, Trym.ntmps8
  go_wp2_with (first
    | (at_make; refine wpList_make_full _ rfl _ _ 26 rfl w.heap.size 32 i0 _ 4 Trym.underlying26 hi hz0 hz1 _ _ _ _ kn rfl rfl (by omega) (by omega) (by rw [hz2]; omega) (by unfold maxLen; omega) (Nat.le_refl _) ?_; intro w1 hown hgrow))
  have hT0 := Toks.start kx tx hown
  have hB0 : Below w.heap.size w w1 := (Below.refl _ _).grown hgrow (Nat.le_refl _) (by intro k hk; cases hk)
  clear hown hgrow hi hz0 hz1 hz2
  go_loopw [7] (fun i wr => ∃ k : Nat, k ≤ kn ∧ i = .int .i64 k ∧ Below w.heap.size w wr ∧ Toks wr w.heap.size kn kx tx k) (fun i _ => kn - (intOf i).toNat)
  case atStart => exact ⟨0, Nat.zero_le _, rfl, hB0, hT0⟩
  case round =>
    clear hT0 hB0
    obtain ⟨k, hkt, rfl, hB, hT⟩ := hrel
    by_cases hkn : k < kn
    · have ck0 := hk k (by omega)
      have ct0 := ht k (by omega)
      have nk : kb < w.heap.size := World.block_lt_of_cell? w _ ck0
      have nt : tb < w.heap.size := World.block_lt_of_cell? w _ ct0
      have ck : wr.cell? ⟨kb, koff + k, none⟩ = some (.int .i64 (kx k)) := (hB.cell nk).trans ck0
      have ct : wr.cell? ⟨tb, toff + k, none⟩ = some (.string (tx k)) := (hB.cell nt).trans ct0
      clear hk ht ck0 ct0
      have i1 : (0 : Int) ≤ (k : Int) := by omega
      have i2 : (k : Int) < (kn : Int) := by omega
      have i3 : (k : Int) < (tn : Int) := by omega
      have n1 : ¬ w.heap.size = kb := by omega
      have n2 : ¬ w.heap.size = tb := by omega
      have HT' := hT.step hkn
      obtain ⟨cur, hcur, hsz, hcs⟩ := hT
      have HB' : Below w.heap.size w (putTok wr w.heap.size k (kx k) (tx k)) := below_putTok hB (Nat.le_refl _) hB.size
      have ew : IntKind.i64.wrap ((k : Int) + 1) = (k : Int) + 1 := by rw [IntKind.wrap_i64]; omega
      have hgz : w.heap.size < wr.heap.size := (Array.getElem?_eq_some_iff.1 hcur).1
      have m1 : ¬ wr.heap.size = kb := by omega
      have m2 : ¬ wr.heap.size = tb := by omega
      have m3 : ¬ w.heap.size = wr.heap.size := by omega
      have cc : ∀ j, k * 4 + j < cur.size → ∃ v, wr.cell? ⟨w.heap.size, k * 4 + j, none⟩ = some v := fun j hj => ⟨cur[k * 4 + j], by rw [cell_of_row wr _ _ cur 32 (0, 0) hcur]; simp [hj]⟩
      obtain ⟨v0, c0⟩ := cc 0 (by omega)
      obtain ⟨v1, c1⟩ := cc 1 (by omega)
      obtain ⟨v2, c2⟩ := cc 2 (by omega)
      obtain ⟨v3, c3⟩ := cc 3 (by omega)
      have f0 : ∀ j, wr.frozen? ⟨w.heap.size, j, none⟩ = false := fun j => frozen_of_row wr _ j cur 32 hcur
      simp only [Nat.add_zero] at c0
      clear cc
      go_wp2
      go_region_held3 (fun w' => w'.cell? ⟨kb, koff + k, none⟩ = some (.int .i64 (kx k)) ∧ w'.cell? ⟨tb, toff + k, none⟩ = some (.string (tx k))) (go_keep)
        (first | (go_at_call 15; refine (make_any _ _ _ _ _).mono ?_; rintro e w' ⟨rfl, rfl⟩))
      clear c0 c1 c2 c3 f0 hcs hsz hcur ck ct
      go_wp2
      go_roundw
      case rel => exact ⟨k + 1, by omega, by go_num, HB', HT'⟩
      case measure => simp [intOf]; omega
    · obtain rfl : k = kn := by omega
      go_wp2
      go_ret
      exact ⟨rfl, hB, hT⟩

set_option maxHeartbeats 400000 in
theorem build_zero (ka : Option Addr) (kn kc : Nat) (ta : Option Addr) (tn tc : Nat) (kx : Nat → Int) (tx : Nat → ByteArray) (w : World) (h1 : kn ≤ 65536) (h2 : tn ≤ 65536) (h0 : kn = 0 ∨ tn = 0) :
    Calls Trym.prog 8 #[.slice ka kn kc, .slice ta tn tc] w fun e w' => e = .returned (.slice (some ⟨w.heap.size, 0, none⟩) 0 0) ∧ Below w.heap.size w w' ∧ Toks w' w.heap.size 0 kx tx 0 := by
  obtain ⟨i0, hi, hz0, hz1, hz2⟩ := info_parts Trym.info32
  by_cases hlt : tn < kn
  · obtain rfl : tn = 0 := by omega
    go_enter Trym.func8, Trym.ntmps8
    go_wp2_with (first
      | (at_make; refine wpList_make_full _ rfl _ _ 26 rfl w.heap.size 32 i0 _ 4 Trym.underlying26 hi hz0 hz1 _ _ _ _ 0 rfl rfl (by omega) (by omega) (by rw [hz2]; omega) (by unfold maxLen; omega) (Nat.le_refl _) ?_; intro w1 hown hgrow))
    have hT0 := Toks.start kx tx hown
    have hB0 : Below w.heap.size w w1 := (Below.refl _ _).grown hgrow (Nat.le_refl _) (by intro k hk; cases hk)
    clear hown hgrow hi hz0 hz1 hz2
    go_loop [7] (fun i => i = .int .i64 0) (fun _ => 0)
    case atStart => rfl
    case round =>
      obtain rfl := hrel
      go_wp2
      go_ret
      exact ⟨rfl, hB0, hT0⟩
  · obtain rfl : kn = 0 := by omega
    go_enter Trym.func8, Trym.ntmps8
    go_wp2_with (first
      | (at_make; refine wpList_make_full _ rfl _ _ 26 rfl w.heap.size 32 i0 _ 4 Trym.underlying26 hi hz0 hz1 _ _ _ _ 0 rfl rfl (by omega) (by omega) (by rw [hz2]; omega) (by unfold maxLen; omega) (Nat.le_refl _) ?_; intro w1 hown hgrow))
    have hT0 := Toks.start kx tx hown
    have hB0 : Below w.heap.size w w1 := (Below.refl _ _).grown hgrow (Nat.le_refl _) (by intro k hk; cases hk)
    clear hown hgrow hi hz0 hz1 hz2
    go_loop [7] (fun i => i = .int .i64 0) (fun _ => 0)
    case atStart => rfl
    case round =>
      obtain rfl := hrel
      go_wp2
      go_ret
      exact ⟨rfl, hB0, hT0⟩

/-- 'zzb1Build': a fresh row of the first pairs. -/
theorem build_any (ka : Option Addr) (kn kc : Nat) (ta : Option Addr) (tn tc : Nat) (kx : Nat → Int) (tx : Nat → ByteArray) (w : World) (h1 : kn ≤ 65536) (h2 : tn ≤ 65536) (hK : KindsAt w ka kn kx) (hT : TextsAt w ta tn tx) :
    Calls Trym.prog 8 #[.slice ka kn kc, .slice ta tn tc] w fun e w' => ∃ n, n ≤ 65536 ∧ e = .returned (.slice (some ⟨w.heap.size, 0, none⟩) n n) ∧ Below w.heap.size w w' ∧ Toks w' w.heap.size n kx tx n := by
  rcases Nat.eq_zero_or_pos kn with hk0 | hk
  · exact (build_zero ka kn kc ta tn tc kx tx w h1 h2 (.inl hk0)).mono fun e w' h => ⟨0, by omega, h⟩
  rcases Nat.eq_zero_or_pos tn with ht0 | ht
  · exact (build_zero ka kn kc ta tn tc kx tx w h1 h2 (.inr ht0)).mono fun e w' h => ⟨0, by omega, h⟩
  obtain ⟨kb, koff, rfl, ck⟩ := hK hk
  obtain ⟨tb, toff, rfl, ct⟩ := hT ht
  by_cases hlt : tn < kn
  · exact (build_pos_t kb koff kn kc tb toff tn tc kx tx w h1 h2 hlt ck ct).mono fun e w' h => ⟨tn, h2, h⟩
  · exact (build_pos_k kb koff kn kc tb toff tn tc kx tx w h1 h2 hlt ck ct).mono fun e w' h => ⟨kn, h1, h⟩
end Go.Proofs.Qxb6601099aMods
