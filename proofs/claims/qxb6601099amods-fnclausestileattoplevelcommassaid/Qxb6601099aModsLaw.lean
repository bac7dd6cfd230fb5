import Derived.Test.Qxb6601099aModsWalk
namespace Go.Proofs.Qxb6601099aMods
open Go.RowKit

/-- The row 'top' behind m rounds. -/
def Tops (w : World) (T n : Nat) (top : Nat → Bool) (m : Nat) : Prop :=
  ∃ cur : Array Value, w.heap[T]? = some (.cells cur 4 (0, 0)) ∧ cur.size = n ∧ ∀ i, i < n → cur[i]? = some (.bool (decide (i < m) && top i))

theorem Tops.start {w : World} {T n : Nat} (top : Nat → Bool) {base : Nat} (h : w.ownsRow base 4 1 (.slice (some ⟨T, 0, none⟩) n n) n (madeCells #[.bool false] (n * 1)).toList) : Tops w T n top 0 := by
  rcases h.2 with ⟨h', _⟩ | ⟨g', cap', cur, h', _, hg, _, _, hs, htake⟩
  · simp at h'
  · simp only [Value.slice.injEq, Option.some.injEq, Addr.mk.injEq, and_true, true_and] at h'
    obtain ⟨rfl, rfl⟩ := h'
    refine ⟨cur, hg, by omega, fun i hi => ?_⟩
    have := congrArg (fun l => l[i]?) htake
    simp only [toList_madeCells_one] at this
    rw [List.getElem?_take, if_pos (by omega)] at this
    simp at this ⊢
    rw [this]
    simp [hi]

theorem Tops.cell {w : World} {T n m : Nat} {top : Nat → Bool} (h : Tops w T n top m) (i : Nat) (hi : i < n) : w.cell? ⟨T, i, none⟩ = some (.bool (decide (i < m) && top i)) ∧ w.frozen? ⟨T, i, none⟩ = false := by
  obtain ⟨cur, hc, hs, hf⟩ := h
  exact ⟨by rw [cell_of_row w T _ cur 4 (0, 0) hc]; exact hf i hi, frozen_of_row w T i cur 4 hc⟩

theorem Tops.skip {w : World} {T n m : Nat} {top : Nat → Bool} (h : Tops w T n top m) (ht : top m = false) : Tops w T n top (m + 1) := by
  obtain ⟨cur, hc, hs, hf⟩ := h
  refine ⟨cur, hc, hs, fun i hi => ?_⟩
  rw [hf i hi]
  by_cases hm : i = m
  · subst hm; simp [ht]
  · have : (decide (i < m)) = decide (i < m + 1) := by simp; omega
    rw [this]

theorem Tops.put {w : World} {T n m : Nat} {top : Nat → Bool} (h : Tops w T n top m) (ht : top m = true) : Tops (w.setCell ⟨T, m, none⟩ (.bool true)) T n top (m + 1) := by
  obtain ⟨cur, hc, hs, hf⟩ := h
  refine ⟨_, heap_setCell_same w T m cur 4 _ hc, by simpa using hs, fun i hi => ?_⟩
  rw [Array.getElem?_setIfInBounds]
  by_cases hm : m = i
  · subst hm; simp [ht, hs, hi]
  · rw [if_neg hm, hf i hi]
    have : (decide (i < m)) = decide (i < m + 1) := by simp; omega
    rw [this]
theorem Tops.below {B : Nat} {w w' : World} {T n m : Nat} {top : Nat → Bool} (h : Tops w T n top m) (hb : Below B w w') (hg : T < B) : Tops w' T n top m := by
  obtain ⟨cur, hc, hr⟩ := h
  exact ⟨cur, (hb.block T hg).trans hc, hr⟩
theorem Tops.lt {w : World} {T n m : Nat} {top : Nat → Bool} (h : Tops w T n top m) : T < w.heap.size := by
  obtain ⟨cur, hc, hr⟩ := h
  exact (Array.getElem?_eq_some_iff.1 hc).1

/-- What a token can be. -/
theorem marks_cases (kx : Nat → Int) (tx : Nat → ByteArray) (k : Nat) :
    (cma kx tx k = false ∧ opn kx tx k = false ∧ cls kx tx k = false ∧ topv kx tx k = false) ∨
    (cma kx tx k = false ∧ opn kx tx k = true ∧ cls kx tx k = false ∧ topv kx tx k = false) ∨
    (cma kx tx k = false ∧ opn kx tx k = false ∧ cls kx tx k = true ∧ topv kx tx k = false) ∨
    (cma kx tx k = true ∧ opn kx tx k = false ∧ cls kx tx k = false ∧ topv kx tx k = true ∧ ((cnt (opn kx tx) k : Int) == (cnt (cls kx tx) k : Int)) = true) ∨
    (cma kx tx k = true ∧ opn kx tx k = false ∧ cls kx tx k = false ∧ topv kx tx k = false ∧ ((cnt (opn kx tx) k : Int) == (cnt (cls kx tx) k : Int)) = false) := by
  by_cases h3 : kx k = 3
  · obtain ⟨eo, ec, em⟩ := marks_text (tx := tx) h3
    by_cases t40 : (tx k).toList = [40]
    · rw [t40] at eo ec em
      exact .inr (.inl ⟨em, eo, ec, by simp [topv, em]⟩)
    by_cases t41 : (tx k).toList = [41]
    · rw [t41] at eo ec em
      exact .inr (.inr (.inl ⟨em, eo, ec, by simp [topv, em]⟩))
    have eo' : opn kx tx k = false := by rw [eo]; simpa using t40
    have ec' : cls kx tx k = false := by rw [ec]; simpa using t41
    by_cases t44 : (tx k).toList = [44]
    · rw [t44] at em
      have em' : cma kx tx k = true := em
      by_cases hd : cnt (opn kx tx) k = cnt (cls kx tx) k
      · exact .inr (.inr (.inr (.inl ⟨em', eo', ec', by simp [topv, em', hd], by simp [hd]⟩)))
      · exact .inr (.inr (.inr (.inr ⟨em', eo', ec', by simp [topv, hd], by simp; omega⟩)))
    · have em' : cma kx tx k = false := by rw [em]; simpa using t44
      exact .inl ⟨em', eo', ec', by simp [topv, em']⟩
  · refine .inl ⟨?_, ?_, ?_, ?_⟩ <;> simp [topv, cma, opn, cls, isM, h3]

/-- What the test of the inner loop leans on: 'top' says no; the clause's token and the input's are one. -/
abbrev InS (w3 : World) (T g b y : Nat) (x : Int) (s : ByteArray) (a c : Int) (wr : World) : Prop :=
  wr.cell? ⟨T, b, none⟩ = some (.bool false) ∧
  wr.cell? ⟨g, y, none⟩ = some (.int .i64 x) ∧ wr.cell? ⟨g, y + 1, none⟩ = some (.string s) ∧ wr.cell? ⟨g, y + 2, none⟩ = some (.int .i64 a) ∧ wr.cell? ⟨g, y + 3, none⟩ = some (.int .i64 c) ∧
  wr.cell? ⟨g, b * 4, none⟩ = some (.int .i64 x) ∧ wr.cell? ⟨g, b * 4 + 1, none⟩ = some (.string s) ∧ wr.cell? ⟨g, b * 4 + 2, none⟩ = some (.int .i64 a) ∧ wr.cell? ⟨g, b * 4 + 3, none⟩ = some (.int .i64 c) ∧
  Below w3.heap.size w3 wr

theorem InS.keep {w3 : World} {T g b y : Nat} {x : Int} {s : ByteArray} {a c : Int} {w1 w2 : World} (h : InS w3 T g b y x s a c w1) (hb : Below w1.heap.size w1 w2) : InS w3 T g b y x s a c w2 := by
  obtain ⟨h0, h1, h2, h3, h4, g1, g2, g3, g4, hw⟩ := h
  refine ⟨?_, ?_, ?_, ?_, ?_, ?_, ?_, ?_, ?_, hw.trans (hb.mono hw.size)⟩
  all_goals (rw [hb.cell (World.block_lt_of_cell? w1 _ (by assumption))]; assumption)

theorem InS.start {w3 : World} {T g n b s a : Nat} {kx : Nat → Int} {tx : Nat → ByteArray} {wr : World} (hT : Toks w3 g n kx tx n) (hP : Tops w3 T n (topv kx tx) n) (hB : Below w3.heap.size w3 wr) (hb : b = s + a) (hn : b < n) (ht : topv kx tx b = false) :
    InS w3 T g b (s * 4 + a * 4) (kx b) (tx b) (b : Int) ((b : Int) + 1) wr := by
  obtain ⟨c0, c1, c2, c3⟩ := (hT.below hB hT.lt).cells b hn
  have e : s * 4 + a * 4 = b * 4 := by omega
  rw [e]
  refine ⟨?_, c0, c1, c2, c3, c0, c1, c2, c3, hB⟩
  rw [((hP.below hB hP.lt).cell b hn).1]
  simp [ht]

set_option maxRecDepth 100000 in
set_option maxHeartbeats 2000000 in
theorem law_main (ka : Option Addr) (kn kc : Nat) (ta : Option Addr) (tn tc : Nat) (kx : Nat → Int) (tx : Nat → ByteArray) (w : World) (h1 : kn ≤ 65536) (h2 : tn ≤ 65536)
    (hK : KindsAt w ka kn kx) (hT : TextsAt w ta tn tx) (hx : ∀ k, k < tn → (tx k).size ≤ maxLen) :
    Calls Trym.prog 3 #[.slice ka kn kc, .slice ta tn tc] w fun e w' => e = .returned (.bool true) ∧ Below w.heap.size w w' := by
  have d1 : decide ((65536 : Int) < (kn : Int)) = false := by simp; omega
  have d2 : decide ((65536 : Int) < (tn : Int)) = false := by simp; omega
  go_enter Trym.func3, Trym.ntmps3
  go_wp2_with fail
  refine (bytes6_any ka kn kc ta tn tc tx _ (by unfold maxLen; omega) (by unfold maxLen; omega) hT hx).mono ?_
  rintro e w' ⟨⟨r, rfl⟩, hw'⟩
  have hw := hw'.symm
  clear hw'
  subst hw
  cases r
  · go_wp2
    go_ret
    exact ⟨rfl, Below.refl _ _⟩
  go_wp2_with fail
  refine (bytes7_any ka kn kc ta tn tc tx _ h1 h2 hT hx).mono ?_
  rintro e w' ⟨⟨m, rfl⟩, hw'⟩
  have hw := hw'.symm
  clear hw'
  subst hw
  by_cases hm : (1048576 : Int) < m
  · go_wp2
    go_ret
    exact ⟨rfl, Below.refl _ _⟩
  have d3 : decide ((1048576 : Int) < m) = false := by simpa using hm
  go_wp2_with fail
  refine (build_any ka kn kc ta tn tc kx tx _ h1 h2 hK hT).mono ?_
  rintro e w1 ⟨n, hn, rfl, hB1, hT1⟩
  obtain ⟨i0, hi, hz0, hz1, hz2⟩ := info_parts Trym.info4
  clear hK hT hx
  go_wp2_with (at_make; refine wpList_make_full _ rfl _ _ 28 rfl w1.heap.size 4 i0 _ 1 Trym.underlying28 hi hz0 hz1 _ _ _ _ n rfl rfl (by omega) (by omega) (by rw [hz2]; omega) (by unfold maxLen; omega) (Nat.le_refl _) ?_; intro w2 hown hgrow)
  have hP0 : Tops w2 w1.heap.size n (topv kx tx) 0 := Tops.start (topv kx tx) hown
  have hB2 : Below w1.heap.size w1 w2 := (Below.refl _ _).grown hgrow (Nat.le_refl _) (by intro k hk; cases hk)
  clear hown hgrow hi hz0 hz1 hz2
  go_loopw [7, 8, 9] (fun o c i wr => ∃ k : Nat, k ≤ n ∧ i = .int .i64 k ∧ o = .int .i64 (cnt (opn kx tx) k) ∧ c = .int .i64 (cnt (cls kx tx) k) ∧ Below w1.heap.size w1 wr ∧ Tops wr w1.heap.size n (topv kx tx) k) (fun _ _ i _ => n - (intOf i).toNat)
  case atStart => exact ⟨0, Nat.zero_le _, rfl, rfl, rfl, hB2, hP0⟩
  case round =>
    clear hB2 hP0
    obtain ⟨k, hk, rfl, rfl, rfl, hBr, hP⟩ := hrel
    by_cases hkn : k < n
    · obtain ⟨c0, c1, c2, c3⟩ := (hT1.below hBr hT1.lt).cells k hkn
      have l1 := cnt_le (opn kx tx) k
      have l2 := cnt_le (cls kx tx) k
      have hgT := hT1.lt
      have n1 : ¬ w1.heap.size = w.heap.size := by omega
      have n2 : ¬ w.heap.size = w1.heap.size := by omega
      rcases marks_cases kx tx k with ⟨hm, ho, hc, htv⟩ | ⟨hm, ho, hc, htv⟩ | ⟨hm, ho, hc, htv⟩ | ⟨hm, ho, hc, htv, hd⟩ | ⟨hm, ho, hc, htv, hd⟩
      · have E1 : Hid _ := step_cnt (opn kx tx) k (b := false) ho
        have E2 : Hid _ := step_cnt (cls kx tx) k (b := false) hc
        have E3 : Hid (topv kx tx k = false) := htv
        unfold opn at ho
        unfold cls at hc
        unfold cma at hm
        clear htv
        go_wp2_with fail
        refine (mark_any _ _ _ _ _ _).mono ?_
        rintro e wa ⟨rfl, hba⟩
        have hBa := hBr.trans (hba.mono hBr.size)
        have hPa := hP.below hba hP.lt
        clear c0 c1 c2 c3 hba hBr hP
        obtain ⟨c0, c1, c2, c3⟩ := (hT1.below hBa hT1.lt).cells k hkn
        go_wp2_with fail
        refine (mark_any _ _ _ _ _ _).mono ?_
        rintro e wb ⟨rfl, hbb⟩
        have hBb := hBa.trans (hbb.mono hBa.size)
        have hPb := hPa.below hbb hPa.lt
        clear c0 c1 c2 c3 hbb hBa hPa
        obtain ⟨c0, c1, c2, c3⟩ := (hT1.below hBb hT1.lt).cells k hkn
        go_wp2_with fail
        refine (mark_any _ _ _ _ _ _).mono ?_
        rintro e wc ⟨rfl, hbc⟩
        have hBc := hBb.trans (hbc.mono hBb.size)
        have hPc := hPb.below hbc hPb.lt
        clear c0 c1 c2 c3 hbc hBb hPb
        go_wp2
        go_roundw
        case rel => exact ⟨k + 1, by omega, by go_num, by rw [E1.out]; go_num, by rw [E2.out]; go_num, hBc, hPc.skip E3.out⟩
        case measure => simp [intOf]; omega
      · have E1 : Hid _ := step_cnt (opn kx tx) k (b := true) ho
        have E2 : Hid _ := step_cnt (cls kx tx) k (b := false) hc
        have E3 : Hid (topv kx tx k = false) := htv
        unfold opn at ho
        unfold cls at hc
        unfold cma at hm
        clear htv
        go_wp2_with fail
        refine (mark_any _ _ _ _ _ _).mono ?_
        rintro e wa ⟨rfl, hba⟩
        have hBa := hBr.trans (hba.mono hBr.size)
        have hPa := hP.below hba hP.lt
        clear c0 c1 c2 c3 hba hBr hP
        obtain ⟨c0, c1, c2, c3⟩ := (hT1.below hBa hT1.lt).cells k hkn
        go_wp2_with fail
        refine (mark_any _ _ _ _ _ _).mono ?_
        rintro e wb ⟨rfl, hbb⟩
        have hBb := hBa.trans (hbb.mono hBa.size)
        have hPb := hPa.below hbb hPa.lt
        clear c0 c1 c2 c3 hbb hBa hPa
        obtain ⟨c0, c1, c2, c3⟩ := (hT1.below hBb hT1.lt).cells k hkn
        go_wp2_with fail
        refine (mark_any _ _ _ _ _ _).mono ?_
        rintro e wc ⟨rfl, hbc⟩
        have hBc := hBb.trans (hbc.mono hBb.size)
        have hPc := hPb.below hbc hPb.lt
        clear c0 c1 c2 c3 hbc hBb hPb
        go_wp2
        go_roundw
        case rel => exact ⟨k + 1, by omega, by go_num, by rw [E1.out]; go_num, by rw [E2.out]; go_num, hBc, hPc.skip E3.out⟩
        case measure => simp [intOf]; omega
      · have E1 : Hid _ := step_cnt (opn kx tx) k (b := false) ho
        have E2 : Hid _ := step_cnt (cls kx tx) k (b := true) hc
        have E3 : Hid (topv kx tx k = false) := htv
        unfold opn at ho
        unfold cls at hc
        unfold cma at hm
        clear htv
        go_wp2_with fail
        refine (mark_any _ _ _ _ _ _).mono ?_
        rintro e wa ⟨rfl, hba⟩
        have hBa := hBr.trans (hba.mono hBr.size)
        have hPa := hP.below hba hP.lt
        clear c0 c1 c2 c3 hba hBr hP
        obtain ⟨c0, c1, c2, c3⟩ := (hT1.below hBa hT1.lt).cells k hkn
        go_wp2_with fail
        refine (mark_any _ _ _ _ _ _).mono ?_
        rintro e wb ⟨rfl, hbb⟩
        have hBb := hBa.trans (hbb.mono hBa.size)
        have hPb := hPa.below hbb hPa.lt
        clear c0 c1 c2 c3 hbb hBa hPa
        obtain ⟨c0, c1, c2, c3⟩ := (hT1.below hBb hT1.lt).cells k hkn
        go_wp2_with fail
        refine (mark_any _ _ _ _ _ _).mono ?_
        rintro e wc ⟨rfl, hbc⟩
        have hBc := hBb.trans (hbc.mono hBb.size)
        have hPc := hPb.below hbc hPb.lt
        clear c0 c1 c2 c3 hbc hBb hPb
        go_wp2
        go_roundw
        case rel => exact ⟨k + 1, by omega, by go_num, by rw [E1.out]; go_num, by rw [E2.out]; go_num, hBc, hPc.skip E3.out⟩
        case measure => simp [intOf]; omega
      · have E1 : Hid _ := step_cnt (opn kx tx) k (b := false) ho
        have E2 : Hid _ := step_cnt (cls kx tx) k (b := false) hc
        have E3 : Hid (topv kx tx k = true) := htv
        unfold opn at ho
        unfold cls at hc
        unfold cma at hm
        clear htv
        go_wp2_with fail
        refine (mark_any _ _ _ _ _ _).mono ?_
        rintro e wa ⟨rfl, hba⟩
        have hBa := hBr.trans (hba.mono hBr.size)
        have hPa := hP.below hba hP.lt
        clear c0 c1 c2 c3 hba hBr hP
        obtain ⟨c0, c1, c2, c3⟩ := (hT1.below hBa hT1.lt).cells k hkn
        obtain ⟨p0, p1⟩ := hPa.cell k hkn
        have hBa' := hBa.setCell (p := ⟨w1.heap.size, k, none⟩) (Nat.le_refl _) (.bool true)
        have hPa' := hPa.put E3.out
        go_wp2_with fail
        clear p0 p1 hBa hPa
        refine (mark_any _ _ _ _ _ _).mono ?_
        rintro e wb ⟨rfl, hbb⟩
        have hBb := hBa'.trans (hbb.mono hBa'.size)
        have hPb := hPa'.below hbb hPa'.lt
        clear c0 c1 c2 c3 hbb hBa' hPa'
        obtain ⟨c0, c1, c2, c3⟩ := (hT1.below hBb hT1.lt).cells k hkn
        go_wp2_with fail
        refine (mark_any _ _ _ _ _ _).mono ?_
        rintro e wc ⟨rfl, hbc⟩
        have hBc := hBb.trans (hbc.mono hBb.size)
        have hPc := hPb.below hbc hPb.lt
        clear c0 c1 c2 c3 hbc hBb hPb
        go_wp2
        go_roundw
        case rel => exact ⟨k + 1, by omega, by go_num, by rw [E1.out]; go_num, by rw [E2.out]; go_num, hBc, hPc⟩
        case measure => simp [intOf]; omega
      · have E1 : Hid _ := step_cnt (opn kx tx) k (b := false) ho
        have E2 : Hid _ := step_cnt (cls kx tx) k (b := false) hc
        have E3 : Hid (topv kx tx k = false) := htv
        unfold opn at ho
        unfold cls at hc
        unfold cma at hm
        clear htv
        go_wp2_with fail
        refine (mark_any _ _ _ _ _ _).mono ?_
        rintro e wa ⟨rfl, hba⟩
        have hBa := hBr.trans (hba.mono hBr.size)
        have hPa := hP.below hba hP.lt
        clear c0 c1 c2 c3 hba hBr hP
        obtain ⟨c0, c1, c2, c3⟩ := (hT1.below hBa hT1.lt).cells k hkn
        go_wp2_with fail
        refine (mark_any _ _ _ _ _ _).mono ?_
        rintro e wb ⟨rfl, hbb⟩
        have hBb := hBa.trans (hbb.mono hBa.size)
        have hPb := hPa.below hbb hPa.lt
        clear c0 c1 c2 c3 hbb hBa hPa
        obtain ⟨c0, c1, c2, c3⟩ := (hT1.below hBb hT1.lt).cells k hkn
        go_wp2_with fail
        refine (mark_any _ _ _ _ _ _).mono ?_
        rintro e wc ⟨rfl, hbc⟩
        have hBc := hBb.trans (hbc.mono hBb.size)
        have hPc := hPb.below hbc hPb.lt
        clear c0 c1 c2 c3 hbc hBb hPb
        go_wp2
        go_roundw
        case rel => exact ⟨k + 1, by omega, by go_num, by rw [E1.out]; go_num, by rw [E2.out]; go_num, hBc, hPc.skip E3.out⟩
        case measure => simp [intOf]; omega
    · obtain rfl : k = n := by omega
      have hT2 := hT1.below hBr hT1.lt
      have hgT := hT1.lt
      have hsz := hBr.size
      have hpz := hP.lt
      have hBw : Below w.heap.size w wr := hB1.trans (hBr.mono (by omega))
      have l1 := cnt_le (opn kx tx) k
      have l2 := cnt_le (cls kx tx) k
      clear hT1 hBr hB1
      go_wp2_with fail
      refine (zzclauses_any _ _ kx tx _ hn hT2).mono ?_
      rintro e w3 ⟨o, cap, cur, rfl, hB3, ho, hcur, hpc⟩
      obtain ⟨hL0, hL1⟩ := spans_pos (topv kx tx) k
      have hT3 := hT2.below hB3 hT2.lt
      have hP3 := hP.below hB3 hP.lt
      have hBw3 : Below w.heap.size w w3 := hBw.trans (hB3.mono (by omega))
      have hsz3 := hB3.size
      have hoz : o < w3.heap.size := (Array.getElem?_eq_some_iff.1 hcur).1
      clear hT2 hP hBw hB3
      generalize hL : (spans (topv kx tx) k).length = L at *
      have HL : Hid ((spans (topv kx tx) k).length = L) := hL
      clear hL
      have e1 : ((L : Int) == 0) = false := by simp; omega
      have e2 : decide ((k : Int) + 1 < (L : Int)) = false := by simp; omega
      go_wp2
      go_loopw [11, 12] (fun p i wr => ∃ j : Nat, j ≤ L ∧ i = .int .i64 j ∧ Below w3.heap.size w3 wr ∧ ∃ q : Nat, q ≤ k ∧ p = .int .i64 q ∧ (j = 0 → q = 0) ∧ (0 < j → ∃ x, (spans (topv kx tx) k)[j - 1]? = some x ∧ q = x.2)) (fun _ i _ => L - (intOf i).toNat)
      case atStart => exact ⟨0, Nat.zero_le _, rfl, Below.refl _ _, 0, Nat.zero_le _, rfl, fun _ => rfl, fun h => absurd h (by omega)⟩
      case round =>
        obtain ⟨j, hj, rfl, hBj, q, hq, rfl, hq0, hq1⟩ := hrel
        by_cases hjL : j < L
        · have hex : ∃ x, (spans (topv kx tx) k)[j]? = some x := ⟨_, List.getElem?_eq_getElem (by rw [HL.out]; exact hjL)⟩
          obtain ⟨⟨s, e⟩, hx⟩ := hex
          obtain ⟨hS, _, _, hen⟩ := spans_at (topv kx tx) k j (s, e) hx
          have hle : s ≤ e := hS.le
          have hclr : ∀ p, s ≤ p → p < e → topv kx tx p = false := hS.clear
          obtain ⟨u, hu, ao, c, hu2, hao⟩ := hpc j _ hx
          obtain ⟨mm, rfl⟩ : ∃ mm, e = s + mm := ⟨e - s, by omega⟩
          have cO : wr.cell? ⟨o, j, none⟩ = some (.slice ao mm c) := by
            rw [cell_of_row wr o j cur 26 (0, 0) ((hBj.block o hoz).trans hcur), hu, hu2]; simp
          have hao : 0 < mm → ao = some ⟨w.heap.size, s * 4, none⟩ := fun h => hao (by simp only; omega)
          clear hu hu2 hpc hcur
          simp only at hen
          by_cases hj0 : 0 < j
          · obtain ⟨y, hy1, hy2, hy3⟩ := hS.next hj0
            obtain ⟨y', hy'1, hy'2⟩ := hq1 hj0
            have hyy : y' = y := by rw [hy1] at hy'1; simpa using hy'1.symm
            have tq : topv kx tx q = true := by rw [hy'2, hyy]; exact hy3
            have Hs : Hid (s = q + 1) := by show s = q + 1; rw [hy'2, hyy]; exact hy2
            have hqk : q < k := by have := Hs.out; omega
            have hqm : q + 1 + mm ≤ k := by have := Hs.out; omega
            have tc : wr.cell? ⟨w1.heap.size, q, none⟩ = some (.bool true) := by rw [((hP3.below hBj hP3.lt).cell q hqk).1]; simp [tq, hqk]
            clear hS hq0 hq1 hy1 hy2 hy3 hy'1 hy'2 hyy tq
            by_cases hm0 : 0 < mm
            · have hao' := hao hm0
              subst hao'
              clear hao
              go_wp2
              go_loopw [11, 14] (fun p i wr => ∃ a b : Nat, a ≤ mm ∧ i = .int .i64 a ∧ b = s + a ∧ p = .int .i64 b ∧ Below w3.heap.size w3 wr) (fun _ i _ => mm - (intOf i).toNat)
              case atStart => exact ⟨0, s, Nat.zero_le _, rfl, rfl, by have := Hs.out; go_num, hBj⟩
              case round =>
                clear hBj cO
                rename_i wr2 _
                obtain ⟨a, b, ha, rfl, hb, rfl, hBi⟩ := hrel
                have hbk : b ≤ k := by omega
                have Hb : Hid (b = s + a) := hb
                have Hx : Hid _ := hx
                clear hb hx
                by_cases ham : a < mm
                · have hbn : b < k := by have := Hb.out; omega
                  have hS0 := InS.start hT3 hP3 hBi Hb.out hbn (hclr b (by have := Hb.out; omega) (by have := Hb.out; omega))
                  have hS := hS0.keep ((Below.refl _ _).drew)
                  have i1 : (0 : Int) ≤ (a : Int) := by omega
                  have i2 : (a : Int) < (mm : Int) := by omega
                  have i3 : (0 : Int) ≤ (b : Int) := by omega
                  have i4 : (b : Int) < (k : Int) := by omega
                  clear hS0 hBi hT3 hP3 hclr
                  go_wp2
                  go_region_held3 (fun wr => wr.cell? ⟨w1.heap.size, b, none⟩ = some (.bool false) ∧
                    wr.cell? ⟨w.heap.size, s * 4 + a * 4, none⟩ = some (.int .i64 (kx b)) ∧ wr.cell? ⟨w.heap.size, s * 4 + a * 4 + 1, none⟩ = some (.string (tx b)) ∧ wr.cell? ⟨w.heap.size, s * 4 + a * 4 + 2, none⟩ = some (.int .i64 (b : Int)) ∧ wr.cell? ⟨w.heap.size, s * 4 + a * 4 + 3, none⟩ = some (.int .i64 ((b : Int) + 1)) ∧
                    wr.cell? ⟨w.heap.size, b * 4, none⟩ = some (.int .i64 (kx b)) ∧ wr.cell? ⟨w.heap.size, b * 4 + 1, none⟩ = some (.string (tx b)) ∧ wr.cell? ⟨w.heap.size, b * 4 + 2, none⟩ = some (.int .i64 (b : Int)) ∧ wr.cell? ⟨w.heap.size, b * 4 + 3, none⟩ = some (.int .i64 ((b : Int) + 1)) ∧
                    Below w3.heap.size w3 wr) (first | assumption | exact InS.keep (by assumption) (by assumption))
                    (first | (go_at_call 11; refine (same_any _ _ _ _ _).mono ?_; rintro e w' ⟨rfl, hb'⟩))
                  rename_i hH
                  have hBf := hH.2.2.2.2.2.2.2.2.2
                  clear hH hS
                  go_wp2
                  go_roundw
                  case rel => exact ⟨a + 1, b + 1, by omega, by go_num, by have := Hb.out; omega, by go_num, hBf⟩
                  case measure => simp [intOf]; omega
                · obtain rfl : a = mm := by omega
                  go_wp2
                  go_roundw
                  case rel => exact ⟨j + 1, by omega, by go_num, hBi, b, by omega, rfl, fun h => by omega, fun _ => ⟨(s, s + a), Hx.out, Hb.out⟩⟩
                  case measure => simp [intOf]; omega
            · obtain rfl : mm = 0 := by omega
              clear hao
              go_wp2
              go_loopw [11, 14] (fun p i wr => ∃ a b : Nat, a ≤ 0 ∧ i = .int .i64 a ∧ b = s + a ∧ p = .int .i64 b ∧ Below w3.heap.size w3 wr) (fun _ i _ => 0 - (intOf i).toNat)
              case atStart => exact ⟨0, s, Nat.zero_le _, rfl, rfl, by have := Hs.out; go_num, hBj⟩
              case round =>
                clear hBj cO
                rename_i wr2 _
                obtain ⟨a, b, ha, rfl, hb, rfl, hBi⟩ := hrel
                have hbk : b ≤ k := by omega
                have Hb : Hid (b = s + a) := hb
                have Hx : Hid _ := hx
                clear hb hx
                obtain rfl : a = 0 := by omega
                go_wp2
                go_roundw
                case rel => exact ⟨j + 1, by omega, by go_num, hBi, b, by omega, rfl, fun h => by omega, fun _ => ⟨(s, s + 0), Hx.out, Hb.out⟩⟩
                case measure => simp [intOf]; omega
          · have hs0 : s = 0 := hS.first (by omega)
            have hq00 : q = 0 := hq0 (by omega)
            have Hs : Hid (s = q) := by show s = q; omega
            have hqm : q + mm ≤ k := by have := Hs.out; omega
            clear hS hq0 hq1 hs0 hq00
            by_cases hm0 : 0 < mm
            · have hao' := hao hm0
              subst hao'
              clear hao
              go_wp2
              go_loopw [11, 14] (fun p i wr => ∃ a b : Nat, a ≤ mm ∧ i = .int .i64 a ∧ b = s + a ∧ p = .int .i64 b ∧ Below w3.heap.size w3 wr) (fun _ i _ => mm - (intOf i).toNat)
              case atStart => exact ⟨0, s, Nat.zero_le _, rfl, rfl, by have := Hs.out; go_num, hBj⟩
              case round =>
                clear hBj cO
                rename_i wr2 _
                obtain ⟨a, b, ha, rfl, hb, rfl, hBi⟩ := hrel
                have hbk : b ≤ k := by omega
                have Hb : Hid (b = s + a) := hb
                have Hx : Hid _ := hx
                clear hb hx
                by_cases ham : a < mm
                · have hbn : b < k := by have := Hb.out; omega
                  have hS0 := InS.start hT3 hP3 hBi Hb.out hbn (hclr b (by have := Hb.out; omega) (by have := Hb.out; omega))
                  have hS := hS0.keep ((Below.refl _ _).drew)
                  have i1 : (0 : Int) ≤ (a : Int) := by omega
                  have i2 : (a : Int) < (mm : Int) := by omega
                  have i3 : (0 : Int) ≤ (b : Int) := by omega
                  have i4 : (b : Int) < (k : Int) := by omega
                  clear hS0 hBi hT3 hP3 hclr
                  go_wp2
                  go_region_held3 (fun wr => wr.cell? ⟨w1.heap.size, b, none⟩ = some (.bool false) ∧
                    wr.cell? ⟨w.heap.size, s * 4 + a * 4, none⟩ = some (.int .i64 (kx b)) ∧ wr.cell? ⟨w.heap.size, s * 4 + a * 4 + 1, none⟩ = some (.string (tx b)) ∧ wr.cell? ⟨w.heap.size, s * 4 + a * 4 + 2, none⟩ = some (.int .i64 (b : Int)) ∧ wr.cell? ⟨w.heap.size, s * 4 + a * 4 + 3, none⟩ = some (.int .i64 ((b : Int) + 1)) ∧
                    wr.cell? ⟨w.heap.size, b * 4, none⟩ = some (.int .i64 (kx b)) ∧ wr.cell? ⟨w.heap.size, b * 4 + 1, none⟩ = some (.string (tx b)) ∧ wr.cell? ⟨w.heap.size, b * 4 + 2, none⟩ = some (.int .i64 (b : Int)) ∧ wr.cell? ⟨w.heap.size, b * 4 + 3, none⟩ = some (.int .i64 ((b : Int) + 1)) ∧
                    Below w3.heap.size w3 wr) (first | assumption | exact InS.keep (by assumption) (by assumption))
                    (first | (go_at_call 11; refine (same_any _ _ _ _ _).mono ?_; rintro e w' ⟨rfl, hb'⟩))
                  rename_i hH
                  have hBf := hH.2.2.2.2.2.2.2.2.2
                  clear hH hS
                  go_wp2
                  go_roundw
                  case rel => exact ⟨a + 1, b + 1, by omega, by go_num, by have := Hb.out; omega, by go_num, hBf⟩
                  case measure => simp [intOf]; omega
                · obtain rfl : a = mm := by omega
                  go_wp2
                  go_roundw
                  case rel => exact ⟨j + 1, by omega, by go_num, hBi, b, by omega, rfl, fun h => by omega, fun _ => ⟨(s, s + a), Hx.out, Hb.out⟩⟩
                  case measure => simp [intOf]; omega
            · obtain rfl : mm = 0 := by omega
              clear hao
              go_wp2
              go_loopw [11, 14] (fun p i wr => ∃ a b : Nat, a ≤ 0 ∧ i = .int .i64 a ∧ b = s + a ∧ p = .int .i64 b ∧ Below w3.heap.size w3 wr) (fun _ i _ => 0 - (intOf i).toNat)
              case atStart => exact ⟨0, s, Nat.zero_le _, rfl, rfl, by have := Hs.out; go_num, hBj⟩
              case round =>
                clear hBj cO
                rename_i wr2 _
                obtain ⟨a, b, ha, rfl, hb, rfl, hBi⟩ := hrel
                have hbk : b ≤ k := by omega
                have Hb : Hid (b = s + a) := hb
                have Hx : Hid _ := hx
                clear hb hx
                obtain rfl : a = 0 := by omega
                go_wp2
                go_roundw
                case rel => exact ⟨j + 1, by omega, by go_num, hBi, b, by omega, rfl, fun h => by omega, fun _ => ⟨(s, s + 0), Hx.out, Hb.out⟩⟩
                case measure => simp [intOf]; omega
        · obtain rfl : j = L := by omega
          obtain ⟨x, hx1, hx2⟩ := hq1 hL0
          have hx3 := (spans_at (topv kx tx) k (j - 1) x hx1).2.2.1 (by rw [HL.out]; omega)
          have hqk : q = k := by omega
          clear hq0 hq1 hx1 hx2 hx3 hpc
          go_wp2
          go_ret
          refine ⟨ret_bool ?_, hBw3.trans (hBj.mono (by omega))⟩
          simp
end Go.Proofs.Qxb6601099aMods
