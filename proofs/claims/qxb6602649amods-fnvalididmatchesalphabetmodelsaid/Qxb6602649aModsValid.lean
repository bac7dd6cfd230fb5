import Derived.Test.Qxb6602649aModsAlpha
namespace Go.Proofs.Qxb6602649aMods
open Go.RowKit

/-- The i-th byte is allowed. -/
def okAt (s : ByteArray) (i : Nat) : Bool := if h : i < s.size then okc ((s[i]'h).toNat : Int) else true

/-- A valid id. -/
def Valid (s : ByteArray) : Prop := 0 < s.size ∧ s.size ≤ 128 ∧ ∀ i, i < s.size → okAt s i = true

/-- How many of the first k bytes are allowed. -/
def cntOk (s : ByteArray) : Nat → Nat
  | 0 => 0
  | k + 1 => cntOk s k + if okAt s k then 1 else 0
theorem cntOk_le (s : ByteArray) (k : Nat) : cntOk s k ≤ k := by
  induction k with
  | zero => simp [cntOk]
  | succ k ih => simp only [cntOk]; split <;> omega
theorem cntOk_all (s : ByteArray) (k : Nat) : cntOk s k = k ↔ ∀ i, i < k → okAt s i = true := by
  induction k with
  | zero => simp [cntOk]
  | succ k ih =>
    have hle := cntOk_le s k
    simp only [cntOk]
    constructor
    · intro h i hi
      have hk : okAt s k = true := by
        cases ho : okAt s k with
        | true => rfl
        | false => simp [ho] at h; omega
      simp [hk] at h
      by_cases e : i = k
      · subst e; exact hk
      · exact ih.1 h i (by omega)
    · intro h
      rw [if_pos (h k (by omega)), ih.2 (fun i hi => h i (by omega))]

/-- It returns whether s is valid. -/
def Tells (s : ByteArray) (e : Ending) : Prop := ∃ r : Bool, e = .returned (.bool r) ∧ (r = true ↔ Valid s)

set_option maxHeartbeats 400000 in
theorem model_any (s : ByteArray) (w : World) (hs : s.size ≤ 65536) :
    Calls Trym.prog 8 #[.string s] w fun e w' => Tells s e ∧ w' = w := by
  by_cases h1 : s.size < 1
  · have d1 : decide ((s.size : Int) < 1) = true := by simp; omega
    go_enter Trym.func8, Trym.ntmps8
    go_wp2
    go_ret
    exact ⟨⟨false, rfl, by simp [Valid]; omega⟩, rfl⟩
  by_cases h2 : 128 < s.size
  · have d1 : decide ((s.size : Int) < 1) = false := by simp; omega
    have d2 : decide ((128 : Int) < (s.size : Int)) = true := by simp; omega
    go_enter Trym.func8, Trym.ntmps8
    go_wp2
    go_ret
    exact ⟨⟨false, rfl, by simp [Valid]; omega⟩, rfl⟩
  have d1 : decide ((s.size : Int) < 1) = false := by simp; omega
  have d2 : decide ((128 : Int) < (s.size : Int)) = false := by simp; omega
  go_enter Trym.func8, Trym.ntmps8
  go_wp2
  go_loop [4, 5] (fun g i => ∃ k : Nat, k ≤ s.size ∧ i = .int .i64 k ∧ g = .int .i64 (cntOk s k)) (fun _ i => s.size - (intOf i).toNat)
  case atStart => exact ⟨0, Nat.zero_le _, rfl, rfl⟩
  case round =>
    obtain ⟨k, hk, rfl, rfl⟩ := hrel
    have hle := cntOk_le s k
    by_cases hlt : k < s.size
    · have hb : (s[k]'hlt).toNat < 256 := (s[k]'hlt).toNat_lt
      have HO : Hid (okAt s k = okc ((s[k]'hlt).toNat : Int)) := by show _ = _; simp [okAt, hlt]
      have HC : Hid (cntOk s (k + 1) = cntOk s k + if okAt s k then 1 else 0) := rfl
      go_wp2_with (go_at_call 13; refine (alpha_any _ _ (by omega) (by omega)).mono ?_; rintro e w' ⟨rfl, rfl⟩)
      all_goals
        rename_i ho
        go_round
        case rel => exact ⟨k + 1, by omega, by go_num, by rw [HC.out, HO.out, ho]; go_num⟩
        case measure => simp [intOf]; omega
    · obtain rfl : k = s.size := by omega
      go_wp2
      go_ret
      refine ⟨⟨_, rfl, ?_⟩, rfl⟩
      have hall := cntOk_all s s.size
      simp only [beq_iff_eq]
      constructor
      · intro h
        exact ⟨by omega, by omega, hall.1 (by omega)⟩
      · intro h
        have := hall.2 h.2.2
        omega

theorem bytesRow_ok (s : ByteArray) (cap j : Nat) (hj : j < s.size) : (bytesRow s cap)[j]? = some (.int .u8 ((s[j]'hj).toNat : Int)) := bytesRow_at s cap j hj

set_option maxHeartbeats 1000000 in
theorem valid_any (s : ByteArray) (w : World) (hs : s.size ≤ 65536) :
    Calls Trym.prog 12 #[.string s] w fun e w' => Tells s e ∧ Below w.heap.size w w' := by
  have hcv := fun (w : World) (s : ByteArray) => run_bytes_of_string (P := Trym.prog) w 9 29 5 s Trym.underlying9 Trym.underlying29 Trym.underlying5
  by_cases h1 : s.size = 0
  · have d1 : ((s.size : Int) == 0) = true := by simp [h1]
    clear hcv
    have H1 : Hid (s.size = 0) := h1
    clear h1
    go_enter Trym.func12, Trym.ntmps12
    go_wp2
    go_ret
    exact ⟨⟨false, rfl, iff_of_false (by simp) (fun h => by have h3 := h.1; have h4 := H1.out; omega)⟩, Below.refl _ _⟩
  have d1 : ((s.size : Int) == 0) = false := beq_eq_false_iff_ne.2 (by omega)
  by_cases h2 : 128 < s.size
  · have d2 : decide ((128 : Int) < (s.size : Int)) = true := by simp; omega
    clear hcv
    go_enter Trym.func12, Trym.ntmps12
    go_wp2
    go_ret
    exact ⟨⟨false, rfl, iff_of_false (by simp) (fun h => by have h3 := h.1; have h4 := h.2.1; omega)⟩, Below.refl _ _⟩
  have d2 : decide ((128 : Int) < (s.size : Int)) = false := by simp; omega
  go_enter Trym.func12, Trym.ntmps12
  go_wp2
  have hge := grownCap_ge w s.size 0 5
  generalize grownCap w s.size 0 5 = cap at *
  have HB : Hid (Below w.heap.size w ((w.alloc (.cells (bytesRow s cap) 5 ((bytesRow s cap).size, (bytesRow s cap).size + 1))).drew)) := ((Below.refl _ _).alloc (Nat.le_refl _) _).drew
  have HC : Hid (∀ k (h : k < s.size), ((w.alloc (.cells (bytesRow s cap) 5 ((bytesRow s cap).size, (bytesRow s cap).size + 1))).drew).cell? ⟨w.heap.size, k, none⟩ = some (.int .u8 ((s[k]'h).toNat : Int))) := by
    intro k h
    rw [World.cell?_drew, cell_of_row _ w.heap.size k _ 5 _ (heap_alloc_new w _)]
    exact bytesRow_ok s cap k h
  generalize (w.alloc (.cells (bytesRow s cap) 5 ((bytesRow s cap).size, (bytesRow s cap).size + 1))).drew = W at *
  clear hcv
  go_loop [17] (fun i => ∃ k : Nat, k ≤ s.size ∧ i = .int .i64 k ∧ Hid (∀ i, i < k → okAt s i = true)) (fun i => s.size - (intOf i).toNat)
  case atStart => exact ⟨0, Nat.zero_le _, rfl, fun i hi => absurd hi (by omega)⟩
  case round =>
    obtain ⟨k, hk, rfl, HK⟩ := hrel
    by_cases hlt : k < s.size
    · have hcell := HC.out k hlt
      have hb : (s[k]'hlt).toNat < 256 := (s[k]'hlt).toNat_lt
      have HO : Hid (okAt s k = okc ((s[k]'hlt).toNat : Int)) := by show _ = _; simp [okAt, hlt]
      generalize hc : ((s[k]'hlt).toNat : Int) = c at *
      have c0 : 0 ≤ c := by omega
      have c1 : c ≤ 255 := by omega
      clear hc hb
      rcases (show (97 ≤ c ∧ c ≤ 122) ∨ (65 ≤ c ∧ c ≤ 90) ∨ (48 ≤ c ∧ c ≤ 57) ∨ (46 ≤ c ∧ c ≤ 46) ∨ (95 ≤ c ∧ c ≤ 95) ∨ (58 ≤ c ∧ c ≤ 58) ∨ (45 ≤ c ∧ c ≤ 45) ∨ (0 ≤ c ∧ c ≤ 44) ∨ (47 ≤ c ∧ c ≤ 47) ∨ (59 ≤ c ∧ c ≤ 64) ∨ (91 ≤ c ∧ c ≤ 94) ∨ (96 ≤ c ∧ c ≤ 96) ∨ (123 ≤ c ∧ c ≤ 255) from by omega) with ⟨r1, r2⟩ | ⟨r1, r2⟩ | ⟨r1, r2⟩ | ⟨r1, r2⟩ | ⟨r1, r2⟩ | ⟨r1, r2⟩ | ⟨r1, r2⟩ | ⟨r1, r2⟩ | ⟨r1, r2⟩ | ⟨r1, r2⟩ | ⟨r1, r2⟩ | ⟨r1, r2⟩ | ⟨r1, r2⟩
      · have HK' : Hid (okAt s k = true) := by rw [HO.out]; show okc c = true; unfold okc; simp only [decide_eq_true_eq]; omega
        have g97 : decide ((97 : Int) ≤ c) = true := by simp; omega
        have g65 : decide ((65 : Int) ≤ c) = true := by simp; omega
        have g48 : decide ((48 : Int) ≤ c) = true := by simp; omega
        have g122 : decide (c ≤ (122 : Int)) = true := by simp; omega
        have g90 : decide (c ≤ (90 : Int)) = false := by simp; omega
        have g57 : decide (c ≤ (57 : Int)) = false := by simp; omega
        have e46 : (c == 46) = false := by simp; omega
        have e95 : (c == 95) = false := by simp; omega
        have e58 : (c == 58) = false := by simp; omega
        have e45 : (c == 45) = false := by simp; omega
        go_wp2
        go_round
        case rel => exact ⟨k + 1, by omega, by go_num, fun i hi => by
          by_cases e : i = k
          · subst e; exact HK'.out
          · exact HK.out i (by omega)⟩
        case measure => simp [intOf]; omega
      · have HK' : Hid (okAt s k = true) := by rw [HO.out]; show okc c = true; unfold okc; simp only [decide_eq_true_eq]; omega
        have g97 : decide ((97 : Int) ≤ c) = false := by simp; omega
        have g65 : decide ((65 : Int) ≤ c) = true := by simp; omega
        have g48 : decide ((48 : Int) ≤ c) = true := by simp; omega
        have g122 : decide (c ≤ (122 : Int)) = true := by simp; omega
        have g90 : decide (c ≤ (90 : Int)) = true := by simp; omega
        have g57 : decide (c ≤ (57 : Int)) = false := by simp; omega
        have e46 : (c == 46) = false := by simp; omega
        have e95 : (c == 95) = false := by simp; omega
        have e58 : (c == 58) = false := by simp; omega
        have e45 : (c == 45) = false := by simp; omega
        go_wp2
        go_round
        case rel => exact ⟨k + 1, by omega, by go_num, fun i hi => by
          by_cases e : i = k
          · subst e; exact HK'.out
          · exact HK.out i (by omega)⟩
        case measure => simp [intOf]; omega
      · have HK' : Hid (okAt s k = true) := by rw [HO.out]; show okc c = true; unfold okc; simp only [decide_eq_true_eq]; omega
        have g97 : decide ((97 : Int) ≤ c) = false := by simp; omega
        have g65 : decide ((65 : Int) ≤ c) = false := by simp; omega
        have g48 : decide ((48 : Int) ≤ c) = true := by simp; omega
        have g122 : decide (c ≤ (122 : Int)) = true := by simp; omega
        have g90 : decide (c ≤ (90 : Int)) = true := by simp; omega
        have g57 : decide (c ≤ (57 : Int)) = true := by simp; omega
        have e46 : (c == 46) = false := by simp; omega
        have e95 : (c == 95) = false := by simp; omega
        have e58 : (c == 58) = false := by simp; omega
        have e45 : (c == 45) = false := by simp; omega
        go_wp2
        go_round
        case rel => exact ⟨k + 1, by omega, by go_num, fun i hi => by
          by_cases e : i = k
          · subst e; exact HK'.out
          · exact HK.out i (by omega)⟩
        case measure => simp [intOf]; omega
      · have HK' : Hid (okAt s k = true) := by rw [HO.out]; show okc c = true; unfold okc; simp only [decide_eq_true_eq]; omega
        have g97 : decide ((97 : Int) ≤ c) = false := by simp; omega
        have g65 : decide ((65 : Int) ≤ c) = false := by simp; omega
        have g48 : decide ((48 : Int) ≤ c) = false := by simp; omega
        have g122 : decide (c ≤ (122 : Int)) = true := by simp; omega
        have g90 : decide (c ≤ (90 : Int)) = true := by simp; omega
        have g57 : decide (c ≤ (57 : Int)) = true := by simp; omega
        have e46 : (c == 46) = true := by simp; omega
        have e95 : (c == 95) = false := by simp; omega
        have e58 : (c == 58) = false := by simp; omega
        have e45 : (c == 45) = false := by simp; omega
        go_wp2
        go_round
        case rel => exact ⟨k + 1, by omega, by go_num, fun i hi => by
          by_cases e : i = k
          · subst e; exact HK'.out
          · exact HK.out i (by omega)⟩
        case measure => simp [intOf]; omega
      · have HK' : Hid (okAt s k = true) := by rw [HO.out]; show okc c = true; unfold okc; simp only [decide_eq_true_eq]; omega
        have g97 : decide ((97 : Int) ≤ c) = false := by simp; omega
        have g65 : decide ((65 : Int) ≤ c) = true := by simp; omega
        have g48 : decide ((48 : Int) ≤ c) = true := by simp; omega
        have g122 : decide (c ≤ (122 : Int)) = true := by simp; omega
        have g90 : decide (c ≤ (90 : Int)) = false := by simp; omega
        have g57 : decide (c ≤ (57 : Int)) = false := by simp; omega
        have e46 : (c == 46) = false := by simp; omega
        have e95 : (c == 95) = true := by simp; omega
        have e58 : (c == 58) = false := by simp; omega
        have e45 : (c == 45) = false := by simp; omega
        go_wp2
        go_round
        case rel => exact ⟨k + 1, by omega, by go_num, fun i hi => by
          by_cases e : i = k
          · subst e; exact HK'.out
          · exact HK.out i (by omega)⟩
        case measure => simp [intOf]; omega
      · have HK' : Hid (okAt s k = true) := by rw [HO.out]; show okc c = true; unfold okc; simp only [decide_eq_true_eq]; omega
        have g97 : decide ((97 : Int) ≤ c) = false := by simp; omega
        have g65 : decide ((65 : Int) ≤ c) = false := by simp; omega
        have g48 : decide ((48 : Int) ≤ c) = true := by simp; omega
        have g122 : decide (c ≤ (122 : Int)) = true := by simp; omega
        have g90 : decide (c ≤ (90 : Int)) = true := by simp; omega
        have g57 : decide (c ≤ (57 : Int)) = false := by simp; omega
        have e46 : (c == 46) = false := by simp; omega
        have e95 : (c == 95) = false := by simp; omega
        have e58 : (c == 58) = true := by simp; omega
        have e45 : (c == 45) = false := by simp; omega
        go_wp2
        go_round
        case rel => exact ⟨k + 1, by omega, by go_num, fun i hi => by
          by_cases e : i = k
          · subst e; exact HK'.out
          · exact HK.out i (by omega)⟩
        case measure => simp [intOf]; omega
      · have HK' : Hid (okAt s k = true) := by rw [HO.out]; show okc c = true; unfold okc; simp only [decide_eq_true_eq]; omega
        have g97 : decide ((97 : Int) ≤ c) = false := by simp; omega
        have g65 : decide ((65 : Int) ≤ c) = false := by simp; omega
        have g48 : decide ((48 : Int) ≤ c) = false := by simp; omega
        have g122 : decide (c ≤ (122 : Int)) = true := by simp; omega
        have g90 : decide (c ≤ (90 : Int)) = true := by simp; omega
        have g57 : decide (c ≤ (57 : Int)) = true := by simp; omega
        have e46 : (c == 46) = false := by simp; omega
        have e95 : (c == 95) = false := by simp; omega
        have e58 : (c == 58) = false := by simp; omega
        have e45 : (c == 45) = true := by simp; omega
        go_wp2
        go_round
        case rel => exact ⟨k + 1, by omega, by go_num, fun i hi => by
          by_cases e : i = k
          · subst e; exact HK'.out
          · exact HK.out i (by omega)⟩
        case measure => simp [intOf]; omega
      · have HK' : Hid (okAt s k = false) := by rw [HO.out]; show okc c = false; unfold okc; simp only [decide_eq_false_iff_not]; omega
        have g97 : decide ((97 : Int) ≤ c) = false := by simp; omega
        have g65 : decide ((65 : Int) ≤ c) = false := by simp; omega
        have g48 : decide ((48 : Int) ≤ c) = false := by simp; omega
        have g122 : decide (c ≤ (122 : Int)) = true := by simp; omega
        have g90 : decide (c ≤ (90 : Int)) = true := by simp; omega
        have g57 : decide (c ≤ (57 : Int)) = true := by simp; omega
        have e46 : (c == 46) = false := by simp; omega
        have e95 : (c == 95) = false := by simp; omega
        have e58 : (c == 58) = false := by simp; omega
        have e45 : (c == 45) = false := by simp; omega
        go_wp2
        go_ret
        exact ⟨⟨false, rfl, iff_of_false (by simp) (fun h => by have h3 := h.2.2 k hlt; rw [HK'.out] at h3; cases h3)⟩, HB.out⟩
      · have HK' : Hid (okAt s k = false) := by rw [HO.out]; show okc c = false; unfold okc; simp only [decide_eq_false_iff_not]; omega
        have g97 : decide ((97 : Int) ≤ c) = false := by simp; omega
        have g65 : decide ((65 : Int) ≤ c) = false := by simp; omega
        have g48 : decide ((48 : Int) ≤ c) = false := by simp; omega
        have g122 : decide (c ≤ (122 : Int)) = true := by simp; omega
        have g90 : decide (c ≤ (90 : Int)) = true := by simp; omega
        have g57 : decide (c ≤ (57 : Int)) = true := by simp; omega
        have e46 : (c == 46) = false := by simp; omega
        have e95 : (c == 95) = false := by simp; omega
        have e58 : (c == 58) = false := by simp; omega
        have e45 : (c == 45) = false := by simp; omega
        go_wp2
        go_ret
        exact ⟨⟨false, rfl, iff_of_false (by simp) (fun h => by have h3 := h.2.2 k hlt; rw [HK'.out] at h3; cases h3)⟩, HB.out⟩
      · have HK' : Hid (okAt s k = false) := by rw [HO.out]; show okc c = false; unfold okc; simp only [decide_eq_false_iff_not]; omega
        have g97 : decide ((97 : Int) ≤ c) = false := by simp; omega
        have g65 : decide ((65 : Int) ≤ c) = false := by simp; omega
        have g48 : decide ((48 : Int) ≤ c) = true := by simp; omega
        have g122 : decide (c ≤ (122 : Int)) = true := by simp; omega
        have g90 : decide (c ≤ (90 : Int)) = true := by simp; omega
        have g57 : decide (c ≤ (57 : Int)) = false := by simp; omega
        have e46 : (c == 46) = false := by simp; omega
        have e95 : (c == 95) = false := by simp; omega
        have e58 : (c == 58) = false := by simp; omega
        have e45 : (c == 45) = false := by simp; omega
        go_wp2
        go_ret
        exact ⟨⟨false, rfl, iff_of_false (by simp) (fun h => by have h3 := h.2.2 k hlt; rw [HK'.out] at h3; cases h3)⟩, HB.out⟩
      · have HK' : Hid (okAt s k = false) := by rw [HO.out]; show okc c = false; unfold okc; simp only [decide_eq_false_iff_not]; omega
        have g97 : decide ((97 : Int) ≤ c) = false := by simp; omega
        have g65 : decide ((65 : Int) ≤ c) = true := by simp; omega
        have g48 : decide ((48 : Int) ≤ c) = true := by simp; omega
        have g122 : decide (c ≤ (122 : Int)) = true := by simp; omega
        have g90 : decide (c ≤ (90 : Int)) = false := by simp; omega
        have g57 : decide (c ≤ (57 : Int)) = false := by simp; omega
        have e46 : (c == 46) = false := by simp; omega
        have e95 : (c == 95) = false := by simp; omega
        have e58 : (c == 58) = false := by simp; omega
        have e45 : (c == 45) = false := by simp; omega
        go_wp2
        go_ret
        exact ⟨⟨false, rfl, iff_of_false (by simp) (fun h => by have h3 := h.2.2 k hlt; rw [HK'.out] at h3; cases h3)⟩, HB.out⟩
      · have HK' : Hid (okAt s k = false) := by rw [HO.out]; show okc c = false; unfold okc; simp only [decide_eq_false_iff_not]; omega
        have g97 : decide ((97 : Int) ≤ c) = false := by simp; omega
        have g65 : decide ((65 : Int) ≤ c) = true := by simp; omega
        have g48 : decide ((48 : Int) ≤ c) = true := by simp; omega
        have g122 : decide (c ≤ (122 : Int)) = true := by simp; omega
        have g90 : decide (c ≤ (90 : Int)) = false := by simp; omega
        have g57 : decide (c ≤ (57 : Int)) = false := by simp; omega
        have e46 : (c == 46) = false := by simp; omega
        have e95 : (c == 95) = false := by simp; omega
        have e58 : (c == 58) = false := by simp; omega
        have e45 : (c == 45) = false := by simp; omega
        go_wp2
        go_ret
        exact ⟨⟨false, rfl, iff_of_false (by simp) (fun h => by have h3 := h.2.2 k hlt; rw [HK'.out] at h3; cases h3)⟩, HB.out⟩
      · have HK' : Hid (okAt s k = false) := by rw [HO.out]; show okc c = false; unfold okc; simp only [decide_eq_false_iff_not]; omega
        have g97 : decide ((97 : Int) ≤ c) = true := by simp; omega
        have g65 : decide ((65 : Int) ≤ c) = true := by simp; omega
        have g48 : decide ((48 : Int) ≤ c) = true := by simp; omega
        have g122 : decide (c ≤ (122 : Int)) = false := by simp; omega
        have g90 : decide (c ≤ (90 : Int)) = false := by simp; omega
        have g57 : decide (c ≤ (57 : Int)) = false := by simp; omega
        have e46 : (c == 46) = false := by simp; omega
        have e95 : (c == 95) = false := by simp; omega
        have e58 : (c == 58) = false := by simp; omega
        have e45 : (c == 45) = false := by simp; omega
        go_wp2
        go_ret
        exact ⟨⟨false, rfl, iff_of_false (by simp) (fun h => by have h3 := h.2.2 k hlt; rw [HK'.out] at h3; cases h3)⟩, HB.out⟩
    · obtain rfl : k = s.size := by omega
      go_wp2
      go_ret
      exact ⟨⟨true, rfl, iff_of_true rfl ⟨by omega, by omega, HK.out⟩⟩, HB.out⟩

theorem zzvalid_any (s : ByteArray) (w : World) (hs : s.size ≤ 65536) :
    Calls Trym.prog 7 #[.string s] w fun e w' => Tells s e ∧ Below w.heap.size w w' := by
  go_enter Trym.func7, Trym.ntmps7
  go_wp2_with (go_at_call 12; refine (valid_any s _ hs).mono ?_; rintro e w' ⟨⟨r, rfl, hr⟩, hB⟩)
  go_ret
  exact ⟨⟨r, rfl, hr⟩, hB⟩

theorem bytes_any (s : ByteArray) (w : World) (hs : s.size ≤ maxLen) :
    Calls Trym.prog 6 #[.string s] w fun e w' => e = .returned (.bool (decide (s.size ≤ 1048576))) ∧ w' = w := by
  unfold maxLen at hs
  by_cases h : s.size ≤ 1048576
  · have d1 : decide ((1048576 : Int) < (s.size : Int)) = false := by simp; omega
    go_enter Trym.func6, Trym.ntmps6
    go_wp2
    go_ret
    exact ⟨by simp [h], rfl⟩
  · have d1 : decide ((1048576 : Int) < (s.size : Int)) = true := by simp; omega
    go_enter Trym.func6, Trym.ntmps6
    go_wp2
    go_ret
    exact ⟨by simp [h], rfl⟩
end Go.Proofs.Qxb6602649aMods
