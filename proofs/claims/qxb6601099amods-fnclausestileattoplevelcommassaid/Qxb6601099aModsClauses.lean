import Derived.Test.Qxb6601099aModsBuild
import Derived.Test.Qxb6601099aModsPlain
namespace Go.Proofs.Qxb6601099aMods
open Go.RowKit

theorem Trym.info26 : (Trym.prog.info? 26).map (fun i => (i.zero, i.size, i.bytes)) = some (some (.slice none 0 0), 1, 24) := by kernel_rfl

def opn (kx : Nat → Int) (tx : Nat → ByteArray) (i : Nat) : Bool := isM (kx i) (tx i) ⟨#[40]⟩
def cls (kx : Nat → Int) (tx : Nat → ByteArray) (i : Nat) : Bool := isM (kx i) (tx i) ⟨#[41]⟩
def cma (kx : Nat → Int) (tx : Nat → ByteArray) (i : Nat) : Bool := isM (kx i) (tx i) ⟨#[44]⟩
/-- A comma at the top level. -/
def topv (kx : Nat → Int) (tx : Nat → ByteArray) (i : Nat) : Bool := cma kx tx i && decide (cnt (opn kx tx) i = cnt (cls kx tx) i)

/-- A token's four cells. -/
theorem Toks.cells {w : World} {g n m : Nat} {kx : Nat → Int} {tx : Nat → ByteArray} (h : Toks w g n kx tx m) (i : Nat) (hi : i < m) :
    w.cell? ⟨g, i * 4, none⟩ = some (.int .i64 (kx i)) ∧ w.cell? ⟨g, i * 4 + 1, none⟩ = some (.string (tx i)) ∧ w.cell? ⟨g, i * 4 + 2, none⟩ = some (.int .i64 (i : Int)) ∧ w.cell? ⟨g, i * 4 + 3, none⟩ = some (.int .i64 ((i : Int) + 1)) := by
  obtain ⟨cur, hc, hs, hf⟩ := h
  obtain ⟨f0, f1, f2, f3⟩ := hf i hi
  simp only [cell_of_row w g _ cur 32 (0, 0) hc]
  exact ⟨f0, f1, f2, f3⟩
theorem Toks.lt {w : World} {g n m : Nat} {kx : Nat → Int} {tx : Nat → ByteArray} (h : Toks w g n kx tx m) : g < w.heap.size := by
  obtain ⟨cur, hc, hs, hf⟩ := h
  exact (Array.getElem?_eq_some_iff.1 hc).1
theorem Toks.below {B : Nat} {w w' : World} {g n m : Nat} {kx : Nat → Int} {tx : Nat → ByteArray} (h : Toks w g n kx tx m) (hb : Below B w w') (hg : g < B) : Toks w' g n kx tx m := by
  obtain ⟨cur, hc, hr⟩ := h
  exact ⟨cur, (hb.block g hg).trans hc, hr⟩

/-- The value of one clause. -/
def Piece (g : Nat) (x : Nat × Nat) (v : Value) : Prop := ∃ ao c, v = .slice ao (x.2 - x.1) c ∧ (x.1 < x.2 → ao = some ⟨g, x.1 * 4, none⟩)

theorem step_cnt (p : Nat → Bool) (k : Nat) {b : Bool} (h : p k = b) : cnt p (k + 1) = cnt p k + if b then 1 else 0 := by simp [cnt, h]
theorem st_no (t : Nat → Bool) (k : Nat) (h : t k = false) : st t (k + 1) = st t k := by simp [st, h]
theorem sp_no (t : Nat → Bool) (k : Nat) (h : t k = false) : sp t (k + 1) = sp t k := by simp [sp, h]
theorem st_yes (t : Nat → Bool) (k : Nat) (h : t k = true) : st t (k + 1) = k + 1 := by simp [st, h]
theorem sp_yes (t : Nat → Bool) (k : Nat) (h : t k = true) : sp t (k + 1) = sp t k ++ [(st t k, k)] := by simp [sp, h]

theorem marks_other {kx : Nat → Int} {tx : Nat → ByteArray} {k : Nat} (h : kx k ≠ 3) : opn kx tx k = false ∧ cls kx tx k = false ∧ topv kx tx k = false := by
  simp [opn, cls, topv, cma, isM, h]
theorem marks_text {kx : Nat → Int} {tx : Nat → ByteArray} {k : Nat} (h : kx k = 3) : opn kx tx k = ((tx k).toList == [40]) ∧ cls kx tx k = ((tx k).toList == [41]) ∧ cma kx tx k = ((tx k).toList == [44]) := by
  simp only [opn, cls, cma, isM, h, decide_true, Bool.true_and]
  rw [show (⟨#[40]⟩ : ByteArray).toList = [40] from by decide +kernel, show (⟨#[41]⟩ : ByteArray).toList = [41] from by decide +kernel, show (⟨#[44]⟩ : ByteArray).toList = [44] from by decide +kernel]
  exact ⟨rfl, rfl, rfl⟩

/-- The row of the clauses' values. -/
def Pieces (g : Nat) (l : List (Nat × Nat)) (xs : List Value) : Prop := ∀ (k : Nat) (x : Nat × Nat), l[k]? = some x → ∃ u, xs[k]? = some u ∧ Piece g x u

theorem Pieces.push {g : Nat} {l : List (Nat × Nat)} {xs : List Value} (h : Pieces g l xs) (hl : xs.length = l.length) {x : Nat × Nat} {u : Value} (hu : Piece g x u) : Pieces g (l ++ [x]) (xs ++ [u]) := by
  intro k y hy
  rw [List.getElem?_append] at hy
  split at hy
  · obtain ⟨v, hv, hp⟩ := h k y hy
    exact ⟨v, by rw [List.getElem?_append_left (by omega)]; exact hv, hp⟩
  · have hk : k = l.length := by
      rcases Nat.lt_or_ge (k - l.length) 1 with h1 | h1
      · omega
      · rw [List.getElem?_eq_none (by simpa using h1)] at hy; cases hy
    subst hk
    simp at hy
    subst hy
    exact ⟨u, by rw [List.getElem?_append_right (by omega)]; simp [hl], hu⟩

theorem one_new {w : World} {o : Obj} {u : Value} {e : TypeId} : ∀ (j : Nat) (x : Value), [u][j]? = some x → ((w.alloc o).alloc (.cells #[u] e)).cell? ((⟨w.heap.size + 1, 0, none⟩ : Addr).add j) = some x := by
  intro j x hj
  match j, hj with
  | 0, hj =>
    simp at hj
    subst hj
    simp [Addr.add]

theorem one_new0 {w : World} {u : Value} {e : TypeId} : ∀ (j : Nat) (x : Value), [u][j]? = some x → (w.alloc (.cells #[u] e)).cell? ((⟨w.heap.size, 0, none⟩ : Addr).add j) = some x := by
  intro j x hj
  match j, hj with
  | 0, hj =>
    simp at hj
    subst hj
    simp [Addr.add]

set_option maxHeartbeats 1000000 in
theorem clauses_any (g n : Nat) (kx : Nat → Int) (tx : Nat → ByteArray) (w : World) (hn : n ≤ 65536) (hT : Toks w g n kx tx n) :
    Calls Trym.prog 18 #[.slice (some ⟨g, 0, none⟩) n n] w fun e w' => ∃ v xs, e = .returned v ∧ Below w.heap.size w w' ∧ w'.ownsRow w.heap.size 26 1 v (spans (topv kx tx) n).length xs ∧ Pieces g (spans (topv kx tx) n) xs := by
  obtain ⟨i0, hi, hz0, hz1, hz2⟩ := info_parts Trym.info26
  go_enter Trym.func18, Trym.ntmps18
  go_wp2
  go_loopw [3, 4, 5, 10] (fun v d s i wr => ∃ k : Nat, k ≤ n ∧ i = .int .i64 k ∧ s = .int .i64 (st (topv kx tx) k) ∧ d = .int .i64 ((cnt (opn kx tx) k : Int) - (cnt (cls kx tx) k : Int)) ∧ Below w.heap.size w wr ∧ ∃ xs, wr.ownsRow w.heap.size 26 1 v (sp (topv kx tx) k).length xs ∧ Pieces g (sp (topv kx tx) k) xs) (fun _ _ _ i _ => n - (intOf i).toNat)
  case atStart => exact ⟨0, Nat.zero_le _, rfl, rfl, rfl, Below.refl _ _, [], World.ownsRow_nil _ _ _ _, fun j x h => by simp [sp] at h⟩
  case round =>
    obtain ⟨k, hk, rfl, rfl, rfl, hB, xs, hown, hxs⟩ := hrel
    by_cases hkn : k < n
    · obtain ⟨c0, c1, c2, c3⟩ := (hT.below hB hT.lt).cells k hkn
      have l1 := cnt_le (opn kx tx) k
      have l2 := cnt_le (cls kx tx) k
      have l3 := st_le (topv kx tx) k
      have hgz := hT.lt
      have hwz := hB.size
      have m3 : ¬ g = wr.heap.size := by omega
      by_cases k3 : kx k = 3
      · obtain ⟨eo, ec, em⟩ := marks_text (tx := tx) k3
        have b3 : (kx k != 3) = false := by simp [k3]
        rw [k3] at c0
        have Ho : Hid (opn kx tx k = ((tx k).toList == [40])) := eo
        have Hc : Hid (cls kx tx k = ((tx k).toList == [41])) := ec
        have Hm : Hid (cma kx tx k = ((tx k).toList == [44])) := em
        have H3 : Hid (kx k = 3) := k3
        clear eo ec em k3
        by_cases t40 : ((tx k).toList == [40]) = true
        · have d41 : ((tx k).toList == [41]) = false := by have e : (tx k).toList = [40] := by simpa using t40
                                                           rw [e]; rfl
          have d44 : ((tx k).toList == [44]) = false := by have e : (tx k).toList = [40] := by simpa using t40
                                                           rw [e]; rfl
          have E1 : Hid _ := step_cnt (opn kx tx) k (Ho.out.trans t40)
          have E2 : Hid _ := step_cnt (cls kx tx) k (Hc.out.trans d41)
          have E3 : Hid _ := st_no (topv kx tx) k (by simp only [topv, Hm.out, d44, Bool.false_and])
          have E4 : Hid _ := sp_no (topv kx tx) k (by simp only [topv, Hm.out, d44, Bool.false_and])
          have hB' := hB.alloc hwz (.cells #[.int .i64 3, .string (tx k), .int .i64 (k : Int), .int .i64 ((k : Int) + 1)] 32)
          have hown' := hown.alloc (.cells #[.int .i64 3, .string (tx k), .int .i64 (k : Int), .int .i64 ((k : Int) + 1)] 32)
          go_wp2
          go_roundw
          case rel => exact ⟨k + 1, by omega, by go_num, by rw [E3.out], by rw [E1.out, E2.out]; go_num, hB', xs, by rw [E4.out]; exact hown', by rw [E4.out]; exact hxs⟩
          case measure => simp [intOf]; omega
        · by_cases t41 : ((tx k).toList == [41]) = true
          · have d40 : ((tx k).toList == [40]) = false := by simpa using t40
            have d44 : ((tx k).toList == [44]) = false := by have e : (tx k).toList = [41] := by simpa using t41
                                                             rw [e]; rfl
            clear t40
            have E1 : Hid _ := step_cnt (opn kx tx) k (Ho.out.trans d40)
            have E2 : Hid _ := step_cnt (cls kx tx) k (Hc.out.trans t41)
            have E3 : Hid _ := st_no (topv kx tx) k (by simp only [topv, Hm.out, d44, Bool.false_and])
            have E4 : Hid _ := sp_no (topv kx tx) k (by simp only [topv, Hm.out, d44, Bool.false_and])
            have hB' := hB.alloc hwz (.cells #[.int .i64 3, .string (tx k), .int .i64 (k : Int), .int .i64 ((k : Int) + 1)] 32)
            have hown' := hown.alloc (.cells #[.int .i64 3, .string (tx k), .int .i64 (k : Int), .int .i64 ((k : Int) + 1)] 32)
            go_wp2
            go_roundw
            case rel => exact ⟨k + 1, by omega, by go_num, by rw [E3.out], by rw [E1.out, E2.out]; go_num, hB', xs, by rw [E4.out]; exact hown', by rw [E4.out]; exact hxs⟩
            case measure => simp [intOf]; omega
          · by_cases t44 : ((tx k).toList == [44]) = true
            · by_cases hd : ((cnt (opn kx tx) k : Int) - (cnt (cls kx tx) k : Int) == 0) = true
              · have d40 : ((tx k).toList == [40]) = false := by simpa using t40
                have d41 : ((tx k).toList == [41]) = false := by simpa using t41
                clear t40 t41
                have tv : topv kx tx k = true := by
                  have e1 : (cnt (opn kx tx) k : Int) - (cnt (cls kx tx) k : Int) = 0 := by simpa using hd
                  have e2 : cnt (opn kx tx) k = cnt (cls kx tx) k := by omega
                  simp only [topv, Hm.out, t44, e2, decide_true, Bool.and_self]
                have E1 : Hid _ := step_cnt (opn kx tx) k (Ho.out.trans d40)
                have E2 : Hid _ := step_cnt (cls kx tx) k (Hc.out.trans d41)
                have E3 : Hid _ := st_yes (topv kx tx) k tv
                have E4 : Hid _ := sp_yes (topv kx tx) k tv
                have hsl := sp_len (topv kx tx) k
                have hol := hown.1
                have hpush := hxs.push (by simpa using hol) (u := .slice (some ⟨g, st (topv kx tx) k * 4, none⟩) (k - st (topv kx tx) k) (n - st (topv kx tx) k)) (x := (st (topv kx tx) k, k)) ⟨_, _, rfl, fun _ => rfl⟩
                clear tv hol
                go_wp2_with (at_builtin; refine wpList_append_own _ rfl (.tmp 32) (.tmp 37) 33 rfl w.heap.size 26 i0 (.slice none 0 0) 1 24 Trym.underlying33 hi hz0 hz1 hz2 rfl (by decide) _ _ _ rfl ((hown.alloc _).alloc _) ⟨wr.heap.size + 1, 0, none⟩ 1 1 [.slice (some ⟨g, st (topv kx tx) k * 4, none⟩) (k - st (topv kx tx) k) (n - st (topv kx tx) k)] rfl rfl one_new (by intro u hu; simp at hu; subst hu; rfl) (by unfold maxLen; omega) (by omega) (by simp; omega) ?_)
                intro v' w1 hown' hgrow _
                have hB1 : Below w.heap.size w w1 := ((hB.alloc hwz _).alloc (by simp; omega) _).grown hgrow (by simp; omega) (fun j hj => (hown.lt j hj).1)
                clear hown hgrow hB hxs
                go_wp2
                go_roundw
                case rel => exact ⟨k + 1, by omega, by go_num, by rw [E3.out]; go_num, by rw [E1.out, E2.out]; go_num, hB1, _, by rw [E4.out]; simpa using hown', by rw [E4.out]; exact hpush⟩
                case measure => simp [intOf]; omega
              · have d40 : ((tx k).toList == [40]) = false := by simpa using t40
                have d41 : ((tx k).toList == [41]) = false := by simpa using t41
                have hd' : ((cnt (opn kx tx) k : Int) - (cnt (cls kx tx) k : Int) == 0) = false := by simpa using hd
                have ne : ¬ cnt (opn kx tx) k = cnt (cls kx tx) k := fun e => hd (by simp [e])
                have tv : topv kx tx k = false := by simp only [topv, ne, decide_false, Bool.and_false]
                clear t40 t41 hd ne
                have E1 : Hid _ := step_cnt (opn kx tx) k (Ho.out.trans d40)
                have E2 : Hid _ := step_cnt (cls kx tx) k (Hc.out.trans d41)
                have E3 : Hid _ := st_no (topv kx tx) k tv
                have E4 : Hid _ := sp_no (topv kx tx) k tv
                clear tv
                have hB' := hB.alloc hwz (.cells #[.int .i64 3, .string (tx k), .int .i64 (k : Int), .int .i64 ((k : Int) + 1)] 32)
                have hown' := hown.alloc (.cells #[.int .i64 3, .string (tx k), .int .i64 (k : Int), .int .i64 ((k : Int) + 1)] 32)
                go_wp2
                go_roundw
                case rel => exact ⟨k + 1, by omega, by go_num, by rw [E3.out], by rw [E1.out, E2.out]; go_num, hB', xs, by rw [E4.out]; exact hown', by rw [E4.out]; exact hxs⟩
                case measure => simp [intOf]; omega
            · have d40 : ((tx k).toList == [40]) = false := by simpa using t40
              have d41 : ((tx k).toList == [41]) = false := by simpa using t41
              have d44 : ((tx k).toList == [44]) = false := by simpa using t44
              clear t40 t41 t44
              have E1 : Hid _ := step_cnt (opn kx tx) k (Ho.out.trans d40)
              have E2 : Hid _ := step_cnt (cls kx tx) k (Hc.out.trans d41)
              have E3 : Hid _ := st_no (topv kx tx) k (by simp only [topv, Hm.out, d44, Bool.false_and])
              have E4 : Hid _ := sp_no (topv kx tx) k (by simp only [topv, Hm.out, d44, Bool.false_and])
              have hB' := hB.alloc hwz (.cells #[.int .i64 3, .string (tx k), .int .i64 (k : Int), .int .i64 ((k : Int) + 1)] 32)
              have hown' := hown.alloc (.cells #[.int .i64 3, .string (tx k), .int .i64 (k : Int), .int .i64 ((k : Int) + 1)] 32)
              go_wp2
              go_roundw
              case rel => exact ⟨k + 1, by omega, by go_num, by rw [E3.out], by rw [E1.out, E2.out]; go_num, hB', xs, by rw [E4.out]; exact hown', by rw [E4.out]; exact hxs⟩
              case measure => simp [intOf]; omega
      · obtain ⟨eo, ec, et⟩ := marks_other (tx := tx) k3
        have b3 : (kx k != 3) = true := by simpa using k3
        have E1 : Hid _ := step_cnt (opn kx tx) k eo
        have E2 : Hid _ := step_cnt (cls kx tx) k ec
        have E3 : Hid _ := st_no (topv kx tx) k et
        have E4 : Hid _ := sp_no (topv kx tx) k et
        clear eo ec et
        have hB' := hB.alloc hwz (.cells #[.int .i64 (kx k), .string (tx k), .int .i64 (k : Int), .int .i64 ((k : Int) + 1)] 32)
        have hown' := hown.alloc (.cells #[.int .i64 (kx k), .string (tx k), .int .i64 (k : Int), .int .i64 ((k : Int) + 1)] 32)
        go_wp2
        go_roundw
        case rel => exact ⟨k + 1, by omega, by go_num, by rw [E3.out], by rw [E1.out, E2.out]; go_num, hB', xs, by rw [E4.out]; exact hown', by rw [E4.out]; exact hxs⟩
        case measure => simp [intOf]; omega
    · obtain rfl : k = n := by omega
      have l3 := st_le (topv kx tx) k
      have hwz := hB.size
      have hsl := sp_len (topv kx tx) k
      have hol := hown.1
      by_cases hst : st (topv kx tx) k = k
      · have hpush := hxs.push (by simpa using hol) (u := (.slice (some ⟨g, 0, none⟩) 0 0)) (x := (st (topv kx tx) k, k)) ⟨some ⟨g, 0, none⟩, 0, by simp [hst], fun hlt => by simp only at hlt; omega⟩
        clear hol
        go_wp2_with (at_builtin; refine wpList_append_own _ rfl (.tmp 42) (.tmp 46) 33 rfl w.heap.size 26 i0 (.slice none 0 0) 1 24 Trym.underlying33 hi hz0 hz1 hz2 rfl (by decide) _ _ _ rfl (hown.alloc _) ⟨wr.heap.size, 0, none⟩ 1 1 [(.slice (some ⟨g, 0, none⟩) 0 0)] rfl rfl one_new0 (by intro u hu; simp at hu; subst hu; rfl) (by unfold maxLen; omega) (by omega) (by simp; omega) ?_)
        intro v' w1 hown' hgrow _
        have hB1 : Below w.heap.size w w1 := (hB.alloc hwz _).grown hgrow (by simp; omega) (fun j hj => (hown.lt j hj).1)
        clear hown hgrow hB hxs
        go_wp2
        go_ret
        exact ⟨v', _, rfl, hB1, by simpa [spans] using hown', hpush⟩
      · have hst' : ¬ k = st (topv kx tx) k := fun e => hst e.symm
        clear hst
        have hpush := hxs.push (by simpa using hol) (u := (.slice (some ⟨g, st (topv kx tx) k * 4, none⟩) (k - st (topv kx tx) k) (k - st (topv kx tx) k))) (x := (st (topv kx tx) k, k)) ⟨_, _, rfl, fun _ => rfl⟩
        clear hol
        go_wp2_with (at_builtin; refine wpList_append_own _ rfl (.tmp 42) (.tmp 46) 33 rfl w.heap.size 26 i0 (.slice none 0 0) 1 24 Trym.underlying33 hi hz0 hz1 hz2 rfl (by decide) _ _ _ rfl (hown.alloc _) ⟨wr.heap.size, 0, none⟩ 1 1 [(.slice (some ⟨g, st (topv kx tx) k * 4, none⟩) (k - st (topv kx tx) k) (k - st (topv kx tx) k))] rfl rfl one_new0 (by intro u hu; simp at hu; subst hu; rfl) (by unfold maxLen; omega) (by omega) (by simp; omega) ?_)
        intro v' w1 hown' hgrow _
        have hB1 : Below w.heap.size w w1 := (hB.alloc hwz _).grown hgrow (by simp; omega) (fun j hj => (hown.lt j hj).1)
        clear hown hgrow hB hxs
        go_wp2
        go_ret
        exact ⟨v', _, rfl, hB1, by simpa [spans] using hown', hpush⟩
end Go.Proofs.Qxb6601099aMods
