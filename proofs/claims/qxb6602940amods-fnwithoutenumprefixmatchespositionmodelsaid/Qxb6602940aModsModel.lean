import Derived.Test.Qxb6602940aModsWep
namespace Go.Proofs.Qxb6602940aMods
open Go.RowKit

theorem Trym.info5 : (Trym.prog.info? 5).map (fun i => (i.zero, i.size, i.bytes)) = some (some (.int .u8 0), 1, 1) := by kernel_rfl
theorem Trym.info3 : (Trym.prog.info? 3).map (fun i => (i.zero, i.size, i.bytes)) = some (some (.int .i64 0), 1, 8) := by kernel_rfl

theorem one_new0 {w : World} {u : Value} {e : TypeId} : ∀ (j : Nat) (x : Value), [u][j]? = some x → (w.alloc (.cells #[u] e)).cell? ((⟨w.heap.size, 0, none⟩ : Addr).add j) = some x := by
  intro j x hj
  match j, hj with
  | 0, hj =>
    simp at hj
    subst hj
    simp [Addr.add]

/-- The letters and the places as values. -/
def letV (s : ByteArray) (j : Nat) : List Value := (lets s j).map fun (c : Nat) => Value.int .u8 (c : Int)
def posV (s : ByteArray) (j : Nat) : List Value := (poss s j).map fun (c : Nat) => Value.int .i64 (c : Int)
theorem letV_us {s : ByteArray} {j : Nat} (h : bt s j = 95) : letV s (j + 1) = letV s j := by simp [letV, lets, h]
theorem letV_no {s : ByteArray} {j : Nat} (h : bt s j ≠ 95) : letV s (j + 1) = letV s j ++ [Value.int .u8 ((upN (bt s j) : Nat) : Int)] := by simp [letV, lets, h]
theorem posV_us {s : ByteArray} {j : Nat} (h : bt s j = 95) : posV s (j + 1) = posV s j := by simp [posV, poss, h]
theorem posV_no {s : ByteArray} {j : Nat} (h : bt s j ≠ 95) : posV s (j + 1) = posV s j ++ [Value.int .i64 (j : Int)] := by simp [posV, poss, h]

/-- The first k letters agree in upper case. -/
def AgreeU (name enum : ByteArray) (k : Nat) : Prop := ∀ t q r, t < k → IsPos name t q → IsPos enum t r → upN (bt name q) = upN (bt enum r)

theorem few {name enum : ByteArray} (h : tot name ≤ tot enum) : WEP name enum name := .inr ⟨fun m => by have := m.1; omega, rfl⟩
theorem differ {name enum : ByteArray} {k q r : Nat} (hq : IsPos name k q) (hr : IsPos enum k r) (h : upN (bt name q) ≠ upN (bt enum r)) : WEP name enum name :=
  .inr ⟨fun m => h ((low_up _ _).1 (m.2 k q r hq hr)), rfl⟩
theorem agreeU_step {name enum : ByteArray} {k q r : Nat} (hq : IsPos name k q) (hr : IsPos enum k r) (h : upN (bt name q) = upN (bt enum r)) (ha : AgreeU name enum k) : AgreeU name enum (k + 1) := by
  intro t q' r' ht hq' hr'
  by_cases e : t = k
  · subst e
    rw [isPos_uniq hq' hq, isPos_uniq hr' hr]
    exact h
  · exact ha t q' r' (by omega) hq' hr'
theorem agreed {name enum : ByteArray} {q : Nat} (h : tot enum < tot name) (hq : IsPos name (tot enum) q) (ha : AgreeU name enum (tot enum)) : WEP name enum (name.extract q name.size) :=
  .inl ⟨⟨h, fun t q' r' hq' hr' => (low_up _ _).2 (ha t q' r' (isPos_lt hr') hq' hr')⟩, q, hq, rfl⟩

/-- The row of the letters, of the places. -/
def Lrow (w : World) (g : Nat) (enum : ByteArray) : Prop := ∀ k r, IsPos enum k r → w.cell? ⟨g, k, none⟩ = some (.int .u8 ((upN (bt enum r) : Nat) : Int))
def Prow (w : World) (g : Nat) (name : ByteArray) : Prop := ∀ k q, IsPos name k q → w.cell? ⟨g, k, none⟩ = some (.int .i64 (q : Int))
theorem Lrow.below {B : Nat} {w w' : World} {g : Nat} {enum : ByteArray} (h : Lrow w g enum) (hb : Below B w w') (hg : g < B) : Lrow w' g enum := fun k r hr => (hb.cell (by exact hg)).trans (h k r hr)
theorem Prow.below {B : Nat} {w w' : World} {g : Nat} {name : ByteArray} (h : Prow w g name) (hb : Below B w w') (hg : g < B) : Prow w' g name := fun k r hr => (hb.cell (by exact hg)).trans (h k r hr)

set_option maxRecDepth 100000 in
set_option maxHeartbeats 1000000 in
theorem model_any (name enum : ByteArray) (w : World) (hn : name.size ≤ 65536) (he : enum.size ≤ 65536) :
    Calls Trym.prog 8 #[.string name, .string enum] w fun e w' => Gives name enum e ∧ Below w.heap.size w w' := by
  obtain ⟨i5, hi, hz0, hz1, hz2⟩ := info_parts Trym.info5
  go_enter Trym.func8, Trym.ntmps8
  go_wp2_with (at_make; refine wpList_make_own _ rfl _ _ 25 rfl w.heap.size 5 i5 _ 1 Trym.underlying25 hi hz0 hz1 _ _ _ enum.size rfl rfl rfl (by rw [hz2]; omega) (by unfold maxLen; omega) (Nat.le_refl _) ?_; intro w1 hown hgrow)
  have hB1 : Below w.heap.size w w1 := (Below.refl _ _).grown hgrow (Nat.le_refl _) (by intro k hk; cases hk)
  have hz : w.heap.size < w1.heap.size := (hown.lt w.heap.size rfl).2
  clear hgrow
  go_loopw [5, 6] (fun v i wr => ∃ j : Nat, j ≤ enum.size ∧ i = .int .i64 j ∧ v = .slice (some ⟨w.heap.size, 0, none⟩) (cntN enum j) enum.size ∧ wr.ownsRow w.heap.size 5 1 (.slice (some ⟨w.heap.size, 0, none⟩) (cntN enum j) enum.size) (cntN enum j) (letV enum j) ∧ Below w.heap.size w wr) (fun _ i _ => enum.size - (intOf i).toNat)
  case atStart => exact ⟨0, Nat.zero_le _, rfl, rfl, hown, hB1⟩
  case round =>
    clear hown hB1 hz
    obtain ⟨j, hj, rfl, rfl, hown, hB⟩ := hrel
    have hcl := cntN_le enum j
    by_cases hje : j < enum.size
    · by_cases hu : bt enum j = 95
      · have e1 : (((enum[j]'hje).toNat : Int) != 95) = false := by rw [← bt_eq enum j hje]; simp [hu]
        have H1 : Hid (cntN enum (j + 1) = cntN enum j) := cntN_us hu
        have H2 : Hid (letV enum (j + 1) = letV enum j) := letV_us hu
        clear hu
        go_wp2
        go_roundw
        case rel => exact ⟨j + 1, by omega, by go_num, by rw [H1.out], by rw [H1.out, H2.out]; exact hown, hB⟩
        case measure => simp [intOf]; omega
      · have e1 : (((enum[j]'hje).toNat : Int) != 95) = true := by rw [← bt_eq enum j hje]; simp; omega
        have H1 : Hid (cntN enum (j + 1) = cntN enum j + 1) := cntN_no hu
        have H2 : Hid (letV enum (j + 1) = letV enum j ++ [Value.int .u8 ((upN (enum[j]'hje).toNat : Nat) : Int)]) := by rw [← bt_eq enum j hje]; exact letV_no hu
        have l1 : (enum[j]'hje).toNat < 256 := UInt8.toNat_lt _
        have hsz := hB.size
        clear hu
        go_wp2_with (first
          | (go_at_call 14; refine (upper_any _ _ (by assumption)).mono ?_; rintro e w' ⟨rfl, hw'⟩; have hw2 := hw'.symm; clear hw'; subst hw2)
          | (at_builtin; refine wpList_append_fits _ rfl (.tmp 23) (.tmp 28) 25 rfl w.heap.size 5 i5 1 Trym.underlying25 hi hz1 w.heap.size (cntN enum j) enum.size (letV enum j) rfl (hown.alloc _) ⟨wr.heap.size, 0, none⟩ 1 1 [Value.int .u8 ((upN (enum[j]'hje).toNat : Nat) : Int)] rfl rfl one_new0 (by intro u hu; simp at hu; subst hu; rfl) (by omega) ?_; intro w2 hown2 hgrow))
        have hB2 : Below w.heap.size w w2 := (hB.alloc hsz _).grown hgrow (by simp; omega) (fun k hk => by cases hk; exact Nat.le_refl _)
        clear hown hgrow hB
        go_wp2
        go_roundw
        case rel => exact ⟨j + 1, by omega, by go_num, by rw [H1.out], by rw [H1.out, H2.out]; exact hown2, hB2⟩
        case measure => simp [intOf]; omega
    · obtain rfl : j = enum.size := by omega
      have hTe : cntN enum enum.size = tot enum := rfl
      rw [hTe] at hown
      have hg1 : w.heap.size < wr.heap.size := (hown.lt w.heap.size rfl).2
      have HL : Lrow wr w.heap.size enum := by
        intro k r hr
        have hk := isPos_lt hr
        rw [hown.cellAt k (by omega)]
        obtain ⟨q, h1, h2, _⟩ := lets_at enum enum.size k (Nat.le_refl _) hk
        rw [isPos_uniq hr h2]
        simp [letV, h1]
      clear hown hi hz0 hz1 hz2
      obtain ⟨i3, hi, hz0, hz1, hz2⟩ := info_parts Trym.info3
      have hcl2 : tot enum ≤ enum.size := cntN_le enum enum.size
      go_wp2_with (at_make; refine wpList_make_own _ rfl _ _ 27 rfl wr.heap.size 3 i3 _ 1 Trym.underlying27 hi hz0 hz1 _ _ _ name.size rfl rfl rfl (by rw [hz2]; omega) (by unfold maxLen; omega) (Nat.le_refl _) ?_; intro w2 hown hgrow)
      have hB2 : Below wr.heap.size wr w2 := (Below.refl _ _).grown hgrow (Nat.le_refl _) (by intro k hk; cases hk)
      have HL2 := HL.below hB2 hg1
      have hBw2 : Below w.heap.size w w2 := hB.trans (hB2.mono (by omega))
      have hg2 := hB2.size
      clear hgrow HL hB2 hB
      generalize wr.heap.size = g2 at *
      go_loopw [7, 8] (fun v i wx => ∃ j : Nat, j ≤ name.size ∧ i = .int .i64 j ∧ v = .slice (some ⟨g2, 0, none⟩) (cntN name j) name.size ∧ wx.ownsRow g2 3 1 (.slice (some ⟨g2, 0, none⟩) (cntN name j) name.size) (cntN name j) (posV name j) ∧ Below w.heap.size w wx ∧ Lrow wx w.heap.size enum ∧ g2 ≤ wx.heap.size) (fun _ i _ => name.size - (intOf i).toNat)
      case atStart => exact ⟨0, Nat.zero_le _, rfl, rfl, hown, hBw2, HL2, hg2⟩
      case round =>
        clear hown hBw2 HL2 hg2
        obtain ⟨j, hj, rfl, rfl, hown, hB, HL, hg2⟩ := hrel
        have hcn := cntN_le name j
        by_cases hje : j < name.size
        · by_cases hu : bt name j = 95
          · have e1 : (((name[j]'hje).toNat : Int) != 95) = false := by rw [← bt_eq name j hje]; simp [hu]
            have H1 : Hid (cntN name (j + 1) = cntN name j) := cntN_us hu
            have H2 : Hid (posV name (j + 1) = posV name j) := posV_us hu
            clear hu
            go_wp2
            go_roundw
            case rel => exact ⟨j + 1, by omega, by go_num, by rw [H1.out], by rw [H1.out, H2.out]; exact hown, hB, HL, hg2⟩
            case measure => simp [intOf]; omega
          · have e1 : (((name[j]'hje).toNat : Int) != 95) = true := by rw [← bt_eq name j hje]; simp; omega
            have H1 : Hid (cntN name (j + 1) = cntN name j + 1) := cntN_no hu
            have H2 : Hid (posV name (j + 1) = posV name j ++ [Value.int .i64 (j : Int)]) := posV_no hu
            clear hu
            go_wp2_with (at_builtin; refine wpList_append_fits _ rfl (.tmp 43) (.tmp 45) 27 rfl g2 3 i3 1 Trym.underlying27 hi hz1 g2 (cntN name j) name.size (posV name j) rfl (hown.alloc _) ⟨wr.heap.size, 0, none⟩ 1 1 [Value.int .i64 (j : Int)] rfl rfl one_new0 (by intro u hu; simp at hu; subst hu; rfl) (by omega) ?_; intro w2 hown2 hgrow)
            have hBp : Below g2 wr w2 := ((Below.refl _ wr).alloc hg2 _).grown hgrow (by simp; omega) (fun k hk => by cases hk; exact Nat.le_refl _)
            have hB2 : Below w.heap.size w w2 := hB.trans (hBp.mono (by omega))
            have HL2 := HL.below hBp (by omega)
            have hg22 : g2 ≤ w2.heap.size := Nat.le_trans hg2 hBp.size
            clear hown hgrow hB HL hBp
            go_wp2
            go_roundw
            case rel => exact ⟨j + 1, by omega, by go_num, by rw [H1.out], by rw [H1.out, H2.out]; exact hown2, hB2, HL2, hg22⟩
            case measure => simp [intOf]; omega
        · obtain rfl : j = name.size := by omega
          have HP : Prow wr g2 name := by
            intro k q hq
            have hk : k < cntN name name.size := isPos_lt hq
            rw [hown.cellAt k (by omega)]
            obtain ⟨q', h1, h2, _⟩ := poss_at name name.size k (Nat.le_refl _) hk
            rw [isPos_uniq hq h2]
            simp [posV, h1]
          clear hown hi hz0 hz1 hz2
          have hTn : cntN name name.size = tot name := rfl
          rw [hTn] at hcn ⊢
          by_cases hle : tot name ≤ tot enum
          · have d1 : decide (((tot name : Nat) : Int) ≤ ((tot enum : Nat) : Int)) = true := by simp; omega
            have HS : Hid (WEP name enum name) := few hle
            go_wp2
            go_ret
            exact ⟨⟨_, rfl, HS.out⟩, hB⟩
          · have d1 : decide (((tot name : Nat) : Int) ≤ ((tot enum : Nat) : Int)) = false := by simp; omega
            go_wp2
            go_loopw [9] (fun i wx => ∃ k : Nat, k ≤ tot enum ∧ i = .int .i64 k ∧ Hid (AgreeU name enum k) ∧ Below w.heap.size w wx ∧ Lrow wx w.heap.size enum ∧ Prow wx g2 name) (fun i _ => tot enum - (intOf i).toNat)
            case atStart => exact ⟨0, Nat.zero_le _, rfl, fun t q r h => absurd h (by omega), hB, HL, HP⟩
            case round =>
              clear hB HL HP hg2
              obtain ⟨k, hk, rfl, HA, hB, HL, HP⟩ := hrel
              by_cases hke : k < tot enum
              · obtain ⟨q, hq⟩ := isPos_ex name k (by omega)
                obtain ⟨r, hr⟩ := isPos_ex enum k hke
                have cP := HP k q hq
                have cL := HL k r hr
                have hqn : q < name.size := hq.1
                have HQ : Hid (IsPos name k q) := hq
                have HR : Hid (IsPos enum k r) := hr
                have l1 : (name[q]'hqn).toNat < 256 := UInt8.toNat_lt _
                have i1 : (0 : Int) ≤ (k : Int) := by omega
                have i2 : (k : Int) < ((tot name : Nat) : Int) := by omega
                have i3 : (k : Int) < ((tot enum : Nat) : Int) := by omega
                have i4 : (0 : Int) ≤ (q : Int) := by omega
                have i5 : (q : Int) < (name.size : Int) := by omega
                have hBd := hB.drew
                have HLd : Lrow wr.drew w.heap.size enum := HL
                have HPd : Prow wr.drew g2 name := HP
                clear hq hr hB HL HP
                by_cases hup : upN (bt name q) = upN (bt enum r)
                · have e4 : (((upN (name[q]'hqn).toNat : Nat) : Int) != ((upN (bt enum r) : Nat) : Int)) = false := by rw [← bt_eq name q hqn, hup]; simp
                  have HS : Hid (AgreeU name enum (k + 1)) := agreeU_step HQ.out HR.out hup HA.out
                  clear hup
                  go_wp2
                  go_region_held3 (fun w' => w'.cell? ⟨g2, k, none⟩ = some (.int .i64 (q : Int)) ∧ w'.cell? ⟨w.heap.size, k, none⟩ = some (.int .u8 ((upN (bt enum r) : Nat) : Int))) (first | assumption | go_keep) (first | (go_at_call 14; refine (upper_any _ _ (by assumption)).mono ?_; rintro e w' ⟨rfl, hw'⟩; have hw2 := hw'.symm; clear hw'; subst hw2))
                  all_goals
                    go_wp2
                    go_roundw
                    case rel => exact ⟨k + 1, by omega, by go_num, HS, hBd, HLd, HPd⟩
                    case measure => simp [intOf]; omega
                · have e4 : (((upN (name[q]'hqn).toNat : Nat) : Int) != ((upN (bt enum r) : Nat) : Int)) = true := by rw [← bt_eq name q hqn]; simp; omega
                  have HS : Hid (WEP name enum name) := differ HQ.out HR.out hup
                  clear hup
                  go_wp2
                  go_region_held3 (fun w' => w'.cell? ⟨g2, k, none⟩ = some (.int .i64 (q : Int)) ∧ w'.cell? ⟨w.heap.size, k, none⟩ = some (.int .u8 ((upN (bt enum r) : Nat) : Int))) (first | assumption | go_keep) (first | (go_at_call 14; refine (upper_any _ _ (by assumption)).mono ?_; rintro e w' ⟨rfl, hw'⟩; have hw2 := hw'.symm; clear hw'; subst hw2))
                  all_goals
                    go_wp2
                    go_ret
                    exact ⟨⟨_, rfl, HS.out⟩, hBd⟩
              · obtain rfl : k = tot enum := by omega
                obtain ⟨q, hq⟩ := isPos_ex name (tot enum) (by omega)
                have cP := HP _ q hq
                have hqn : q < name.size := hq.1
                have i2 : ((tot enum : Nat) : Int) < ((tot name : Nat) : Int) := by omega
                have HS : Hid (WEP name enum (name.extract q name.size)) := agreed (by omega) hq HA.out
                clear hq HL HP
                go_wp2
                go_ret
                exact ⟨⟨_, rfl, HS.out⟩, hB⟩
end Go.Proofs.Qxb6602940aMods
