import Derived.Test.Qxb6602940aModsProg
import Derived.Test.Qxb6602940aModsPlain
import Derived.WalkKit
import Derived.WalkSpells
import Derived.Deep.RegionHeld3
import Derived.Deep.QuietTactic
import Derived.BigQuiet
namespace Go.Proofs.Qxb6602940aMods
open Go.RowKit

theorem ret_u8 {a b : Int} (h : a = b) : Ending.returned (.int .u8 a) = .returned (.int .u8 b) := by rw [h]
theorem ret_bool {a b : Bool} (h : a = b) : Ending.returned (.bool a) = .returned (.bool b) := by rw [h]

theorem lower_any (c : Nat) (w : World) (h : c < 256) : Calls Trym.prog 16 #[.int .u8 (c : Int)] w fun e w' => e = .returned (.int .u8 (lowN c : Int)) ∧ w' = w := by
  by_cases h1 : 65 ≤ c
  · by_cases h2 : c ≤ 90
    · have HE : Hid (((lowN c : Nat) : Int) = (c : Int) - 65 + 97) := by show _ = _; unfold lowN; rw [if_pos ⟨h1, h2⟩]; omega
      have d1 : decide ((65 : Int) ≤ (c : Int)) = true := by simp; omega
      have d2 : decide ((c : Int) ≤ 90) = true := by simp; omega
      go_enter Trym.func16, Trym.ntmps16
      go_wp2
      go_ret
      exact ⟨ret_u8 HE.out.symm, rfl⟩
    · have HE : Hid (((lowN c : Nat) : Int) = (c : Int)) := by show _ = _; unfold lowN; rw [if_neg (by omega)]
      have d1 : decide ((65 : Int) ≤ (c : Int)) = true := by simp; omega
      have d2 : decide ((c : Int) ≤ 90) = false := by simp; omega
      go_enter Trym.func16, Trym.ntmps16
      go_wp2
      go_ret
      exact ⟨ret_u8 HE.out.symm, rfl⟩
  · have HE : Hid (((lowN c : Nat) : Int) = (c : Int)) := by show _ = _; unfold lowN; rw [if_neg (by omega)]
    have d1 : decide ((65 : Int) ≤ (c : Int)) = false := by simp; omega
    go_enter Trym.func16, Trym.ntmps16
    go_wp2
    go_ret
    exact ⟨ret_u8 HE.out.symm, rfl⟩

theorem upper_any (c : Nat) (w : World) (h : c < 256) : Calls Trym.prog 14 #[.int .u8 (c : Int)] w fun e w' => e = .returned (.int .u8 (upN c : Int)) ∧ w' = w := by
  by_cases h1 : 97 ≤ c
  · by_cases h2 : c ≤ 122
    · have HE : Hid (((upN c : Nat) : Int) = (c : Int) - 97 + 65) := by show _ = _; unfold upN; rw [if_pos ⟨h1, h2⟩]; omega
      have d1 : decide ((97 : Int) ≤ (c : Int)) = true := by simp; omega
      have d2 : decide ((c : Int) ≤ 122) = true := by simp; omega
      go_enter Trym.func14, Trym.ntmps14
      go_wp2
      go_ret
      exact ⟨ret_u8 HE.out.symm, rfl⟩
    · have HE : Hid (((upN c : Nat) : Int) = (c : Int)) := by show _ = _; unfold upN; rw [if_neg (by omega)]
      have d1 : decide ((97 : Int) ≤ (c : Int)) = true := by simp; omega
      have d2 : decide ((c : Int) ≤ 122) = false := by simp; omega
      go_enter Trym.func14, Trym.ntmps14
      go_wp2
      go_ret
      exact ⟨ret_u8 HE.out.symm, rfl⟩
  · have HE : Hid (((upN c : Nat) : Int) = (c : Int)) := by show _ = _; unfold upN; rw [if_neg (by omega)]
    have d1 : decide ((97 : Int) ≤ (c : Int)) = false := by simp; omega
    go_enter Trym.func14, Trym.ntmps14
    go_wp2
    go_ret
    exact ⟨ret_u8 HE.out.symm, rfl⟩

/-- The letters before place b of the enum agree. -/
def Agree (name enum : ByteArray) (b : Nat) : Prop := ∀ t q r, t < cntN enum b → IsPos name t q → IsPos enum t r → lowN (bt name q) = lowN (bt enum r)

/-- It returns what WEP says. -/
def Gives (name enum : ByteArray) (e : Ending) : Prop := ∃ r, e = .returned (.string r) ∧ WEP name enum r

theorem no_left {name enum : ByteArray} {a b : Nat} (ha : a = name.size) (hc : cntN name a = cntN enum b) (hb : b < enum.size) (hu : bt enum b ≠ 95) : WEP name enum name := by
  refine .inr ⟨fun h => ?_, rfl⟩
  have h1 := isPos_lt (⟨hb, hu, rfl⟩ : IsPos enum (cntN enum b) b)
  have h2 := h.1
  unfold tot at h2
  rw [← ha, hc] at h2
  unfold tot at h1
  omega
theorem no_match {name enum : ByteArray} {a b : Nat} (ha : a < name.size) (hna : bt name a ≠ 95) (hc : cntN name a = cntN enum b) (hb : b < enum.size) (hu : bt enum b ≠ 95) (hl : lowN (bt name a) ≠ lowN (bt enum b)) : WEP name enum name :=
  .inr ⟨fun h => hl (h.2 (cntN enum b) a b ⟨ha, hna, hc⟩ ⟨hb, hu, rfl⟩), rfl⟩
theorem agree_step {name enum : ByteArray} {a b : Nat} (ha : a < name.size) (hna : bt name a ≠ 95) (hc : cntN name a = cntN enum b) (hb : b < enum.size) (hu : bt enum b ≠ 95) (hl : lowN (bt name a) = lowN (bt enum b)) (h : Agree name enum b) : Agree name enum (b + 1) := by
  intro t q r ht hq hr
  rw [cntN_no hu] at ht
  by_cases e : t = cntN enum b
  · subst e
    rw [isPos_uniq hq ⟨ha, hna, hc⟩, isPos_uniq hr ⟨hb, hu, rfl⟩]
    exact hl
  · exact h t q r (by omega) hq hr
theorem end_none {name enum : ByteArray} {a b : Nat} (ha : a = name.size) (hb : b = enum.size) (hc : cntN name a = cntN enum b) : WEP name enum name := by
  refine .inr ⟨fun h => ?_, rfl⟩
  have h2 := h.1
  unfold tot at h2
  rw [← ha, ← hb, hc] at h2
  omega
theorem end_some {name enum : ByteArray} {a b : Nat} (ha : a < name.size) (hna : bt name a ≠ 95) (hb : b = enum.size) (hc : cntN name a = cntN enum b) (h : Agree name enum b) : WEP name enum (name.extract a name.size) := by
  have hp : IsPos name (tot enum) a := ⟨ha, hna, by unfold tot; rw [← hb]; exact hc⟩
  refine .inl ⟨⟨isPos_lt hp, fun t q r hq hr => h t q r ?_ hq hr⟩, a, hp, rfl⟩
  have := isPos_lt hr
  unfold tot at this
  rw [hb]
  exact this

set_option maxRecDepth 100000 in
set_option maxHeartbeats 1000000 in
theorem wep_any (name enum : ByteArray) (w : World) (hn : name.size ≤ 9223372036854775807) (he : enum.size ≤ 9223372036854775807) :
    Calls Trym.prog 13 #[.string name, .string enum] w fun e w' => Gives name enum e ∧ Below w.heap.size w w' := by
  go_enter Trym.func13, Trym.ntmps13
  go_wp2
  go_loopw [5, 9] (fun i j wr => ∃ a b : Nat, a ≤ name.size ∧ b ≤ enum.size ∧ i = .int .i64 a ∧ j = .int .i64 b ∧ Hid (cntN name a = cntN enum b) ∧ Hid (Agree name enum b) ∧ Below w.heap.size w wr) (fun _ j _ => enum.size - (intOf j).toNat)
  case atStart => exact ⟨0, 0, Nat.zero_le _, Nat.zero_le _, rfl, rfl, rfl, fun t q r h => absurd h (by simp [cntN]), Below.refl _ _⟩
  case round =>
    obtain ⟨a, b, ha, hb, rfl, rfl, HC, HA, hB⟩ := hrel
    by_cases hbe : b < enum.size
    · by_cases hu : bt enum b = 95
      · have e1 : (((enum[b]'hbe).toNat : Int) == 95) = true := by rw [← bt_eq enum b hbe]; simp [hu]
        have HU := cntN_us hu
        have HU' : Hid (cntN enum (b + 1) = cntN enum b) := HU
        clear hu HU
        go_wp2
        go_roundw
        case rel => exact ⟨a, b + 1, ha, by omega, rfl, by go_num, by show _ = _; rw [HU'.out]; exact HC.out, by intro t q r h; rw [HU'.out] at h; exact HA.out t q r h, hB⟩
        case measure => simp [intOf]; omega
      · have e1 : (((enum[b]'hbe).toNat : Int) == 95) = false := by rw [← bt_eq enum b hbe]; simp; omega
        have HU : Hid (bt enum b ≠ 95) := hu
        clear hu
        go_wp2
        go_loop [5] (fun i => ∃ c : Nat, c ≤ name.size ∧ i = .int .i64 c ∧ Hid (cntN name c = cntN enum b)) (fun i => name.size - (intOf i).toNat)
        case atStart => exact ⟨a, ha, rfl, HC⟩
        case round =>
          obtain ⟨c, hc, rfl, HD⟩ := hrel
          by_cases hcn : c < name.size
          · have d1 : decide ((c : Int) < (name.size : Int)) = true := by simp; omega
            by_cases hv : bt name c = 95
            · have e2 : (((name[c]'hcn).toNat : Int) == 95) = true := by rw [← bt_eq name c hcn]; simp [hv]
              have HV : Hid (cntN name (c + 1) = cntN name c) := cntN_us hv
              clear hv
              go_wp2
              go_round
              case rel => exact ⟨c + 1, by omega, by go_num, by show _ = _; rw [HV.out]; exact HD.out⟩
              case measure => simp [intOf]; omega
            · have e2 : (((name[c]'hcn).toNat : Int) == 95) = false := by rw [← bt_eq name c hcn]; simp; omega
              have HV : Hid (bt name c ≠ 95) := hv
              have e3 : ((c : Int) == (name.size : Int)) = false := beq_eq_false_iff_ne.2 (by omega)
              have i1 : (0 : Int) ≤ (c : Int) := by omega
              have i2 : (c : Int) < (name.size : Int) := by omega
              have i3 : (0 : Int) ≤ (b : Int) := by omega
              have i4 : (b : Int) < (enum.size : Int) := by omega
              have hBd := hB.drew
              have l1 : (name[c]'hcn).toNat < 256 := UInt8.toNat_lt _
              have l2 : (enum[b]'hbe).toNat < 256 := UInt8.toNat_lt _
              clear hv
              by_cases hl : lowN (bt name c) = lowN (bt enum b)
              · have e4 : (((lowN (name[c]'hcn).toNat : Nat) : Int) != ((lowN (enum[b]'hbe).toNat : Nat) : Int)) = false := by rw [← bt_eq name c hcn, ← bt_eq enum b hbe, hl]; simp
                have HS : Hid (Agree name enum (b + 1)) := agree_step hcn HV.out HD.out hbe HU.out hl HA.out
                have HC1 : Hid (cntN name (c + 1) = cntN enum (b + 1)) := by show _ = _; rw [cntN_no HV.out, cntN_no HU.out, HD.out]
                clear hl
                go_wp2
                go_region_held3 (fun w' => Below w.heap.size w w') (assumption) (first | (go_at_call 16; refine (lower_any _ _ (by assumption)).mono ?_; rintro e w' ⟨rfl, rfl⟩))
                all_goals
                  go_wp2
                  go_roundw
                  case rel => exact ⟨c + 1, b + 1, by omega, by omega, by go_num, by go_num, HC1, HS, by assumption⟩
                  case measure => simp [intOf]; omega
              · have e4 : (((lowN (name[c]'hcn).toNat : Nat) : Int) != ((lowN (enum[b]'hbe).toNat : Nat) : Int)) = true := by rw [← bt_eq name c hcn, ← bt_eq enum b hbe]; simp; omega
                have HS : Hid (WEP name enum name) := no_match hcn HV.out HD.out hbe HU.out hl
                clear hl
                go_wp2
                go_region_held3 (fun w' => Below w.heap.size w w') (assumption) (first | (go_at_call 16; refine (lower_any _ _ (by assumption)).mono ?_; rintro e w' ⟨rfl, rfl⟩))
                all_goals
                  go_wp2
                  go_ret
                  exact ⟨⟨_, rfl, HS.out⟩, by assumption⟩
          · have d1 : decide ((c : Int) < (name.size : Int)) = false := by simp; omega
            have e3 : ((c : Int) == (name.size : Int)) = true := beq_iff_eq.2 (by omega)
            have HS : Hid (WEP name enum name) := no_left (by omega) HD.out hbe HU.out
            go_wp2
            go_quiet (fail)
            go_wp2
            go_ret
            exact ⟨⟨_, rfl, HS.out⟩, hB.trans ⟨rfl, rfl, rfl, Nat.le_refl _, fun _ _ => rfl⟩⟩
    · have hbs : b = enum.size := by omega
      have HBS : Hid (b = enum.size) := hbs
      clear hbs
      go_wp2
      go_loop [5] (fun i => ∃ c : Nat, c ≤ name.size ∧ i = .int .i64 c ∧ Hid (cntN name c = cntN enum b)) (fun i => name.size - (intOf i).toNat)
      case atStart => exact ⟨a, ha, rfl, HC⟩
      case round =>
        obtain ⟨c, hc, rfl, HD⟩ := hrel
        by_cases hcn : c < name.size
        · have d1 : decide ((c : Int) < (name.size : Int)) = true := by simp; omega
          have e3 : ((c : Int) == (name.size : Int)) = false := beq_eq_false_iff_ne.2 (by omega)
          by_cases hv : bt name c = 95
          · have e2 : (((name[c]'hcn).toNat : Int) == 95) = true := by rw [← bt_eq name c hcn]; simp [hv]
            have HV : Hid (cntN name (c + 1) = cntN name c) := cntN_us hv
            clear hv
            go_wp2
            go_round
            case rel => exact ⟨c + 1, by omega, by go_num, by show _ = _; rw [HV.out]; exact HD.out⟩
            case measure => simp [intOf]; omega
          · have e2 : (((name[c]'hcn).toNat : Int) == 95) = false := by rw [← bt_eq name c hcn]; simp; omega
            have HS : Hid (WEP name enum (name.extract c name.size)) := end_some hcn hv HBS.out HD.out HA.out
            clear hv
            go_wp2
            go_ret
            exact ⟨⟨_, rfl, HS.out⟩, hB⟩
        · have d1 : decide ((c : Int) < (name.size : Int)) = false := by simp; omega
          have e3 : ((c : Int) == (name.size : Int)) = true := beq_iff_eq.2 (by omega)
          have HS : Hid (WEP name enum name) := end_none (by omega) HBS.out HD.out
          go_wp2
          go_ret
          exact ⟨⟨_, rfl, HS.out⟩, hB⟩

theorem zzwep_any (name enum : ByteArray) (w : World) (hn : name.size ≤ 9223372036854775807) (he : enum.size ≤ 9223372036854775807) :
    Calls Trym.prog 7 #[.string name, .string enum] w fun e w' => Gives name enum e ∧ Below w.heap.size w w' := by
  go_enter Trym.func7, Trym.ntmps7
  go_wp2_with (go_at_call 13; refine (wep_any name enum _ hn he).mono ?_; rintro e w' ⟨⟨r, rfl, hr⟩, hB⟩)
  go_ret
  exact ⟨⟨r, rfl, hr⟩, hB⟩
end Go.Proofs.Qxb6602940aMods
