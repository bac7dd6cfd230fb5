import Derived.Test.Qxb6602940aModsSwap
import Derived.Lib.Strings
namespace Go.Proofs.Qxb6602940aMods
open Go.RowKit

theorem isEmpty_some (s : ByteArray) (k : Nat) (h : k < s.size) : (s.extract k s.size).toList.isEmpty = false := by
  have hl : (s.extract k s.size).toList.length = s.size - k := by
    rw [Lib.toList_data]
    show (s.extract k s.size).data.toList.length = _
    have := ByteArray.size_extract (a := s) (b := k) (e := s.size)
    rw [Nat.min_self] at this
    rw [Array.length_toList]
    exact this
  cases hh : (s.extract k s.size).toList with
  | nil => rw [hh] at hl; simp at hl; omega
  | cons x l => rfl
theorem isEmpty_none (s : ByteArray) : (s.extract s.size s.size).toList.isEmpty = true := by
  have hl : (s.extract s.size s.size).toList.length = 0 := by
    rw [Lib.toList_data]
    show (s.extract s.size s.size).data.toList.length = _
    have := ByteArray.size_extract (a := s) (b := s.size) (e := s.size)
    rw [Nat.min_self, Nat.sub_self] at this
    rw [Array.length_toList]
    exact this
  rw [List.eq_nil_of_length_eq_zero hl]
  rfl

/-- It returns a bool. -/
def SomeBool (e : Ending) : Prop := ∃ r, e = .returned (.bool r)

set_option maxHeartbeats 400000 in
theorem stripBytes_any (a b : ByteArray) (w : World) (ha : a.size ≤ maxLen) (hb : b.size ≤ maxLen) :
    Calls Trym.prog 11 #[.string a, .string b] w fun e w' => SomeBool e ∧ w' = w := by
  unfold maxLen at ha hb
  go_enter Trym.func11, Trym.ntmps11
  go_wp2
  all_goals
    go_ret
    exact ⟨⟨_, rfl⟩, rfl⟩

theorem strip_long (a0 : ByteArray) (a1 : ByteArray) (w0 : a0.size ≤ maxLen) (w1 : a1.size ≤ maxLen) (w : World) (h : ¬ (a0.size ≤ 65536 ∧ a1.size ≤ 65536)) :
    Calls Trym.prog 5 #[.string a0, .string a1] w fun e w' => e = .returned (.bool true) ∧ Below w.heap.size w w' := by
  by_cases h1 : a0.size ≤ 65536
  · have d1 : decide ((65536 : Int) < (a0.size : Int)) = false := by simp; omega
    have d2 : decide ((65536 : Int) < (a1.size : Int)) = true := by simp; omega
    go_enter Trym.func5, Trym.ntmps5
    go_wp2_with fail
    refine (stripBytes_any a0 a1 _ w0 w1).mono ?_
    rintro e w' ⟨⟨r, rfl⟩, rfl⟩
    cases r
    all_goals
      go_wp2
      go_ret
      exact ⟨rfl, Below.refl _ _⟩
  · have d1 : decide ((65536 : Int) < (a0.size : Int)) = true := by simp; omega
    go_enter Trym.func5, Trym.ntmps5
    go_wp2_with fail
    refine (stripBytes_any a0 a1 _ w0 w1).mono ?_
    rintro e w' ⟨⟨r, rfl⟩, rfl⟩
    cases r
    all_goals
      go_wp2
      go_ret
      exact ⟨rfl, Below.refl _ _⟩

set_option maxHeartbeats 400000 in
theorem strip_walk (a0 : ByteArray) (a1 : ByteArray) (w0 : a0.size ≤ maxLen) (w1 : a1.size ≤ maxLen) (w : World) :
    Calls Trym.prog 5 #[.string a0, .string a1] w fun e w' => e = .returned (.bool true) ∧ Below w.heap.size w w' := by
  by_cases hl : a0.size ≤ 65536 ∧ a1.size ≤ 65536
  · obtain ⟨h1, h2⟩ := hl
    have d1 : decide ((65536 : Int) < (a0.size : Int)) = false := by simp; omega
    have d2 : decide ((65536 : Int) < (a1.size : Int)) = false := by simp; omega
    go_enter Trym.func5, Trym.ntmps5
    go_wp2_with fail
    refine (stripBytes_any a0 a1 _ w0 w1).mono ?_
    rintro e w' ⟨⟨r, rfl⟩, hw'⟩
    have hw := hw'.symm
    clear hw'
    subst hw
    cases r
    · go_wp2
      go_ret
      exact ⟨rfl, Below.refl _ _⟩
    go_wp2_with fail
    refine (swapCase_any a0 _ h1).mono ?_
    rintro e w1 ⟨rfl, hB1⟩
    have HM : Hid (Made (swapS a0 ++ ⟨#[95]⟩ ++ a1) a0 a1) := made (swapS a0) a0 a1 (swapS_size a0) (swapS_bt a0)
    have ht : (swapS a0).size ≤ 65536 := by rw [swapS_size]; exact h1
    generalize swapS a0 = t at *
    go_wp2
    have hnz : (t ++ (⟨#[95]⟩ : ByteArray) ++ a1).size ≤ 200000 := by rw [HM.out.size]; omega
    generalize t ++ (⟨#[95]⟩ : ByteArray) ++ a1 = nm at *
    go_loop [6] (fun i => ∃ k : Nat, k ≤ a1.size ∧ i = .int .i64 k ∧ Hid (Lead a1 k)) (fun i => a1.size - (intOf i).toNat)
    case atStart => exact ⟨0, Nat.zero_le _, rfl, fun i hi => absurd hi (by omega)⟩
    case round =>
      obtain ⟨k, hk, rfl, HK⟩ := hrel
      by_cases hks : k < a1.size
      · have g1 : decide ((k : Int) < (a1.size : Int)) = true := by simp; omega
        by_cases hu : bt a1 k = 95
        · have e1 : (((a1[k]'hks).toNat : Int) == 95) = true := by rw [← bt_eq a1 k hks]; simp [hu]
          have HS : Hid (Lead a1 (k + 1)) := lead_step HK.out hu
          clear hu
          go_wp2
          go_round
          case rel => exact ⟨k + 1, by omega, by go_num, HS⟩
          case measure => simp [intOf]; omega
        · have e1 : (((a1[k]'hks).toNat : Int) == 95) = false := by rw [← bt_eq a1 k hks]; simp; omega
          have HU : Hid (bt a1 k ≠ 95) := hu
          clear hu
          go_wp2_with fail
          refine (zzwep_any nm a0 _ (by omega) (by omega)).mono ?_
          rintro e w2 ⟨⟨r, rfl, hr⟩, hB2⟩
          have hre : r = a1.extract k a1.size := strip_some HM.out hks HK.out HU.out hr
          have HB : Hid (Below w.heap.size w w2) := hB1.trans (hB2.mono hB1.size)
          clear hr hB2
          subst hre
          have hne := isEmpty_some a1 k hks
          go_wp2
          go_ret
          exact ⟨ret_bool (by simp), HB.out⟩
      · obtain rfl : k = a1.size := by omega
        have g1 : decide ((a1.size : Int) < (a1.size : Int)) = false := by simp
        go_wp2_with fail
        refine (zzwep_any nm a0 _ (by omega) (by omega)).mono ?_
        rintro e w2 ⟨⟨r, rfl, hr⟩, hB2⟩
        have hre : nm = r := (strip_none HM.out HK.out hr).symm
        have HB : Hid (Below w.heap.size w w2) := hB1.trans (hB2.mono hB1.size)
        clear hr hB2 HM
        subst hre
        have hne := isEmpty_none a1
        go_wp2
        go_ret
        exact ⟨ret_bool (by simp), HB.out⟩
  · exact strip_long a0 a1 w0 w1 w hl

end Go.Proofs.Qxb6602940aMods
