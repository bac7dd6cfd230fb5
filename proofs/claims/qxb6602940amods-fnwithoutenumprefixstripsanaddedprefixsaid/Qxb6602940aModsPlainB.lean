/-
  The plain law on a name that is made of an enum, an underscore and a rest. No Go in sight.
-/
import Derived.Test.Qxb6602940aModsPlain
namespace Go.Proofs.Qxb6602940aMods

/-- The bytes with their case swapped. -/
def swapL (s : ByteArray) : List UInt8 := (List.range s.size).map fun i => UInt8.ofNat (swN (bt s i))
def swapS (s : ByteArray) : ByteArray := ⟨(swapL s).toArray⟩
theorem swapL_len (s : ByteArray) : (swapL s).length = s.size := by simp [swapL]
theorem swapS_size (s : ByteArray) : (swapS s).size = s.size := by
  show (swapL s).toArray.size = s.size
  simp [swapL_len]
theorem swapL_at (s : ByteArray) (i : Nat) (h : i < (swapL s).length) : ((swapL s)[i]'h).toNat = swN (bt s i) := by
  have := sw_lt (bt_lt s i)
  simp [swapL]
  omega
theorem swapS_bt (s : ByteArray) (i : Nat) (h : i < s.size) : bt (swapS s) i = swN (bt s i) := by
  rw [bt_eq _ i (by rw [swapS_size]; exact h)]
  exact swapL_at s i (by rw [swapL_len]; exact h)

theorem bt_left {a b : ByteArray} {i : Nat} (h : i < a.size) : bt (a ++ b) i = bt a i := by
  rw [bt_eq _ i (by rw [ByteArray.size_append]; omega), bt_eq _ i h, ByteArray.getElem_append_left h]
theorem bt_right {a b : ByteArray} (i : Nat) (h : i < b.size) : bt (a ++ b) (a.size + i) = bt b i := by
  rw [bt_eq _ _ (by rw [ByteArray.size_append]; omega), bt_eq _ i h, ByteArray.getElem_append_right (by omega)]
  simp

/-- What is known of the name. -/
structure Made (name enum rest : ByteArray) : Prop where
  size : name.size = enum.size + 1 + rest.size
  head : ∀ i, i < enum.size → bt name i = swN (bt enum i)
  mid : bt name enum.size = 95
  tail : ∀ i, i < rest.size → bt name (enum.size + 1 + i) = bt rest i
  cut : ∀ k, k ≤ rest.size → name.extract (enum.size + 1 + k) name.size = rest.extract k rest.size

theorem made (t enum rest : ByteArray) (hs : t.size = enum.size) (hb : ∀ i, i < enum.size → bt t i = swN (bt enum i)) : Made (t ++ ⟨#[95]⟩ ++ rest) enum rest := by
  have h1 : (t ++ (⟨#[95]⟩ : ByteArray)).size = enum.size + 1 := by rw [ByteArray.size_append, hs]; rfl
  refine ⟨?_, fun i hi => ?_, ?_, fun i hi => ?_, fun k hk => ?_⟩
  · rw [ByteArray.size_append, h1]
  · rw [bt_left (by omega), bt_left (by omega)]; exact hb i hi
  · rw [bt_left (by omega)]
    have := bt_right (a := t) (b := ⟨#[95]⟩) 0 (by decide)
    rw [← hs]
    exact this
  · rw [← h1]; exact bt_right i hi
  · rw [ByteArray.size_append, h1, ByteArray.extract_append, h1]
    have e1 : (t ++ (⟨#[95]⟩ : ByteArray)).extract (enum.size + 1 + k) (enum.size + 1 + rest.size) = ByteArray.empty := by
      apply ByteArray.ext
      rw [ByteArray.data_extract]
      apply Array.extract_empty_of_size_le_start
      have : (t ++ (⟨#[95]⟩ : ByteArray)).data.size = enum.size + 1 := h1
      omega
    rw [e1, ByteArray.empty_append]
    congr 1 <;> omega

theorem made_cnt_head {name enum rest : ByteArray} (m : Made name enum rest) (i : Nat) (h : i ≤ enum.size) : cntN name i = cntN enum i := by
  induction i with
  | zero => rfl
  | succ i ih =>
    have hi : i < enum.size := by omega
    have hb := m.head i hi
    have hs := sw_us (bt enum i)
    by_cases hu : bt enum i = 95
    · rw [cntN_us hu, cntN_us (by rw [hb]; exact hs.2 hu), ih (by omega)]
    · rw [cntN_no hu, cntN_no (by rw [hb]; exact fun h => hu (hs.1 h)), ih (by omega)]
theorem made_cnt_tail {name enum rest : ByteArray} (m : Made name enum rest) (i : Nat) (h : i ≤ rest.size) : cntN name (enum.size + 1 + i) = tot enum + cntN rest i := by
  induction i with
  | zero =>
    rw [Nat.add_zero, cntN_us m.mid, made_cnt_head m enum.size (Nat.le_refl _)]
    rfl
  | succ i ih =>
    have hi : i < rest.size := by omega
    have hb := m.tail i hi
    rw [← Nat.add_assoc]
    by_cases hu : bt rest i = 95
    · rw [cntN_us hu, cntN_us (by rw [hb]; exact hu), ih (by omega)]
    · rw [cntN_no hu, cntN_no (by rw [hb]; exact hu), ih (by omega)]
      omega

/-- The first k bytes are underscores. -/
def Lead (rest : ByteArray) (k : Nat) : Prop := ∀ i, i < k → bt rest i = 95
theorem lead_cnt {rest : ByteArray} {k : Nat} (h : Lead rest k) : cntN rest k = 0 := by
  induction k with
  | zero => rfl
  | succ k ih => rw [cntN_us (h k (by omega)), ih (fun i hi => h i (by omega))]
theorem lead_step {rest : ByteArray} {k : Nat} (h : Lead rest k) (hu : bt rest k = 95) : Lead rest (k + 1) := fun i hi => by
  by_cases e : i = k
  · subst e; exact hu
  · exact h i (by omega)

/-- Nothing but underscores is left: the name whole. -/
theorem strip_none {name enum rest r : ByteArray} (m : Made name enum rest) (h : Lead rest rest.size) (hr : WEP name enum r) : r = name := by
  rcases hr with ⟨mt, _⟩ | ⟨_, e⟩
  · have h1 := mt.1
    have h2 : tot name = tot enum + cntN rest rest.size := by
      unfold tot
      rw [m.size, made_cnt_tail m rest.size (Nat.le_refl _)]
      rfl
    rw [lead_cnt h] at h2
    omega
  · exact e

/-- The rest without its leading underscores. -/
theorem strip_some {name enum rest r : ByteArray} {k : Nat} (m : Made name enum rest) (hk : k < rest.size) (h : Lead rest k) (hu : bt rest k ≠ 95) (hr : WEP name enum r) : r = rest.extract k rest.size := by
  have hp : IsPos name (tot enum) (enum.size + 1 + k) := ⟨by rw [m.size]; omega, by rw [m.tail k hk]; exact hu, by rw [made_cnt_tail m k (by omega), lead_cnt h]; rfl⟩
  have mt : Match name enum := by
    refine ⟨isPos_lt hp, fun t q r hq hr => ?_⟩
    have hr' : IsPos name t r := ⟨by have := hr.1; rw [m.size]; omega, by rw [m.head r hr.1]; exact fun h => hr.2.1 ((sw_us _).1 h), by rw [made_cnt_head m r (by have := hr.1; omega)]; exact hr.2.2⟩
    rw [isPos_uniq hq hr', m.head r hr.1, low_sw]
  rcases hr with ⟨_, q, hq, rfl⟩ | ⟨nm, _⟩
  · rw [isPos_uniq hq hp]
    exact m.cut k (by omega)
  · exact absurd mt nm
end Go.Proofs.Qxb6602940aMods
