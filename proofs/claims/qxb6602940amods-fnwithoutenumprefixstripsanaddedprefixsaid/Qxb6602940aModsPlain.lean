/-
  The plain law on names and enums, as strings of bytes. No Go in sight.
-/
namespace Go.Proofs.Qxb6602940aMods

/-- The i-th byte as a number. -/
def bt (s : ByteArray) (i : Nat) : Nat := if h : i < s.size then (s[i]'h).toNat else 0
theorem bt_eq (s : ByteArray) (i : Nat) (h : i < s.size) : bt s i = (s[i]'h).toNat := by simp [bt, h]
theorem bt_lt (s : ByteArray) (i : Nat) : bt s i < 256 := by
  unfold bt
  split
  · exact UInt8.toNat_lt _
  · omega

/-- How many of the first i bytes are no '_'. -/
def cntN (s : ByteArray) : Nat → Nat
  | 0 => 0
  | i + 1 => cntN s i + if bt s i = 95 then 0 else 1
theorem cntN_us {s : ByteArray} {i : Nat} (h : bt s i = 95) : cntN s (i + 1) = cntN s i := by simp [cntN, h]
theorem cntN_no {s : ByteArray} {i : Nat} (h : bt s i ≠ 95) : cntN s (i + 1) = cntN s i + 1 := by simp [cntN, h]
theorem cntN_le (s : ByteArray) (i : Nat) : cntN s i ≤ i := by
  induction i with
  | zero => simp [cntN]
  | succ i ih => simp only [cntN]; split <;> omega
theorem cntN_mono (s : ByteArray) {i j : Nat} (h : i ≤ j) : cntN s i ≤ cntN s j := by
  induction j with
  | zero => have : i = 0 := by omega
            subst this; exact Nat.le_refl _
  | succ j ih =>
    by_cases e : i = j + 1
    · subst e; exact Nat.le_refl _
    · have := ih (by omega)
      simp only [cntN]
      omega

def tot (s : ByteArray) : Nat := cntN s s.size

/-- q is the place of the k-th byte that is no '_'. -/
def IsPos (s : ByteArray) (k q : Nat) : Prop := q < s.size ∧ bt s q ≠ 95 ∧ cntN s q = k

theorem isPos_lt {s : ByteArray} {k q : Nat} (h : IsPos s k q) : k < tot s := by
  have h1 := cntN_mono s (show q + 1 ≤ s.size from h.1)
  rw [cntN_no h.2.1, h.2.2] at h1
  unfold tot; omega

theorem isPos_uniq {s : ByteArray} {k q q' : Nat} (h : IsPos s k q) (h' : IsPos s k q') : q = q' := by
  rcases Nat.lt_trichotomy q q' with hlt | heq | hgt
  · have h1 := cntN_mono s (show q + 1 ≤ q' from hlt)
    rw [cntN_no h.2.1, h.2.2, h'.2.2] at h1; omega
  · exact heq
  · have h1 := cntN_mono s (show q' + 1 ≤ q from hgt)
    rw [cntN_no h'.2.1, h.2.2, h'.2.2] at h1; omega

def lowN (c : Nat) : Nat := if 65 ≤ c ∧ c ≤ 90 then c + 32 else c
def upN (c : Nat) : Nat := if 97 ≤ c ∧ c ≤ 122 then c - 32 else c
def swN (c : Nat) : Nat := if 97 ≤ c ∧ c ≤ 122 then c - 32 else if 65 ≤ c ∧ c ≤ 90 then c + 32 else c

theorem low_up (a b : Nat) : lowN a = lowN b ↔ upN a = upN b := by
  unfold lowN upN
  constructor
  · intro h; split at h <;> split at h <;> split <;> split <;> omega
  · intro h; split at h <;> split at h <;> split <;> split <;> omega
theorem low_sw (c : Nat) : lowN (swN c) = lowN c := by
  unfold lowN swN
  split
  · split <;> split <;> omega
  · split
    · split <;> omega
    · rfl
theorem sw_us (c : Nat) : swN c = 95 ↔ c = 95 := by
  unfold swN
  split
  · omega
  · split <;> omega
theorem sw_lt {c : Nat} (h : c < 256) : swN c < 256 := by
  unfold swN
  split
  · omega
  · split <;> omega
theorem up_lt {c : Nat} (h : c < 256) : upN c < 256 := by
  unfold upN
  split <;> omega

/-- The enum's letters stand at the head of the name's, and a letter is left. -/
def Match (name enum : ByteArray) : Prop :=
  tot enum < tot name ∧ ∀ t q r, IsPos name t q → IsPos enum t r → lowN (bt name q) = lowN (bt enum r)

/-- What 'withoutEnumPrefix' returns. -/
def WEP (name enum r : ByteArray) : Prop :=
  (Match name enum ∧ ∃ q, IsPos name (tot enum) q ∧ r = name.extract q name.size) ∨ (¬ Match name enum ∧ r = name)

theorem WEP_uniq {name enum r r' : ByteArray} (h : WEP name enum r) (h' : WEP name enum r') : r = r' := by
  rcases h with ⟨m, q, hq, rfl⟩ | ⟨m, rfl⟩
  · rcases h' with ⟨_, q', hq', rfl⟩ | ⟨m', _⟩
    · rw [isPos_uniq hq hq']
    · exact absurd m m'
  · rcases h' with ⟨m', _⟩ | ⟨_, rfl⟩
    · exact absurd m' m
    · rfl

/-! ### The lists that the model makes -/
/-- The letters of the first j bytes, in upper case. -/
def lets (s : ByteArray) : Nat → List Nat
  | 0 => []
  | j + 1 => if bt s j = 95 then lets s j else lets s j ++ [upN (bt s j)]
/-- The places among the first i bytes. -/
def poss (s : ByteArray) : Nat → List Nat
  | 0 => []
  | i + 1 => if bt s i = 95 then poss s i else poss s i ++ [i]
theorem lets_len (s : ByteArray) (j : Nat) : (lets s j).length = cntN s j := by
  induction j with
  | zero => rfl
  | succ j ih => simp only [lets, cntN]; split <;> simp [ih]
theorem poss_len (s : ByteArray) (j : Nat) : (poss s j).length = cntN s j := by
  induction j with
  | zero => rfl
  | succ j ih => simp only [poss, cntN]; split <;> simp [ih]

theorem poss_at (s : ByteArray) (i k : Nat) (hi : i ≤ s.size) (hk : k < cntN s i) : ∃ q, (poss s i)[k]? = some q ∧ IsPos s k q ∧ q < i := by
  induction i with
  | zero => simp [cntN] at hk
  | succ i ih =>
    simp only [poss]
    by_cases h : bt s i = 95
    · rw [if_pos h]
      rw [cntN_us h] at hk
      obtain ⟨q, h1, h2, h3⟩ := ih (by omega) hk
      exact ⟨q, h1, h2, by omega⟩
    · rw [if_neg h]
      rw [cntN_no h] at hk
      by_cases e : k = cntN s i
      · refine ⟨i, ?_, ⟨by omega, h, e.symm⟩, by omega⟩
        rw [List.getElem?_append_right (by rw [poss_len]; omega), poss_len, e]
        simp
      · obtain ⟨q, h1, h2, h3⟩ := ih (by omega) (by omega)
        exact ⟨q, by rw [List.getElem?_append_left (by rw [poss_len]; omega)]; exact h1, h2, by omega⟩

theorem lets_at (s : ByteArray) (i k : Nat) (hi : i ≤ s.size) (hk : k < cntN s i) : ∃ q, (lets s i)[k]? = some (upN (bt s q)) ∧ IsPos s k q ∧ q < i := by
  induction i with
  | zero => simp [cntN] at hk
  | succ i ih =>
    simp only [lets]
    by_cases h : bt s i = 95
    · rw [if_pos h]
      rw [cntN_us h] at hk
      obtain ⟨q, h1, h2, h3⟩ := ih (by omega) hk
      exact ⟨q, h1, h2, by omega⟩
    · rw [if_neg h]
      rw [cntN_no h] at hk
      by_cases e : k = cntN s i
      · refine ⟨i, ?_, ⟨by omega, h, e.symm⟩, by omega⟩
        rw [List.getElem?_append_right (by rw [lets_len]; omega), lets_len, e]
        simp
      · obtain ⟨q, h1, h2, h3⟩ := ih (by omega) (by omega)
        exact ⟨q, by rw [List.getElem?_append_left (by rw [lets_len]; omega)]; exact h1, h2, by omega⟩

theorem isPos_ex (s : ByteArray) (k : Nat) (h : k < tot s) : ∃ q, IsPos s k q := by
  obtain ⟨q, _, h2, _⟩ := poss_at s s.size k (Nat.le_refl _) h
  exact ⟨q, h2⟩
end Go.Proofs.Qxb6602940aMods
