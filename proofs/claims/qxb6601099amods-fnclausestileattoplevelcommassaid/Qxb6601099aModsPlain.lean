/-
  The plain law: splitting 0 .. n at the marked places. No Go in sight.
-/
namespace Go.Proofs.Qxb6601099aMods

/-- How many i < n have p. -/
def cnt (p : Nat → Bool) : Nat → Nat
  | 0 => 0
  | n + 1 => cnt p n + if p n then 1 else 0

theorem cnt_le (p : Nat → Bool) (n : Nat) : cnt p n ≤ n := by
  induction n with
  | zero => simp [cnt]
  | succ n ih => simp only [cnt]; split <;> omega

/-- Where the span that is open behind n places begins. -/
def st (top : Nat → Bool) : Nat → Nat
  | 0 => 0
  | n + 1 => if top n then n + 1 else st top n

/-- The spans that are closed behind n places. -/
def sp (top : Nat → Bool) : Nat → List (Nat × Nat)
  | 0 => []
  | n + 1 => if top n then sp top n ++ [(st top n, n)] else sp top n

/-- All spans. -/
def spans (top : Nat → Bool) (n : Nat) : List (Nat × Nat) := sp top n ++ [(st top n, n)]

theorem st_le (top : Nat → Bool) (n : Nat) : st top n ≤ n := by
  induction n with
  | zero => simp [st]
  | succ n ih => simp only [st]; split <;> omega

theorem st_clear (top : Nat → Bool) (n p : Nat) (h1 : st top n ≤ p) (h2 : p < n) : top p = false := by
  induction n with
  | zero => omega
  | succ n ih =>
    simp only [st] at h1
    split at h1
    · omega
    · rename_i ht
      by_cases hp : p = n
      · subst hp; simpa using ht
      · exact ih h1 (by omega)

theorem sp_len (top : Nat → Bool) (n : Nat) : (sp top n).length ≤ n := by
  induction n with
  | zero => simp [sp]
  | succ n ih => simp only [sp]; split <;> (try simp) <;> omega

/-- What holds of the k-th span. -/
structure SpanAt (top : Nat → Bool) (l : List (Nat × Nat)) (k : Nat) (x : Nat × Nat) : Prop where
  le : x.1 ≤ x.2
  clear : ∀ p, x.1 ≤ p → p < x.2 → top p = false
  first : k = 0 → x.1 = 0
  next : 0 < k → ∃ y, l[k - 1]? = some y ∧ x.1 = y.2 + 1 ∧ top y.2 = true

theorem st_last (top : Nat → Bool) (n : Nat) : ((sp top n).length = 0 → st top n = 0) ∧ (0 < (sp top n).length → ∃ y, (sp top n)[(sp top n).length - 1]? = some y ∧ st top n = y.2 + 1 ∧ top y.2 = true) := by
  induction n with
  | zero => simp [sp, st]
  | succ n ih =>
    simp only [sp, st]
    split
    · rename_i ht
      simp [ht]
    · exact ih

theorem sp_at (top : Nat → Bool) (n k : Nat) (x : Nat × Nat) (h : (sp top n)[k]? = some x) : SpanAt top (sp top n) k x ∧ x.2 < n ∧ top x.2 = true := by
  induction n with
  | zero => simp [sp] at h
  | succ n ih =>
    by_cases ht : top n
    · simp only [sp, ht, if_true] at h ⊢
      rw [List.getElem?_append] at h
      split at h
      · rename_i hk
        obtain ⟨hS, hlt, hx⟩ := ih h
        refine ⟨⟨hS.le, hS.clear, hS.first, fun hk0 => ?_⟩, by omega, hx⟩
        obtain ⟨y, hy, hr⟩ := hS.next hk0
        exact ⟨y, by rw [List.getElem?_append_left (by omega)]; exact hy, hr⟩
      · rename_i hk
        have hk' : k = (sp top n).length := by
          rcases Nat.lt_or_ge (k - (sp top n).length) 1 with h1 | h1
          · omega
          · rw [List.getElem?_eq_none (by simpa using h1)] at h; cases h
        subst hk'
        simp at h
        subst h
        obtain ⟨l1, l2⟩ := st_last top n
        refine ⟨⟨st_le top n, fun p h1 h2 => st_clear top n p h1 h2, fun h0 => l1 h0, fun h0 => ?_⟩, by simp, ht⟩
        obtain ⟨y, hy, hr⟩ := l2 h0
        exact ⟨y, by rw [List.getElem?_append_left (by omega)]; exact hy, hr⟩
    · simp only [sp, ht] at h ⊢
      simp only [Bool.false_eq_true, if_false] at h ⊢
      obtain ⟨hS, hlt, hx⟩ := ih h
      exact ⟨hS, by omega, hx⟩

theorem spans_pos (top : Nat → Bool) (n : Nat) : 0 < (spans top n).length ∧ (spans top n).length ≤ n + 1 := by
  have := sp_len top n
  simp [spans]; omega

/-- The k-th of all spans; the last one ends at n, every other one at a marked place. -/
theorem spans_at (top : Nat → Bool) (n k : Nat) (x : Nat × Nat) (h : (spans top n)[k]? = some x) :
    SpanAt top (spans top n) k x ∧ (k + 1 < (spans top n).length → x.2 < n ∧ top x.2 = true) ∧ (k + 1 = (spans top n).length → x.2 = n) ∧ x.2 ≤ n := by
  unfold spans at h ⊢
  rw [List.getElem?_append] at h
  split at h
  · rename_i hk
    obtain ⟨hS, hlt, hx⟩ := sp_at top n k x h
    refine ⟨⟨hS.le, hS.clear, hS.first, fun hk0 => ?_⟩, fun _ => ⟨hlt, hx⟩, fun hl => ?_, by omega⟩
    · obtain ⟨y, hy, hr⟩ := hS.next hk0
      exact ⟨y, by rw [List.getElem?_append_left (by omega)]; exact hy, hr⟩
    · simp at hl; omega
  · rename_i hk
    have hk' : k = (sp top n).length := by
      rcases Nat.lt_or_ge (k - (sp top n).length) 1 with h1 | h1
      · omega
      · rw [List.getElem?_eq_none (by simpa using h1)] at h; cases h
    subst hk'
    simp at h
    subst h
    obtain ⟨l1, l2⟩ := st_last top n
    refine ⟨⟨st_le top n, fun p h1 h2 => st_clear top n p h1 h2, fun h0 => l1 h0, fun h0 => ?_⟩, fun hl => ?_, fun _ => rfl, Nat.le_refl _⟩
    · obtain ⟨y, hy, hr⟩ := l2 h0
      exact ⟨y, by rw [List.getElem?_append_left (by omega)]; exact hy, hr⟩
    · simp at hl
end Go.Proofs.Qxb6601099aMods
