import Derived.Test.Qxb6601099aModsProg
import Derived.WalkKit
import Derived.WalkSpells
import Derived.Deep.RegionHeld3
namespace Go.Proofs.Qxb6601099aMods
open Go.RowKit

theorem kind_any (k : Int) (s : ByteArray) (a b : Int) (w : World) :
    Calls Trym.prog 16 #[.agg #[.int .i64 k, .string s, .int .i64 a, .int .i64 b]] w fun e w' => e = .returned (.int .i64 k) ∧ w' = w.alloc (.cells #[.int .i64 k, .string s, .int .i64 a, .int .i64 b] 32) := by
  go_enter Trym.func16, Trym.ntmps16
  go_wp2
  go_ret
  exact ⟨rfl, rfl⟩
theorem text_any (k : Int) (s : ByteArray) (a b : Int) (w : World) :
    Calls Trym.prog 17 #[.agg #[.int .i64 k, .string s, .int .i64 a, .int .i64 b]] w fun e w' => e = .returned (.string s) ∧ w' = w.alloc (.cells #[.int .i64 k, .string s, .int .i64 a, .int .i64 b] 32) := by
  go_enter Trym.func17, Trym.ntmps17
  go_wp2
  go_ret
  exact ⟨rfl, rfl⟩
theorem at_any (k : Int) (s : ByteArray) (a b : Int) (w : World) :
    Calls Trym.prog 19 #[.agg #[.int .i64 k, .string s, .int .i64 a, .int .i64 b]] w fun e w' => e = .returned (.int .i64 a) ∧ w' = w.alloc (.cells #[.int .i64 k, .string s, .int .i64 a, .int .i64 b] 32) := by
  go_enter Trym.func19, Trym.ntmps19
  go_wp2
  go_ret
  exact ⟨rfl, rfl⟩
theorem end_any (k : Int) (s : ByteArray) (a b : Int) (w : World) :
    Calls Trym.prog 20 #[.agg #[.int .i64 k, .string s, .int .i64 a, .int .i64 b]] w fun e w' => e = .returned (.int .i64 b) ∧ w' = w.alloc (.cells #[.int .i64 k, .string s, .int .i64 a, .int .i64 b] 32) := by
  go_enter Trym.func20, Trym.ntmps20
  go_wp2
  go_ret
  exact ⟨rfl, rfl⟩
theorem make_any (k : Int) (s : ByteArray) (a b : Int) (w : World) :
    Calls Trym.prog 15 #[.int .i64 k, .string s, .int .i64 a, .int .i64 b] w fun e w' => e = .returned (.agg #[.int .i64 k, .string s, .int .i64 a, .int .i64 b]) ∧ w' = w.alloc (.cells #[.int .i64 k, .string s, .int .i64 a, .int .i64 b] 32) := by
  go_enter Trym.func15, Trym.ntmps15
  go_wp2
  exact bodyPost_ret (v := .agg #[.int .i64 k, .string s, .int .i64 a, .int .i64 b]) (by simp [results, Trym.results15, go_sem]) rfl ⟨rfl, rfl⟩

/-- Is the token the mark? -/
def isM (k : Int) (s m : ByteArray) : Bool := decide (k = 3) && (s.toList == m.toList)

theorem ret_bool {a b : Bool} (h : a = b) : Ending.returned (.bool a) = .returned (.bool b) := by rw [h]

theorem mark_any (k : Int) (s m : ByteArray) (a b : Int) (w : World) :
    Calls Trym.prog 9 #[.agg #[.int .i64 k, .string s, .int .i64 a, .int .i64 b], .string m] w fun e w' => e = .returned (.bool (isM k s m)) ∧ Below w.heap.size w w' := by
  by_cases hk : k = 3
  · subst hk
    go_enter Trym.func9, Trym.ntmps9
    go_wp2
    go_ret
    refine ⟨ret_bool (by simp [isM]), ?_⟩
    exact (((Below.refl _ _).alloc (Nat.le_refl _) _).alloc (by simp) _).alloc (by simp; omega) _
  · have hk' : (k == 3) = false := by simpa using hk
    go_enter Trym.func9, Trym.ntmps9
    go_wp2
    go_ret
    refine ⟨ret_bool (by simp [isM, hk]), ?_⟩
    exact ((Below.refl _ _).alloc (Nat.le_refl _) _).alloc (by simp) _

theorem below_alloc1 (w : World) (o : Obj) : Below w.heap.size w (w.alloc o) := (Below.refl _ _).alloc (Nat.le_refl _) _

theorem kind_b (k : Int) (s : ByteArray) (a b : Int) (w : World) :
    Calls Trym.prog 16 #[.agg #[.int .i64 k, .string s, .int .i64 a, .int .i64 b]] w fun e w' => e = .returned (.int .i64 k) ∧ Below w.heap.size w w' :=
  (kind_any k s a b w).mono fun _ _ h => ⟨h.1, h.2 ▸ below_alloc1 _ _⟩

theorem text_b (k : Int) (s : ByteArray) (a b : Int) (w : World) :
    Calls Trym.prog 17 #[.agg #[.int .i64 k, .string s, .int .i64 a, .int .i64 b]] w fun e w' => e = .returned (.string s) ∧ Below w.heap.size w w' :=
  (text_any k s a b w).mono fun _ _ h => ⟨h.1, h.2 ▸ below_alloc1 _ _⟩

theorem at_b (k : Int) (s : ByteArray) (a b : Int) (w : World) :
    Calls Trym.prog 19 #[.agg #[.int .i64 k, .string s, .int .i64 a, .int .i64 b]] w fun e w' => e = .returned (.int .i64 a) ∧ Below w.heap.size w w' :=
  (at_any k s a b w).mono fun _ _ h => ⟨h.1, h.2 ▸ below_alloc1 _ _⟩

theorem end_b (k : Int) (s : ByteArray) (a b : Int) (w : World) :
    Calls Trym.prog 20 #[.agg #[.int .i64 k, .string s, .int .i64 a, .int .i64 b]] w fun e w' => e = .returned (.int .i64 b) ∧ Below w.heap.size w w' :=
  (end_any k s a b w).mono fun _ _ h => ⟨h.1, h.2 ▸ below_alloc1 _ _⟩

/-- What the region of 'zzb1Same' leans on. -/
abbrev SameS (w : World) (k : Int) (s : ByteArray) (a b : Int) (w' : World) : Prop :=
  w'.cell? ⟨w.heap.size, 0, none⟩ = some (.int .i64 k) ∧ w'.cell? ⟨w.heap.size, 1, none⟩ = some (.string s) ∧ w'.cell? ⟨w.heap.size, 2, none⟩ = some (.int .i64 a) ∧ w'.cell? ⟨w.heap.size, 3, none⟩ = some (.int .i64 b) ∧
  w'.cell? ⟨w.heap.size + 1, 0, none⟩ = some (.int .i64 k) ∧ w'.cell? ⟨w.heap.size + 1, 1, none⟩ = some (.string s) ∧ w'.cell? ⟨w.heap.size + 1, 2, none⟩ = some (.int .i64 a) ∧ w'.cell? ⟨w.heap.size + 1, 3, none⟩ = some (.int .i64 b) ∧
  Below w.heap.size w w' ∧ w.heap.size + 1 < w'.heap.size

theorem SameS.keep {w : World} {k : Int} {s : ByteArray} {a b : Int} {w1 w2 : World} (h : SameS w k s a b w1) (hb : Below w1.heap.size w1 w2) : SameS w k s a b w2 := by
  obtain ⟨h0, h1, h2, h3, g0, g1, g2, g3, hw, hz⟩ := h
  have hz2 := hb.size
  refine ⟨?_, ?_, ?_, ?_, ?_, ?_, ?_, ?_, hw.trans (hb.mono (by omega)), by omega⟩
  all_goals (rw [hb.cell (by simp; omega)]; assumption)

set_option maxHeartbeats 1000000 in
theorem same_any (k : Int) (s : ByteArray) (a b : Int) (w : World) :
    Calls Trym.prog 11 #[.agg #[.int .i64 k, .string s, .int .i64 a, .int .i64 b], .agg #[.int .i64 k, .string s, .int .i64 a, .int .i64 b]] w fun e w' => e = .returned (.bool true) ∧ Below w.heap.size w w' := by
  go_enter Trym.func11, Trym.ntmps11
  go_wp2
  have hS0 : SameS w k s a b ((w.alloc (.cells #[.int .i64 k, .string s, .int .i64 a, .int .i64 b] 32)).alloc (.cells #[.int .i64 k, .string s, .int .i64 a, .int .i64 b] 32)) := by
    refine ⟨?_, ?_, ?_, ?_, ?_, ?_, ?_, ?_, ((Below.refl _ _).alloc (Nat.le_refl _) _).alloc (by simp) _, by simp⟩ <;> go_simp
  have hS := hS0.keep ((Below.refl _ _).drew)
  clear hS0
  go_region_held3 (fun w' => w'.cell? ⟨w.heap.size, 0, none⟩ = some (.int .i64 k) ∧ w'.cell? ⟨w.heap.size, 1, none⟩ = some (.string s) ∧ w'.cell? ⟨w.heap.size, 2, none⟩ = some (.int .i64 a) ∧ w'.cell? ⟨w.heap.size, 3, none⟩ = some (.int .i64 b) ∧
    w'.cell? ⟨w.heap.size + 1, 0, none⟩ = some (.int .i64 k) ∧ w'.cell? ⟨w.heap.size + 1, 1, none⟩ = some (.string s) ∧ w'.cell? ⟨w.heap.size + 1, 2, none⟩ = some (.int .i64 a) ∧ w'.cell? ⟨w.heap.size + 1, 3, none⟩ = some (.int .i64 b) ∧
    Below w.heap.size w w' ∧ w.heap.size + 1 < w'.heap.size) (first | assumption | exact SameS.keep (by assumption) (by assumption))
    (first
      | (go_at_call 16; refine (kind_b _ _ _ _ _).mono ?_; rintro e w' ⟨rfl, hb'⟩)
      | (go_at_call 17; refine (text_b _ _ _ _ _).mono ?_; rintro e w' ⟨rfl, hb'⟩)
      | (go_at_call 19; refine (at_b _ _ _ _ _).mono ?_; rintro e w' ⟨rfl, hb'⟩)
      | (go_at_call 20; refine (end_b _ _ _ _ _).mono ?_; rintro e w' ⟨rfl, hb'⟩))
  all_goals go_wp2
  all_goals go_ret
  rename_i hH
  exact ⟨rfl, hH.2.2.2.2.2.2.2.2.1⟩
end Go.Proofs.Qxb6601099aMods
