import Derived.Test.Qxb6601099aModsClauses
namespace Go.Proofs.Qxb6601099aMods
open Go.RowKit

theorem Trym.info4 : (Trym.prog.info? 4).map (fun i => (i.zero, i.size, i.bytes)) = some (some (.bool false), 1, 1) := by kernel_rfl

theorem zzclauses_any (g n : Nat) (kx : Nat → Int) (tx : Nat → ByteArray) (w : World) (hn : n ≤ 65536) (hT : Toks w g n kx tx n) :
    Calls Trym.prog 10 #[.slice (some ⟨g, 0, none⟩) n n] w fun e w' => ∃ o cap cur, e = .returned (.slice (some ⟨o, 0, none⟩) (spans (topv kx tx) n).length cap) ∧ Below w.heap.size w w' ∧ w.heap.size ≤ o ∧ w'.heap[o]? = some (.cells cur 26 (0, 0)) ∧ ∀ (k : Nat) (x : Nat × Nat), (spans (topv kx tx) n)[k]? = some x → ∃ u, cur[k]? = some u ∧ Piece g x u := by
  have hpos := (spans_pos (topv kx tx) n).1
  go_enter Trym.func10, Trym.ntmps10
  go_wp2_with (go_at_call 18; refine (clauses_any g n kx tx _ hn hT).mono ?_; rintro e w' ⟨v, xs, rfl, hB, hown, hP⟩)
  go_ret
  have hex : ∃ o cap cur, v = .slice (some ⟨o, 0, none⟩) (spans (topv kx tx) n).length cap ∧ w.heap.size ≤ o ∧ w'.heap[o]? = some (.cells cur 26 (0, 0)) ∧ ∀ (k : Nat) (x : Nat × Nat), (spans (topv kx tx) n)[k]? = some x → ∃ u, cur[k]? = some u ∧ Piece g x u := by
    rcases hown.2 with ⟨_, h0⟩ | ⟨o, cap, cur, hv, ho, hc, _, _, hs, htake⟩
    · omega
    · refine ⟨o, cap, cur, hv, ho, hc, fun k x hx => ?_⟩
      obtain ⟨u, hu, hp⟩ := hP k x hx
      refine ⟨u, ?_, hp⟩
      rw [← htake, List.getElem?_take] at hu
      split at hu
      · simpa using hu
      · cases hu
  obtain ⟨o, cap, cur, hv, r⟩ := hex
  exact ⟨o, cap, cur, by rw [← hv]; rfl, hB, r⟩
end Go.Proofs.Qxb6601099aMods
