/- An own row of structs is read. -/
import Derived.Test.YtdenjanihikolaaGreatDoorMsc
namespace Go.Proofs.YtdenjanihikolaaGreatDoor
open Go.RowKit
set_option linter.unusedVariables false
set_option linter.unusedSimpArgs false

theorem rdm_of {α : Type} {size e : Nat} {R : World → α → (Nat → Value) → Prop} {w : World} {v : Value} {l : List α} {xs : List Value} (h : w.ownsRow 0 e size v l.length xs) (hx : Rws size (R w) l xs) : RdM size R w v l := by
  rcases h.2 with ⟨rfl, hn⟩ | ⟨g, cap, cur, rfl, _, hg, hnc, hcm, hcs, ht⟩
  · exact ⟨none, 0, by rw [hn], by omega, by unfold maxLen; omega, fun h0 => by omega⟩
  · refine ⟨some ⟨g, 0, none⟩, cap, rfl, hnc, hcm, fun _ => ⟨g, 0, rfl, fun j hj => ?_⟩⟩
    obtain ⟨f, hf, hR⟩ := hx.2 j hj
    refine ⟨f, fun k hk => ?_, hR⟩
    have h1 := hf k hk
    rw [← ht, List.getElem?_take] at h1
    split at h1
    · refine (cell_of_row _ _ _ _ _ _ hg).trans ?_
      rw [Nat.zero_add, ← Array.getElem?_toList]
      exact h1
    · cases h1
end Go.Proofs.YtdenjanihikolaaGreatDoor
