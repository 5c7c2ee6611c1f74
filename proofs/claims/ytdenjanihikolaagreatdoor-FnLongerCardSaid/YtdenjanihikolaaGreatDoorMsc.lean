/- Rows of structs, read. -/
import Derived.Test.YtdenjanihikolaaGreatDoorMsb
namespace Go.Proofs.YtdenjanihikolaaGreatDoor
open Go.RowKit
set_option linter.unusedVariables false
set_option linter.unusedSimpArgs false

theorem Row.ext {e size : Nat} {K : Nat → Prop} {w0 w w' : World} {v : Value} {n : Nat} {xs : List Value} (h : Row e size K w0 w v n xs) (hx : Ext w w') : Row e size K w0 w' v n xs :=
  h.step ⟨hx.os, hx.tape, hx.output, hx.size, fun k hk _ => hx.block k hk⟩ (ownsRow_ext h.own hx) (fun g hg => .inl hg)

/-- The cells of a row, element by element. -/
def Rws {α : Type} (size : Nat) (R : α → (Nat → Value) → Prop) (l : List α) (xs : List Value) : Prop :=
  xs.length = l.length * size ∧ ∀ j (h : j < l.length), ∃ f : Nat → Value, (∀ k, k < size → xs[j * size + k]? = some (f k)) ∧ R l[j] f
theorem Rws.nil {α : Type} (size : Nat) (R : α → (Nat → Value) → Prop) : Rws size R ([] : List α) [] := ⟨by simp, fun j h => absurd h (Nat.not_lt_zero j)⟩
theorem Rws.snoc {α : Type} {size : Nat} {R : α → (Nat → Value) → Prop} {l : List α} {xs ys : List Value} {x : α} {f : Nat → Value} (h : Rws size R l xs) (hy : ys.length = size) (hf : ∀ k, k < size → ys[k]? = some (f k)) (hr : R x f) : Rws size R (l ++ [x]) (xs ++ ys) := by
  refine ⟨by simp [h.1, hy, Nat.add_mul], fun j hj => ?_⟩
  rcases Nat.lt_or_ge j l.length with hl | hl
  · obtain ⟨g, hg, hR⟩ := h.2 j hl
    refine ⟨g, fun k hk => ?_, by rw [List.getElem_append_left hl]; exact hR⟩
    rw [List.getElem?_append_left]
    · exact hg k hk
    · rw [h.1]
      exact Nat.lt_of_lt_of_le (show j * size + k < (j + 1) * size by rw [Nat.add_mul]; omega) (Nat.mul_le_mul_right size hl)
  · have hj2 : j = l.length := by simp at hj; omega
    subst hj2
    refine ⟨f, fun k hk => ?_, by simpa using hr⟩
    rw [List.getElem?_append_right (by rw [h.1]; omega), h.1]
    simpa using hf k hk
end Go.Proofs.YtdenjanihikolaaGreatDoor
