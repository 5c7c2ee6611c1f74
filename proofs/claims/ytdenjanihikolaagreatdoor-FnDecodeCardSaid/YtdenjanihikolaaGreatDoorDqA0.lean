/- What all texts share. -/
import Derived.Lib.Hide
namespace Go.Proofs.YtdenjanihikolaaGreatDoor
open Go.RowKit
theorem zh {p : Prop} (h : p) : Hid p := Lib.hid h
theorem zd {P M : Nat → Prop} (h : ∀ j, M j → P j) (i : Nat) (m : M i := by decide) : P i := h i m
end Go.Proofs.YtdenjanihikolaaGreatDoor
