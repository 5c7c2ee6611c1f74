/- A struct in a block, one slot of which holds a row. -/
import Derived.Test.YtdenjanihikolaaGreatDoorGr
namespace Go.Proofs.YtdenjanihikolaaGreatDoor
open Go.RowKit
set_option linter.unusedVariables false
set_option linter.unusedSimpArgs false

theorem slot_setCell {w : World} {b j : Nat} {cs : Array Value} {u : Value} {t : TypeId} (h : w.heap[b]? = some (.cells cs t (0, 0))) : (w.setCell ⟨b, j, none⟩ u).heap[b]? = some (.cells (cs.setIfInBounds j u) t (0, 0)) := by
  have hlt := lt_of_block h
  have h' : w.heap[b] = .cells cs t (0, 0) := by simpa [Array.getElem?_eq_getElem hlt] using h
  show (w.heap.modify b _)[b]? = _
  rw [Array.getElem?_eq_getElem (by simpa using hlt), Array.getElem_modify_self, h']
  rfl

/-- A struct in block pb, whose slot holds an own row; all older blocks but pb stand. -/
structure Slot (e size : Nat) (W w : World) (pb : Nat) (c : Value → Array Value) (v : Value) (n : Nat) (xs : List Value) : Prop where
  blk : w.heap[pb]? = some (.cells (c v) 37 (0, 0))
  row : Row e size (fun k => k < W.heap.size ∧ k ≠ pb) W w v n xs
  off : ∀ g, v.ownBlock = some g → g ≠ pb
  lt : pb < W.heap.size

theorem Slot.close {e size : Nat} {W w w1 : World} {pb j : Nat} {c : Value → Array Value} {v v1 : Value} {n m : Nat} {xs ys : List Value} (h : Slot e size W w pb c v n xs) (hblk : w1.heap[pb]? = some (.cells (c v) 37 (0, 0)))
    (hr : Row e size (fun k => k < W.heap.size ∧ k ≠ pb) W w1 v1 m ys) (hoff : ∀ g, v1.ownBlock = some g → g ≠ pb) (hc : (c v).setIfInBounds j v1 = c v1) : Slot e size W (w1.setCell ⟨pb, j, none⟩ v1) pb c v1 m ys := by
  have hsz : (w1.setCell ⟨pb, j, none⟩ v1).heap.size = w1.heap.size := by simp [World.setCell]
  have hoth : ∀ k, k ≠ pb → (w1.setCell ⟨pb, j, none⟩ v1).heap[k]? = w1.heap[k]? := fun k hk => heap_setCell_other w1 ⟨pb, j, none⟩ k v1 hk
  refine ⟨hc ▸ slot_setCell hblk, ⟨?_, hr.off, fun k hk => (hoth k hk.2).trans (hr.kept k hk), fun k hk => by rw [hsz]; exact hr.lt k hk, hr.os, hr.tape, hr.output⟩, hoff, h.lt⟩
  refine ownsRow_setCell_other hr.own ?_ _
  intro e; exact hoff pb e rfl
end Go.Proofs.YtdenjanihikolaaGreatDoor
