/- What the body of a message of the reference starts and ends with. -/
import Derived.Test.YtdenjanihikolaaGreatDoorWre
namespace Go.Proofs.YtdenjanihikolaaGreatDoor
open Go.RowKit Og
set_option linter.unusedVariables false
set_option linter.unusedSimpArgs false

/-- A row of bytes that the call gives. -/
def Gave (w : World) (xs : List Int) : Ending → World → Prop := fun e w' => ∃ v, e = .returned v ∧ Buf (Lt w.heap.size) w w' v xs

theorem Wr.start (W : World) : Wr (Lt W.heap.size) W ((W.alloc (.cells #[] 5)).alloc (.cells #[.slice (some ⟨W.heap.size, 0, none⟩) 0 0] 79)) (W.heap.size + 1) (.slice (some ⟨W.heap.size, 0, none⟩) 0 0) [] := by
  have hs : (W.alloc (.cells #[] 5)).heap.size = W.heap.size + 1 := by simp
  have e1 : Ext W ((W.alloc (.cells #[] 5)).alloc (.cells #[.slice (some ⟨W.heap.size, 0, none⟩) 0 0] 79)) := (ext_alloc W _).alloc _
  refine ⟨fun h => Nat.lt_irrefl _ (Nat.lt_trans (Nat.lt_succ_self _) h), ?_, ⟨?_, ?_, fun k hk => e1.block k hk, fun k hk => Nat.lt_of_lt_of_le hk e1.size, e1.os, e1.tape, e1.output⟩, ?_⟩
  · rw [← hs]; exact heap_alloc_new _ _
  · refine ⟨by simp [bys], .inr ⟨W.heap.size, 0, #[], rfl, Nat.zero_le _, ?_, Nat.le_refl _, by unfold maxLen; omega, rfl, rfl⟩⟩
    exact ((ext_alloc (W.alloc (.cells #[] 5)) (.cells #[.slice (some ⟨W.heap.size, 0, none⟩) 0 0] 79)).block W.heap.size (by omega)).trans (heap_alloc_new _ _)
  · intro g hg hk
    have : W.heap.size = g := by simpa [Value.ownBlock] using hg
    exact Nat.lt_irrefl _ (this ▸ hk)
  · intro g hg e
    have : W.heap.size = g := by simpa [Value.ownBlock] using hg
    omega

theorem Wr.start_at (W : World) (m : Nat) (hm : W.heap.size = m) : Wr (Lt W.heap.size) W ((W.alloc (.cells #[] 5)).alloc (.cells #[.slice (some ⟨m, 0, none⟩) 0 0] 79)) (m + 1) (.slice (some ⟨m, 0, none⟩) 0 0) [] := by
  subst hm
  exact Wr.start W
theorem Wr.start1 (w : World) (o : Obj) : Wr (Lt (w.alloc o).heap.size) (w.alloc o) (((w.alloc o).alloc (.cells #[] 5)).alloc (.cells #[.slice (some ⟨w.heap.size + 1, 0, none⟩) 0 0] 79)) (w.heap.size + 1 + 1) (.slice (some ⟨w.heap.size + 1, 0, none⟩) 0 0) [] :=
  Wr.start_at _ _ (by simp)

theorem box_at {w w1 : World} {cs : Array Value} {t : TypeId} (e : Ext (w.alloc (.cells cs t)) w1) (j : Nat) (v : Value) (h : cs[j]? = some v) : w1.cell? ⟨w.heap.size, j, none⟩ = some v := by
  have h1 := e.block w.heap.size (by simp)
  rw [heap_alloc_new] at h1
  exact (cell_of_row _ _ _ _ _ _ h1).trans h

theorem gave_of {w w' : World} {o : Obj} {pb : Nat} {v : Value} {xs ys : List Int} (h : Wr (Lt (w.alloc o).heap.size) (w.alloc o) w' pb v xs) (he : xs = ys) : Gave w ys (.returned v) w' := by
  subst he
  refine ⟨v, rfl, ?_⟩
  have hs : (w.alloc o).heap.size = w.heap.size + 1 := by simp
  have e := (ext_alloc w o).trans h.buf.bel
  exact ⟨h.buf.own, fun g hg hk => h.buf.off g hg (by show g < _; have : g < w.heap.size := hk; omega), fun k hk => e.block k hk, fun k hk => Nat.lt_of_lt_of_le hk e.size, e.os, e.tape, e.output⟩
end Go.Proofs.YtdenjanihikolaaGreatDoor
