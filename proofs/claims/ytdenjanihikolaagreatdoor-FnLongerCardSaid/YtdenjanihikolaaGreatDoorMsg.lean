/- The slot's row at a loop's start and end. -/
import Derived.Test.YtdenjanihikolaaGreatDoorMse
import Derived.Test.YtdenjanihikolaaGreatDoorBya
namespace Go.Proofs.YtdenjanihikolaaGreatDoor
open Go.RowKit
set_option linter.unusedVariables false
set_option linter.unusedSimpArgs false

theorem Slot.start {e size : Nat} {W : World} {pb : Nat} (c : Value → Array Value) (h : W.heap[pb]? = some (.cells (c (.slice none 0 0)) 37 (0, 0))) : Slot e size W W pb c (.slice none 0 0) 0 [] :=
  ⟨h, ⟨World.ownsRow_nil _ _ _ _, fun g hg => by simp [Value.ownBlock] at hg, fun _ _ => rfl, fun k hk => hk.1, rfl, rfl, rfl⟩, fun g hg => by simp [Value.ownBlock] at hg, lt_of_block h⟩
theorem Slot.below {e size : Nat} {w W wr : World} {pb : Nat} {c : Value → Array Value} {v : Value} {n : Nat} {xs : List Value} (h : Slot e size W wr pb c v n xs) (hW : Ext w W) (hp : w.heap.size ≤ pb) : Ext w wr :=
  ⟨h.row.os.trans hW.os, h.row.tape.trans hW.tape, h.row.output.trans hW.output, Nat.le_of_not_lt fun hl => Nat.lt_irrefl _ (h.size_le _ (Nat.lt_of_lt_of_le hl hW.size)),
    fun k hk => (h.row.kept k ⟨Nat.lt_of_lt_of_le hk hW.size, by omega⟩).trans (hW.block k hk)⟩
/-- a block that the loop does not turn -/
theorem Slot.old {e size : Nat} {W wr : World} {pb : Nat} {c : Value → Array Value} {v : Value} {n : Nat} {xs : List Value} (h : Slot e size W wr pb c v n xs) {k : Nat} (hk : k < W.heap.size) (hp : k ≠ pb) : wr.heap[k]? = W.heap[k]? := h.row.kept k ⟨hk, hp⟩
theorem Slot.cell {e size : Nat} {W wr : World} {pb : Nat} {c : Value → Array Value} {v : Value} {n : Nat} {xs : List Value} (h : Slot e size W wr pb c v n xs) (o : Obj) (j : Nat) (u : Value) (hu : (c v)[j]? = some u) : (wr.alloc o).cell? ⟨pb, j, none⟩ = some u := (ext_alloc _ _).cell ((cell_of_row _ _ _ _ _ _ h.blk).trans hu)
theorem Slot.cell0 {e size : Nat} {W wr : World} {pb : Nat} {c : Value → Array Value} {v : Value} {n : Nat} {xs : List Value} (h : Slot e size W wr pb c v n xs) (j : Nat) (u : Value) (hu : (c v)[j]? = some u) : wr.cell? ⟨pb, j, none⟩ = some u := (cell_of_row _ _ _ _ _ _ h.blk).trans hu
/-- a row of the loop before is kept by the next loop -/
theorem Slot.keep {e size e' size' : Nat} {W wr wr2 : World} {pb : Nat} {c c' : Value → Array Value} {v v' : Value} {n n' : Nat} {xs xs' : List Value} (h : Slot e size W wr pb c v n xs) (h2 : Slot e' size' wr wr2 pb c' v' n' xs') : wr2.ownsRow 0 e size v n xs :=
  own_keep h.row.own fun g hg => h2.old (h.row.own.lt g hg).2 (h.off g hg)
theorem Slot.own {e size : Nat} {W wr : World} {pb : Nat} {c : Value → Array Value} {v : Value} {n : Nat} {xs : List Value} (h : Slot e size W wr pb c v n xs) : wr.ownsRow 0 e size v n xs := h.row.own
theorem Slot.le {e size : Nat} {W wr : World} {pb : Nat} {c : Value → Array Value} {v : Value} {n : Nat} {xs : List Value} (h : Slot e size W wr pb c v n xs) : W.heap.size ≤ wr.heap.size := Nat.le_of_not_lt fun hl => Nat.lt_irrefl _ (h.size_le _ hl)
/-- One block alone may have turned. -/
structure Same (b : Nat) (W W' : World) : Prop where
  other : ∀ k, k ≠ b → W'.heap[k]? = W.heap[k]?
  size : W'.heap.size = W.heap.size
  os : W'.os = W.os
  tape : W'.tape = W.tape
  output : W'.output = W.output
theorem Same.refl (b : Nat) (W : World) : Same b W W := ⟨fun _ _ => rfl, rfl, rfl, rfl, rfl⟩
theorem Same.set {b : Nat} {W W1 : World} (h : Same b W W1) (j : Nat) (v : Value) : Same b W (W1.setCell ⟨b, j, none⟩ v) :=
  ⟨fun k hk => (heap_setCell_other W1 ⟨b, j, none⟩ k v hk).trans (h.other k hk), by rw [← h.size]; simp [World.setCell], h.os, h.tape, h.output⟩
theorem Same.ext {b : Nat} {w W W' : World} (h : Same b W W') (hx : Ext w W) (hb : w.heap.size ≤ b) : Ext w W' :=
  ⟨h.os.trans hx.os, h.tape.trans hx.tape, h.output.trans hx.output, by rw [h.size]; exact hx.size, fun k hk => (h.other k (by omega)).trans (hx.block k hk)⟩
theorem Rws.mono {α : Type} {size : Nat} {R R' : α → (Nat → Value) → Prop} {l : List α} {xs : List Value} (h : Rws size R l xs) (hR : ∀ x f, R x f → R' x f) : Rws size R' l xs :=
  ⟨h.1, fun j hj => by obtain ⟨f, h1, h2⟩ := h.2 j hj; exact ⟨f, h1, hR _ _ h2⟩⟩
theorem und37 : (match Tryz.prog.underlying 37 with | some d => (match d with | .struct _ | .array _ _ => true | _ => false) | none => false) = true := by kernel_rfl
theorem size37 : (Tryz.prog.info? 37).map (·.size) = some 12 := by kernel_rfl
theorem set12 (z0 z1 z2 z3 z4 z5 z6 z7 z8 z9 z10 z11 a0 a1 a2 a3 a4 a5 a6 a7 a8 a9 a10 a11 : Value) : ((((((((((((#[z0, z1, z2, z3, z4, z5, z6, z7, z8, z9, z10, z11].setIfInBounds 0 a0).setIfInBounds 1 a1).setIfInBounds 2 a2).setIfInBounds 3 a3).setIfInBounds 4 a4).setIfInBounds 5 a5).setIfInBounds 6 a6).setIfInBounds 7 a7).setIfInBounds 8 a8).setIfInBounds 9 a9).setIfInBounds 10 a10).setIfInBounds 11 a11) = #[a0, a1, a2, a3, a4, a5, a6, a7, a8, a9, a10, a11] := by
  simp only [List.setIfInBounds_toArray, List.set_cons_zero, List.set_cons_succ]
end Go.Proofs.YtdenjanihikolaaGreatDoor
