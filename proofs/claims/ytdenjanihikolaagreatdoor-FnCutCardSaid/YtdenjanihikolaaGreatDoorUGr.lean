/- The slot's row turned. -/
import Derived.Test.YtdenjanihikolaaGreatDoorUBdz
namespace Go.Proofs.YtdenjanihikolaaGreatDoor
open Go.RowKit
set_option linter.unusedVariables false
set_option linter.unusedSimpArgs false

theorem info59 : (Tryz.prog.info? 59).map (fun i => (i.zero, i.size, i.bytes)) = some (some (.agg #[.bool false, .slice none 0 0]), 2, 32) := by kernel_rfl
theorem info48 : (Tryz.prog.info? 48).map (fun i => (i.zero, i.size, i.bytes)) = some (some (.agg #[.string ⟨#[]⟩, .string ⟨#[]⟩]), 2, 32) := by kernel_rfl
theorem info63 : (Tryz.prog.info? 63).map (fun i => (i.zero, i.size, i.bytes)) = some (some (.agg #[.string ⟨#[]⟩, .int .u32 0, .int .i64 0, .int .u32 0, .int .i64 0, .int .i64 0, .int .i64 0]), 7, 64) := by kernel_rfl

/-- A row that the call owns, in a world that keeps the blocks K of the world w0. -/
structure Row (e size : Nat) (K : Nat → Prop) (w0 w : World) (v : Value) (n : Nat) (cs : List Value) : Prop where
  own : w.ownsRow 0 e size v n cs
  off : ∀ g, v.ownBlock = some g → ¬ K g
  kept : ∀ k, K k → w.heap[k]? = w0.heap[k]?
  lt : ∀ k, K k → k < w.heap.size
  os : w.os = w0.os
  tape : w.tape = w0.tape
  output : w.output = w0.output

theorem Row.step {e size : Nat} {K : Nat → Prop} {w0 w w' : World} {v v' : Value} {n m : Nat} {xs ys : List Value} (h : Row e size K w0 w v n xs) (hg : w.grownBy w' v.ownBlock) (hown : w'.ownsRow 0 e size v' m ys)
    (hv : ∀ g, v'.ownBlock = some g → v.ownBlock = some g ∨ w.heap.size ≤ g) : Row e size K w0 w' v' m ys := by
  refine ⟨hown, ?_, ?_, fun k hk => Nat.lt_of_lt_of_le (h.lt k hk) hg.size, hg.os.trans h.os, hg.tape.trans h.tape, hg.output.trans h.output⟩
  · intro g hgv hK
    rcases hv g hgv with h1 | h1
    · exact h.off g h1 hK
    · have := h.lt g hK; omega
  · intro k hk
    rw [hg.block k (h.lt k hk) (fun e => h.off k e.symm hk), h.kept k hk]

/-- append of one struct that was just built, in the walk's form. -/
theorem ap_one {ops : Array Oper} {rest : List Oper} {o : Oper} {a : Act} {Q : Exit → Act → World → Prop} {w : World} (hgd : o.guard = none) (s x : Operand) (t e size bytes : Nat) (z : Value)
    (ho : o.op = .call { callee := .builtin .append, args := #[s, x], argTypes := #[t, t] })
    (ht : Tryz.prog.underlying t = some (.slice e)) (hi : (Tryz.prog.info? e).map (fun i => (i.zero, i.size, i.bytes)) = some (some z, size, bytes)) (hzs : z.cells.size = size) (hsz : 0 < size)
    {K : Nat → Prop} {w0 : World} {v : Value} {n b c : Nat} {xs ys : List Value} (hs : a.eval s = v) (hb : Row e size K w0 w v n xs) (hx : a.eval x = .slice (some ⟨b, 0, none⟩) 1 c) (hl : ys.length = size) (hcell : ∀ j u, ys[j]? = some u → w.cell? ⟨b, j, none⟩ = some u) (h1 : ∀ u ∈ ys, u.oneCell' = true) (hn : n < 1000000000000) (hby : bytes ≤ 100)
    (h : ∀ v' w', Row e size K w0 w' v' (n + 1) (xs ++ ys) → wpList Tryz.prog ops Q rest (a.put o.dst v') w') : wpList Tryz.prog ops Q (o :: rest) a w := by
  obtain ⟨i0, hi, hz0, hz1, hz2⟩ := info_parts hi
  refine wpList_plain hgd fun C hC => ?_
  have hbb : (n + 1) * bytes ≤ 140737488355328 := Nat.le_trans (Nat.mul_le_mul (show n + 1 ≤ 1000000000000 by omega) hby) (by omega)
  obtain ⟨v', w', hr, h2, h3, h4, h5⟩ := run_append_own_at (P := Tryz.prog) w 0 t o.type e i0 z size bytes ht hi hz0 hz1 hz2 hzs hsz v n xs hb.own ⟨b, 0, none⟩ 1 c ys (by rw [hl, Nat.one_mul]) (by
      intro j u hj
      rw [add_lit0]
      simpa using hcell j u hj) h1 (by unfold maxLen; omega) hbb (Nat.zero_le _)
  unfold Oper.wp execOp
  simp only [ho, resolve, invoke, builtin, Sem.run_bind, Sem.run_pure, Result.andThen_ok, List.map_toArray, List.map_cons, List.map_nil, hs, hx, hr]
  refine hC _ _ (h v' w' (hb.step h3 h2 fun g hg => ?_))
  rcases h5 with h5 | h5
  · exact .inl (h5 ▸ hg)
  · exact .inr (by rw [h5] at hg; cases hg; exact Nat.le_refl _)
end Go.Proofs.YtdenjanihikolaaGreatDoor

namespace Go.Proofs.YtdenjanihikolaaGreatDoor
open Go.RowKit
set_option linter.unusedVariables false
set_option linter.unusedSimpArgs false

theorem slot_setCell {w : World} {b j : Nat} {cs : Array Value} {u : Value} {t : TypeId} (h : w.heap[b]? = some (.cells cs t (0, 0))) : (w.setCell ⟨b, j, none⟩ u).heap[b]? = some (.cells (cs.setIfInBounds j u) t (0, 0)) := by
  have hlt := lt_of_block h
  have h' : w.heap[b] = .cells cs t (0, 0) := by simpa [Array.getElem?_eq_getElem hlt] using h
  show (w.heap.modify b _)[b]? = _
  rw [Array.getElem?_eq_getElem (by simpa using hlt), Array.getElem_modify_self, h']
  rfl

/-- A struct in block pb, whose slot holds an own row; all older blocks but pb stand. -/
structure Slot (e size : Nat) (W w : World) (pb : Nat) (c : Value → Array Value) (v : Value) (n : Nat) (xs : List Value) : Prop where
  blk : w.heap[pb]? = some (.cells (c v) 37 (0, 0))
  row : Row e size (fun k => k < W.heap.size ∧ k ≠ pb) W w v n xs
  off : ∀ g, v.ownBlock = some g → g ≠ pb
  lt : pb < W.heap.size

theorem Slot.close {e size : Nat} {W w w1 : World} {pb j : Nat} {c : Value → Array Value} {v v1 : Value} {n m : Nat} {xs ys : List Value} (h : Slot e size W w pb c v n xs) (hblk : w1.heap[pb]? = some (.cells (c v) 37 (0, 0)))
    (hr : Row e size (fun k => k < W.heap.size ∧ k ≠ pb) W w1 v1 m ys) (hoff : ∀ g, v1.ownBlock = some g → g ≠ pb) (hc : (c v).setIfInBounds j v1 = c v1) : Slot e size W (w1.setCell ⟨pb, j, none⟩ v1) pb c v1 m ys := by
  have hsz : (w1.setCell ⟨pb, j, none⟩ v1).heap.size = w1.heap.size := by simp [World.setCell]
  have hoth : ∀ k, k ≠ pb → (w1.setCell ⟨pb, j, none⟩ v1).heap[k]? = w1.heap[k]? := fun k hk => heap_setCell_other w1 ⟨pb, j, none⟩ k v1 hk
  refine ⟨hc ▸ slot_setCell hblk, ⟨?_, hr.off, fun k hk => (hoth k hk.2).trans (hr.kept k hk), fun k hk => by rw [hsz]; exact hr.lt k hk, hr.os, hr.tape, hr.output⟩, hoff, h.lt⟩
  refine ownsRow_setCell_other hr.own ?_ _
  intro e; exact hoff pb e rfl
end Go.Proofs.YtdenjanihikolaaGreatDoor

namespace Go.Proofs.YtdenjanihikolaaGreatDoor
open Go.RowKit
set_option linter.unusedVariables false
set_option linter.unusedSimpArgs false

theorem Row.ext {e size : Nat} {K : Nat → Prop} {w0 w w' : World} {v : Value} {n : Nat} {xs : List Value} (h : Row e size K w0 w v n xs) (hx : Ext w w') : Row e size K w0 w' v n xs :=
  h.step ⟨hx.os, hx.tape, hx.output, hx.size, fun k hk _ => hx.block k hk⟩ (ownsRow_ext h.own hx) (fun g hg => .inl hg)

/-- The cells of a row, element by element. -/
def Rws {α : Type} (size : Nat) (R : α → (Nat → Value) → Prop) (l : List α) (xs : List Value) : Prop :=
  xs.length = l.length * size ∧ ∀ j (h : j < l.length), ∃ f : Nat → Value, (∀ k, k < size → xs[j * size + k]? = some (f k)) ∧ R l[j] f
theorem Rws.nil {α : Type} (size : Nat) (R : α → (Nat → Value) → Prop) : Rws size R ([] : List α) [] := ⟨by simp, fun j h => absurd h (Nat.not_lt_zero j)⟩
theorem Rws.snoc {α : Type} {size : Nat} {R : α → (Nat → Value) → Prop} {l : List α} {xs ys : List Value} {x : α} {f : Nat → Value} (h : Rws size R l xs) (hy : ys.length = size) (hf : ∀ k, k < size → ys[k]? = some (f k)) (hr : R x f) : Rws size R (l ++ [x]) (xs ++ ys) := by
  refine ⟨by simp [h.1, hy, Nat.add_mul], fun j hj => ?_⟩
  rcases Nat.lt_or_ge j l.length with hl | hl
  · obtain ⟨g, hg, hR⟩ := h.2 j hl
    refine ⟨g, fun k hk => ?_, by rw [List.getElem_append_left hl]; exact hR⟩
    rw [List.getElem?_append_left]
    · exact hg k hk
    · rw [h.1]
      exact Nat.lt_of_lt_of_le (show j * size + k < (j + 1) * size by rw [Nat.add_mul]; omega) (Nat.mul_le_mul_right size hl)
  · have hj2 : j = l.length := by simp at hj; omega
    subst hj2
    refine ⟨f, fun k hk => ?_, by simpa using hr⟩
    rw [List.getElem?_append_right (by rw [h.1]; omega), h.1]
    simpa using hf k hk
end Go.Proofs.YtdenjanihikolaaGreatDoor

namespace Go.Proofs.YtdenjanihikolaaGreatDoor
open Go.RowKit
set_option linter.unusedVariables false
set_option linter.unusedSimpArgs false

theorem rdm_of {α : Type} {size e : Nat} {R : World → α → (Nat → Value) → Prop} {w : World} {v : Value} {l : List α} {xs : List Value} (h : w.ownsRow 0 e size v l.length xs) (hx : Rws size (R w) l xs) : RdM size R w v l := by
  rcases h.2 with ⟨rfl, hn⟩ | ⟨g, cap, cur, rfl, _, hg, hnc, hcm, hcs, ht⟩
  · exact ⟨none, 0, by rw [hn], by omega, by unfold maxLen; omega, fun h0 => by omega⟩
  · refine ⟨some ⟨g, 0, none⟩, cap, rfl, hnc, hcm, fun _ => ⟨g, 0, rfl, fun j hj => ?_⟩⟩
    obtain ⟨f, hf, hR⟩ := hx.2 j hj
    refine ⟨f, fun k hk => ?_, hR⟩
    have h1 := hf k hk
    rw [← ht, List.getElem?_take] at h1
    split at h1
    · refine (cell_of_row _ _ _ _ _ _ hg).trans ?_
      rw [Nat.zero_add, ← Array.getElem?_toList]
      exact h1
    · cases h1
end Go.Proofs.YtdenjanihikolaaGreatDoor

namespace Go.Proofs.YtdenjanihikolaaGreatDoor
open Go.RowKit
set_option linter.unusedVariables false
set_option linter.unusedSimpArgs false

theorem Slot.ext {e size : Nat} {W w w' : World} {pb : Nat} {c : Value → Array Value} {v : Value} {n : Nat} {xs : List Value} (h : Slot e size W w pb c v n xs) (hx : Ext w w') : Slot e size W w' pb c v n xs :=
  ⟨(hx.block pb (lt_of_block h.blk)).trans h.blk, h.row.ext hx, h.off, h.lt⟩
theorem Slot.size_le {e size : Nat} {W w : World} {pb : Nat} {c : Value → Array Value} {v : Value} {n : Nat} {xs : List Value} (h : Slot e size W w pb c v n xs) : ∀ k, k < W.heap.size → k < w.heap.size := by
  intro k hk
  by_cases he : k = pb
  · exact he ▸ lt_of_block h.blk
  · exact h.row.lt k ⟨hk, he⟩
theorem Slot.open {e size : Nat} {W w : World} {pb : Nat} {c : Value → Array Value} {v : Value} {n : Nat} {xs : List Value} (h : Slot e size W w pb c v n xs) : Row e size (fun k => k < W.heap.size) w w v n xs := by
  refine ⟨h.row.own, fun g hg hk => h.row.off g hg ⟨hk, h.off g hg⟩, fun _ _ => rfl, h.size_le, rfl, rfl, rfl⟩
theorem Slot.in_ {e size : Nat} {W w w1 : World} {pb : Nat} {c : Value → Array Value} {v v1 : Value} {n m : Nat} {xs ys : List Value} (h : Slot e size W w pb c v n xs) (h1 : Row e size (fun k => k < W.heap.size) w w1 v1 m ys) : w1.heap[pb]? = some (.cells (c v) 37 (0, 0)) :=
  (h1.kept pb h.lt).trans h.blk
theorem Slot.shut {e size : Nat} {W w w1 : World} {pb j : Nat} {c : Value → Array Value} {v v1 : Value} {n m : Nat} {xs ys : List Value} (h : Slot e size W w pb c v n xs) (h1 : Row e size (fun k => k < W.heap.size) w w1 v1 m ys) (hc : (c v).setIfInBounds j v1 = c v1) : Slot e size W (w1.setCell ⟨pb, j, none⟩ v1) pb c v1 m ys :=
  h.close (h.in_ h1) ⟨h1.own, fun g hg hk => h1.off g hg hk.1, fun k hk => (h1.kept k hk.1).trans (h.row.kept k hk), fun k hk => h1.lt k hk.1, h1.os.trans h.row.os, h1.tape.trans h.row.tape, h1.output.trans h.row.output⟩ (fun g hg e => h1.off g hg (e ▸ h.lt)) hc
theorem free_slot {w : World} {b : Nat} {cs : Array Value} {t : TypeId} (h : w.heap[b]? = some (.cells cs t (0, 0))) (j : Nat) : w.frozen? ⟨b, j, none⟩ = false := by simp [World.frozen?, h]
theorem cell_slot {w : World} {b : Nat} {cs : Array Value} {t : TypeId} (h : w.heap[b]? = some (.cells cs t (0, 0))) (j : Nat) (v : Value) (hv : cs[j]? = some v) : w.cell? ⟨b, j, none⟩ = some v := (cell_of_row _ _ _ _ _ _ h).trans hv

/-- append of one struct that was built in the newest block. -/
theorem ap_built {ops : Array Oper} {rest : List Oper} {o : Oper} {a : Act} {Q : Exit → Act → World → Prop} {W : World} (hgd : o.guard = none) (s x : Operand) (t e size bytes m : Nat) (z : Value) (cs : Array Value)
    (ho : o.op = .call { callee := .builtin .append, args := #[s, x], argTypes := #[t, t] })
    (ht : Tryz.prog.underlying t = some (.slice e)) (hi : (Tryz.prog.info? e).map (fun i => (i.zero, i.size, i.bytes)) = some (some z, size, bytes)) (hzs : z.cells.size = size) (hsz : 0 < size) (hm : W.heap.size = m)
    {K : Nat → Prop} {w0 : World} {v : Value} {n : Nat} {xs : List Value} (hs : a.eval s = v) (hb : Row e size K w0 W v n xs) (hx : a.eval x = .slice (some ⟨m, 0, none⟩) 1 1) (hl : cs.toList.length = size) (h1 : ∀ u ∈ cs.toList, u.oneCell' = true) (hn : n < 1000000000000) (hby : bytes ≤ 100)
    (h : ∀ v' w', Row e size K w0 w' v' (n + 1) (xs ++ cs.toList) → wpList Tryz.prog ops Q rest (a.put o.dst v') w') : wpList Tryz.prog ops Q (o :: rest) a (W.alloc (.cells cs e)) := by
  subst hm
  refine ap_one hgd s x t e size bytes z ho ht hi hzs hsz hs (hb.ext (ext_alloc _ _)) hx hl ?_ h1 hn hby h
  intro j u hj
  refine (cell_of_row _ _ _ _ _ _ (heap_alloc_new _ _)).trans ?_
  rw [← Array.getElem?_toList]
  exact hj
end Go.Proofs.YtdenjanihikolaaGreatDoor

