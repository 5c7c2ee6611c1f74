/- The slot's row turned. -/
import Derived.Test.YtdenjanihikolaaGreatDoorMsd
namespace Go.Proofs.YtdenjanihikolaaGreatDoor
open Go.RowKit
set_option linter.unusedVariables false
set_option linter.unusedSimpArgs false

theorem Slot.ext {e size : Nat} {W w w' : World} {pb : Nat} {c : Value → Array Value} {v : Value} {n : Nat} {xs : List Value} (h : Slot e size W w pb c v n xs) (hx : Ext w w') : Slot e size W w' pb c v n xs :=
  ⟨(hx.block pb (lt_of_block h.blk)).trans h.blk, h.row.ext hx, h.off, h.lt⟩
theorem Slot.size_le {e size : Nat} {W w : World} {pb : Nat} {c : Value → Array Value} {v : Value} {n : Nat} {xs : List Value} (h : Slot e size W w pb c v n xs) : ∀ k, k < W.heap.size → k < w.heap.size := by
  intro k hk
  by_cases he : k = pb
  · exact he ▸ lt_of_block h.blk
  · exact h.row.lt k ⟨hk, he⟩
theorem Slot.open {e size : Nat} {W w : World} {pb : Nat} {c : Value → Array Value} {v : Value} {n : Nat} {xs : List Value} (h : Slot e size W w pb c v n xs) : Row e size (fun k => k < W.heap.size) w w v n xs := by
  refine ⟨h.row.own, fun g hg hk => h.row.off g hg ⟨hk, h.off g hg⟩, fun _ _ => rfl, h.size_le, rfl, rfl, rfl⟩
theorem Slot.in_ {e size : Nat} {W w w1 : World} {pb : Nat} {c : Value → Array Value} {v v1 : Value} {n m : Nat} {xs ys : List Value} (h : Slot e size W w pb c v n xs) (h1 : Row e size (fun k => k < W.heap.size) w w1 v1 m ys) : w1.heap[pb]? = some (.cells (c v) 37 (0, 0)) :=
  (h1.kept pb h.lt).trans h.blk
theorem Slot.shut {e size : Nat} {W w w1 : World} {pb j : Nat} {c : Value → Array Value} {v v1 : Value} {n m : Nat} {xs ys : List Value} (h : Slot e size W w pb c v n xs) (h1 : Row e size (fun k => k < W.heap.size) w w1 v1 m ys) (hc : (c v).setIfInBounds j v1 = c v1) : Slot e size W (w1.setCell ⟨pb, j, none⟩ v1) pb c v1 m ys :=
  h.close (h.in_ h1) ⟨h1.own, fun g hg hk => h1.off g hg hk.1, fun k hk => (h1.kept k hk.1).trans (h.row.kept k hk), fun k hk => h1.lt k hk.1, h1.os.trans h.row.os, h1.tape.trans h.row.tape, h1.output.trans h.row.output⟩ (fun g hg e => h1.off g hg (e ▸ h.lt)) hc
theorem free_slot {w : World} {b : Nat} {cs : Array Value} {t : TypeId} (h : w.heap[b]? = some (.cells cs t (0, 0))) (j : Nat) : w.frozen? ⟨b, j, none⟩ = false := by simp [World.frozen?, h]
theorem cell_slot {w : World} {b : Nat} {cs : Array Value} {t : TypeId} (h : w.heap[b]? = some (.cells cs t (0, 0))) (j : Nat) (v : Value) (hv : cs[j]? = some v) : w.cell? ⟨b, j, none⟩ = some v := (cell_of_row _ _ _ _ _ _ h).trans hv

/-- append of one struct that was built in the newest block. -/
theorem ap_built {ops : Array Oper} {rest : List Oper} {o : Oper} {a : Act} {Q : Exit → Act → World → Prop} {W : World} (hgd : o.guard = none) (s x : Operand) (t e size bytes m : Nat) (z : Value) (cs : Array Value)
    (ho : o.op = .call { callee := .builtin .append, args := #[s, x], argTypes := #[t, t] })
    (ht : Tryz.prog.underlying t = some (.slice e)) (hi : (Tryz.prog.info? e).map (fun i => (i.zero, i.size, i.bytes)) = some (some z, size, bytes)) (hzs : z.cells.size = size) (hsz : 0 < size) (hm : W.heap.size = m)
    {K : Nat → Prop} {w0 : World} {v : Value} {n : Nat} {xs : List Value} (hs : a.eval s = v) (hb : Row e size K w0 W v n xs) (hx : a.eval x = .slice (some ⟨m, 0, none⟩) 1 1) (hl : cs.toList.length = size) (h1 : ∀ u ∈ cs.toList, u.oneCell' = true) (hn : n < 1000000000000) (hby : bytes ≤ 100)
    (h : ∀ v' w', Row e size K w0 w' v' (n + 1) (xs ++ cs.toList) → wpList Tryz.prog ops Q rest (a.put o.dst v') w') : wpList Tryz.prog ops Q (o :: rest) a (W.alloc (.cells cs e)) := by
  subst hm
  refine ap_one hgd s x t e size bytes z ho ht hi hzs hsz hs (hb.ext (ext_alloc _ _)) hx hl ?_ h1 hn hby h
  intro j u hj
  refine (cell_of_row _ _ _ _ _ _ (heap_alloc_new _ _)).trans ?_
  rw [← Array.getElem?_toList]
  exact hj
end Go.Proofs.YtdenjanihikolaaGreatDoor
