/- Rows of structs that the call owns, and appends to them. -/
import Derived.Test.YtdenjanihikolaaGreatDoorBdz
namespace Go.Proofs.YtdenjanihikolaaGreatDoor
open Go.RowKit
set_option linter.unusedVariables false
set_option linter.unusedSimpArgs false

theorem info59 : (Tryz.prog.info? 59).map (fun i => (i.zero, i.size, i.bytes)) = some (some (.agg #[.bool false, .slice none 0 0]), 2, 32) := by kernel_rfl
theorem info48 : (Tryz.prog.info? 48).map (fun i => (i.zero, i.size, i.bytes)) = some (some (.agg #[.string ⟨#[]⟩, .string ⟨#[]⟩]), 2, 32) := by kernel_rfl
theorem info63 : (Tryz.prog.info? 63).map (fun i => (i.zero, i.size, i.bytes)) = some (some (.agg #[.string ⟨#[]⟩, .int .u32 0, .int .i64 0, .int .u32 0, .int .i64 0, .int .i64 0, .int .i64 0]), 7, 64) := by kernel_rfl

/-- A row that the call owns, in a world that keeps the blocks K of the world w0. -/
structure Row (e size : Nat) (K : Nat → Prop) (w0 w : World) (v : Value) (n : Nat) (cs : List Value) : Prop where
  own : w.ownsRow 0 e size v n cs
  off : ∀ g, v.ownBlock = some g → ¬ K g
  kept : ∀ k, K k → w.heap[k]? = w0.heap[k]?
  lt : ∀ k, K k → k < w.heap.size
  os : w.os = w0.os
  tape : w.tape = w0.tape
  output : w.output = w0.output

theorem Row.step {e size : Nat} {K : Nat → Prop} {w0 w w' : World} {v v' : Value} {n m : Nat} {xs ys : List Value} (h : Row e size K w0 w v n xs) (hg : w.grownBy w' v.ownBlock) (hown : w'.ownsRow 0 e size v' m ys)
    (hv : ∀ g, v'.ownBlock = some g → v.ownBlock = some g ∨ w.heap.size ≤ g) : Row e size K w0 w' v' m ys := by
  refine ⟨hown, ?_, ?_, fun k hk => Nat.lt_of_lt_of_le (h.lt k hk) hg.size, hg.os.trans h.os, hg.tape.trans h.tape, hg.output.trans h.output⟩
  · intro g hgv hK
    rcases hv g hgv with h1 | h1
    · exact h.off g h1 hK
    · have := h.lt g hK; omega
  · intro k hk
    rw [hg.block k (h.lt k hk) (fun e => h.off k e.symm hk), h.kept k hk]

/-- append of one struct that was just built, in the walk's form. -/
theorem ap_one {ops : Array Oper} {rest : List Oper} {o : Oper} {a : Act} {Q : Exit → Act → World → Prop} {w : World} (hgd : o.guard = none) (s x : Operand) (t e size bytes : Nat) (z : Value)
    (ho : o.op = .call { callee := .builtin .append, args := #[s, x], argTypes := #[t, t] })
    (ht : Tryz.prog.underlying t = some (.slice e)) (hi : (Tryz.prog.info? e).map (fun i => (i.zero, i.size, i.bytes)) = some (some z, size, bytes)) (hzs : z.cells.size = size) (hsz : 0 < size)
    {K : Nat → Prop} {w0 : World} {v : Value} {n b c : Nat} {xs ys : List Value} (hs : a.eval s = v) (hb : Row e size K w0 w v n xs) (hx : a.eval x = .slice (some ⟨b, 0, none⟩) 1 c) (hl : ys.length = size) (hcell : ∀ j u, ys[j]? = some u → w.cell? ⟨b, j, none⟩ = some u) (h1 : ∀ u ∈ ys, u.oneCell' = true) (hn : n < 1000000000000) (hby : bytes ≤ 100)
    (h : ∀ v' w', Row e size K w0 w' v' (n + 1) (xs ++ ys) → wpList Tryz.prog ops Q rest (a.put o.dst v') w') : wpList Tryz.prog ops Q (o :: rest) a w := by
  obtain ⟨i0, hi, hz0, hz1, hz2⟩ := info_parts hi
  refine wpList_plain hgd fun C hC => ?_
  have hbb : (n + 1) * bytes ≤ 140737488355328 := Nat.le_trans (Nat.mul_le_mul (show n + 1 ≤ 1000000000000 by omega) hby) (by omega)
  obtain ⟨v', w', hr, h2, h3, h4, h5⟩ := run_append_own_at (P := Tryz.prog) w 0 t o.type e i0 z size bytes ht hi hz0 hz1 hz2 hzs hsz v n xs hb.own ⟨b, 0, none⟩ 1 c ys (by rw [hl, Nat.one_mul]) (by
      intro j u hj
      rw [add_lit0]
      simpa using hcell j u hj) h1 (by unfold maxLen; omega) hbb (Nat.zero_le _)
  unfold Oper.wp execOp
  simp only [ho, resolve, invoke, builtin, Sem.run_bind, Sem.run_pure, Result.andThen_ok, List.map_toArray, List.map_cons, List.map_nil, hs, hx, hr]
  refine hC _ _ (h v' w' (hb.step h3 h2 fun g hg => ?_))
  rcases h5 with h5 | h5
  · exact .inl (h5 ▸ hg)
  · exact .inr (by rw [h5] at hg; cases hg; exact Nat.le_refl _)
end Go.Proofs.YtdenjanihikolaaGreatDoor
