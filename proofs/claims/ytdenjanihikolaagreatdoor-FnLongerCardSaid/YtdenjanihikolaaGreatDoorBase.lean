/- Plain words on memory (rows of bytes that a call owns, rows that are read) and the laws on append that the walks use. -/
import Derived.Test.YtdenjanihikolaaGreatDoorProg
import Derived.WalkKit
import Derived.KernelRfl
import Derived.Lib.Hide
import Derived.Lib.AppendStr
import Derived.Lib.ConvBytes
import Derived.Laws.AppendOwnNone
import Derived.Maps.AppendAt
namespace Go.Proofs.YtdenjanihikolaaGreatDoor
open Go.RowKit

theorem info5 : (Tryz.prog.info? 5).map (fun i => (i.zero, i.size, i.bytes)) = some (some (.int .u8 0), 1, 1) := by kernel_rfl

/-- bytes as cells -/
def bys (xs : List Int) : List Value := xs.map (Value.int .u8)
/-- a string's bytes as numbers -/
def sby (s : ByteArray) : List Int := s.data.toList.map fun b => (b.toNat : Int)

theorem sby_length (s : ByteArray) : (sby s).length = s.size := by unfold sby; rw [List.length_map, Array.length_toList]; rfl
theorem bys_length (xs : List Int) : (bys xs).length = xs.length := by simp [bys]
theorem bys_append (xs ys : List Int) : bys (xs ++ ys) = bys xs ++ bys ys := by simp [bys]
theorem bys_one (xs : List Int) : ∀ u ∈ bys xs, u.oneCell' = true := by
  intro u hu
  obtain ⟨_, _, rfl⟩ := List.mem_map.1 hu
  rfl

/-- Nothing of what was there has turned. -/
abbrev Ext (w w' : World) : Prop := Below w.heap.size w w'

theorem Ext.refl (w : World) : Ext w w := Below.refl _ _
theorem Ext.trans {a b c : World} (h : Ext a b) (k : Ext b c) : Ext a c := Below.trans h (Below.mono k (Below.size h))
theorem Ext.cell {w w' : World} (h : Ext w w') {a : Addr} {v : Value} (hc : w.cell? a = some v) : w'.cell? a = some v := (Below.cell h (World.block_lt_of_cell? w a hc)).trans hc
theorem Ext.alloc {w w' : World} (h : Ext w w') (o : Obj) : Ext w (w'.alloc o) := Below.alloc h (Below.size h) o
theorem Ext.drew {w w' : World} (h : Ext w w') : Ext w w'.drew := ⟨h.os, h.tape, h.output, h.size, h.block⟩
theorem ext_alloc (w : World) (o : Obj) : Ext w (w.alloc o) := (Ext.refl w).alloc o
theorem below_ext {B : Nat} {w0 w w' : World} (h : Below B w0 w) (hB : B ≤ w.heap.size) (k : Ext w w') : Below B w0 w' := h.trans (k.mono hB)

/-- The blocks below a number. -/
def Lt (n : Nat) (k : Nat) : Prop := k < n

/-- A row of bytes that the call owns, in a world that keeps the blocks K of the world w0. -/
structure Buf (K : Nat → Prop) (w0 w : World) (v : Value) (xs : List Int) : Prop where
  own : w.ownsRow 0 5 1 v xs.length (bys xs)
  off : ∀ g, v.ownBlock = some g → ¬ K g
  kept : ∀ k, K k → w.heap[k]? = w0.heap[k]?
  lt : ∀ k, K k → k < w.heap.size
  os : w.os = w0.os
  tape : w.tape = w0.tape
  output : w.output = w0.output

theorem ownsRow_ext {w w' : World} {B e size n : Nat} {v : Value} {xs : List Value} (h : w.ownsRow B e size v n xs) (hx : Ext w w') : w'.ownsRow B e size v n xs :=
  h.kept (row := none) ⟨hx.os, hx.tape, hx.output, hx.size, fun k hk _ => hx.block k hk⟩ (by cases v.ownBlock <;> simp)
theorem ownsRow_low {w : World} {B B' e size n : Nat} {v : Value} {xs : List Value} (h : w.ownsRow B e size v n xs) (hB : B' ≤ B) : w.ownsRow B' e size v n xs := by
  refine ⟨h.1, ?_⟩
  rcases h.2 with h2 | ⟨g, cap, cur, a1, a2, a3⟩
  · exact .inl h2
  · exact .inr ⟨g, cap, cur, a1, by omega, a3⟩

theorem Buf.start {K : Nat → Prop} (w : World) (hK : ∀ k, K k → k < w.heap.size) : Buf K w w (.slice none 0 0) [] :=
  ⟨World.ownsRow_nil _ _ _ _, fun g h => by simp [Value.ownBlock] at h, fun _ _ => rfl, hK, rfl, rfl, rfl⟩
theorem Buf.nil (w : World) : Buf (Lt w.heap.size) w w (.slice none 0 0) [] := Buf.start w fun _ h => h
theorem Buf.bel {w0 w : World} {v : Value} {xs : List Int} (h : Buf (Lt w0.heap.size) w0 w v xs) : Ext w0 w := by
  refine ⟨h.os, h.tape, h.output, ?_, fun k hk => h.kept k hk⟩
  rcases Nat.lt_or_ge w.heap.size w0.heap.size with hl | hl
  · exact absurd (h.lt w.heap.size hl) (Nat.lt_irrefl _)
  · exact hl
/-- A step that turns the own row alone. -/
theorem Buf.step {K : Nat → Prop} {w0 w w' : World} {v v' : Value} {xs ys : List Int} (h : Buf K w0 w v xs) (hg : w.grownBy w' v.ownBlock) (hown : w'.ownsRow 0 5 1 v' ys.length (bys ys))
    (hv : ∀ g, v'.ownBlock = some g → v.ownBlock = some g ∨ w.heap.size ≤ g) : Buf K w0 w' v' ys := by
  refine ⟨hown, ?_, ?_, fun k hk => Nat.lt_of_lt_of_le (h.lt k hk) hg.size, hg.os.trans h.os, hg.tape.trans h.tape, hg.output.trans h.output⟩
  · intro g hgv hK
    rcases hv g hgv with h1 | h1
    · exact h.off g h1 hK
    · have := h.lt g hK; omega
  · intro k hk
    rw [hg.block k (h.lt k hk) (fun e => h.off k e.symm hk), h.kept k hk]
theorem Buf.ext {K : Nat → Prop} {w0 w w' : World} {v : Value} {xs : List Int} (h : Buf K w0 w v xs) (hx : Ext w w') : Buf K w0 w' v xs :=
  h.step ⟨hx.os, hx.tape, hx.output, hx.size, fun k hk _ => hx.block k hk⟩ (ownsRow_ext h.own hx) (fun g hg => .inl hg)
/-- Kept blocks more: from here on. -/
theorem Buf.rebase {K K' : Nat → Prop} {w0 w : World} {v : Value} {xs : List Int} (h : Buf K w0 w v xs) (hlt : ∀ k, K' k → k < w.heap.size) (hne : ∀ g, v.ownBlock = some g → ¬ K' g) : Buf K' w w v xs :=
  ⟨h.own, hne, fun _ _ => rfl, hlt, rfl, rfl, rfl⟩
theorem Buf.unbase {K K' : Nat → Prop} {w0 w w' : World} {v v' : Value} {xs ys : List Int} (h : Buf K w0 w v xs) (h' : Buf K' w w' v' ys) (hK : ∀ k, K k → K' k) : Buf K w0 w' v' ys :=
  ⟨h'.own, fun g hg hk => h'.off g hg (hK g hk), fun k hk => (h'.kept k (hK k hk)).trans (h.kept k hk), fun k hk => h'.lt k (hK k hk), h'.os.trans h.os, h'.tape.trans h.tape, h'.output.trans h.output⟩
theorem Buf.own_lt {K : Nat → Prop} {w0 w : World} {v : Value} {xs : List Int} (h : Buf K w0 w v xs) : ∀ g, v.ownBlock = some g → g < w.heap.size := fun g hg => (h.own.lt g hg).2

/-- A slice that is read: n elements of some cells each. -/
def RdK (w : World) (v : Value) (n size : Nat) (cell : Nat → Nat → Value) : Prop :=
  ∃ A c, v = .slice A n c ∧ n ≤ c ∧ c ≤ maxLen ∧ (0 < n → ∃ b off, A = some ⟨b, off, none⟩ ∧ ∀ j, j < n → ∀ k, k < size → w.cell? ⟨b, off + j * size + k, none⟩ = some (cell j k))

theorem RdK.ext {w w' : World} {v : Value} {n size : Nat} {cell : Nat → Nat → Value} (h : RdK w v n size cell) (hx : Ext w w') : RdK w' v n size cell := by
  obtain ⟨A, c, hv, h1, h2, h3⟩ := h
  refine ⟨A, c, hv, h1, h2, fun hn => ?_⟩
  obtain ⟨b, off, hA, hc⟩ := h3 hn
  exact ⟨b, off, hA, fun j hj k hk => hx.cell (hc j hj k hk)⟩

/-- A slice of bytes that is read. -/
def RdB (w : World) (v : Value) (xs : List Int) : Prop :=
  ∃ A c, v = .slice A xs.length c ∧ xs.length ≤ c ∧ c ≤ maxLen ∧ (0 < xs.length → ∃ b off, A = some ⟨b, off, none⟩ ∧ ∀ j, j < xs.length → w.cell? ⟨b, off + j, none⟩ = some (.int .u8 (xs.getD j 0)))

theorem RdB.ext {w w' : World} {v : Value} {xs : List Int} (h : RdB w v xs) (hx : Ext w w') : RdB w' v xs := by
  obtain ⟨A, c, hv, h1, h2, h3⟩ := h
  refine ⟨A, c, hv, h1, h2, fun hn => ?_⟩
  obtain ⟨b, off, hA, hc⟩ := h3 hn
  exact ⟨b, off, hA, fun j hj => hx.cell (hc j hj)⟩

theorem RdB.nil (w : World) : RdB w (.slice none 0 0) [] := ⟨none, 0, rfl, Nat.le_refl _, by unfold maxLen; omega, fun h => absurd h (Nat.lt_irrefl 0)⟩

theorem add_lit0 (b off i : Nat) : (⟨b, off, none⟩ : Addr).add i = ⟨b, off + i, none⟩ := by unfold Addr.add; split <;> simp_all

/-- What is owned can be read. -/
theorem RdB.of_own {w : World} {B : Nat} {v : Value} {xs : List Int} (h : w.ownsRow B 5 1 v xs.length (bys xs)) : RdB w v xs := by
  rcases h.2 with ⟨rfl, hn⟩ | ⟨g, cap, cur, rfl, hbg, hg, hnc, hcm, hcs, htake⟩
  · exact ⟨none, 0, by rw [hn], by omega, by unfold maxLen; omega, fun h => by omega⟩
  · refine ⟨_, cap, rfl, hnc, hcm, fun _ => ⟨g, 0, rfl, fun j hj => ?_⟩⟩
    have := h.cells (g := g) rfl j (.int .u8 (xs.getD j 0)) (by
      unfold bys
      rw [List.getElem?_map, List.getElem?_eq_getElem hj]
      simp [List.getD, List.getElem?_eq_getElem hj])
    rwa [add_lit0] at this

theorem Buf.rd {B : Nat → Prop} {w0 w : World} {v : Value} {xs : List Int} (h : Buf B w0 w v xs) : RdB w v xs := RdB.of_own h.own

theorem append_types {P : Program} {w : World} (t tx ty e e' : TypeId) (i : TypeInfo) (ht : P.underlying t = some (.slice e)) (hx : P.underlying tx = some (.slice e')) (hi : P.info? e = some i) (A : Option Addr) (n c : Nat) (y : Value) :
    (Builtin.append_ #[t, tx] ty #[.slice A n c, y]).run P w = (Builtin.append_ #[t, t] ty #[.slice A n c, y]).run P w := by
  simp [Builtin.append_, run_underlying ht, run_underlying hx, sizeOf, typeInfo, hi]

theorem own_slice {w : World} {B e size n : Nat} {v : Value} {xs : List Value} (h : w.ownsRow B e size v n xs) : ∃ A c, v = .slice A n c := by
  rcases h.2 with ⟨rfl, rfl⟩ | ⟨g, cap, _, rfl, _⟩
  · exact ⟨none, 0, rfl⟩
  · exact ⟨_, cap, rfl⟩

/-- append of bytes that are read, in the walk's form. -/
theorem ap_row {ops : Array Oper} {rest : List Oper} {o : Oper} {a : Act} {Q : Exit → Act → World → Prop} {w : World} (hgd : o.guard = none) (s x : Operand) (t tx : TypeId)
    (ho : o.op = .call { callee := .builtin .append, args := #[s, x], argTypes := #[t, tx] })
    (ht : Tryz.prog.underlying t = some (.slice 5)) (htx : Tryz.prog.underlying tx = some (.slice 5))
    {B : Nat → Prop} {w0 : World} {v vx : Value} {xs ys : List Int} (hs : a.eval s = v) (hb : Buf B w0 w v xs) (hx : a.eval x = vx) (hr : RdB w vx ys) (hl : xs.length + ys.length ≤ 70368744177664)
    (h : ∀ v' w', Buf B w0 w' v' (xs ++ ys) → wpList Tryz.prog ops Q rest (a.put o.dst v') w') : wpList Tryz.prog ops Q (o :: rest) a w := by
  obtain ⟨i0, hi, hz0, hz1, hz2⟩ := info_parts info5
  obtain ⟨A, c, rfl, hc1, hc2, hcell⟩ := hr
  refine wpList_plain hgd fun K hK => ?_
  have fin : ∀ v' w', w'.ownsRow 0 5 1 v' (xs.length + ys.length) (bys xs ++ bys ys) → w.grownBy w' v.ownBlock → (∀ g, v'.ownBlock = some g → v.ownBlock = some g ∨ w.heap.size ≤ g) → K (a.put o.dst v') w' := by
    intro v' w' h1 h2 h3
    exact hK _ _ (h v' w' (hb.step h2 (by rw [List.length_append, bys_append]; exact h1) h3))
  have run : ∃ v' w', (Builtin.append_ #[t, tx] o.type #[v, .slice A ys.length c]).run Tryz.prog w = .ok v' w' ∧ w'.ownsRow 0 5 1 v' (xs.length + ys.length) (bys xs ++ bys ys) ∧ w.grownBy w' v.ownBlock ∧ (∀ g, v'.ownBlock = some g → v.ownBlock = some g ∨ w.heap.size ≤ g) := by
    obtain ⟨Av, cv, hv⟩ := own_slice hb.own
    have hat : (Builtin.append_ #[t, tx] o.type #[v, .slice A ys.length c]).run Tryz.prog w = (Builtin.append_ #[t, t] o.type #[v, .slice A ys.length c]).run Tryz.prog w := by
      rw [hv]; exact append_types t tx o.type 5 5 i0 ht htx hi _ _ _ _
    rw [hat]
    by_cases hn : 0 < ys.length
    · obtain ⟨b, off, rfl, hc⟩ := hcell hn
      obtain ⟨v', w', hr, h2, h3, h4, h5⟩ := run_append_own_at (P := Tryz.prog) w 0 t o.type 5 i0 (.int .u8 0) 1 1 ht hi hz0 hz1 hz2 rfl (by decide) v xs.length (bys xs) hb.own ⟨b, off, none⟩ ys.length c (bys ys) (by simp [bys]) (by
        intro j u hj
        have hjl : j < ys.length := by
          rcases Nat.lt_or_ge j ys.length with h | h
          · exact h
          · simp [bys, List.getElem?_eq_none h] at hj
        rw [add_lit0, hc j hjl]
        unfold bys at hj
        rw [List.getElem?_map, List.getElem?_eq_getElem hjl] at hj
        simp at hj
        subst hj
        simp [List.getD, List.getElem?_eq_getElem hjl]) (bys_one ys) (by unfold maxLen; omega) (by omega) (Nat.zero_le _)
      refine ⟨v', w', hr, h2, h3, fun g hg => ?_⟩
      rcases h5 with h5 | h5
      · exact .inl (h5 ▸ hg)
      · exact .inr (by rw [h5] at hg; cases hg; exact Nat.le_refl _)
    · have hy : ys = [] := List.eq_nil_of_length_eq_zero (by omega)
      subst hy
      refine ⟨v, w, ?_, by simpa [bys] using hb.own, ⟨rfl, rfl, rfl, Nat.le_refl _, fun _ _ _ => rfl⟩, fun g hg => .inl hg⟩
      rcases hb.own.2 with ⟨rfl, hn0⟩ | ⟨g, cap, cur, rfl, hbg, hg, hnc, hcm, hcs, htake⟩
      · cases A <;> simp [Builtin.append_, run_underlying ht, sizeOf, typeInfo, hi, Builtin.lenOf, Builtin.firstCells, loadCells, loadCellsFrom]
      · cases A <;> simp [Builtin.append_, run_underlying ht, sizeOf, typeInfo, hi, Builtin.lenOf, Builtin.firstCells, loadCells, loadCellsFrom, hnc, storeCells]
  obtain ⟨v', w', hr, h2, h3, h4⟩ := run
  unfold Oper.wp execOp
  simp only [ho, resolve, invoke, builtin, Sem.run_bind, Sem.run_pure, Result.andThen_ok, List.map_toArray, List.map_cons, List.map_nil, hs, hx, hr]
  exact fin v' w' h2 h3 h4

theorem RdB.lit1 (W : World) (a : Int) : RdB (W.alloc (.cells #[.int .u8 a] 5)) (.slice (some ⟨W.heap.size, 0, none⟩) 1 1) [a] :=
  ⟨_, 1, rfl, Nat.le_refl _, by unfold maxLen; omega, fun _ => ⟨W.heap.size, 0, rfl, fun j hj => by
    obtain rfl : j = 0 := by simp at hj; omega
    rw [cell_of_row _ _ _ _ _ _ (heap_alloc_new W _)]; rfl⟩⟩
theorem RdB.lit2 (W : World) (a b : Int) : RdB (W.alloc (.cells #[.int .u8 a, .int .u8 b] 5)) (.slice (some ⟨W.heap.size, 0, none⟩) 2 2) [a, b] :=
  ⟨_, 2, rfl, Nat.le_refl _, by unfold maxLen; omega, fun _ => ⟨W.heap.size, 0, rfl, fun j hj => by
    rw [Nat.zero_add, cell_of_row _ _ _ _ _ _ (heap_alloc_new W _)]
    match j, hj with
    | 0, _ => rfl
    | 1, _ => rfl⟩⟩
theorem RdB.lit4 (W : World) (a b c d : Int) : RdB (W.alloc (.cells #[.int .u8 a, .int .u8 b, .int .u8 c, .int .u8 d] 5)) (.slice (some ⟨W.heap.size, 0, none⟩) 4 4) [a, b, c, d] :=
  ⟨_, 4, rfl, Nat.le_refl _, by unfold maxLen; omega, fun _ => ⟨W.heap.size, 0, rfl, fun j hj => by
    rw [Nat.zero_add, cell_of_row _ _ _ _ _ _ (heap_alloc_new W _)]
    match j, hj with
    | 0, _ => rfl
    | 1, _ => rfl
    | 2, _ => rfl
    | 3, _ => rfl⟩⟩
theorem RdB.lit5 (W : World) (a b c d e : Int) : RdB (W.alloc (.cells #[.int .u8 a, .int .u8 b, .int .u8 c, .int .u8 d, .int .u8 e] 5)) (.slice (some ⟨W.heap.size, 0, none⟩) 5 5) [a, b, c, d, e] :=
  ⟨_, 5, rfl, Nat.le_refl _, by unfold maxLen; omega, fun _ => ⟨W.heap.size, 0, rfl, fun j hj => by
    rw [Nat.zero_add, cell_of_row _ _ _ _ _ _ (heap_alloc_new W _)]
    match j, hj with
    | 0, _ => rfl
    | 1, _ => rfl
    | 2, _ => rfl
    | 3, _ => rfl
    | 4, _ => rfl⟩⟩

/-- append of a literal of one, two, four bytes. -/
theorem ap_lit1 {ops : Array Oper} {rest : List Oper} {o : Oper} {a : Act} {Q : Exit → Act → World → Prop} {W : World} {x1 : Int} (hgd : o.guard = none) (s x : Operand) (t tx : TypeId)
    (ho : o.op = .call { callee := .builtin .append, args := #[s, x], argTypes := #[t, tx] })
    (ht : Tryz.prog.underlying t = some (.slice 5)) (htx : Tryz.prog.underlying tx = some (.slice 5))
    (hx : a.eval x = .slice (some ⟨W.heap.size, 0, none⟩) 1 1) {v : Value} (hs : a.eval s = v) {B : Nat → Prop} {w0 : World} {xs : List Int} (hb : Buf B w0 W v xs) (hl : xs.length ≤ 35184372088832)
    (h : ∀ v' w', Buf B w0 w' v' (xs ++ [x1]) → wpList Tryz.prog ops Q rest (a.put o.dst v') w') : wpList Tryz.prog ops Q (o :: rest) a (W.alloc (.cells #[.int .u8 x1] 5)) :=
  ap_row hgd s x t tx ho ht htx hs (hb.ext (ext_alloc W _)) hx (RdB.lit1 W x1) (by simp; omega) h
theorem ap_lit2 {ops : Array Oper} {rest : List Oper} {o : Oper} {a : Act} {Q : Exit → Act → World → Prop} {W : World} {x1 x2 : Int} (hgd : o.guard = none) (s x : Operand) (t tx : TypeId)
    (ho : o.op = .call { callee := .builtin .append, args := #[s, x], argTypes := #[t, tx] })
    (ht : Tryz.prog.underlying t = some (.slice 5)) (htx : Tryz.prog.underlying tx = some (.slice 5))
    (hx : a.eval x = .slice (some ⟨W.heap.size, 0, none⟩) 2 2) {v : Value} (hs : a.eval s = v) {B : Nat → Prop} {w0 : World} {xs : List Int} (hb : Buf B w0 W v xs) (hl : xs.length ≤ 35184372088832)
    (h : ∀ v' w', Buf B w0 w' v' (xs ++ [x1, x2]) → wpList Tryz.prog ops Q rest (a.put o.dst v') w') : wpList Tryz.prog ops Q (o :: rest) a (W.alloc (.cells #[.int .u8 x1, .int .u8 x2] 5)) :=
  ap_row hgd s x t tx ho ht htx hs (hb.ext (ext_alloc W _)) hx (RdB.lit2 W x1 x2) (by simp; omega) h
theorem ap_lit4 {ops : Array Oper} {rest : List Oper} {o : Oper} {a : Act} {Q : Exit → Act → World → Prop} {W : World} {x1 x2 x3 x4 : Int} (hgd : o.guard = none) (s x : Operand) (t tx : TypeId)
    (ho : o.op = .call { callee := .builtin .append, args := #[s, x], argTypes := #[t, tx] })
    (ht : Tryz.prog.underlying t = some (.slice 5)) (htx : Tryz.prog.underlying tx = some (.slice 5))
    (hx : a.eval x = .slice (some ⟨W.heap.size, 0, none⟩) 4 4) {v : Value} (hs : a.eval s = v) {B : Nat → Prop} {w0 : World} {xs : List Int} (hb : Buf B w0 W v xs) (hl : xs.length ≤ 35184372088832)
    (h : ∀ v' w', Buf B w0 w' v' (xs ++ [x1, x2, x3, x4]) → wpList Tryz.prog ops Q rest (a.put o.dst v') w') : wpList Tryz.prog ops Q (o :: rest) a (W.alloc (.cells #[.int .u8 x1, .int .u8 x2, .int .u8 x3, .int .u8 x4] 5)) :=
  ap_row hgd s x t tx ho ht htx hs (hb.ext (ext_alloc W _)) hx (RdB.lit4 W x1 x2 x3 x4) (by simp; omega) h

/-- Where a slice lies behind an append of a string. -/
theorem str_at {w w' : World} {t ty : TypeId} {v v' : Value} {n : Nat} {xs : List Value} {st : ByteArray} (ht : Tryz.prog.underlying t = some (.slice 5)) (hown : w.ownsRow 0 5 1 v n xs) (hl : n + st.size ≤ 70368744177664)
    (hr : (Builtin.append_ #[t, 9] ty #[v, .string st]).run Tryz.prog w = .ok v' w') : ∀ g, v'.ownBlock = some g → v.ownBlock = some g ∨ w.heap.size ≤ g := by
  obtain ⟨i0, hi, hz0, hz1, hz2⟩ := info_parts info5
  intro g' hg'
  rcases hown.2 with ⟨rfl, rfl⟩ | ⟨g, cap, cur, rfl, hbg, hg, hnc, hcm, hcs, htake⟩
  · obtain ⟨v1, w1, hr1, h2, _⟩ := Lib.run_append_own_string (P := Tryz.prog) w w.heap.size t 9 ty 5 i0 ht Tryz.underlying9 hi hz0 hz1 hz2 (.slice none 0 0) 0 [] (World.ownsRow_nil _ _ _ _) st (by unfold maxLen; omega) (by omega) (Nat.le_refl _)
    rw [hr] at hr1
    cases hr1
    exact .inr (h2.lt g' hg').1
  · have hcs' : cur.size = cap := by simpa using hcs
    by_cases hroom : n + st.size ≤ cap
    · have hr1 := Lib.run_append_room_string (P := Tryz.prog) w t 9 ty 5 i0 ht Tryz.underlying9 hi hz1 g n cap cur hg st hroom (by omega)
      rw [hr] at hr1
      cases hr1
      exact .inl hg'
    · have holds : ∀ j u, xs[j]? = some u → w.cell? ((⟨g, 0, none⟩ : Addr).add j) = some u := hown.cells (g := g) rfl
      have hr1 := Lib.run_append_grow_string (P := Tryz.prog) w t 9 ty 5 i0 (.int .u8 0) ht Tryz.underlying9 hi hz0 ⟨g, 0, none⟩ n cap xs (by rw [hz1]; exact hown.1) holds st (by omega) (by omega) (by rw [hz2]; exact growslice_fits (by omega) (by omega))
      rw [hr] at hr1
      cases hr1
      exact .inr (by cases hg'; exact Nat.le_refl _)

/-- append of a string's bytes. -/
theorem ap_str {ops : Array Oper} {rest : List Oper} {o : Oper} {a : Act} {Q : Exit → Act → World → Prop} {w : World} (hgd : o.guard = none) (s x : Operand) (t : TypeId)
    (ho : o.op = .call { callee := .builtin .append, args := #[s, x], argTypes := #[t, 9] })
    (ht : Tryz.prog.underlying t = some (.slice 5))
    {B : Nat → Prop} {w0 : World} {v : Value} {st : ByteArray} {xs : List Int} (hx : a.eval x = .string st) (hs : a.eval s = v) (hb : Buf B w0 w v xs) (hl : xs.length + st.size ≤ 70368744177664)
    (h : ∀ v' w', Buf B w0 w' v' (xs ++ sby st) → wpList Tryz.prog ops Q rest (a.put o.dst v') w') : wpList Tryz.prog ops Q (o :: rest) a w := by
  obtain ⟨i0, hi, hz0, hz1, hz2⟩ := info_parts info5
  refine wpList_plain hgd fun K hK => ?_
  obtain ⟨v', w', hr, h2, h3, h4⟩ := Lib.run_append_own_string (P := Tryz.prog) w 0 t 9 o.type 5 i0 ht Tryz.underlying9 hi hz0 hz1 hz2 v xs.length (bys xs) hb.own st (by unfold maxLen; omega) (by omega) (Nat.zero_le _)
  unfold Oper.wp execOp
  simp only [ho, resolve, invoke, builtin, Sem.run_bind, Sem.run_pure, Result.andThen_ok, List.map_toArray, List.map_cons, List.map_nil, hs, hx, hr]
  refine hK _ _ (h v' w' (hb.step h3 ?_ (str_at ht hb.own hl hr)))
  rw [List.length_append, sby_length, bys_append]
  have e : bys (sby st) = Lib.strCells st := by simp [bys, sby, Lib.strCells]
  rw [e]; exact h2

end Go.Proofs.YtdenjanihikolaaGreatDoor
