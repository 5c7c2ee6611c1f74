/- What an Encode hands back, and small laws for the walks through the Encode methods. -/
import Derived.WalkKit
import Derived.KernelRfl
import Derived.Lib.Hide
import Derived.Lib.AppendStr
import Derived.Lib.ConvBytes
import Derived.Laws.AppendOwnNone
import Derived.Maps.AppendAt
import Derived.Test.YtdenjanihikolaaGreatDoorProg
import Derived.Maps.RangeWalk
import Derived.Maps.StringElems
import Derived.Sort.KeysCollected
import Derived.Sort.OwnSorted
import Derived.Sort.Walk0
import Derived.Lib.Strings
import Derived.Test.YtdenjanihikolaaGreatDoorPOg
import Derived.WalkSpells
import Derived.Lib.SliceRun
namespace Go.Proofs.YtdenjanihikolaaGreatDoor
set_option linter.unusedVariables false
set_option linter.unusedSimpArgs false
open Go.RowKit
theorem info5 : (Tryz.prog.info? 5).map (fun i => (i.zero, i.size, i.bytes)) = some (some (.int .u8 0), 1, 1) := by kernel_rfl
/-- bytes as cells -/
def bys (xs : List Int) : List Value := xs.map (Value.int .u8)
/-- a string's bytes as numbers -/
def sby (s : ByteArray) : List Int := s.data.toList.map fun b => (b.toNat : Int)
theorem sby_length (s : ByteArray) : (sby s).length = s.size := by unfold sby; rw [List.length_map, Array.length_toList]; rfl
theorem bys_append (xs ys : List Int) : bys (xs ++ ys) = bys xs ++ bys ys := by simp [bys]
theorem bys_one (xs : List Int) : ∀ u ∈ bys xs, u.oneCell' = true := by
  intro u hu
  obtain ⟨_, _, rfl⟩ := List.mem_map.1 hu
  rfl
/-- Nothing of what was there has turned. -/
abbrev Ext (w w' : World) : Prop := Below w.heap.size w w'
theorem Ext.refl (w : World) : Ext w w := Below.refl _ _
theorem Ext.trans {a b c : World} (h : Ext a b) (k : Ext b c) : Ext a c := Below.trans h (Below.mono k (Below.size h))
theorem Ext.cell {w w' : World} (h : Ext w w') {a : Addr} {v : Value} (hc : w.cell? a = some v) : w'.cell? a = some v := (Below.cell h (World.block_lt_of_cell? w a hc)).trans hc
theorem Ext.alloc {w w' : World} (h : Ext w w') (o : Obj) : Ext w (w'.alloc o) := Below.alloc h (Below.size h) o
theorem Ext.drew {w w' : World} (h : Ext w w') : Ext w w'.drew := ⟨h.os, h.tape, h.output, h.size, h.block⟩
theorem ext_alloc (w : World) (o : Obj) : Ext w (w.alloc o) := (Ext.refl w).alloc o
/-- The blocks below a number. -/
def Lt (n : Nat) (k : Nat) : Prop := k < n
/-- A row of bytes that the call owns, in a world that keeps the blocks K of the world w0. -/
structure Buf (K : Nat → Prop) (w0 w : World) (v : Value) (xs : List Int) : Prop where
  own : w.ownsRow 0 5 1 v xs.length (bys xs)
  off : ∀ g, v.ownBlock = some g → ¬ K g
  kept : ∀ k, K k → w.heap[k]? = w0.heap[k]?
  lt : ∀ k, K k → k < w.heap.size
  os : w.os = w0.os
  tape : w.tape = w0.tape
  output : w.output = w0.output
theorem ownsRow_ext {w w' : World} {B e size n : Nat} {v : Value} {xs : List Value} (h : w.ownsRow B e size v n xs) (hx : Ext w w') : w'.ownsRow B e size v n xs :=
  h.kept (row := none) ⟨hx.os, hx.tape, hx.output, hx.size, fun k hk _ => hx.block k hk⟩ (by cases v.ownBlock <;> simp)
theorem Buf.start {K : Nat → Prop} (w : World) (hK : ∀ k, K k → k < w.heap.size) : Buf K w w (.slice none 0 0) [] :=
  ⟨World.ownsRow_nil _ _ _ _, fun g h => by simp [Value.ownBlock] at h, fun _ _ => rfl, hK, rfl, rfl, rfl⟩
theorem Buf.nil (w : World) : Buf (Lt w.heap.size) w w (.slice none 0 0) [] := Buf.start w fun _ h => h
theorem Buf.bel {w0 w : World} {v : Value} {xs : List Int} (h : Buf (Lt w0.heap.size) w0 w v xs) : Ext w0 w := by
  refine ⟨h.os, h.tape, h.output, ?_, fun k hk => h.kept k hk⟩
  rcases Nat.lt_or_ge w.heap.size w0.heap.size with hl | hl
  · exact absurd (h.lt w.heap.size hl) (Nat.lt_irrefl _)
  · exact hl
/-- A step that turns the own row alone. -/
theorem Buf.step {K : Nat → Prop} {w0 w w' : World} {v v' : Value} {xs ys : List Int} (h : Buf K w0 w v xs) (hg : w.grownBy w' v.ownBlock) (hown : w'.ownsRow 0 5 1 v' ys.length (bys ys))
    (hv : ∀ g, v'.ownBlock = some g → v.ownBlock = some g ∨ w.heap.size ≤ g) : Buf K w0 w' v' ys := by
  refine ⟨hown, ?_, ?_, fun k hk => Nat.lt_of_lt_of_le (h.lt k hk) hg.size, hg.os.trans h.os, hg.tape.trans h.tape, hg.output.trans h.output⟩
  · intro g hgv hK
    rcases hv g hgv with h1 | h1
    · exact h.off g h1 hK
    · have := h.lt g hK; omega
  · intro k hk
    rw [hg.block k (h.lt k hk) (fun e => h.off k e.symm hk), h.kept k hk]
theorem Buf.ext {K : Nat → Prop} {w0 w w' : World} {v : Value} {xs : List Int} (h : Buf K w0 w v xs) (hx : Ext w w') : Buf K w0 w' v xs :=
  h.step ⟨hx.os, hx.tape, hx.output, hx.size, fun k hk _ => hx.block k hk⟩ (ownsRow_ext h.own hx) (fun g hg => .inl hg)
/-- Kept blocks more: from here on. -/
theorem Buf.rebase {K K' : Nat → Prop} {w0 w : World} {v : Value} {xs : List Int} (h : Buf K w0 w v xs) (hlt : ∀ k, K' k → k < w.heap.size) (hne : ∀ g, v.ownBlock = some g → ¬ K' g) : Buf K' w w v xs :=
  ⟨h.own, hne, fun _ _ => rfl, hlt, rfl, rfl, rfl⟩
theorem Buf.unbase {K K' : Nat → Prop} {w0 w w' : World} {v v' : Value} {xs ys : List Int} (h : Buf K w0 w v xs) (h' : Buf K' w w' v' ys) (hK : ∀ k, K k → K' k) : Buf K w0 w' v' ys :=
  ⟨h'.own, fun g hg hk => h'.off g hg (hK g hk), fun k hk => (h'.kept k (hK k hk)).trans (h.kept k hk), fun k hk => h'.lt k (hK k hk), h'.os.trans h.os, h'.tape.trans h.tape, h'.output.trans h.output⟩
theorem Buf.own_lt {K : Nat → Prop} {w0 w : World} {v : Value} {xs : List Int} (h : Buf K w0 w v xs) : ∀ g, v.ownBlock = some g → g < w.heap.size := fun g hg => (h.own.lt g hg).2
/-- A slice that is read: n elements of some cells each. -/
def RdK (w : World) (v : Value) (n size : Nat) (cell : Nat → Nat → Value) : Prop :=
  ∃ A c, v = .slice A n c ∧ n ≤ c ∧ c ≤ maxLen ∧ (0 < n → ∃ b off, A = some ⟨b, off, none⟩ ∧ ∀ j, j < n → ∀ k, k < size → w.cell? ⟨b, off + j * size + k, none⟩ = some (cell j k))
theorem RdK.ext {w w' : World} {v : Value} {n size : Nat} {cell : Nat → Nat → Value} (h : RdK w v n size cell) (hx : Ext w w') : RdK w' v n size cell := by
  obtain ⟨A, c, hv, h1, h2, h3⟩ := h
  refine ⟨A, c, hv, h1, h2, fun hn => ?_⟩
  obtain ⟨b, off, hA, hc⟩ := h3 hn
  exact ⟨b, off, hA, fun j hj k hk => hx.cell (hc j hj k hk)⟩
/-- A slice of bytes that is read. -/
def RdB (w : World) (v : Value) (xs : List Int) : Prop :=
  ∃ A c, v = .slice A xs.length c ∧ xs.length ≤ c ∧ c ≤ maxLen ∧ (0 < xs.length → ∃ b off, A = some ⟨b, off, none⟩ ∧ ∀ j, j < xs.length → w.cell? ⟨b, off + j, none⟩ = some (.int .u8 (xs.getD j 0)))
theorem RdB.ext {w w' : World} {v : Value} {xs : List Int} (h : RdB w v xs) (hx : Ext w w') : RdB w' v xs := by
  obtain ⟨A, c, hv, h1, h2, h3⟩ := h
  refine ⟨A, c, hv, h1, h2, fun hn => ?_⟩
  obtain ⟨b, off, hA, hc⟩ := h3 hn
  exact ⟨b, off, hA, fun j hj => hx.cell (hc j hj)⟩
theorem RdB.nil (w : World) : RdB w (.slice none 0 0) [] := ⟨none, 0, rfl, Nat.le_refl _, by unfold maxLen; omega, fun h => absurd h (Nat.lt_irrefl 0)⟩
theorem add_lit0 (b off i : Nat) : (⟨b, off, none⟩ : Addr).add i = ⟨b, off + i, none⟩ := by unfold Addr.add; split <;> simp_all
/-- What is owned can be read. -/
theorem RdB.of_own {w : World} {B : Nat} {v : Value} {xs : List Int} (h : w.ownsRow B 5 1 v xs.length (bys xs)) : RdB w v xs := by
  rcases h.2 with ⟨rfl, hn⟩ | ⟨g, cap, cur, rfl, hbg, hg, hnc, hcm, hcs, htake⟩
  · exact ⟨none, 0, by rw [hn], by omega, by unfold maxLen; omega, fun h => by omega⟩
  · refine ⟨_, cap, rfl, hnc, hcm, fun _ => ⟨g, 0, rfl, fun j hj => ?_⟩⟩
    have := h.cells (g := g) rfl j (.int .u8 (xs.getD j 0)) (by
      unfold bys
      rw [List.getElem?_map, List.getElem?_eq_getElem hj]
      simp [List.getD, List.getElem?_eq_getElem hj])
    rwa [add_lit0] at this
theorem Buf.rd {B : Nat → Prop} {w0 w : World} {v : Value} {xs : List Int} (h : Buf B w0 w v xs) : RdB w v xs := RdB.of_own h.own
theorem append_types {P : Program} {w : World} (t tx ty e e' : TypeId) (i : TypeInfo) (ht : P.underlying t = some (.slice e)) (hx : P.underlying tx = some (.slice e')) (hi : P.info? e = some i) (A : Option Addr) (n c : Nat) (y : Value) :
    (Builtin.append_ #[t, tx] ty #[.slice A n c, y]).run P w = (Builtin.append_ #[t, t] ty #[.slice A n c, y]).run P w := by
  simp [Builtin.append_, run_underlying ht, run_underlying hx, sizeOf, typeInfo, hi]
theorem own_slice {w : World} {B e size n : Nat} {v : Value} {xs : List Value} (h : w.ownsRow B e size v n xs) : ∃ A c, v = .slice A n c := by
  rcases h.2 with ⟨rfl, rfl⟩ | ⟨g, cap, _, rfl, _⟩
  · exact ⟨none, 0, rfl⟩
  · exact ⟨_, cap, rfl⟩
/-- append of bytes that are read, in the walk's form. -/
theorem ap_row {ops : Array Oper} {rest : List Oper} {o : Oper} {a : Act} {Q : Exit → Act → World → Prop} {w : World} (hgd : o.guard = none) (s x : Operand) (t tx : TypeId)
    (ho : o.op = .call { callee := .builtin .append, args := #[s, x], argTypes := #[t, tx] })
    (ht : Tryz.prog.underlying t = some (.slice 5)) (htx : Tryz.prog.underlying tx = some (.slice 5))
    {B : Nat → Prop} {w0 : World} {v vx : Value} {xs ys : List Int} (hs : a.eval s = v) (hb : Buf B w0 w v xs) (hx : a.eval x = vx) (hr : RdB w vx ys) (hl : xs.length + ys.length ≤ 70368744177664)
    (h : ∀ v' w', Buf B w0 w' v' (xs ++ ys) → wpList Tryz.prog ops Q rest (a.put o.dst v') w') : wpList Tryz.prog ops Q (o :: rest) a w := by
  obtain ⟨i0, hi, hz0, hz1, hz2⟩ := info_parts info5
  obtain ⟨A, c, rfl, hc1, hc2, hcell⟩ := hr
  refine wpList_plain hgd fun K hK => ?_
  have fin : ∀ v' w', w'.ownsRow 0 5 1 v' (xs.length + ys.length) (bys xs ++ bys ys) → w.grownBy w' v.ownBlock → (∀ g, v'.ownBlock = some g → v.ownBlock = some g ∨ w.heap.size ≤ g) → K (a.put o.dst v') w' := by
    intro v' w' h1 h2 h3
    exact hK _ _ (h v' w' (hb.step h2 (by rw [List.length_append, bys_append]; exact h1) h3))
  have run : ∃ v' w', (Builtin.append_ #[t, tx] o.type #[v, .slice A ys.length c]).run Tryz.prog w = .ok v' w' ∧ w'.ownsRow 0 5 1 v' (xs.length + ys.length) (bys xs ++ bys ys) ∧ w.grownBy w' v.ownBlock ∧ (∀ g, v'.ownBlock = some g → v.ownBlock = some g ∨ w.heap.size ≤ g) := by
    obtain ⟨Av, cv, hv⟩ := own_slice hb.own
    have hat : (Builtin.append_ #[t, tx] o.type #[v, .slice A ys.length c]).run Tryz.prog w = (Builtin.append_ #[t, t] o.type #[v, .slice A ys.length c]).run Tryz.prog w := by
      rw [hv]; exact append_types t tx o.type 5 5 i0 ht htx hi _ _ _ _
    rw [hat]
    by_cases hn : 0 < ys.length
    · obtain ⟨b, off, rfl, hc⟩ := hcell hn
      obtain ⟨v', w', hr, h2, h3, h4, h5⟩ := run_append_own_at (P := Tryz.prog) w 0 t o.type 5 i0 (.int .u8 0) 1 1 ht hi hz0 hz1 hz2 rfl (by decide) v xs.length (bys xs) hb.own ⟨b, off, none⟩ ys.length c (bys ys) (by simp [bys]) (by
        intro j u hj
        have hjl : j < ys.length := by
          rcases Nat.lt_or_ge j ys.length with h | h
          · exact h
          · simp [bys, List.getElem?_eq_none h] at hj
        rw [add_lit0, hc j hjl]
        unfold bys at hj
        rw [List.getElem?_map, List.getElem?_eq_getElem hjl] at hj
        simp at hj
        subst hj
        simp [List.getD, List.getElem?_eq_getElem hjl]) (bys_one ys) (by unfold maxLen; omega) (by omega) (Nat.zero_le _)
      refine ⟨v', w', hr, h2, h3, fun g hg => ?_⟩
      rcases h5 with h5 | h5
      · exact .inl (h5 ▸ hg)
      · exact .inr (by rw [h5] at hg; cases hg; exact Nat.le_refl _)
    · have hy : ys = [] := List.eq_nil_of_length_eq_zero (by omega)
      subst hy
      refine ⟨v, w, ?_, by simpa [bys] using hb.own, ⟨rfl, rfl, rfl, Nat.le_refl _, fun _ _ _ => rfl⟩, fun g hg => .inl hg⟩
      rcases hb.own.2 with ⟨rfl, hn0⟩ | ⟨g, cap, cur, rfl, hbg, hg, hnc, hcm, hcs, htake⟩
      · cases A <;> simp [Builtin.append_, run_underlying ht, sizeOf, typeInfo, hi, Builtin.lenOf, Builtin.firstCells, loadCells, loadCellsFrom]
      · cases A <;> simp [Builtin.append_, run_underlying ht, sizeOf, typeInfo, hi, Builtin.lenOf, Builtin.firstCells, loadCells, loadCellsFrom, hnc, storeCells]
  obtain ⟨v', w', hr, h2, h3, h4⟩ := run
  unfold Oper.wp execOp
  simp only [ho, resolve, invoke, builtin, Sem.run_bind, Sem.run_pure, Result.andThen_ok, List.map_toArray, List.map_cons, List.map_nil, hs, hx, hr]
  exact fin v' w' h2 h3 h4
theorem RdB.lit1 (W : World) (a : Int) : RdB (W.alloc (.cells #[.int .u8 a] 5)) (.slice (some ⟨W.heap.size, 0, none⟩) 1 1) [a] :=
  ⟨_, 1, rfl, Nat.le_refl _, by unfold maxLen; omega, fun _ => ⟨W.heap.size, 0, rfl, fun j hj => by
    obtain rfl : j = 0 := by simp at hj; omega
    rw [cell_of_row _ _ _ _ _ _ (heap_alloc_new W _)]; rfl⟩⟩
theorem RdB.lit4 (W : World) (a b c d : Int) : RdB (W.alloc (.cells #[.int .u8 a, .int .u8 b, .int .u8 c, .int .u8 d] 5)) (.slice (some ⟨W.heap.size, 0, none⟩) 4 4) [a, b, c, d] :=
  ⟨_, 4, rfl, Nat.le_refl _, by unfold maxLen; omega, fun _ => ⟨W.heap.size, 0, rfl, fun j hj => by
    rw [Nat.zero_add, cell_of_row _ _ _ _ _ _ (heap_alloc_new W _)]
    match j, hj with
    | 0, _ => rfl
    | 1, _ => rfl
    | 2, _ => rfl
    | 3, _ => rfl⟩⟩
theorem RdB.lit5 (W : World) (a b c d e : Int) : RdB (W.alloc (.cells #[.int .u8 a, .int .u8 b, .int .u8 c, .int .u8 d, .int .u8 e] 5)) (.slice (some ⟨W.heap.size, 0, none⟩) 5 5) [a, b, c, d, e] :=
  ⟨_, 5, rfl, Nat.le_refl _, by unfold maxLen; omega, fun _ => ⟨W.heap.size, 0, rfl, fun j hj => by
    rw [Nat.zero_add, cell_of_row _ _ _ _ _ _ (heap_alloc_new W _)]
    match j, hj with
    | 0, _ => rfl
    | 1, _ => rfl
    | 2, _ => rfl
    | 3, _ => rfl
    | 4, _ => rfl⟩⟩
/-- append of a literal of one, two, four bytes. -/
theorem ap_lit1 {ops : Array Oper} {rest : List Oper} {o : Oper} {a : Act} {Q : Exit → Act → World → Prop} {W : World} {x1 : Int} (hgd : o.guard = none) (s x : Operand) (t tx : TypeId)
    (ho : o.op = .call { callee := .builtin .append, args := #[s, x], argTypes := #[t, tx] })
    (ht : Tryz.prog.underlying t = some (.slice 5)) (htx : Tryz.prog.underlying tx = some (.slice 5))
    (hx : a.eval x = .slice (some ⟨W.heap.size, 0, none⟩) 1 1) {v : Value} (hs : a.eval s = v) {B : Nat → Prop} {w0 : World} {xs : List Int} (hb : Buf B w0 W v xs) (hl : xs.length ≤ 35184372088832)
    (h : ∀ v' w', Buf B w0 w' v' (xs ++ [x1]) → wpList Tryz.prog ops Q rest (a.put o.dst v') w') : wpList Tryz.prog ops Q (o :: rest) a (W.alloc (.cells #[.int .u8 x1] 5)) :=
  ap_row hgd s x t tx ho ht htx hs (hb.ext (ext_alloc W _)) hx (RdB.lit1 W x1) (by simp; omega) h
theorem ap_lit4 {ops : Array Oper} {rest : List Oper} {o : Oper} {a : Act} {Q : Exit → Act → World → Prop} {W : World} {x1 x2 x3 x4 : Int} (hgd : o.guard = none) (s x : Operand) (t tx : TypeId)
    (ho : o.op = .call { callee := .builtin .append, args := #[s, x], argTypes := #[t, tx] })
    (ht : Tryz.prog.underlying t = some (.slice 5)) (htx : Tryz.prog.underlying tx = some (.slice 5))
    (hx : a.eval x = .slice (some ⟨W.heap.size, 0, none⟩) 4 4) {v : Value} (hs : a.eval s = v) {B : Nat → Prop} {w0 : World} {xs : List Int} (hb : Buf B w0 W v xs) (hl : xs.length ≤ 35184372088832)
    (h : ∀ v' w', Buf B w0 w' v' (xs ++ [x1, x2, x3, x4]) → wpList Tryz.prog ops Q rest (a.put o.dst v') w') : wpList Tryz.prog ops Q (o :: rest) a (W.alloc (.cells #[.int .u8 x1, .int .u8 x2, .int .u8 x3, .int .u8 x4] 5)) :=
  ap_row hgd s x t tx ho ht htx hs (hb.ext (ext_alloc W _)) hx (RdB.lit4 W x1 x2 x3 x4) (by simp; omega) h
/-- Where a slice lies behind an append of a string. -/
theorem str_at {w w' : World} {t ty : TypeId} {v v' : Value} {n : Nat} {xs : List Value} {st : ByteArray} (ht : Tryz.prog.underlying t = some (.slice 5)) (hown : w.ownsRow 0 5 1 v n xs) (hl : n + st.size ≤ 70368744177664)
    (hr : (Builtin.append_ #[t, 9] ty #[v, .string st]).run Tryz.prog w = .ok v' w') : ∀ g, v'.ownBlock = some g → v.ownBlock = some g ∨ w.heap.size ≤ g := by
  obtain ⟨i0, hi, hz0, hz1, hz2⟩ := info_parts info5
  intro g' hg'
  rcases hown.2 with ⟨rfl, rfl⟩ | ⟨g, cap, cur, rfl, hbg, hg, hnc, hcm, hcs, htake⟩
  · obtain ⟨v1, w1, hr1, h2, _⟩ := Lib.run_append_own_string (P := Tryz.prog) w w.heap.size t 9 ty 5 i0 ht Tryz.underlying9 hi hz0 hz1 hz2 (.slice none 0 0) 0 [] (World.ownsRow_nil _ _ _ _) st (by unfold maxLen; omega) (by omega) (Nat.le_refl _)
    rw [hr] at hr1
    cases hr1
    exact .inr (h2.lt g' hg').1
  · have hcs' : cur.size = cap := by simpa using hcs
    by_cases hroom : n + st.size ≤ cap
    · have hr1 := Lib.run_append_room_string (P := Tryz.prog) w t 9 ty 5 i0 ht Tryz.underlying9 hi hz1 g n cap cur hg st hroom (by omega)
      rw [hr] at hr1
      cases hr1
      exact .inl hg'
    · have holds : ∀ j u, xs[j]? = some u → w.cell? ((⟨g, 0, none⟩ : Addr).add j) = some u := hown.cells (g := g) rfl
      have hr1 := Lib.run_append_grow_string (P := Tryz.prog) w t 9 ty 5 i0 (.int .u8 0) ht Tryz.underlying9 hi hz0 ⟨g, 0, none⟩ n cap xs (by rw [hz1]; exact hown.1) holds st (by omega) (by omega) (by rw [hz2]; exact growslice_fits (by omega) (by omega))
      rw [hr] at hr1
      cases hr1
      exact .inr (by cases hg'; exact Nat.le_refl _)
/-- append of a string's bytes. -/
theorem ap_str {ops : Array Oper} {rest : List Oper} {o : Oper} {a : Act} {Q : Exit → Act → World → Prop} {w : World} (hgd : o.guard = none) (s x : Operand) (t : TypeId)
    (ho : o.op = .call { callee := .builtin .append, args := #[s, x], argTypes := #[t, 9] })
    (ht : Tryz.prog.underlying t = some (.slice 5))
    {B : Nat → Prop} {w0 : World} {v : Value} {st : ByteArray} {xs : List Int} (hx : a.eval x = .string st) (hs : a.eval s = v) (hb : Buf B w0 w v xs) (hl : xs.length + st.size ≤ 70368744177664)
    (h : ∀ v' w', Buf B w0 w' v' (xs ++ sby st) → wpList Tryz.prog ops Q rest (a.put o.dst v') w') : wpList Tryz.prog ops Q (o :: rest) a w := by
  obtain ⟨i0, hi, hz0, hz1, hz2⟩ := info_parts info5
  refine wpList_plain hgd fun K hK => ?_
  obtain ⟨v', w', hr, h2, h3, h4⟩ := Lib.run_append_own_string (P := Tryz.prog) w 0 t 9 o.type 5 i0 ht Tryz.underlying9 hi hz0 hz1 hz2 v xs.length (bys xs) hb.own st (by unfold maxLen; omega) (by omega) (Nat.zero_le _)
  unfold Oper.wp execOp
  simp only [ho, resolve, invoke, builtin, Sem.run_bind, Sem.run_pure, Result.andThen_ok, List.map_toArray, List.map_cons, List.map_nil, hs, hx, hr]
  refine hK _ _ (h v' w' (hb.step h3 ?_ (str_at ht hb.own hl hr)))
  rw [List.length_append, sby_length, bys_append]
  have e : bys (sby st) = Lib.strCells st := by simp [bys, sby, Lib.strCells]
  rw [e]; exact h2
end Go.Proofs.YtdenjanihikolaaGreatDoor

namespace Go.Proofs.YtdenjanihikolaaGreatDoor
open Go.RowKit Go.Maps Go.Sort
set_option linter.unusedVariables false
set_option linter.unusedSimpArgs false
theorem lawS : Keyed Tryz.prog 9 := string_keyed Tryz.underlying9
theorem info9s : (Tryz.prog.info? 9).map (fun i => (i.zero, i.size, i.bytes)) = some (some (.string ⟨#[]⟩), 1, 16) := by kernel_rfl
/-- the sort's contract -/
def SortS : Prop := ∀ (blk off cap : Nat) (ss : List (List UInt8)) (w : World), Holds encStr w blk off ss.toArray → blk < w.heap.size → ss.length < 4611686018427387904 →
    Calls Tryz.prog 195 #[.slice (some ⟨blk, off, none⟩) ss.length cap] w fun e w' => e = .returned (.tuple #[]) ∧ ∃ n os, w' = grow (putRow encStr (Sort.ahead w n) blk off (ss.mergeSort fun x y => decide (x ≤ y)).toArray) os
set_option maxRecDepth 100000 in
set_option maxHeartbeats 1000000 in
theorem names193 (hsort : SortS) (D0 : DataW Unit) (b n : Nat) (w : World) (hown : w.ownsMap Tryz.prog 9 (plainElem Tryz.prog 9) b n D0) (hpos : strKeys D0 ≠ []) (hmax : Maps.size D0 ≤ 1000) :
    Calls Tryz.prog 193 #[.map (some b)] w fun e w' => ∃ (g cap : Nat) (ss : List (List UInt8)), e = .returned (.slice (some ⟨g, 0, none⟩) ss.length cap) ∧ ss.Perm (strKeys D0) ∧
      w'.ownsRow w.heap.size 9 1 (.slice (some ⟨g, 0, none⟩) ss.length cap) ss.length ((ss.mergeSort (fun x y => decide (x ≤ y))).map encStr) ∧ Below w.heap.size w w' := by
  obtain ⟨i0, hi, hz0, hz1, hz2⟩ := info_parts info9s
  have hbl := hown.lt
  have HS := Lib.hid hsort
  clear hsort
  go_enter Tryz.func193, Tryz.ntmps193
  go_wp2_with (first
    | (at_range; refine wpList_range_own _ rfl _ 150 rfl 9 9 lawS Tryz.underlying150 _ b n _ rfl hown ?_; intro w0 hrg0 hg0 hs0)
    | go_in)
  go_frame
  go_loopw [3] (fun v wr => ∃ (left : Lit → Bool) (cnt : Nat) (ss : List (List UInt8)), wr.ranges Tryz.prog 9 (plainElem Tryz.prog 9) b w.heap.size n D0 left cnt ∧ ss.length + cnt ≤ Maps.size D0 ∧
      wr.ownsRow w.heap.size 9 1 v ss.length (ss.map encStr) ∧ Collected D0 left ss ∧ Below w.heap.size w wr)
    (fun _ wr => wr.rangeLeft b w.heap.size)
  case atStart =>
    exact ⟨_, _, [], hrg0, by simp, World.ownsRow_nil _ _ _ _, Collected.start D0, (Below.refl _ _).grown hg0 (Nat.le_refl _) (fun j hj => by cases hj)⟩
  case round =>
    obtain ⟨left, cnt, ss, hrg, hcs, hrow, hC, hnx⟩ := hrel
    go_wp2_with (first
      | (at_next; refine wpList_next_ranges _ rfl _ rfl 9 lawS (plainElem Tryz.prog 9) encStr (Value.string) (fun key kl hk => by obtain ⟨x, hx, _⟩ := Maps.keyOf_str Tryz.underlying9 hk; exact ⟨x, hx⟩) (fun v y hv => by obtain ⟨c, rfl, _⟩ := plainElem_string_inv Tryz.underlying9 hv; exact ⟨c, rfl⟩) b w.heap.size n _ _ _ rfl hrg ?_ ?_)
      | go_in)
    · intro hc0 hl0
      have hP := hC.perm hown lawS Tryz.underlying9 hl0
      rcases hrow.2 with ⟨hnil, hn0⟩ | ⟨g, cap, cur, rfl, hbase, hb, h1, h2, h3, h4⟩
      · exfalso
        have hss : ss = [] := List.eq_nil_of_length_eq_zero hn0
        rw [hss] at hP
        exact hpos (List.perm_nil.1 hP.symm)
      have hH : Holds encStr wr g 0 ss.toArray := holds_of_block hb (by simpa using h4)
      have hgl : g < wr.heap.size := (Array.getElem?_eq_some_iff.1 hb).1
      have hc := Lib.hid (HS.out g 0 cap ss wr hH hgl (by omega))
      have HF := Lib.hid (And.intro hP (And.intro (fun (n : Nat) (os : Array Obj) => ownsRow_sorted (os := os) (n := n) (ts := ss.mergeSort (fun x y => decide (x ≤ y))) (by simp) hbase hb h1 h2 h3) (fun (n : Nat) (os : Array Obj) => hnx.grown (grownBy_sorted (n := n) (os := os) (ss.mergeSort (fun x y => decide (x ≤ y))).toArray) hnx.size (fun j hj => by cases hj; exact hbase))))
      clear hP hH hgl hrow hb h1 h2 h3 h4
      go_wp2_with (go_at_call 195; refine hc.out.mono ?_; rintro e w' ⟨rfl, nn, os, rfl⟩)
      go_ret
      exact ⟨g, cap, ss, rfl, HF.out.1, HF.out.2.1 nn os, HF.out.2.2 nn os⟩
    · intro x c kl yd yp w2 cnt2 hkey hlk hv hat hrg2 hlt hg2 hs2 hen
      obtain ⟨x', ex, rfl, _⟩ := Maps.keyOf_str Tryz.underlying9 hkey
      obtain rfl : x = x' := encStr_inj ex
      have hrow2 := hrow.kept hg2 (Or.inr (row_ne_iter hrow hrg).symm)
      clear hs2
      go_wp2_with (first
        | (at_builtin; refine wpList_append_own _ rfl _ _ 27 rfl w.heap.size 9 i0 (.string ⟨#[]⟩) 1 16 Tryz.underlying27 hi hz0 hz1 hz2 rfl (by decide) _ _ _ rfl (hrow2.alloc _) ⟨w2.heap.size, 0, none⟩ 1 1 [encStr x] rfl rfl (cell_one_new _ _ _) (by simp [Value.oneCell', encStr]) (by unfold maxLen; omega) (by omega) (by have := hnx.size; have := hg2.size; simp; omega) ?_; intro v' w3 hown' hg3 hnil3; go_frame)
        | go_in)
      have hrg3 := (hrg2.alloc _).kept hg3 (row_ne_low hrow2 hbl) (row_ne_iter hrow2 hrg2)
      go_roundw
      case rel =>
        refine ⟨_, cnt2, ss ++ [x], hrg3, by simp; omega, by simpa using hown', hC.step hlk hat, ?_⟩
        exact ((hnx.grown hg2 hnx.size (fun j hj => by cases hj; exact Nat.le_refl _)).alloc (by have := hnx.size; have := hg2.size; omega) _).grown hg3 (by have := hnx.size; have := hg2.size; simp; omega) (fun j hj => (hrow2.lt j hj).1)
      case measure => rw [hrg3.left_eq, hrg.left_eq]; exact hlt
end Go.Proofs.YtdenjanihikolaaGreatDoor

namespace Go.Proofs.YtdenjanihikolaaGreatDoor
open Go.RowKit Go.Maps Go.Sort
set_option linter.unusedVariables false
set_option linter.unusedSimpArgs false
def kb (s : ByteArray) : List UInt8 := s.data.toList
def mapFrom (D : DataW Unit) (ps : List (ByteArray × ByteArray)) : DataW Unit := ps.foldl (fun D p => D.put (.string (kb p.1)) (.lit (.string (kb p.2)))) D
def mapOf (ps : List (ByteArray × ByteArray)) : DataW Unit := mapFrom (.map []) ps
theorem mapOf_snoc (ps : List (ByteArray × ByteArray)) (p : ByteArray × ByteArray) : mapOf (ps ++ [p]) = (mapOf ps).put (.string (kb p.1)) (.lit (.string (kb p.2))) := by
  simp [mapOf, mapFrom, List.foldl_append]
theorem has_from : ∀ (ps : List (ByteArray × ByteArray)) (D : DataW Unit), IsMap D → ∀ x, has (mapFrom D ps) (.string x) = (has D (.string x) || ps.any fun p => kb p.1 == x)
  | [], D, h, x => by simp [mapFrom]
  | p :: ps, D, h, x => by
    have h1 := has_from ps (D.put (.string (kb p.1)) (.lit (.string (kb p.2)))) (h.put _ _) x
    show has (mapFrom (D.put _ _) ps) _ = _
    rw [h1]
    by_cases e : kb p.1 = x
    · subst e
      rw [has_put_same h (show WideAt.IsKeyLit (.string (kb p.1)) from trivial)]
      simp
    · rw [has_put_other (by simpa using Ne.symm e)]
      have e2 : (kb p.1 == x) = false := beq_eq_false_iff_ne.2 e
      simp [e2]
theorem at_from_old : ∀ (ps : List (ByteArray × ByteArray)) (D : DataW Unit) (x : List UInt8), (∀ p ∈ ps, kb p.1 ≠ x) → ∀ z, (mapFrom D ps).atKey (.string x) z = D.atKey (.string x) z
  | [], D, x, _, z => rfl
  | p :: ps, D, x, h, z => by
    show (mapFrom (D.put _ _) ps).atKey _ _ = _
    rw [at_from_old ps _ x (fun q hq => h q (by simp [hq])) z, atKey_put_other (by simpa using Ne.symm (h p (by simp)))]
theorem at_from : ∀ (ps : List (ByteArray × ByteArray)) (D : DataW Unit), IsMap D → ps.Pairwise (fun p q => kb p.1 ≠ kb q.1) → ∀ p ∈ ps, ∀ z, (mapFrom D ps).atKey (.string (kb p.1)) z = .lit (.string (kb p.2))
  | [], D, _, _, p, hp, z => by simp at hp
  | q :: ps, D, h, hpw, p, hp, z => by
    show (mapFrom (D.put _ _) ps).atKey _ _ = _
    obtain ⟨h1, h2⟩ := List.pairwise_cons.1 hpw
    rcases List.mem_cons.1 hp with rfl | hp
    · rw [at_from_old ps _ _ (fun r hr => Ne.symm (h1 r hr)), atKey_put_same h (show WideAt.IsKeyLit (.string (kb p.1)) from trivial)]
    · exact at_from ps _ (h.put _ _) h2 p hp z
/-- strictly sorted by name -/
def Srt (ps : List (ByteArray × ByteArray)) : Prop := ps.Pairwise fun p q => kb p.1 < kb q.1
theorem Srt.ne {ps : List (ByteArray × ByteArray)} (h : Srt ps) : ps.Pairwise (fun p q => kb p.1 ≠ kb q.1) := h.imp fun {p q} hl e => by
  rw [e] at hl
  exact List.lt_irrefl _ hl
theorem srt_of (ps : List (ByteArray × ByteArray)) (h : ∀ j (h : j + 1 < ps.length), Op.bytesLess ps[j].1.toList ps[j + 1].1.toList = true) : Srt ps := by
  have hadj : ∀ j (h : j + 1 < ps.length), kb ps[j].1 < kb ps[j + 1].1 := by
    intro j hj
    have h1 := h j hj
    rw [bytesLess_eq, ByteArray.toList_eq, ByteArray.toList_eq] at h1
    exact of_decide_eq_true h1
  refine List.pairwise_iff_getElem.2 fun i j hi hj hij => ?_
  induction j with
  | zero => omega
  | succ j ih =>
    by_cases e : i = j
    · subst e; exact hadj i hj
    · exact List.lt_trans (ih (by omega) (by omega)) (hadj j hj)
/-- the map's names, sorted, are the pairs' -/
theorem names_of {ps : List (ByteArray × ByteArray)} (h : Srt ps) {b n : Nat} {w : World} (hown : w.ownsMap Tryz.prog 9 (plainElem Tryz.prog 9) b n (mapOf ps)) {ss : List (List UInt8)} (hp : ss.Perm (strKeys (mapOf ps))) : (ss.mergeSort fun x y => decide (x ≤ y)) = ps.map fun p => kb p.1 := by
  have hn : (ps.map fun p => kb p.1).Nodup := List.pairwise_map.2 h.ne
  have hC : Collected (mapOf ps) (fun _ => false) (ps.map fun p => kb p.1) := by
    refine ⟨hn, fun x => ?_⟩
    rw [show has (mapOf ps) (.string x) = _ from has_from ps _ isMap_empty x]
    simp [has_eq, List.any_eq_true]
  have h1 := hp.trans (hC.perm hown lawS Tryz.underlying9 fun _ => rfl).symm
  have h2 := mergeSort_of_perm h1
  have h3 : (ps.map fun p => kb p.1).Pairwise fun x y => leB x y = true := List.pairwise_map.2 (h.imp fun {p q} hl => by
    simp only [leB, decide_eq_true_eq]
    exact List.le_of_lt hl)
  have h4 := List.mergeSort_of_pairwise h3
  rw [h4] at h2
  exact h2
end Go.Proofs.YtdenjanihikolaaGreatDoor

namespace Go.Proofs.YtdenjanihikolaaGreatDoor
open Go.RowKit Go.Maps Og
set_option linter.unusedVariables false
set_option linter.unusedSimpArgs false
/-- Where a pointer leads: the slot of the struct at eb. -/
def rdP (eb : Nat) : Value → Option (DataW Unit × List MemPlace)
  | .pointer none => some (.nil, [])
  | .pointer (some ⟨b, j, none⟩) => if b = eb then some (.lit (.int .i64 j), []) else none
  | _ => none
theorem rdP_at (eb j : Nat) : rdP eb (.pointer (some ⟨eb, j, none⟩)) = some (.lit (.int .i64 j), []) := if_pos rfl
theorem rdP_lit {eb : Nat} {v : Value} {j : Nat} {ps : List MemPlace} (h : rdP eb v = some (.lit (.int .i64 j), ps)) : v = .pointer (some ⟨eb, j, none⟩) := by
  unfold rdP at h
  split at h
  · cases h
  · rename_i b k
    split at h
    · rename_i e
      subst e
      simp only [Option.some.injEq, Prod.mk.injEq, DataW.lit.injEq, Lit.int.injEq, true_and] at h
      have : k = j := by omega
      rw [this]
    · cases h
  · cases h
theorem rdP_nil {eb : Nat} {v : Value} {ps : List MemPlace} (h : rdP eb v = some (.nil, ps)) : v = .pointer none := by
  unfold rdP at h
  split at h
  · rfl
  · split at h
    · cases h
    · cases h
  · cases h
/-- What has been entered: (operation, key, slot). -/
def pick (L : Nat → Bool) (c : Int) (z : DataW Unit) : List (Nat × Int × Nat) → DataW Unit
  | [] => z
  | e :: r => if (L e.1 && e.2.1 == c) = true then .lit (.int .i64 e.2.2) else pick L c z r
def Apart (tab : List (Nat × Int × Nat)) : Prop := tab.Pairwise fun e f => e.1 ≠ f.1 ∧ e.2.1 ≠ f.2.1
theorem pick_off {L : Nat → Bool} {c : Int} {z : DataW Unit} {i : Nat} : ∀ {tab : List (Nat × Int × Nat)}, (∀ e ∈ tab, e.1 ≠ i) → pick (updB L i) c z tab = pick L c z tab
  | [], _ => rfl
  | e :: r, h => by
    have h1 : updB L i e.1 = L e.1 := by
      have := h e (by simp)
      simp [updB, this]
    unfold pick
    rw [h1, pick_off (fun f hf => h f (by simp [hf]))]
theorem pick_upd {L : Nat → Bool} {c : Int} {z : DataW Unit} {e : Nat × Int × Nat} : ∀ {tab : List (Nat × Int × Nat)}, Apart tab → e ∈ tab → pick (updB L e.1) c z tab = if e.2.1 = c then .lit (.int .i64 e.2.2) else pick L c z tab
  | [], _, h => by simp at h
  | f :: r, ha, h => by
    obtain ⟨h1, h2⟩ := List.pairwise_cons.1 ha
    rcases List.mem_cons.1 h with rfl | h
    · unfold pick
      rw [pick_off (fun g hg => Ne.symm (h1 g hg).1)]
      have e1 : updB L e.1 e.1 = true := by simp [updB]
      rw [e1]
      by_cases e2 : e.2.1 = c
      · simp [e2]
      · have e3 : (e.2.1 == c) = false := beq_eq_false_iff_ne.2 e2
        simp [e2, e3]
    · have hne := h1 e h
      have e1 : updB L e.1 f.1 = L f.1 := by simp [updB, hne.1]
      unfold pick
      rw [e1, pick_upd h2 h]
      by_cases e2 : e.2.1 = c
      · have e3 : (f.2.1 == c) = false := beq_eq_false_iff_ne.2 (fun e4 => hne.2 (e4.trans e2.symm))
        simp [e2, e3]
      · simp [e2]
theorem pick_none {c : Int} {z : DataW Unit} : ∀ {tab : List (Nat × Int × Nat)} {L : Nat → Bool}, (∀ e ∈ tab, L e.1 = false) → pick L c z tab = z
  | [], _, _ => rfl
  | e :: r, L, h => by
    unfold pick
    rw [h e (by simp), pick_none (fun f hf => h f (by simp [hf]))]
    simp
def doneN (L : Nat → Bool) : Nat := (List.range 100).countP L
theorem count_upd {L : Nat → Bool} {i : Nat} (h : L i = false) : ∀ l : List Nat, l.countP (updB L i) ≥ l.countP L + (if i ∈ l then 1 else 0)
  | [] => by simp
  | a :: r => by
    have h1 := count_upd h r
    by_cases e : a = i
    · subst e
      have e1 : updB L a a = true := by simp [updB]
      rw [List.countP_cons_of_pos e1, List.countP_cons_of_neg (by simp [h])]
      simp
      have := List.countP_mono_left (l := r) (p := L) (q := updB L a) (fun x _ hx => by simp [updB, hx])
      omega
    · have e1 : updB L i a = L a := by simp [updB, e]
      have e2 : (i ∈ a :: r) ↔ i ∈ r := by simp [Ne.symm e]
      rw [List.countP_cons, List.countP_cons, e1]
      simp only [e2]
      omega
theorem doneN_upd {L : Nat → Bool} {i : Nat} (h : L i = false) (hi : i < 100) : doneN L + 1 ≤ doneN (updB L i) := by
  have h1 := count_upd h (List.range 100)
  rw [if_pos (List.mem_range.2 hi)] at h1
  exact h1
theorem doneN_mono {L : Nat → Bool} {i : Nat} : doneN L ≤ doneN (updB L i) := List.countP_mono_left fun x _ hx => by simp [updB, hx]
theorem doneN_le {L : Nat → Bool} : doneN L ≤ 100 := by
  have := List.countP_le_length (p := L) (l := List.range 100)
  simpa [doneN] using this
/-- The map so far. -/
def MapOwn (eb : Nat) (tab : List (Nat × Int × Nat)) (L : Nat → Bool) (b : Nat) (w : World) : Prop :=
  ∃ n D, n ≤ doneN L ∧ w.ownsMap Tryz.prog 5 (rdP eb) b n D ∧ IsMap D ∧ ∀ (c : Int) (z : DataW Unit), D.atKey (.int .u8 c) z = pick L c z tab
theorem lawB : Keyed Tryz.prog 5 := int_keyed Tryz.underlying5
theorem MapOwn.start {eb : Nat} {tab : List (Nat × Int × Nat)} {L : Nat → Bool} (w : World) (h : ∀ e ∈ tab, L e.1 = false) : MapOwn eb tab L w.heap.size (w.alloc (.map #[] 0)) :=
  ⟨0, .map [], Nat.zero_le _, World.ownsMap_made w _ _ _, isMap_empty, fun c z => by rw [pick_none h]; rfl⟩
theorem MapOwn.off {eb : Nat} {tab : List (Nat × Int × Nat)} {L : Nat → Bool} {b : Nat} {w : World} (h : MapOwn eb tab L b w) (i : Nat) (hi : ∀ e ∈ tab, e.1 ≠ i) : MapOwn eb tab (updB L i) b w := by
  obtain ⟨n, D, h1, h2, h3, h4⟩ := h
  exact ⟨n, D, Nat.le_trans h1 doneN_mono, h2, h3, fun c z => by rw [pick_off hi]; exact h4 c z⟩
theorem keyB {c : Int} (h : 0 ≤ c ∧ c < 256) : keyOf Tryz.prog 5 (.int .u8 c) = some (.int .u8 c) := by
  rw [keyOf_int Tryz.underlying5]
  have hw : (Lit.int .u8 c).wf = true := by
    show (decide ((0 : Int) ≤ c) && decide (c ≤ 255)) = true
    simp; omega
  simp [mapKey, Tryz.underlying5, hw]
theorem MapOwn.put {eb : Nat} {tab : List (Nat × Int × Nat)} {L : Nat → Bool} {b : Nat} {w : World} (h : MapOwn eb tab L b w) {t et : TypeId} (ht : Tryz.prog.underlying t = some (.map 5 et)) (ha : Apart tab) {e : Nat × Int × Nat} (he : e ∈ tab) (hL : L e.1 = false) (hi : e.1 < 100) (hc : 0 ≤ e.2.1 ∧ e.2.1 < 256) :
    ∃ w', (Instr.mapUpdate t (.map (some b)) (.int .u8 e.2.1) (.pointer (some ⟨eb, e.2.2, none⟩))).run Tryz.prog w = .ok () w' ∧ MapOwn eb tab (updB L e.1) b w' ∧ w.grownBy w' (some b) := by
  obtain ⟨n, D, h1, h2, h3, h4⟩ := h
  obtain ⟨w', hr, ho, hg⟩ := h2.update lawB ht (by have := doneN_le (L := L); unfold maxLen; omega) (keyB hc) (rdP_at eb e.2.2)
  refine ⟨w', hr, ⟨n + 1, _, Nat.le_trans (by omega) (doneN_upd hL hi), ho, h3.put _ _, fun c z => ?_⟩, hg⟩
  rw [pick_upd ha he]
  by_cases e2 : e.2.1 = c
  · subst e2
    rw [if_pos rfl, atKey_put_same h3 (show WideAt.IsKeyLit (.int .u8 e.2.1) from trivial)]
  · rw [if_neg e2, atKey_put_other (by simpa using Ne.symm e2), h4]
/-- An entry of the literal. -/
theorem wp_ins {ops : Array Oper} {rest : List Oper} {o : Oper} {a : Act} {Q : Exit → Act → World → Prop} {w : World} {eb : Nat} {tab : List (Nat × Int × Nat)} {L : Nat → Bool} {b : Nat} (h : MapOwn eb tab L b w) (hg : o.guard = none) (m x v : Operand) (t et : TypeId) (hop : o.op = Op.insert t m x v) (ht : Tryz.prog.underlying t = some (.map 5 et)) (ha : Apart tab) {e : Nat × Int × Nat} (he : e ∈ tab) (hL : L e.1 = false) (hi : e.1 < 100) (hc : 0 ≤ e.2.1 ∧ e.2.1 < 256)
   (hm : a.eval m = .map (some b)) (hx : a.eval x = .int .u8 e.2.1) (hv : a.eval v = .pointer (some ⟨eb, e.2.2, none⟩))
   (hK : ∀ w', MapOwn eb tab (updB L e.1) b w' → w.grownBy w' (some b) → wpList Tryz.prog ops Q rest (a.put o.dst undef) w') : wpList Tryz.prog ops Q (o :: rest) a w := by
  refine wpList_plain hg fun K' hK' => ?_
  obtain ⟨w', hrun, r1, r2⟩ := h.put ht ha he hL hi hc
  unfold Oper.wp
  simp [execOp, hop, hm, hx, hv, hrun, Result.andThen]
  exact hK' _ _ (hK w' r1 r2)
/-- What the map answers. -/
theorem MapOwn.look {eb : Nat} {tab : List (Nat × Int × Nat)} {L : Nat → Bool} {b : Nat} {w : World} (h : MapOwn eb tab L b w) {t et : TypeId} (ht : Tryz.prog.underlying t = some (.map 5 et)) (hz : (zeroValue et).run Tryz.prog w = .ok (.pointer none) w) {c : Int} (hc : 0 ≤ c ∧ c < 256) :
    (∀ j, (∀ z, pick L c z tab = .lit (.int .i64 (j : Nat))) → (Instr.lookup t (.map (some b)) (.int .u8 c) false).run Tryz.prog w = .ok (.pointer (some ⟨eb, j, none⟩)) w) ∧ ((∀ z, pick L c z tab = z) → (Instr.lookup t (.map (some b)) (.int .u8 c) false).run Tryz.prog w = .ok (.pointer none) w) := by
  obtain ⟨n, D, h1, h2, h3, h4⟩ := h
  obtain ⟨v, ps, hr, hv⟩ := h2.lookup lawB ht hz (zd := .nil) (zp := []) rfl (keyB hc)
  rw [h4] at hv
  refine ⟨fun j hj => ?_, fun hj => ?_⟩
  · rw [hj] at hv
    rw [hr, rdP_lit hv]
  · rw [hj] at hv
    rw [hr, rdP_nil hv]
end Go.Proofs.YtdenjanihikolaaGreatDoor

namespace Go.Proofs.YtdenjanihikolaaGreatDoor
open Go.RowKit
def be16 (n : Int) : List Int := [n / 256, n % 256]
def be32 (n : Int) : List Int := [n / 16777216, n / 65536 % 256, n / 256 % 256, n % 256]
/-- the two, the four low bytes of a number, the highest one first -/
def b16 (n : Int) : List Int := be16 (n % 65536)
def b32 (n : Int) : List Int := be32 (n % 4294967296)
theorem b16_len (n : Int) : (b16 n).length = 2 := rfl
theorem b32_len (n : Int) : (b32 n).length = 4 := rfl
theorem b32_of {n : Int} (h0 : 0 ≤ n) (h1 : n < 4294967296) : be32 n = b32 n := by unfold b32; rw [Int.emod_eq_of_lt h0 h1]
theorem appendU32 {B : Nat → Prop} {w0 : World} (v : Value) (xs : List Int) (n : Int) (w : World) (h0 : 0 ≤ n) (h1 : n < 4294967296)
    (hb : Buf B w0 w v xs) (hlen : xs.length ≤ 1099511627776) :
    Calls Tryz.prog 145 #[v, .int .u32 n] w fun e w' => ∃ v', e = .returned v' ∧ Buf B w0 w' v' (xs ++ b32 n) := by
  rw [← b32_of h0 h1]
  go_enter Tryz.func145, Tryz.ntmps145
  go_wp2_with (at_builtin; refine ap_lit4 rfl _ _ 26 26 rfl Tryz.underlying26 Tryz.underlying26 rfl rfl hb (by omega) ?_; intro v' w' hb')
  go_ret
  exact ⟨_, rfl, hb'⟩
theorem appendI32 {B : Nat → Prop} {w0 : World} (v : Value) (xs : List Int) (n : Int) (w : World)
    (hb : Buf B w0 w v xs) (hlen : xs.length ≤ 1099511627776) :
    Calls Tryz.prog 142 #[v, .int .i32 n] w fun e w' => ∃ v', e = .returned v' ∧ Buf B w0 w' v' (xs ++ b32 n) := by
  have e1 : b32 n = b32 (n % 4294967296) := by unfold b32; rw [Int.emod_emod]
  rw [e1]
  clear e1
  go_enter Tryz.func142, Tryz.ntmps142
  go_wp2_with (go_at_call 145; refine (appendU32 _ _ _ _ (by omega) (by omega) hb (by omega)).mono ?_; rintro e w' ⟨v', rfl, hb'⟩)
  go_ret
  exact ⟨_, rfl, hb'⟩
theorem Buf.len {B : Nat → Prop} {w0 w : World} {v : Value} {xs : List Int} (h : Buf B w0 w v xs) : ∃ A c, v = .slice A xs.length c := own_slice h.own
set_option maxRecDepth 100000 in
theorem begin_any {B : Nat → Prop} {w0 : World} (v : Value) (xs : List Int) (t : Int) (w : World)
    (hb : Buf B w0 w v xs) (hlen : xs.length ≤ 1099511627770) :
    Calls Tryz.prog 139 #[v, .int .u8 t] w fun e w' => ∃ v', e = .returned (.tuple #[v', .int .i64 ((xs.length : Int) + 1)]) ∧ Buf B w0 w' v' ((xs ++ [t]) ++ [255, 255, 255, 255]) := by
  go_enter Tryz.func139, Tryz.ntmps139
  go_wp2_with (at_builtin; refine ap_lit1 rfl _ _ 26 26 rfl Tryz.underlying26 Tryz.underlying26 rfl rfl hb (by omega) ?_; intro v1 w1 hb1; obtain ⟨A1, c1, hv1⟩ := hb1.len; subst hv1; rw [List.length_append] at hb1 ⊢; have hb1' := Lib.hid hb1; clear hb1)
  have hl1 : (xs ++ [t]).length ≤ 1099511627776 := by simp; omega
  refine (appendI32 _ _ _ _ hb1'.out hl1).mono ?_
  rintro e w' ⟨v', rfl, hb'⟩
  go_wp2_with fail
  go_ret2
  exact ⟨_, rfl, hb'⟩
set_option maxRecDepth 100000 in
theorem setInt32 (g sp n c : Nat) (m : Int) (w : World) (cur : Array Value) (hg : w.heap[g]? = some (.cells cur 5 (0, 0))) (h0 : 0 ≤ m) (h1 : m < 2147483648) (hn : 4 ≤ n) (hs : sp + 4 ≤ cur.size) :
    Calls Tryz.prog 146 #[.slice (some ⟨g, sp, none⟩) n c, .int .i32 m] w fun e w' => e = .returned (.tuple #[]) ∧
      w' = (((w.setCell ⟨g, sp, none⟩ (.int .u8 (m / 16777216))).setCell ⟨g, sp + 1, none⟩ (.int .u8 (m / 65536 % 256))).setCell ⟨g, sp + 2, none⟩ (.int .u8 (m / 256 % 256))).setCell ⟨g, sp + 3, none⟩ (.int .u8 (m % 256)) := by
  have ha : ∀ w, (Instr.arrayAt 186 (.slice (some ⟨g, sp, none⟩) n c)).run Tryz.prog w = .ok (.pointer (some ⟨g, sp, none⟩)) w := by
    intro w
    have : ¬ n < 4 := by omega
    simp [Instr.arrayAt, run_underlying Tryz.underlying186, this]
  obtain ⟨x0, c0⟩ : ∃ x, w.cell? ⟨g, sp, none⟩ = some x := ⟨cur[sp]'(by omega), by rw [cell_of_row _ _ _ _ _ _ hg]; exact Array.getElem?_eq_getElem _⟩
  obtain ⟨x1, c1⟩ : ∃ x, w.cell? ⟨g, sp + 1, none⟩ = some x := ⟨cur[sp + 1]'(by omega), by rw [cell_of_row _ _ _ _ _ _ hg]; exact Array.getElem?_eq_getElem _⟩
  obtain ⟨x2, c2⟩ : ∃ x, w.cell? ⟨g, sp + 2, none⟩ = some x := ⟨cur[sp + 2]'(by omega), by rw [cell_of_row _ _ _ _ _ _ hg]; exact Array.getElem?_eq_getElem _⟩
  obtain ⟨x3, c3⟩ : ∃ x, w.cell? ⟨g, sp + 3, none⟩ = some x := ⟨cur[sp + 3]'(by omega), by rw [cell_of_row _ _ _ _ _ _ hg]; exact Array.getElem?_eq_getElem _⟩
  have f0 := frozen_of_row w g sp cur 5 hg
  have f1 := frozen_of_row w g (sp + 1) cur 5 hg
  have f2 := frozen_of_row w g (sp + 2) cur 5 hg
  have f3 := frozen_of_row w g (sp + 3) cur 5 hg
  clear hg hs
  go_enter Tryz.func146, Tryz.ntmps146
  go_wp2
  go_end0
  exact ⟨rfl, rfl⟩
theorem Buf.put {B : Nat → Prop} {w0 w : World} {g n c : Nat} {xs : List Int} (h : Buf B w0 w (.slice (some ⟨g, 0, none⟩) n c) xs) (j : Nat) (u : Int) : Buf B w0 (w.setCell ⟨g, j, none⟩ (.int .u8 u)) (.slice (some ⟨g, 0, none⟩) n c) (xs.set j u) := by
  obtain ⟨A, c', hv⟩ := h.len
  obtain ⟨rfl, rfl, rfl⟩ : A = some ⟨g, 0, none⟩ ∧ n = xs.length ∧ c = c' := by simpa [eq_comm] using hv
  have h2 := h.own.stored j (.int .u8 u)
  have e : bys (xs.set j u) = (bys xs).set j (.int .u8 u) := by unfold bys; rw [List.map_set]
  exact h.step h2.2 (by rw [List.length_set, e]; exact h2.1) (fun g' hg' => .inl hg')
theorem set4 (body : List Int) (x0 x1 x2 x3 a b c d : Int) : ∀ pre : List Int, ((((pre ++ [x0, x1, x2, x3] ++ body).set pre.length a).set (pre.length + 1) b).set (pre.length + 2) c).set (pre.length + 3) d = pre ++ [a, b, c, d] ++ body
  | [] => rfl
  | h :: t => by
    have ih := set4 body x0 x1 x2 x3 a b c d t
    simp only [List.cons_append, List.length_cons, Nat.add_right_comm t.length 1, List.set_cons_succ]
    rw [ih]
/-- The end of a message: its length is written at sp. -/
theorem finish_any {B : Nat → Prop} {w0 : World} (v : Value) (pre body : List Int) (x0 x1 x2 x3 : Int) (w : World)
    (hb : Buf B w0 w v (pre ++ [x0, x1, x2, x3] ++ body)) (hlen : pre.length + body.length ≤ 1000000) :
    Calls Tryz.prog 143 #[v, .int .i64 pre.length] w fun e w' => ∃ v', e = .returned (.tuple #[v', .nilIface]) ∧ Buf B w0 w' v' (pre ++ b32 (body.length + 4) ++ body) := by
  have hnn : (pre ++ [x0, x1, x2, x3] ++ body).length = pre.length + 4 + body.length := by simp; omega
  rcases hb.own.2 with ⟨_, hn⟩ | ⟨g, cap, cur, rfl, hbg, hg, hnc, hcm, hcs, htake⟩
  · omega
  rw [hnn] at hb hnc ⊢
  obtain ⟨p, hp⟩ : ∃ p, p = pre.length := ⟨_, rfl⟩
  obtain ⟨q, hq⟩ : ∃ q, q = body.length := ⟨_, rfl⟩
  rw [← hp, ← hq] at hb hnc ⊢
  have hp1 : p + q ≤ 1000000 := by omega
  have HB := Lib.hid hb
  have HG := Lib.hid hg
  have HP := Lib.hid hp
  have HQ := Lib.hid hq
  have hcur : p + 4 ≤ cur.size := by omega
  have hcm' : cap ≤ 9223372036854775807 := by unfold maxLen at hcm; exact hcm
  clear hb hg hp hq hnn hlen htake hcs hbg hcm
  go_enter Tryz.func143, Tryz.ntmps143
  go_wp2_with fail
  refine (setInt32 g p (p + 4 + q - p) (cap - p) ((p + 4 + q - p : Nat) : Int) w cur HG.out (by omega) (by omega) (by omega) hcur).mono ?_
  rintro e w' ⟨rfl, rfl⟩
  go_wp2_with fail
  go_ret2
  refine ⟨_, rfl, ?_⟩
  have h4 := (((HB.out.put p (((p + 4 + q - p : Nat) : Int) / 16777216)).put (p + 1) (((p + 4 + q - p : Nat) : Int) / 65536 % 256)).put (p + 2) (((p + 4 + q - p : Nat) : Int) / 256 % 256)).put (p + 3) (((p + 4 + q - p : Nat) : Int) % 256)
  have hl := set4 body x0 x1 x2 x3 (((p + 4 + q - p : Nat) : Int) / 16777216) (((p + 4 + q - p : Nat) : Int) / 65536 % 256) (((p + 4 + q - p : Nat) : Int) / 256 % 256) (((p + 4 + q - p : Nat) : Int) % 256) pre
  rw [← HP.out] at hl
  rw [hl] at h4
  have e4 : ((p + 4 + q - p : Nat) : Int) = (q : Int) + 4 := by omega
  rw [← b32_of (n := (q : Int) + 4) (by omega) (by omega), ← e4]
  exact h4
end Go.Proofs.YtdenjanihikolaaGreatDoor

namespace Go.Proofs.YtdenjanihikolaaGreatDoor
open Go.RowKit
theorem lt_of_cell {w : World} {b o : Nat} {v : Value} (h : w.cell? ⟨b, o, none⟩ = some v) : b < w.heap.size := World.block_lt_of_cell? w _ h
/-- a text with its nought -/
def txt (s : ByteArray) : List Int := sby s ++ [0]
/-- a message with its type -/
def msgB (t : Int) (body : List Int) : List Int := t :: (b32 (body.length + 4) ++ body)
/-- a message without a type -/
def msg0 (body : List Int) : List Int := b32 (body.length + 4) ++ body
/-- What an Encode hands back: no error, and bytes that are read. -/
def Gives (w : World) (xs : List Int) (e : Ending) (w' : World) : Prop := ∃ v', e = .returned (.tuple #[v', .nilIface]) ∧ Ext w w' ∧ RdB w' v' xs
theorem gives_of {w w' : World} {v : Value} {xs : List Int} (h : Buf (Lt w.heap.size) w w' v xs) {R : List Int} (e : R = xs) : Gives w R (.returned (.tuple #[v, .nilIface])) w' := ⟨v, rfl, h.bel, e ▸ h.rd⟩
theorem finish1 {B : Nat → Prop} {w0 : World} (v : Value) (t : Int) (xs body : List Int) (w : World) (hb : Buf B w0 w v xs) (hx : xs = [t, 255, 255, 255, 255] ++ body) (hlen : body.length ≤ 900000) :
    Calls Tryz.prog 143 #[v, .int .i64 1] w fun e w' => ∃ v', e = .returned (.tuple #[v', .nilIface]) ∧ Buf B w0 w' v' (msgB t body) :=
  finish_any v [t] body 255 255 255 255 w (by rw [hx] at hb; exact hb) (by simp; omega)
theorem ext_bytes (w : World) (s : ByteArray) : Ext w (Lib.bytesWorld w 5 s) :=
  ⟨rfl, rfl, rfl, by rw [Lib.bytesWorld_size]; omega, fun k hk => Lib.bytesWorld_at_old w 5 s k hk⟩
theorem RdB.str (w : World) (s : ByteArray) (hs : s.size ≤ maxLen) : RdB (Lib.bytesWorld w 5 s) (.slice (some ⟨w.heap.size, 0, none⟩) s.size (grownCap w s.size 0 5)) (sby s) := by
  refine ⟨_, _, by rw [sby_length], by rw [sby_length]; exact grownCap_ge w s.size 0 5, grownCap_le_maxLen w s.size 0 5 hs, fun _ => ⟨w.heap.size, 0, rfl, fun j hj => ?_⟩⟩
  rw [sby_length] at hj
  rw [Nat.zero_add, Lib.bytesWorld_cell w 5 s j hj]
  unfold sby
  have hl : j < s.data.toList.length := by rw [Array.length_toList]; exact hj
  simp [List.getD, List.getElem?_map, List.getElem?_eq_getElem hl]
theorem run_bytes (s : ByteArray) (w : World) : (convert 9 26 (.string s)).run Tryz.prog w = .ok (.slice (some ⟨w.heap.size, 0, none⟩) s.size (grownCap w s.size 0 5)) (Lib.bytesWorld w 5 s) :=
  Lib.run_convert_string_bytes w 9 26 5 s Tryz.underlying9 Tryz.underlying26 Tryz.underlying5
theorem RdB.lit6 (W : World) (a b c d e f : Int) : RdB (W.alloc (.cells #[.int .u8 a, .int .u8 b, .int .u8 c, .int .u8 d, .int .u8 e, .int .u8 f] 5)) (.slice (some ⟨W.heap.size, 0, none⟩) 6 6) [a, b, c, d, e, f] :=
  ⟨_, 6, rfl, Nat.le_refl _, by unfold maxLen; omega, fun _ => ⟨W.heap.size, 0, rfl, fun j hj => by
    rw [Nat.zero_add, cell_of_row _ _ _ _ _ _ (heap_alloc_new W _)]
    match j, hj with
    | 0, _ => rfl
    | 1, _ => rfl
    | 2, _ => rfl
    | 3, _ => rfl
    | 4, _ => rfl
    | 5, _ => rfl⟩⟩
theorem ap_lit5 {ops : Array Oper} {rest : List Oper} {o : Oper} {a : Act} {Q : Exit → Act → World → Prop} {W : World} {x1 x2 x3 x4 x5 : Int} (hgd : o.guard = none) (s x : Operand) (t tx : TypeId)
    (ho : o.op = .call { callee := .builtin .append, args := #[s, x], argTypes := #[t, tx] })
    (ht : Tryz.prog.underlying t = some (.slice 5)) (htx : Tryz.prog.underlying tx = some (.slice 5))
    (hx : a.eval x = .slice (some ⟨W.heap.size, 0, none⟩) 5 5) {v : Value} (hs : a.eval s = v) {B : Nat → Prop} {w0 : World} {xs : List Int} (hb : Buf B w0 W v xs) (hl : xs.length ≤ 35184372088832)
    (h : ∀ v' w', Buf B w0 w' v' (xs ++ [x1, x2, x3, x4, x5]) → wpList Tryz.prog ops Q rest (a.put o.dst v') w') : wpList Tryz.prog ops Q (o :: rest) a (W.alloc (.cells #[.int .u8 x1, .int .u8 x2, .int .u8 x3, .int .u8 x4, .int .u8 x5] 5)) :=
  ap_row hgd s x t tx ho ht htx hs (hb.ext (ext_alloc W _)) hx (RdB.lit5 W x1 x2 x3 x4 x5) (by simp; omega) h
theorem ap_lit6 {ops : Array Oper} {rest : List Oper} {o : Oper} {a : Act} {Q : Exit → Act → World → Prop} {W : World} {x1 x2 x3 x4 x5 x6 : Int} (hgd : o.guard = none) (s x : Operand) (t tx : TypeId)
    (ho : o.op = .call { callee := .builtin .append, args := #[s, x], argTypes := #[t, tx] })
    (ht : Tryz.prog.underlying t = some (.slice 5)) (htx : Tryz.prog.underlying tx = some (.slice 5))
    (hx : a.eval x = .slice (some ⟨W.heap.size, 0, none⟩) 6 6) {v : Value} (hs : a.eval s = v) {B : Nat → Prop} {w0 : World} {xs : List Int} (hb : Buf B w0 W v xs) (hl : xs.length ≤ 35184372088832)
    (h : ∀ v' w', Buf B w0 w' v' (xs ++ [x1, x2, x3, x4, x5, x6]) → wpList Tryz.prog ops Q rest (a.put o.dst v') w') : wpList Tryz.prog ops Q (o :: rest) a (W.alloc (.cells #[.int .u8 x1, .int .u8 x2, .int .u8 x3, .int .u8 x4, .int .u8 x5, .int .u8 x6] 5)) :=
  ap_row hgd s x t tx ho ht htx hs (hb.ext (ext_alloc W _)) hx (RdB.lit6 W x1 x2 x3 x4 x5 x6) (by simp; omega) h
end Go.Proofs.YtdenjanihikolaaGreatDoor
