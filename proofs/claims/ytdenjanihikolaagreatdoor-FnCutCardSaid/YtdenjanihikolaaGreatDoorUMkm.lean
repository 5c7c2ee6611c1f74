/- The columns that answer copies: a row of structs of type 249 in the field of a struct of type 236. -/
import Derived.Test.YtdenjanihikolaaGreatDoorUMkh
import Derived.Test.YtdenjanihikolaaGreatDoorUGr
import Derived.Test.YtdenjanihikolaaGreatDoorUEnch
namespace Go.Proofs.YtdenjanihikolaaGreatDoor
open Go.RowKit Og
set_option linter.unusedVariables false
set_option linter.unusedSimpArgs false

theorem info249 : (Tryz.prog.info? 249).map (fun i => (i.zero, i.size, i.bytes)) = some (some (.agg #[.slice none 0 0, .int .u32 0, .int .u16 0, .int .u32 0, .int .i16 0, .int .i32 0, .int .i16 0]), 7, 48) := by kernel_rfl

def toFd (x : Sf) : Fd := ⟨sby x.name, x.tab, x.col, x.typ, x.siz, x.mdf, x.fmt⟩
/-- A row's name: its bytes lean on blocks made since w, but the row's own. -/
def NmK (w wr : World) (v : Value) (nm : List Int) (u : Value) : Prop := u = .slice (slA u) nm.length (slC u) ∧ ∀ w3 : World, (∀ q, w.heap.size ≤ q → q < wr.heap.size → v.ownBlock ≠ some q → w3.heap[q]? = wr.heap[q]?) → RdB w3 (.slice (slA u) nm.length (slC u)) nm
def fdK (w wr : World) (v : Value) (x : Sf) (f : Nat → Value) : Prop :=
  NmK w wr v (sby x.name) (f 0) ∧ f 1 = .int .u32 x.tab ∧ f 2 = .int .u16 x.col ∧ f 3 = .int .u32 x.typ ∧ f 4 = .int .i16 x.siz ∧ f 5 = .int .i32 x.mdf ∧ f 6 = .int .i16 x.fmt
def cells7 (x : Sf) (u : Value) : Array Value := #[.slice (slA u) x.name.size (slC u), .int .u32 x.tab, .int .u16 x.col, .int .u32 x.typ, .int .i16 x.siz, .int .i32 x.mdf, .int .i16 x.fmt]
def slB (u : Value) : Nat := match slA u with | some a => a.block | none => 0
def Ne1 (W : World) (bk q : Nat) : Prop := q < W.heap.size ∧ q ≠ bk

structure Cols (bk : Nat) (W wr : World) (v : Value) (l : List Sf) (xs : List Value) : Prop where
  blk : wr.heap[bk]? = some (.cells #[v] 236 (0, 0))
  row : Row 249 7 (Ne1 W bk) W wr v l.length xs
  off : ∀ g, v.ownBlock = some g → g ≠ bk
  lt : bk < W.heap.size
  els : Rws 7 (fdK W wr v) l xs

theorem Cols.start {bk : Nat} {W : World} (h : W.heap[bk]? = some (.cells #[.slice none 0 0] 236 (0, 0))) : Cols bk W W (.slice none 0 0) [] [] :=
  ⟨h, (Row.start 249 7 W).rebase (fun k hk => hk.1) (nofun), (nofun), lt_of_block h, Rws.nil _ _⟩
theorem Cols.size {bk : Nat} {W wr : World} {v : Value} {l : List Sf} {xs : List Value} (h : Cols bk W wr v l xs) : W.heap.size ≤ wr.heap.size := by
  have h1 := h.lt
  have h2 := lt_of_block h.blk
  rcases Nat.lt_or_ge (W.heap.size - 1) wr.heap.size with h3 | h3
  · omega
  · by_cases e : W.heap.size - 1 = bk
    · omega
    · have := h.row.lt (W.heap.size - 1) ⟨by omega, e⟩
      omega
theorem Cols.extBut {bk : Nat} {W wr : World} {v : Value} {l : List Sf} {xs : List Value} (h : Cols bk W wr v l xs) : ExtBut bk W wr :=
  ⟨h.row.os, h.row.tape, h.row.output, h.size, fun k hk hne => h.row.kept k ⟨hk, hne⟩⟩
theorem NmK.step {w wr w3 : World} {v v2 : Value} {nm : List Int} {u : Value} {K : Nat → Prop} {e size m : Nat} {ys : List Value} (h : NmK w wr v nm u) (h2 : Row e size K wr w3 v2 m ys) (hK : ∀ q, w.heap.size ≤ q → q < wr.heap.size → v.ownBlock ≠ some q → K q) : NmK w w3 v2 nm u := by
  refine ⟨h.1, fun w4 h4 => h.2 w4 fun q h1 h3 h5 => ?_⟩
  have hq := hK q h1 h3 h5
  have h6 := h4 q h1 (h2.lt q hq) fun e => h2.off q e hq
  exact h6.trans (h2.kept q hq)
theorem NmK.ext {w wr w3 : World} {v : Value} {nm : List Int} {u : Value} (h : NmK w wr v nm u) (hx : Ext wr w3) : NmK w w3 v nm u :=
  ⟨h.1, fun w4 h4 => h.2 w4 fun q h1 h3 h5 => (h4 q h1 (Nat.lt_of_lt_of_le h3 hx.size) h5).trans (hx.block q h3)⟩

/-! ### The region that appends one column -/
def K0 (W0 : World) (v : Value) (bk q : Nat) : Prop := But W0 v q ∧ q ≠ bk
/-- What the region keeps: 7 the name's bytes, 24 the struct, 25 its block, 26 the row appended, 29 the store. -/
structure ColJ (bk : Nat) (W0 : World) (v : Value) (n : Nat) (xs : List Value) (x : Sf) (L : Nat → Bool) (vs : Nat → Value) (w : World) : Prop where
  A : L 26 = false → Ext W0 w
  B : L 7 = true → L 26 = false → NmK W0 w v (sby x.name) (vs 7)
  C : L 24 = true → vs 24 = .agg (cells7 x (vs 7))
  D : L 25 = true → L 26 = false → vs 25 = .slice (some ⟨slB (vs 25), 0, none⟩) 1 1 ∧ w.heap[slB (vs 25)]? = some (.cells (cells7 x (vs 7)) 249 (0, 0))
  E : L 26 = true → Row 249 7 (K0 W0 v bk) W0 w (vs 26) (n + 1) (xs ++ (cells7 x (vs 7)).toList) ∧ NmK W0 w (vs 26) (sby x.name) (vs 7) ∧ ∀ g, (vs 26).ownBlock = some g → g ≠ bk
  F : L 29 = false → w.heap[bk]? = W0.heap[bk]?
  G : L 29 = true → w.heap[bk]? = some (.cells #[vs 26] 236 (0, 0))
  M1 : L 26 = true → L 25 = true
  M2 : L 25 = true → L 24 = true
  M3 : L 24 = true → L 7 = true
  M4 : L 29 = true → L 26 = true

theorem ColJ.start (bk : Nat) (W0 : World) (v : Value) (n : Nat) (xs : List Value) (x : Sf) (vs : Nat → Value) : ColJ bk W0 v n xs x (fun _ => false) vs W0.drew :=
  ⟨fun _ => (Ext.refl W0).drew, (nofun), (nofun), (nofun), (nofun), fun _ => rfl, (nofun), (nofun), (nofun), (nofun), (nofun)⟩
theorem ColJ.keep {bk : Nat} {W0 w : World} {v : Value} {n : Nat} {xs : List Value} {x : Sf} {L : Nat → Bool} {vs : Nat → Value} (h : ColJ bk W0 v n xs x L vs w) (i : Nat) (u : Value) (h7 : 7 ≠ i) (h24 : 24 ≠ i) (h25 : 25 ≠ i) (h26 : 26 ≠ i) (h29 : 29 ≠ i) : ColJ bk W0 v n xs x (updB L i) (upd vs i u) w := by
  obtain ⟨A, B, C, D, E, F, G, M1, M2, M3, M4⟩ := h
  constructor <;> simp only [updB, upd, h7, h24, h25, h26, h29, if_false, beq_eq_false_iff_ne.2, Bool.or_false, ne_eq, not_false_eq_true] <;> assumption
theorem ColJ.box {bk : Nat} {W0 w : World} {v : Value} {n : Nat} {xs : List Value} {x : Sf} {L : Nat → Bool} {vs : Nat → Value} (h : ColJ bk W0 v n xs x L vs w) {q : Nat} (hq : But W0 v q) (hne : q ≠ bk) : w.heap[q]? = W0.heap[q]? := by
  cases e : L 26 with
  | false => exact (h.A e).block q hq.1
  | true => exact (h.E e).1.kept q ⟨hq, hne⟩
theorem ColJ.L26 {bk : Nat} {W0 w : World} {v : Value} {n : Nat} {xs : List Value} {x : Sf} {L : Nat → Bool} {vs : Nat → Value} (h : ColJ bk W0 v n xs x L vs w) (e : L 24 = false) : L 26 = false := by
  cases e2 : L 26 with
  | false => rfl
  | true => rw [h.M2 (h.M1 e2)] at e; cases e
theorem ColJ.L25 {bk : Nat} {W0 w : World} {v : Value} {n : Nat} {xs : List Value} {x : Sf} {L : Nat → Bool} {vs : Nat → Value} (h : ColJ bk W0 v n xs x L vs w) (e : L 25 = false) : L 26 = false := by
  cases e2 : L 26 with
  | false => rfl
  | true => rw [h.M1 e2] at e; cases e
theorem ColJ.L29 {bk : Nat} {W0 w : World} {v : Value} {n : Nat} {xs : List Value} {x : Sf} {L : Nat → Bool} {vs : Nat → Value} (h : ColJ bk W0 v n xs x L vs w) (e : L 26 = false) : L 29 = false := by
  cases e2 : L 29 with
  | false => rfl
  | true => rw [h.M4 e2] at e; cases e

theorem ColJ.step7 {bk : Nat} {W0 w w2 : World} {v : Value} {n : Nat} {xs : List Value} {x : Sf} {L : Nat → Bool} {vs : Nat → Value} (h : ColJ bk W0 v n xs x L vs w) (e24 : L 24 = false) (hx : Ext w w2) (u : Value) (hbk : bk < W0.heap.size) (hu : Keeps w w2 (fun w3 => RdB w3 u (sby x.name))) (hs : u = .slice (slA u) (sby x.name).length (slC u)) (hv : ∀ g, v.ownBlock = some g → g < W0.heap.size) : ColJ bk W0 v n xs x (updB L 7) (upd vs 7 u) w2 := by
  have e26 := h.L26 e24
  have e29 := h.L29 e26
  have e25 : L 25 = false := by
    cases e2 : L 25 with
    | false => rfl
    | true => rw [h.M2 e2] at e24; cases e24
  have hX := h.A e26
  constructor <;> simp only [updB, upd, e24, e25, e26, e29, Nat.reduceEqDiff, if_false, if_true, Nat.reduceBEq, Bool.or_false, Bool.or_true, Bool.false_eq_true, false_implies, true_implies]
  · exact hX.trans hx
  · refine ⟨hs, fun w3 h3 => ?_⟩
    rw [← hs]
    refine hu w3 fun q h1 h2 => h3 q (Nat.le_trans hX.size h1) h2 fun e => ?_
    have := hv q e
    have := hX.size
    omega
  · exact (hx.block bk (Nat.lt_of_lt_of_le hbk hX.size)).trans (h.F e29)

theorem ColJ.step24 {bk : Nat} {W0 w : World} {v : Value} {n : Nat} {xs : List Value} {x : Sf} {L : Nat → Bool} {vs : Nat → Value} (h : ColJ bk W0 v n xs x L vs w) (e7 : L 7 = true) (e25 : L 25 = false) (u : Value) (hu : u = .agg (cells7 x (vs 7))) : ColJ bk W0 v n xs x (updB L 24) (upd vs 24 u) w := by
  have e26 := h.L25 e25
  have e29 := h.L29 e26
  obtain ⟨A, B, C, D, E, F, G, M1, M2, M3, M4⟩ := h
  constructor <;> simp only [updB, upd, e7, e25, e26, e29, Nat.reduceEqDiff, if_false, if_true, Nat.reduceBEq, Bool.or_false, Bool.or_true, Bool.false_eq_true, false_implies, true_implies]
  · exact A e26
  · exact B e7 e26
  · exact hu
  · exact F e29

theorem ColJ.step25 {bk : Nat} {W0 w : World} {v : Value} {n : Nat} {xs : List Value} {x : Sf} {L : Nat → Bool} {vs : Nat → Value} (h : ColJ bk W0 v n xs x L vs w) (e24 : L 24 = true) (e26 : L 26 = false) (hbk : bk < W0.heap.size) : ColJ bk W0 v n xs x (updB L 25) (upd vs 25 (.slice (some ⟨w.heap.size, 0, none⟩) 1 1)) (w.alloc (.cells (cells7 x (vs 7)) 249)) := by
  have e29 := h.L29 e26
  have e7 := h.M3 e24
  obtain ⟨A, B, C, D, E, F, G, M1, M2, M3, M4⟩ := h
  constructor <;> simp only [updB, upd, e7, e24, e26, e29, Nat.reduceEqDiff, if_false, if_true, Nat.reduceBEq, Bool.or_false, Bool.or_true, Bool.false_eq_true, false_implies, true_implies]
  · exact (A e26).alloc _
  · exact (B e7 e26).ext (ext_alloc _ _)
  · exact C e24
  · exact ⟨rfl, heap_alloc_new _ _⟩
  · exact ((ext_alloc w _).block bk (Nat.lt_of_lt_of_le hbk (A e26).size)).trans (F e29)

theorem ColJ.step26 {bk : Nat} {W0 w w2 : World} {v v2 : Value} {n : Nat} {xs : List Value} {x : Sf} {L : Nat → Bool} {vs : Nat → Value} (h : ColJ bk W0 v n xs x L vs w) (e25 : L 25 = true) (e26 : L 26 = false) (hbk : bk < W0.heap.size) (hoff : v.ownBlock ≠ some bk) (hv : ∀ g, v.ownBlock = some g → g < W0.heap.size)
    (hr : Row 249 7 (But w v) w w2 v2 (n + 1) (xs ++ (cells7 x (vs 7)).toList)) : ColJ bk W0 v n xs x (updB L 26) (upd vs 26 v2) w2 := by
  have e29 := h.L29 e26
  have e24 := h.M2 e25
  have e7 := h.M3 e24
  obtain ⟨A, B, C, D, E, F, G, M1, M2, M3, M4⟩ := h
  have hX := A e26
  have hb : But w v bk := ⟨Nat.lt_of_lt_of_le hbk hX.size, hoff⟩
  have hk : ∀ q, But W0 v q → But w v q := fun q hq => ⟨Nat.lt_of_lt_of_le hq.1 hX.size, hq.2⟩
  constructor <;> simp only [updB, upd, e7, e24, e25, e29, Nat.reduceEqDiff, if_false, if_true, Nat.reduceBEq, Bool.or_false, Bool.or_true, Bool.false_eq_true, false_implies, true_implies, Bool.true_eq_false]
  · exact C e24
  · refine ⟨⟨hr.own, fun g hg hK => hr.off g hg (hk g hK.1), fun q hq => (hr.kept q (hk q hq.1)).trans (hX.block q hq.1.1), fun q hq => hr.lt q (hk q hq.1), hr.os.trans hX.os, hr.tape.trans hX.tape, hr.output.trans hX.output⟩, ?_, ?_⟩
    · exact (B e7 e26).step hr fun q h1 h2 h3 => ⟨h2, h3⟩
    · intro g hg e
      exact hr.off g hg (e ▸ hb)
  · exact (hr.kept bk hb).trans (F e29)

theorem ColJ.step29 {bk : Nat} {W0 w : World} {v z : Value} {n : Nat} {xs : List Value} {x : Sf} {L : Nat → Bool} {vs : Nat → Value} (h : ColJ bk W0 v n xs x L vs w) (e26 : L 26 = true) (hbk : w.heap[bk]? = some (.cells #[z] 236 (0, 0))) (hW : bk < W0.heap.size) (u : Value) : ColJ bk W0 v n xs x (updB L 29) (upd vs 29 u) (w.setCell ⟨bk, 0, none⟩ (vs 26)) := by
  have e25 := h.M1 e26
  have e24 := h.M2 e25
  have e7 := h.M3 e24
  obtain ⟨A, B, C, D, E, F, G, M1, M2, M3, M4⟩ := h
  obtain ⟨hr, hn, ho⟩ := E e26
  have hsz : (w.setCell ⟨bk, 0, none⟩ (vs 26)).heap.size = w.heap.size := by simp [World.setCell]
  have hoth : ∀ k, k ≠ bk → (w.setCell ⟨bk, 0, none⟩ (vs 26)).heap[k]? = w.heap[k]? := fun k hk => heap_setCell_other w ⟨bk, 0, none⟩ k _ hk
  constructor <;> simp only [updB, upd, e7, e24, e25, e26, Nat.reduceEqDiff, if_false, if_true, Nat.reduceBEq, Bool.or_false, Bool.or_true, Bool.false_eq_true, false_implies, true_implies, Bool.true_eq_false]
  · exact C e24
  · refine ⟨⟨?_, hr.off, fun k hk => (hoth k hk.2).trans (hr.kept k hk), fun k hk => by rw [hsz]; exact hr.lt k hk, hr.os, hr.tape, hr.output⟩, ⟨hn.1, fun w3 h3 => hn.2 w3 fun q h1 h2 h4 => ?_⟩, ho⟩
    · exact ownsRow_setCell_other hr.own (fun e => ho bk e rfl) _
    · refine (h3 q h1 (by rw [hsz]; exact h2) h4).trans (hoth q ?_)
      omega
  · exact slot_setCell hbk

theorem fdK.step {w wr w2 : World} {v v2 : Value} {x : Sf} {f : Nat → Value} (h : fdK w wr v x f) (hq : ∀ q, w.heap.size ≤ q → q < wr.heap.size → v.ownBlock ≠ some q → q < w2.heap.size ∧ v2.ownBlock ≠ some q ∧ w2.heap[q]? = wr.heap[q]?) : fdK w w2 v2 x f :=
  ⟨⟨h.1.1, fun w3 h3 => h.1.2 w3 fun q h1 h2 h4 => (h3 q h1 (hq q h1 h2 h4).1 (hq q h1 h2 h4).2.1).trans (hq q h1 h2 h4).2.2⟩, h.2⟩

theorem Cols.round {bk : Nat} {W wr w : World} {v v2 : Value} {l : List Sf} {xs : List Value} {x : Sf} {L : Nat → Bool} {vs : Nat → Value} {o : Obj} (h : Cols bk W wr v l xs) (hJ : ColJ bk (wr.alloc o) v l.length xs x L vs w) (e26 : L 26 = true) (e29 : L 29 = true) (h2 : vs 26 = v2) : Cols bk W w v2 (l ++ [x]) (xs ++ (cells7 x (vs 7)).toList) := by
  subst h2
  obtain ⟨hr, hn, ho⟩ := hJ.E e26
  have hs := h.size
  have hA := ext_alloc wr o
  have hk : ∀ q, q < wr.heap.size → q ≠ bk → v.ownBlock ≠ some q → K0 (wr.alloc o) v bk q := fun q h1 h2 h3 => ⟨⟨Nat.lt_of_lt_of_le h1 hA.size, h3⟩, h2⟩
  have hn1 : ∀ q, Ne1 W bk q → K0 (wr.alloc o) v bk q := fun q hq => hk q (Nat.lt_of_lt_of_le hq.1 hs) hq.2 fun e => h.row.off q e hq
  refine ⟨hJ.G e29, ⟨?_, fun g hg hK => hr.off g hg (hn1 g hK), fun q hq => (hr.kept q (hn1 q hq)).trans ((hA.block q (Nat.lt_of_lt_of_le hq.1 hs)).trans (h.row.kept q hq)), fun q hq => hr.lt q (hn1 q hq), hr.os.trans (hA.os.trans h.row.os), hr.tape.trans (hA.tape.trans h.row.tape), hr.output.trans (hA.output.trans h.row.output)⟩, ho, h.lt, ?_⟩
  · rw [List.length_append]; exact hr.own
  · have hold : Rws 7 (fdK W w (vs 26)) l xs := by
      refine ⟨h.els.1, fun j hj => ?_⟩
      obtain ⟨f, hf, hR⟩ := h.els.2 j hj
      refine ⟨f, hf, hR.step fun q h1 h2 h3 => ?_⟩
      have hq := hk q h2 (fun e => by have := h.lt; omega) h3
      exact ⟨hr.lt q hq, fun e => hr.off q e hq, (hr.kept q hq).trans (hA.block q h2)⟩
    refine hold.snoc (f := fun k => (cells7 x (vs 7)).toList.getD k undef) rfl (fun k hk => ?_) ?_
    · match k, hk with
      | 0, _ => rfl
      | 1, _ => rfl
      | 2, _ => rfl
      | 3, _ => rfl
      | 4, _ => rfl
      | 5, _ => rfl
      | 6, _ => rfl
    · refine ⟨?_, rfl, rfl, rfl, rfl, rfl, rfl⟩
      have hs0 : (sby x.name).length = x.name.size := sby_length _
      refine ⟨by show Value.slice _ _ _ = Value.slice _ _ _; rw [hs0]; rfl, fun w3 h3 => hn.2 w3 fun q h1 h4 h5 => h3 q (Nat.le_trans hs (Nat.le_trans hA.size h1)) h4 h5⟩
theorem Cols.rd {bk : Nat} {W w : World} {v : Value} {l : List Sf} {xs : List Value} (h : Cols bk W w v l xs) : RdM 7 isFd w v (l.map toFd) := by
  have h1 : w.ownsRow 0 249 7 v (l.map toFd).length xs := by rw [List.length_map]; exact h.row.own
  refine rdm_of h1 ⟨by rw [List.length_map]; exact h.els.1, fun j hj => ?_⟩
  have hj' : j < l.length := by simpa using hj
  obtain ⟨f, hf, hR⟩ := h.els.2 j hj'
  refine ⟨f, hf, ?_⟩
  rw [List.getElem_map]
  exact ⟨⟨_, _, hR.1.1, hR.1.2 w fun _ _ _ _ => rfl⟩, hR.2⟩
end Go.Proofs.YtdenjanihikolaaGreatDoor

