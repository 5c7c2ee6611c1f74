/- Encode of the thin package, over the method's contract. -/
import Derived.Test.YtdenjanihikolaaGreatDoorUGr
import Derived.Test.YtdenjanihikolaaGreatDoorUBya
import Derived.Defers
import Derived.Recover
namespace Go.Proofs.YtdenjanihikolaaGreatDoor
open Go.RowKit
set_option linter.unusedVariables false
set_option linter.unusedSimpArgs false

theorem Slot.start {e size : Nat} {W : World} {pb : Nat} (c : Value → Array Value) (h : W.heap[pb]? = some (.cells (c (.slice none 0 0)) 37 (0, 0))) : Slot e size W W pb c (.slice none 0 0) 0 [] :=
  ⟨h, ⟨World.ownsRow_nil _ _ _ _, fun g hg => by simp [Value.ownBlock] at hg, fun _ _ => rfl, fun k hk => hk.1, rfl, rfl, rfl⟩, fun g hg => by simp [Value.ownBlock] at hg, lt_of_block h⟩
theorem Slot.below {e size : Nat} {w W wr : World} {pb : Nat} {c : Value → Array Value} {v : Value} {n : Nat} {xs : List Value} (h : Slot e size W wr pb c v n xs) (hW : Ext w W) (hp : w.heap.size ≤ pb) : Ext w wr :=
  ⟨h.row.os.trans hW.os, h.row.tape.trans hW.tape, h.row.output.trans hW.output, Nat.le_of_not_lt fun hl => Nat.lt_irrefl _ (h.size_le _ (Nat.lt_of_lt_of_le hl hW.size)),
    fun k hk => (h.row.kept k ⟨Nat.lt_of_lt_of_le hk hW.size, by omega⟩).trans (hW.block k hk)⟩
/-- a block that the loop does not turn -/
theorem Slot.old {e size : Nat} {W wr : World} {pb : Nat} {c : Value → Array Value} {v : Value} {n : Nat} {xs : List Value} (h : Slot e size W wr pb c v n xs) {k : Nat} (hk : k < W.heap.size) (hp : k ≠ pb) : wr.heap[k]? = W.heap[k]? := h.row.kept k ⟨hk, hp⟩
theorem Slot.cell {e size : Nat} {W wr : World} {pb : Nat} {c : Value → Array Value} {v : Value} {n : Nat} {xs : List Value} (h : Slot e size W wr pb c v n xs) (o : Obj) (j : Nat) (u : Value) (hu : (c v)[j]? = some u) : (wr.alloc o).cell? ⟨pb, j, none⟩ = some u := (ext_alloc _ _).cell ((cell_of_row _ _ _ _ _ _ h.blk).trans hu)
theorem Slot.cell0 {e size : Nat} {W wr : World} {pb : Nat} {c : Value → Array Value} {v : Value} {n : Nat} {xs : List Value} (h : Slot e size W wr pb c v n xs) (j : Nat) (u : Value) (hu : (c v)[j]? = some u) : wr.cell? ⟨pb, j, none⟩ = some u := (cell_of_row _ _ _ _ _ _ h.blk).trans hu
/-- a row of the loop before is kept by the next loop -/
theorem Slot.keep {e size e' size' : Nat} {W wr wr2 : World} {pb : Nat} {c c' : Value → Array Value} {v v' : Value} {n n' : Nat} {xs xs' : List Value} (h : Slot e size W wr pb c v n xs) (h2 : Slot e' size' wr wr2 pb c' v' n' xs') : wr2.ownsRow 0 e size v n xs :=
  own_keep h.row.own fun g hg => h2.old (h.row.own.lt g hg).2 (h.off g hg)
theorem Slot.own {e size : Nat} {W wr : World} {pb : Nat} {c : Value → Array Value} {v : Value} {n : Nat} {xs : List Value} (h : Slot e size W wr pb c v n xs) : wr.ownsRow 0 e size v n xs := h.row.own
theorem Slot.le {e size : Nat} {W wr : World} {pb : Nat} {c : Value → Array Value} {v : Value} {n : Nat} {xs : List Value} (h : Slot e size W wr pb c v n xs) : W.heap.size ≤ wr.heap.size := Nat.le_of_not_lt fun hl => Nat.lt_irrefl _ (h.size_le _ hl)
/-- One block alone may have turned. -/
structure Same (b : Nat) (W W' : World) : Prop where
  other : ∀ k, k ≠ b → W'.heap[k]? = W.heap[k]?
  size : W'.heap.size = W.heap.size
  os : W'.os = W.os
  tape : W'.tape = W.tape
  output : W'.output = W.output
theorem Same.refl (b : Nat) (W : World) : Same b W W := ⟨fun _ _ => rfl, rfl, rfl, rfl, rfl⟩
theorem Same.set {b : Nat} {W W1 : World} (h : Same b W W1) (j : Nat) (v : Value) : Same b W (W1.setCell ⟨b, j, none⟩ v) :=
  ⟨fun k hk => (heap_setCell_other W1 ⟨b, j, none⟩ k v hk).trans (h.other k hk), by rw [← h.size]; simp [World.setCell], h.os, h.tape, h.output⟩
theorem Same.ext {b : Nat} {w W W' : World} (h : Same b W W') (hx : Ext w W) (hb : w.heap.size ≤ b) : Ext w W' :=
  ⟨h.os.trans hx.os, h.tape.trans hx.tape, h.output.trans hx.output, by rw [h.size]; exact hx.size, fun k hk => (h.other k (by omega)).trans (hx.block k hk)⟩
theorem Rws.mono {α : Type} {size : Nat} {R R' : α → (Nat → Value) → Prop} {l : List α} {xs : List Value} (h : Rws size R l xs) (hR : ∀ x f, R x f → R' x f) : Rws size R' l xs :=
  ⟨h.1, fun j hj => by obtain ⟨f, h1, h2⟩ := h.2 j hj; exact ⟨f, h1, hR _ _ h2⟩⟩
theorem und37 : (match Tryz.prog.underlying 37 with | some d => (match d with | .struct _ | .array _ _ => true | _ => false) | none => false) = true := by kernel_rfl
theorem size37 : (Tryz.prog.info? 37).map (·.size) = some 12 := by kernel_rfl
theorem set12 (z0 z1 z2 z3 z4 z5 z6 z7 z8 z9 z10 z11 a0 a1 a2 a3 a4 a5 a6 a7 a8 a9 a10 a11 : Value) : ((((((((((((#[z0, z1, z2, z3, z4, z5, z6, z7, z8, z9, z10, z11].setIfInBounds 0 a0).setIfInBounds 1 a1).setIfInBounds 2 a2).setIfInBounds 3 a3).setIfInBounds 4 a4).setIfInBounds 5 a5).setIfInBounds 6 a6).setIfInBounds 7 a7).setIfInBounds 8 a8).setIfInBounds 9 a9).setIfInBounds 10 a10).setIfInBounds 11 a11) = #[a0, a1, a2, a3, a4, a5, a6, a7, a8, a9, a10, a11] := by
  simp only [List.setIfInBounds_toArray, List.set_cons_zero, List.set_cons_succ]
end Go.Proofs.YtdenjanihikolaaGreatDoor

namespace Go.Proofs.YtdenjanihikolaaGreatDoor
open Go.RowKit
set_option linter.unusedVariables false
set_option linter.unusedSimpArgs false

theorem Ext.set {w W : World} (h : Ext w W) {b : Nat} (hb : w.heap.size ≤ b) (j : Nat) (v : Value) : Ext w (W.setCell ⟨b, j, none⟩ v) :=
  ((Same.refl b W).set j v).ext h hb
theorem cell_of_heap {w w' : World} {b : Nat} (h : w'.heap[b]? = w.heap[b]?) (j : Nat) : w'.cell? ⟨b, j, none⟩ = w.cell? ⟨b, j, none⟩ := by
  simp only [World.cell?, h]
theorem RdB.set {w : World} {v : Value} {xs : List Int} (h : RdB w v xs) {b : Nat} {u0 : Value} {t : TypeId} (hb : w.heap[b]? = some (.cells #[u0] t (0, 0))) (hn : ∀ x, u0 ≠ .int .u8 x) (u : Value) : RdB (w.setCell ⟨b, 0, none⟩ u) v xs := by
  obtain ⟨A, c, hv, h1, h2, h3⟩ := h
  refine ⟨A, c, hv, h1, h2, fun hp => ?_⟩
  obtain ⟨b', off, hA, hc⟩ := h3 hp
  refine ⟨b', off, hA, fun j hj => ?_⟩
  by_cases he : b' = b
  · subst he
    have h4 := hc j hj
    rw [cell_of_row _ _ _ _ _ _ hb] at h4
    rcases hq : off + j with _ | q
    · rw [hq] at h4
      exact absurd (Option.some.inj h4) (hn _)
    · rw [hq] at h4
      simp at h4
  · rw [cell_of_heap (heap_setCell_other w ⟨b, 0, none⟩ b' u he)]
    exact hc j hj

theorem idle33 (p q : Addr) (w : World) : CallsD Tryz.prog 33 #[.pointer (some p), .pointer (some q)] .returning w fun e u' w' => e = .returned (.tuple #[]) ∧ u' = .returning ∧ w' = w := by
  refine callsD_of_wpS Tryz.func33 rfl fun c₀ cs hu => ?_
  apply wpS_seq
  apply wpS_region
  simp [wpOpsS, go_sem, recoverD, hu, Tryz.ntmps33, Exit.thenS]
  refine wpS_cond (t := false) (by simp [Act.eval, Array.replicate]) ?_
  simp only [Bool.false_eq_true, if_false]
  refine wpS_of_wp (wp_skip ?_)
  cases c₀
  simp_all [bodyPostS, results, Tryz.results33]

/-- What Encode of the thin package hands back where it can. -/
def Encs (w : World) (R : List Int) : Ending → World → Prop := fun e w' => ∃ A c, e = .returned (.tuple #[.slice A R.length c, .bool true]) ∧ Ext w w' ∧ RdB w' (.slice A R.length c) R
/-- What made hands back: a message, whose method has its contract. -/
def Made (T FN : Nat) (w : World) (R : List Int) : Ending → World → Prop := fun e w2 => ∃ b, e = .returned (.tuple #[.iface T (.pointer (some ⟨b, 0, none⟩)), .bool true]) ∧ Ext w w2 ∧ Calls Tryz.prog FN #[.pointer (some ⟨b, 0, none⟩), .slice none 0 0] w2 (Gives w2 R)

set_option maxRecDepth 100000 in
set_option maxHeartbeats 1000000 in
theorem enc14 (T FN : Nat) (v0 v1 v2 v3 v4 v5 v6 v7 v8 v9 v10 v11 v12 : Value) (w : World) (R : List Int)
   (hmeth : ∀ b w, (method 480 T (.pointer (some ⟨b, 0, none⟩)) "Encode").run Tryz.prog w = .ok (FN, .pointer (some ⟨b, 0, none⟩)) w)
   (hcall : ∀ args w, (callFunc FN args).run Tryz.prog w = .ok (.enter FN args) w)
   (hM : ∀ w', Ext w w' → Calls Tryz.prog 34 #[.agg #[v0, v1, v2, v3, v4, v5, v6, v7, v8, v9, v10, v11, v12]] w' (Made T FN w' R)) :
    Calls Tryz.prog 14 #[.agg #[v0, v1, v2, v3, v4, v5, v6, v7, v8, v9, v10, v11, v12]] w (Encs w R) := by
  have hmf : ∀ (fn : Fn) (first cap : Array Value) (w : World), (Instr.makeFunc fn first cap).run Tryz.prog w = .ok (.func fn first cap) w := fun _ _ _ _ => rfl
  have HM := Lib.hid hM
  clear hM
  obtain ⟨W3, hW3⟩ : ∃ W3, W3 = (((w.alloc (.cells #[v0, v1, v2, v3, v4, v5, v6, v7, v8, v9, v10, v11, v12] 31)).alloc (.cells #[.slice none 0 0] 26)).alloc (.cells #[.bool false] 4)) := ⟨_, rfl⟩
  have E3 : Hid (Ext w W3) := Lib.hid (by rw [hW3]; exact ((ext_alloc w _).alloc _).alloc _)
  have B2 : Hid (W3.heap[w.heap.size + 1]? = some (.cells #[.slice none 0 0] 26 (0, 0))) := Lib.hid (by
    rw [hW3]
    have e1 := (ext_alloc ((w.alloc (.cells #[v0, v1, v2, v3, v4, v5, v6, v7, v8, v9, v10, v11, v12] 31)).alloc (.cells #[.slice none 0 0] 26)) (.cells #[.bool false] 4)).block (w.heap.size + 1) (by simp)
    rw [e1]
    have := heap_alloc_new (w.alloc (.cells #[v0, v1, v2, v3, v4, v5, v6, v7, v8, v9, v10, v11, v12] 31)) (.cells #[.slice none 0 0] 26)
    simpa using this)
  have B3 : Hid (W3.heap[w.heap.size + 1 + 1]? = some (.cells #[.bool false] 4 (0, 0))) := Lib.hid (by
    rw [hW3]
    have := heap_alloc_new ((w.alloc (.cells #[v0, v1, v2, v3, v4, v5, v6, v7, v8, v9, v10, v11, v12] 31)).alloc (.cells #[.slice none 0 0] 26)) (.cells #[.bool false] 4)
    simpa using this)
  go_enter_defers Tryz.func14, Tryz.ntmps14
  go_wp2_with (first | (go_at_call 34; rw [← hW3]; refine (HM.out _ E3.out).mono ?_; rintro e w1 ⟨b, rfl, hx, hcc⟩; have HX := Lib.hid hx; have HC := Lib.hid hcc; clear hx hcc) | (refine (HC.out).mono ?_; rintro e w2 ⟨vb, rfl, hx2, hrb⟩; have HX2 := Lib.hid (HX.out.trans hx2); have HR := Lib.hid hrb; obtain ⟨A1, c1, rfl⟩ : ∃ A c, vb = .slice A R.length c := (match hrb with | ⟨A, c, hv, _⟩ => ⟨A, c, hv⟩); clear hx2 hrb; have hb2 := HX2.out.cell (cell_slot B2.out 0 _ rfl); have hf2 := free_slot ((HX2.out.block _ (lt_of_block B2.out)).trans B2.out) 0; have hb3 := HX2.out.cell (cell_slot B3.out 0 _ rfl); have hf3 := free_slot ((HX2.out.block _ (lt_of_block B3.out)).trans B3.out) 0))
  refine leaves_cons (f := 33) (args := #[.pointer (some ⟨w.heap.size + 1, 0, none⟩), .pointer (some ⟨w.heap.size + 1 + 1, 0, none⟩)]) (by simp) (by simp [go_sem]) ?_
  refine (idle33 _ _ _).mono ?_
  rintro e u' w'' ⟨rfl, rfl, rfl⟩
  have hfin : Encs w R (.returned (.tuple #[.slice A1 R.length c1, .bool true])) (((w2.setCell ⟨w.heap.size + 1, 0, none⟩ (.slice A1 R.length c1)).setCell ⟨w.heap.size + 1, 0, none⟩ (.slice A1 R.length c1)).setCell ⟨w.heap.size + 1 + 1, 0, none⟩ (.bool true)) := by
    have k2 := (HX2.out.block _ (lt_of_block B2.out)).trans B2.out
    have k3 := (HX2.out.block _ (lt_of_block B3.out)).trans B3.out
    have s1 := slot_setCell (j := 0) (u := .slice A1 R.length c1) k2
    have s3 := ((Same.refl (w.heap.size + 1) w2).set 0 (.slice A1 R.length c1)).set 0 (.slice A1 R.length c1)
    refine ⟨A1, c1, rfl, ?_, ?_⟩
    · exact (((E3.out.trans HX2.out).set (by omega) _ _).set (by omega) _ _).set (by omega) _ _
    · refine RdB.set (RdB.set (RdB.set HR.out k2 (fun x h => by cases h) _) s1 (fun x h => by cases h) _) (t := 4) (u0 := .bool false) ?_ (fun x h => by cases h) _
      exact (s3.other _ (by omega)).trans k3
  have HF := Lib.hid hfin
  clear hfin
  simp [Leaves, settle, results, Tryz.results14, go_sem, hb2, hb3]
  exact HF.out
end Go.Proofs.YtdenjanihikolaaGreatDoor

