/- Encode of the thin package, over the method's contract. -/
import Derived.Test.YtdenjanihikolaaGreatDoorMsg
import Derived.Defers
import Derived.Recover
namespace Go.Proofs.YtdenjanihikolaaGreatDoor
open Go.RowKit
set_option linter.unusedVariables false
set_option linter.unusedSimpArgs false

theorem Ext.set {w W : World} (h : Ext w W) {b : Nat} (hb : w.heap.size ≤ b) (j : Nat) (v : Value) : Ext w (W.setCell ⟨b, j, none⟩ v) :=
  ((Same.refl b W).set j v).ext h hb
theorem cell_of_heap {w w' : World} {b : Nat} (h : w'.heap[b]? = w.heap[b]?) (j : Nat) : w'.cell? ⟨b, j, none⟩ = w.cell? ⟨b, j, none⟩ := by
  simp only [World.cell?, h]
theorem RdB.set {w : World} {v : Value} {xs : List Int} (h : RdB w v xs) {b : Nat} {u0 : Value} {t : TypeId} (hb : w.heap[b]? = some (.cells #[u0] t (0, 0))) (hn : ∀ x, u0 ≠ .int .u8 x) (u : Value) : RdB (w.setCell ⟨b, 0, none⟩ u) v xs := by
  obtain ⟨A, c, hv, h1, h2, h3⟩ := h
  refine ⟨A, c, hv, h1, h2, fun hp => ?_⟩
  obtain ⟨b', off, hA, hc⟩ := h3 hp
  refine ⟨b', off, hA, fun j hj => ?_⟩
  by_cases he : b' = b
  · subst he
    have h4 := hc j hj
    rw [cell_of_row _ _ _ _ _ _ hb] at h4
    rcases hq : off + j with _ | q
    · rw [hq] at h4
      exact absurd (Option.some.inj h4) (hn _)
    · rw [hq] at h4
      simp at h4
  · rw [cell_of_heap (heap_setCell_other w ⟨b, 0, none⟩ b' u he)]
    exact hc j hj

theorem idle33 (p q : Addr) (w : World) : CallsD Tryz.prog 33 #[.pointer (some p), .pointer (some q)] .returning w fun e u' w' => e = .returned (.tuple #[]) ∧ u' = .returning ∧ w' = w := by
  refine callsD_of_wpS Tryz.func33 rfl fun c₀ cs hu => ?_
  apply wpS_seq
  apply wpS_region
  simp [wpOpsS, go_sem, recoverD, hu, Tryz.ntmps33, Exit.thenS]
  refine wpS_cond (t := false) (by simp [Act.eval, Array.replicate]) ?_
  simp only [Bool.false_eq_true, if_false]
  refine wpS_of_wp (wp_skip ?_)
  cases c₀
  simp_all [bodyPostS, results, Tryz.results33]

/-- What Encode of the thin package hands back where it can. -/
def Encs (w : World) (R : List Int) : Ending → World → Prop := fun e w' => ∃ A c, e = .returned (.tuple #[.slice A R.length c, .bool true]) ∧ Ext w w' ∧ RdB w' (.slice A R.length c) R
/-- What made hands back: a message, whose method has its contract. -/
def Made (T FN : Nat) (w : World) (R : List Int) : Ending → World → Prop := fun e w2 => ∃ b, e = .returned (.tuple #[.iface T (.pointer (some ⟨b, 0, none⟩)), .bool true]) ∧ Ext w w2 ∧ Calls Tryz.prog FN #[.pointer (some ⟨b, 0, none⟩), .slice none 0 0] w2 (Gives w2 R)

set_option maxRecDepth 100000 in
set_option maxHeartbeats 1000000 in
theorem enc14 (T FN : Nat) (v0 v1 v2 v3 v4 v5 v6 v7 v8 v9 v10 v11 v12 : Value) (w : World) (R : List Int)
   (hmeth : ∀ b w, (method 480 T (.pointer (some ⟨b, 0, none⟩)) "Encode").run Tryz.prog w = .ok (FN, .pointer (some ⟨b, 0, none⟩)) w)
   (hcall : ∀ args w, (callFunc FN args).run Tryz.prog w = .ok (.enter FN args) w)
   (hM : ∀ w', Ext w w' → Calls Tryz.prog 34 #[.agg #[v0, v1, v2, v3, v4, v5, v6, v7, v8, v9, v10, v11, v12]] w' (Made T FN w' R)) :
    Calls Tryz.prog 14 #[.agg #[v0, v1, v2, v3, v4, v5, v6, v7, v8, v9, v10, v11, v12]] w (Encs w R) := by
  have hmf : ∀ (fn : Fn) (first cap : Array Value) (w : World), (Instr.makeFunc fn first cap).run Tryz.prog w = .ok (.func fn first cap) w := fun _ _ _ _ => rfl
  have HM := Lib.hid hM
  clear hM
  obtain ⟨W3, hW3⟩ : ∃ W3, W3 = (((w.alloc (.cells #[v0, v1, v2, v3, v4, v5, v6, v7, v8, v9, v10, v11, v12] 31)).alloc (.cells #[.slice none 0 0] 26)).alloc (.cells #[.bool false] 4)) := ⟨_, rfl⟩
  have E3 : Hid (Ext w W3) := Lib.hid (by rw [hW3]; exact ((ext_alloc w _).alloc _).alloc _)
  have B2 : Hid (W3.heap[w.heap.size + 1]? = some (.cells #[.slice none 0 0] 26 (0, 0))) := Lib.hid (by
    rw [hW3]
    have e1 := (ext_alloc ((w.alloc (.cells #[v0, v1, v2, v3, v4, v5, v6, v7, v8, v9, v10, v11, v12] 31)).alloc (.cells #[.slice none 0 0] 26)) (.cells #[.bool false] 4)).block (w.heap.size + 1) (by simp)
    rw [e1]
    have := heap_alloc_new (w.alloc (.cells #[v0, v1, v2, v3, v4, v5, v6, v7, v8, v9, v10, v11, v12] 31)) (.cells #[.slice none 0 0] 26)
    simpa using this)
  have B3 : Hid (W3.heap[w.heap.size + 1 + 1]? = some (.cells #[.bool false] 4 (0, 0))) := Lib.hid (by
    rw [hW3]
    have := heap_alloc_new ((w.alloc (.cells #[v0, v1, v2, v3, v4, v5, v6, v7, v8, v9, v10, v11, v12] 31)).alloc (.cells #[.slice none 0 0] 26)) (.cells #[.bool false] 4)
    simpa using this)
  go_enter_defers Tryz.func14, Tryz.ntmps14
  go_wp2_with (first | (go_at_call 34; rw [← hW3]; refine (HM.out _ E3.out).mono ?_; rintro e w1 ⟨b, rfl, hx, hcc⟩; have HX := Lib.hid hx; have HC := Lib.hid hcc; clear hx hcc) | (refine (HC.out).mono ?_; rintro e w2 ⟨vb, rfl, hx2, hrb⟩; have HX2 := Lib.hid (HX.out.trans hx2); have HR := Lib.hid hrb; obtain ⟨A1, c1, rfl⟩ : ∃ A c, vb = .slice A R.length c := (match hrb with | ⟨A, c, hv, _⟩ => ⟨A, c, hv⟩); clear hx2 hrb; have hb2 := HX2.out.cell (cell_slot B2.out 0 _ rfl); have hf2 := free_slot ((HX2.out.block _ (lt_of_block B2.out)).trans B2.out) 0; have hb3 := HX2.out.cell (cell_slot B3.out 0 _ rfl); have hf3 := free_slot ((HX2.out.block _ (lt_of_block B3.out)).trans B3.out) 0))
  refine leaves_cons (f := 33) (args := #[.pointer (some ⟨w.heap.size + 1, 0, none⟩), .pointer (some ⟨w.heap.size + 1 + 1, 0, none⟩)]) (by simp) (by simp [go_sem]) ?_
  refine (idle33 _ _ _).mono ?_
  rintro e u' w'' ⟨rfl, rfl, rfl⟩
  have hfin : Encs w R (.returned (.tuple #[.slice A1 R.length c1, .bool true])) (((w2.setCell ⟨w.heap.size + 1, 0, none⟩ (.slice A1 R.length c1)).setCell ⟨w.heap.size + 1, 0, none⟩ (.slice A1 R.length c1)).setCell ⟨w.heap.size + 1 + 1, 0, none⟩ (.bool true)) := by
    have k2 := (HX2.out.block _ (lt_of_block B2.out)).trans B2.out
    have k3 := (HX2.out.block _ (lt_of_block B3.out)).trans B3.out
    have s1 := slot_setCell (j := 0) (u := .slice A1 R.length c1) k2
    have s3 := ((Same.refl (w.heap.size + 1) w2).set 0 (.slice A1 R.length c1)).set 0 (.slice A1 R.length c1)
    refine ⟨A1, c1, rfl, ?_, ?_⟩
    · exact (((E3.out.trans HX2.out).set (by omega) _ _).set (by omega) _ _).set (by omega) _ _
    · refine RdB.set (RdB.set (RdB.set HR.out k2 (fun x h => by cases h) _) s1 (fun x h => by cases h) _) (t := 4) (u0 := .bool false) ?_ (fun x h => by cases h) _
      exact (s3.other _ (by omega)).trans k3
  have HF := Lib.hid hfin
  clear hfin
  simp [Leaves, settle, results, Tryz.results14, go_sem, hb2, hb3]
  exact HF.out
end Go.Proofs.YtdenjanihikolaaGreatDoor
