/- The salt, copied. -/
import Derived.Test.YtdenjanihikolaaGreatDoorVMkh
import Derived.Test.YtdenjanihikolaaGreatDoorVEnca
import Derived.Laws.IdiomCopy
namespace Go.Proofs.YtdenjanihikolaaGreatDoor
open Go.RowKit Og
set_option linter.unusedVariables false
set_option linter.unusedSimpArgs false

theorem copy4 (w : World) (bk b1 o1 c9 : Nat) (d0 d1 d2 d3 : Int) (z : Array Value) (hz : z.size = 4) (hB : w.heap[bk]? = some (.cells z 188 (0, 0))) (h0 : w.cell? ⟨b1, o1, none⟩ = some (.int .u8 d0)) (h1 : w.cell? ⟨b1, o1 + 1, none⟩ = some (.int .u8 d1)) (h2 : w.cell? ⟨b1, o1 + 2, none⟩ = some (.int .u8 d2)) (h3 : w.cell? ⟨b1, o1 + 3, none⟩ = some (.int .u8 d3)) :
    (Builtin.copy_ #[26, 26] 3 #[.slice (some ⟨bk, 0, none⟩) 4 4, .slice (some ⟨b1, o1, none⟩) 4 c9]).run Tryz.prog w = .ok (.int .i64 4) ((((w.setCell ⟨bk, 0, none⟩ (.int .u8 d0)).setCell ⟨bk, 1, none⟩ (.int .u8 d1)).setCell ⟨bk, 2, none⟩ (.int .u8 d2)).setCell ⟨bk, 3, none⟩ (.int .u8 d3)) := by
  have hc : ∀ j, j < 4 → (w.cell? ⟨bk, 0 + j, none⟩).isSome = true := by
    intro j hj
    rw [cell_of_row _ _ _ _ _ _ hB]
    simp; omega
  have := run_copy_cells (P := Tryz.prog) w 26 26 3 5 bk 0 4 4 ⟨b1, o1, none⟩ 4 c9 [.int .u8 d0, .int .u8 d1, .int .u8 d2, .int .u8 d3] Tryz.underlying26 (by kernel_rfl) rfl (by
    intro j v hj
    rw [add_lit0]
    match j, hj with
    | 0, hj => simp at hj; subst hj; exact h0
    | 1, hj => simp at hj; subst hj; exact h1
    | 2, hj => simp at hj; subst hj; exact h2
    | 3, hj => simp at hj; subst hj; exact h3
    | j + 4, hj => simp at hj) hc (fun j hj => free_slot hB _) (by intro v hv; simp at hv; rcases hv with rfl | rfl | rfl | rfl <;> rfl)
  rw [this]
  simp [World.setCells, goInt]
def CpJ (bk : Nat) (W2 : World) (d0 d1 d2 d3 : Int) (L : Nat → Bool) (vs : Nat → Value) (x : World) : Prop :=
  ExtBut bk W2 x ∧ (L 6 = false → Ext W2 x) ∧ (L 6 = true → x.heap[bk]? = some (.cells #[.int .u8 d0, .int .u8 d1, .int .u8 d2, .int .u8 d3] 188 (0, 0)))
theorem CpJ.keep {bk : Nat} {W2 : World} {d0 d1 d2 d3 : Int} {L : Nat → Bool} {vs : Nat → Value} {x : World} (h : CpJ bk W2 d0 d1 d2 d3 L vs x) (i : Nat) (u : Value) (h6 : 6 ≠ i) : CpJ bk W2 d0 d1 d2 d3 (updB L i) (upd vs i u) x := by
  unfold CpJ at *
  simpa [updB, h6] using h
theorem CpJ.start (bk : Nat) (W2 : World) (d0 d1 d2 d3 : Int) : CpJ bk W2 d0 d1 d2 d3 (fun _ => false) (fun _ => undef) W2.drew :=
  ⟨(Ext.refl W2).drew.but, fun _ => (Ext.refl W2).drew, fun h => by cases h⟩
theorem CpJ.cell {bk : Nat} {W2 : World} {d0 d1 d2 d3 : Int} {L : Nat → Bool} {vs : Nat → Value} {x : World} (h : CpJ bk W2 d0 d1 d2 d3 L vs x) {g j : Nat} {v : Value} (hc : W2.cell? ⟨g, j, none⟩ = some v ∧ g ≠ bk) : x.cell? ⟨g, j, none⟩ = some v :=
  (cell_of_heap (h.1.block g (lt_of_cell hc.1) hc.2) j).trans hc.1

set_option maxRecDepth 100000 in
set_option maxHeartbeats 1000000 in
theorem ans32 (a b : ByteArray) (n : Int) (v4 v5 v6 v7 v8 v10 v11 v12 : Value) (d0 d1 d2 d3 : Int) (A9 : Option Addr) (c9 : Nat) (w wa : World) (bk : Nat) (HD : Hid (RdB w (.slice A9 4 c9) [d0, d1, d2, d3])) (hx : Ext w wa) (hbk : w.heap.size ≤ bk) (hblk : wa.heap[bk]? = some (.cells #[.int .u8 0, .int .u8 0, .int .u8 0, .int .u8 0] 188 (0, 0))) (R : List Int) (HR : Hid (R = msgB 82 (b32 5 ++ [d0, d1, d2, d3]))) :
    Calls Tryz.prog 60 #[.iface 185 (.pointer (some ⟨bk, 0, none⟩)), .agg #[.int .i64 32, .string a, .string b, .int .u32 n, v4, v5, v6, v7, v8, .slice A9 4 c9, v10, v11, v12], .bool true] wa (Ans 185 260 bk w R) := by
  obtain ⟨A', c', hv, _, _, h3⟩ := HD.out
  obtain ⟨rfl, rfl⟩ : A9 = A' ∧ c9 = c' := by simpa using hv
  obtain ⟨b1, o1, rfl, hc⟩ := h3 (by simp)
  have hd0 := hc 0 (by simp)
  have hd1 := hc 1 (by simp)
  have hd2 := hc 2 (by simp)
  have hd3 := hc 3 (by simp)
  simp only [List.getD_cons_zero, List.getD_cons_succ, Nat.add_zero] at hd0 hd1 hd2 hd3
  have y185 := yes185
  obtain ⟨W2, hW2⟩ : ∃ W2, W2 = wa.alloc (.cells #[.int .i64 32, .string a, .string b, .int .u32 n, v4, v5, v6, v7, v8, .slice (some ⟨b1, o1, none⟩) 4 c9, v10, v11, v12] 31) := ⟨_, rfl⟩
  have X1 : Hid (Ext wa W2) := Lib.hid (by rw [hW2]; exact ext_alloc wa _)
  have XW : Hid (Ext w W2) := Lib.hid (hx.trans X1.out)
  have HD0 := Lib.hid (XW.out.cell hd0)
  have HD1 := Lib.hid (XW.out.cell hd1)
  have HD2 := Lib.hid (XW.out.cell hd2)
  have HD3 := Lib.hid (XW.out.cell hd3)
  have HB : Hid (W2.heap[bk]? = some (.cells #[.int .u8 0, .int .u8 0, .int .u8 0, .int .u8 0] 188 (0, 0))) := Lib.hid ((X1.out.block _ (lt_of_block hblk)).trans hblk)
  have HO : Hid (W2.heap[wa.heap.size]? = some (.cells #[.int .i64 32, .string a, .string b, .int .u32 n, v4, v5, v6, v7, v8, .slice (some ⟨b1, o1, none⟩) 4 c9, v10, v11, v12] 31 (0, 0))) := Lib.hid (by rw [hW2]; exact heap_alloc_new _ _)
  have HBK := Lib.hid hbk
  have hb3 := cell_slot HO.out 3 (.int .u32 n) rfl
  have HX9 := Lib.hid (And.intro (cell_slot HO.out 9 (.slice (some ⟨b1, o1, none⟩) 4 c9) rfl) (show wa.heap.size ≠ bk by have := lt_of_block hblk; omega))
  clear hx hbk hblk hc h3 hd0 hd1 hd2 hd3 hv
  go_enter Tryz.func60, Tryz.ntmps60
  go_wp2_with (first | (go_at_call 54; rw [← hW2]; clear hW2; refine (let54 n _).mono ?_; rintro e w54 ⟨rfl, hw54⟩; rw [hw54]; clear hw54))
  refine wp_region_ogL (J := CpJ bk W2 d0 d1 d2 d3) (R := fun _ _ => True) [Sp.eq _ (.pointer (some ⟨bk, 0, none⟩)), Sp.eq _ (.pointer (some ⟨bk, 0, none⟩)), Sp.eq _ (.pointer (some ⟨bk, 0, none⟩)), Sp.eq _ (.slice (some ⟨bk, 0, none⟩) 4 4), Sp.eq _ (.pointer (some ⟨wa.heap.size, 9, none⟩)), Sp.eq _ (.slice (some ⟨b1, o1, none⟩) 4 c9), Sp.eq _ (.int .i64 4), Sp.eq _ (.bool true), Sp.eq _ (.bool true), Sp.eq _ (.pointer (some ⟨wa.heap.size, 9, none⟩)), Sp.eq _ (.slice (some ⟨b1, o1, none⟩) 4 c9), Sp.eq _ (.int .i64 4), Sp.eq _ (.bool true), Sp.eq _ (.bool true), Sp.eq _ (.bool true)] (by kernel_rfl) (by kernel_rfl) ?_ ?_ ?_
  · exact CpJ.start bk W2 d0 d1 d2 d3
  · refine ⟨?_, ?_, ?_, ?_, ?_, ?_, ?_, ?_, ?_, ?_, ?_, ?_, ?_, ?_, ?_, trivial⟩
    · intro vs w1 L hLi hd hdt hJ hp
      have HJ := Lib.hid hJ
      clear hp hd hdt hLi hJ
      simp only [putAll, Nat.reduceAdd]
      go_wp2
      exact ⟨rfl, HJ.out.keep 0 _ (by decide), trivial, rfl⟩
    · intro vs w1 L hLi hd hdt hJ hp
      have q0 : vs 0 = .pointer (some ⟨bk, 0, none⟩) := hp 0 (by decide)
      have HJ := Lib.hid hJ
      clear hp hd hdt hLi hJ
      simp only [putAll, Nat.reduceAdd]
      go_wp2
      exact ⟨rfl, HJ.out.keep 1 _ (by decide), trivial, rfl⟩
    · intro vs w1 L hLi hd hdt hJ hp
      have q1 : vs 1 = .pointer (some ⟨bk, 0, none⟩) := hp 1 (by decide)
      have HJ := Lib.hid hJ
      clear hp hd hdt hLi hJ
      simp only [putAll, Nat.reduceAdd]
      go_wp2
      exact ⟨rfl, HJ.out.keep 2 _ (by decide), trivial, rfl⟩
    · intro vs w1 L hLi hd hdt hJ hp
      have q2 : vs 2 = .pointer (some ⟨bk, 0, none⟩) := hp 2 (by decide)
      have HJ := Lib.hid hJ
      clear hp hd hdt hLi hJ
      simp only [putAll, Nat.reduceAdd]
      go_wp2
      exact ⟨rfl, HJ.out.keep 3 _ (by decide), trivial, rfl⟩
    · intro vs w1 L hLi hd hdt hJ hp
      have HJ := Lib.hid hJ
      clear hp hd hdt hLi hJ
      simp only [putAll, Nat.reduceAdd]
      go_wp2
      exact ⟨rfl, HJ.out.keep 4 _ (by decide), trivial, rfl⟩
    · intro vs w1 L hLi hd hdt hJ hp
      have q4 : vs 4 = .pointer (some ⟨wa.heap.size, 9, none⟩) := hp 4 (by decide)
      have HJ := Lib.hid hJ
      have hq := hJ.cell HX9.out
      clear hp hd hdt hLi hJ
      simp only [putAll, Nat.reduceAdd]
      go_wp2
      exact ⟨rfl, HJ.out.keep 5 _ (by decide), trivial, rfl⟩
    · intro vs w1 L hLi hd hdt hJ hp
      have q3 : vs 3 = .slice (some ⟨bk, 0, none⟩) 4 4 := hp 3 (by decide)
      have q5 : vs 5 = .slice (some ⟨b1, o1, none⟩) 4 c9 := hp 5 (by decide)
      have HJ := Lib.hid hJ
      have HX := Lib.hid (hJ.2.1 hLi)
      have hB := (HX.out.block _ (lt_of_block HB.out)).trans HB.out
      have hz0 := cell_slot hB 0 (.int .u8 0) rfl
      have hz1 := cell_slot hB 1 (.int .u8 0) rfl
      have hz2 := cell_slot hB 2 (.int .u8 0) rfl
      have hz3 := cell_slot hB 3 (.int .u8 0) rfl
      have hy0 := free_slot hB 0
      have hy1 := free_slot hB 1
      have hy2 := free_slot hB 2
      have hy3 := free_slot hB 3
      have hd0 := HX.out.cell HD0.out
      have hd1 := HX.out.cell HD1.out
      have hd2 := HX.out.cell HD2.out
      have hd3 := HX.out.cell HD3.out
      have hcp := copy4 w1 bk b1 o1 c9 d0 d1 d2 d3 _ rfl hB hd0 hd1 hd2 hd3
      have HBB := Lib.hid hB
      clear hB hd0 hd1 hd2 hd3
      clear hp hd hdt hLi hJ
      simp only [putAll, Nat.reduceAdd]
      go_wp2
      refine ⟨rfl, ⟨?_, ?_, ?_⟩, trivial, rfl⟩
      · exact (((HX.out.but.set 0 _).set 1 _).set 2 _).set 3 _
      · intro h; exact absurd h (by simp [updB])
      · intro _; exact slot_setCell (slot_setCell (slot_setCell (slot_setCell HBB.out)))
    · intro vs w1 L hLi hd hdt hJ hp
      have q6 : vs 6 = .int .i64 4 := hp 6 (by decide)
      have HJ := Lib.hid hJ
      clear hp hd hdt hLi hJ
      simp only [putAll, Nat.reduceAdd]
      go_wp2
      exact ⟨rfl, HJ.out.keep 7 _ (by decide), trivial, rfl⟩
    · intro vs w1 L hLi hd hdt hJ hp
      have q6 : vs 6 = .int .i64 4 := hp 6 (by decide)
      have q7 : vs 7 = .bool true := hp 7 (by decide)
      have HJ := Lib.hid hJ
      clear hp hd hdt hLi hJ
      simp only [putAll, Nat.reduceAdd]
      go_wp2
      exact ⟨rfl, HJ.out.keep 8 _ (by decide), trivial, rfl⟩
    · intro vs w1 L hLi hd hdt hJ hp
      have q8 : vs 8 = .bool true := hp 8 (by decide)
      have HJ := Lib.hid hJ
      clear hp hd hdt hLi hJ
      simp only [putAll, Nat.reduceAdd]
      go_wp2
      exact ⟨rfl, HJ.out.keep 9 _ (by decide), trivial, rfl⟩
    · intro vs w1 L hLi hd hdt hJ hp
      have q8 : vs 8 = .bool true := hp 8 (by decide)
      have q9 : vs 9 = .pointer (some ⟨wa.heap.size, 9, none⟩) := hp 9 (by decide)
      have HJ := Lib.hid hJ
      have hq := hJ.cell HX9.out
      clear hp hd hdt hLi hJ
      simp only [putAll, Nat.reduceAdd]
      go_wp2
      exact ⟨rfl, HJ.out.keep 10 _ (by decide), trivial, rfl⟩
    · intro vs w1 L hLi hd hdt hJ hp
      have q8 : vs 8 = .bool true := hp 8 (by decide)
      have q10 : vs 10 = .slice (some ⟨b1, o1, none⟩) 4 c9 := hp 10 (by decide)
      have HJ := Lib.hid hJ
      clear hp hd hdt hLi hJ
      simp only [putAll, Nat.reduceAdd]
      go_wp2
      exact ⟨rfl, HJ.out.keep 11 _ (by decide), trivial, rfl⟩
    · intro vs w1 L hLi hd hdt hJ hp
      have q8 : vs 8 = .bool true := hp 8 (by decide)
      have q11 : vs 11 = .int .i64 4 := hp 11 (by decide)
      have HJ := Lib.hid hJ
      clear hp hd hdt hLi hJ
      simp only [putAll, Nat.reduceAdd]
      go_wp2
      exact ⟨rfl, HJ.out.keep 12 _ (by decide), trivial, rfl⟩
    · intro vs w1 L hLi hd hdt hJ hp
      have q8 : vs 8 = .bool true := hp 8 (by decide)
      have q12 : vs 12 = .bool true := hp 12 (by decide)
      have HJ := Lib.hid hJ
      clear hp hd hdt hLi hJ
      simp only [putAll, Nat.reduceAdd]
      go_wp2
      exact ⟨rfl, HJ.out.keep 13 _ (by decide), trivial, rfl⟩
    · intro vs w1 L hLi hd hdt hJ hp
      have q0 : vs 0 = .pointer (some ⟨bk, 0, none⟩) := hp 0 (by decide)
      have q1 : vs 1 = .pointer (some ⟨bk, 0, none⟩) := hp 1 (by decide)
      have q2 : vs 2 = .pointer (some ⟨bk, 0, none⟩) := hp 2 (by decide)
      have q3 : vs 3 = .slice (some ⟨bk, 0, none⟩) 4 4 := hp 3 (by decide)
      have q4 : vs 4 = .pointer (some ⟨wa.heap.size, 9, none⟩) := hp 4 (by decide)
      have q5 : vs 5 = .slice (some ⟨b1, o1, none⟩) 4 c9 := hp 5 (by decide)
      have q6 : vs 6 = .int .i64 4 := hp 6 (by decide)
      have q7 : vs 7 = .bool true := hp 7 (by decide)
      have q8 : vs 8 = .bool true := hp 8 (by decide)
      have q9 : vs 9 = .pointer (some ⟨wa.heap.size, 9, none⟩) := hp 9 (by decide)
      have q10 : vs 10 = .slice (some ⟨b1, o1, none⟩) 4 c9 := hp 10 (by decide)
      have q11 : vs 11 = .int .i64 4 := hp 11 (by decide)
      have q12 : vs 12 = .bool true := hp 12 (by decide)
      have q13 : vs 13 = .bool true := hp 13 (by decide)
      have HJ := Lib.hid hJ
      clear hp hd hdt hLi hJ
      simp only [putAll, Nat.reduceAdd]
      go_wp2
      exact ⟨rfl, HJ.out.keep 14 _ (by decide), trivial, rfl⟩
  · intro vs w1 L hall hJ hp
    have q0 : vs 0 = .pointer (some ⟨bk, 0, none⟩) := hp 0 (by decide)
    have q1 : vs 1 = .pointer (some ⟨bk, 0, none⟩) := hp 1 (by decide)
    have q2 : vs 2 = .pointer (some ⟨bk, 0, none⟩) := hp 2 (by decide)
    have q3 : vs 3 = .slice (some ⟨bk, 0, none⟩) 4 4 := hp 3 (by decide)
    have q4 : vs 4 = .pointer (some ⟨wa.heap.size, 9, none⟩) := hp 4 (by decide)
    have q5 : vs 5 = .slice (some ⟨b1, o1, none⟩) 4 c9 := hp 5 (by decide)
    have q6 : vs 6 = .int .i64 4 := hp 6 (by decide)
    have q7 : vs 7 = .bool true := hp 7 (by decide)
    have q8 : vs 8 = .bool true := hp 8 (by decide)
    have q9 : vs 9 = .pointer (some ⟨wa.heap.size, 9, none⟩) := hp 9 (by decide)
    have q10 : vs 10 = .slice (some ⟨b1, o1, none⟩) 4 c9 := hp 10 (by decide)
    have q11 : vs 11 = .int .i64 4 := hp 11 (by decide)
    have q12 : vs 12 = .bool true := hp 12 (by decide)
    have q13 : vs 13 = .bool true := hp 13 (by decide)
    have q14 : vs 14 = .bool true := hp 14 (by decide)
    have h6 := hall 6 (by decide)
    have HJ := Lib.hid (And.intro hJ.1 (hJ.2.2 h6))
    clear hJ hp hall h6
    simp only [putAll, Nat.reduceAdd]
    simp only [Exit.inBlock, Exit.then]
    try go_at_K
    simp only [Act.put, q0, q1, q2, q3, q4, q5, q6, q7, q8, q9, q10, q11, q12, q13, q14, List.setIfInBounds_toArray, List.set_cons_zero, List.set_cons_succ]
    clear q0 q1 q2 q3 q4 q5 q6 q7 q8 q9 q10 q11 q12 q13 q14
    go_wp2
    go_ret2
    refine ⟨rfl, HJ.out.1.ext XW.out HBK.out, ?_⟩
    exact encAuthMD5 _ d0 d1 d2 d3 _ (cell_slot HJ.out.2 0 _ rfl) (cell_slot HJ.out.2 1 _ rfl) (cell_slot HJ.out.2 2 _ rfl) (cell_slot HJ.out.2 3 _ rfl) R HR
end Go.Proofs.YtdenjanihikolaaGreatDoor

