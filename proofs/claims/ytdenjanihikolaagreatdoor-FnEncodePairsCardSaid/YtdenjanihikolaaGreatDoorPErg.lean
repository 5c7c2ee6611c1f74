/- Numerals of at most nine digits: read and written again, the same. -/
import Derived.Test.YtdenjanihikolaaGreatDoorPBase
import Derived.Test.YtdenjanihikolaaGreatDoorPDcp
import Derived.Lib.ParseIntB
import Derived.Lib.ItoaNum
import Derived.Lib.ItoaMem
import Derived.Test.YtdenjanihikolaaGreatDoorPFit
namespace Go.Proofs.YtdenjanihikolaaGreatDoor
set_option linter.unusedVariables false
set_option linter.unusedSimpArgs false
open Go.RowKit Og
set_option linter.unusedVariables false
set_option linter.unusedSimpArgs false
def mapB : Value → Nat
  | .map (some b) => b
  | _ => 0
structure MapJ (eb : Nat) (tab : List (Nat × Int × Nat)) (mi ai : Nat) (W0 : World) (L : Nat → Bool) (vs : Nat → Value) (w : World) : Prop where
  A : Ext W0 w
  B : L 0 = true → vs 0 = .map (some (mapB (vs 0))) ∧ W0.heap.size ≤ mapB (vs 0) ∧ MapOwn eb tab L (mapB (vs 0)) w
  C : L mi = true → vs mi = vs 0
  D : L ai = true → vs ai = vs 0
theorem MapJ.start (eb : Nat) (tab : List (Nat × Int × Nat)) (mi ai : Nat) (W0 : World) (vs : Nat → Value) : MapJ eb tab mi ai W0 (fun _ => false) vs W0.drew :=
  ⟨(Ext.refl W0).drew, (nofun), (nofun), (nofun)⟩
theorem MapJ.keep {eb : Nat} {tab : List (Nat × Int × Nat)} {mi ai : Nat} {W0 : World} {L : Nat → Bool} {vs : Nat → Value} {w : World} (h : MapJ eb tab mi ai W0 L vs w) (i : Nat) (u : Value) (h0 : 0 ≠ i) (ht : ∀ e ∈ tab, e.1 ≠ i) (hm : mi ≠ i) (ha : ai ≠ i) : MapJ eb tab mi ai W0 (updB L i) (upd vs i u) w := by
  have e0 : updB L i 0 = L 0 := by simp [updB, h0]
  have e1 : updB L i mi = L mi := by simp [updB, hm]
  have e2 : updB L i ai = L ai := by simp [updB, ha]
  have f0 : upd vs i u 0 = vs 0 := by simp [upd, h0]
  have f1 : upd vs i u mi = vs mi := by simp [upd, hm]
  have f2 : upd vs i u ai = vs ai := by simp [upd, ha]
  refine ⟨h.A, fun hl => ?_, fun hl => ?_, fun hl => ?_⟩
  · rw [e0] at hl
    rw [f0]
    exact ⟨(h.B hl).1, (h.B hl).2.1, (h.B hl).2.2.off i ht⟩
  · rw [e1] at hl
    rw [f0, f1]; exact h.C hl
  · rw [e2] at hl
    rw [f0, f2]; exact h.D hl
theorem MapJ.make {eb : Nat} {tab : List (Nat × Int × Nat)} {mi ai : Nat} {W0 : World} {L : Nat → Bool} {vs : Nat → Value} {w : World} (h : MapJ eb tab mi ai W0 L vs w) (ht : ∀ e ∈ tab, L e.1 = false) (ht0 : ∀ e ∈ tab, e.1 ≠ 0) (hm : L mi = false) (ha : L ai = false) (hm0 : mi ≠ 0) (ha0 : ai ≠ 0) : MapJ eb tab mi ai W0 (updB L 0) (upd vs 0 (.map (some w.heap.size))) (w.alloc (.map #[] 0)) := by
  have e1 : updB L 0 mi = false := by simp [updB, hm, hm0]
  have e2 : updB L 0 ai = false := by simp [updB, ha, ha0]
  refine ⟨h.A.alloc _, fun _ => ⟨rfl, h.A.size, ?_⟩, fun hl => ?_, fun hl => ?_⟩
  · exact (MapOwn.start w ht).off 0 ht0
  · rw [e1] at hl; cases hl
  · rw [e2] at hl; cases hl
theorem MapJ.ins {eb : Nat} {tab : List (Nat × Int × Nat)} {mi ai : Nat} {W0 : World} {L : Nat → Bool} {vs : Nat → Value} {w w2 : World} (h : MapJ eb tab mi ai W0 L vs w) (hl0 : L 0 = true) (i : Nat) (u : Value) (h0 : 0 ≠ i) (hm : mi ≠ i) (ha : ai ≠ i) (ho : MapOwn eb tab (updB L i) (mapB (vs 0)) w2) (hg : w.grownBy w2 (some (mapB (vs 0)))) : MapJ eb tab mi ai W0 (updB L i) (upd vs i u) w2 := by
  have hb := (h.B hl0).2.1
  have e1 : updB L i mi = L mi := by simp [updB, hm]
  have e2 : updB L i ai = L ai := by simp [updB, ha]
  have f0 : upd vs i u 0 = vs 0 := by simp [upd, h0]
  have f1 : upd vs i u mi = vs mi := by simp [upd, hm]
  have f2 : upd vs i u ai = vs ai := by simp [upd, ha]
  refine ⟨(ExtBut.grown (Ext.refl w).but hg).ext h.A hb, fun hl => ?_, fun hl => ?_, fun hl => ?_⟩
  · rw [f0]
    exact ⟨(h.B hl0).1, hb, ho⟩
  · rw [e1] at hl
    rw [f0, f1]; exact h.C hl
  · rw [e2] at hl
    rw [f0, f2]; exact h.D hl
theorem MapJ.move {eb : Nat} {tab : List (Nat × Int × Nat)} {mi ai : Nat} {W0 : World} {L : Nat → Bool} {vs : Nat → Value} {w : World} (h : MapJ eb tab mi ai W0 L vs w) (i : Nat) (u : Value) (hu : u = vs 0) (h0 : 0 ≠ i) (ht : ∀ e ∈ tab, e.1 ≠ i) : MapJ eb tab mi ai W0 (updB L i) (upd vs i u) w := by
  have e0 : updB L i 0 = L 0 := by simp [updB, h0]
  have f0 : upd vs i u 0 = vs 0 := by simp [upd, h0]
  refine ⟨h.A, fun hl => ?_, fun hl => ?_, fun hl => ?_⟩
  · rw [e0] at hl
    rw [f0]
    exact ⟨(h.B hl).1, (h.B hl).2.1, (h.B hl).2.2.off i ht⟩
  · rw [f0]
    by_cases e : mi = i
    · simp [upd, e, hu]
    · have e1 : updB L i mi = L mi := by simp [updB, e]
      rw [e1] at hl
      have f1 : upd vs i u mi = vs mi := by simp [upd, e]
      rw [f1]; exact h.C hl
  · rw [f0]
    by_cases e : ai = i
    · simp [upd, e, hu]
    · have e1 : updB L i ai = L ai := by simp [updB, e]
      rw [e1] at hl
      have f1 : upd vs i u ai = vs ai := by simp [upd, e]
      rw [f1]; exact h.D hl
def tab73 : List (Nat × Int × Nat) := [(4, 83, 0), (8, 86, 1), (12, 67, 2), (16, 77, 3), (20, 68, 4), (24, 72, 5), (28, 113, 8), (32, 87, 9), (36, 115, 10), (40, 116, 11), (44, 99, 12), (48, 100, 13), (52, 110, 14), (56, 70, 15), (60, 82, 17)]
theorem apart73 : Apart tab73 := by unfold Apart tab73; decide
set_option maxRecDepth 100000 in
set_option maxHeartbeats 4000000 in
theorem map73 (eb : Nat) (w : World) : Calls Tryz.prog 73 #[.pointer (some ⟨eb, 0, none⟩)] w (fun e w' => ∃ b, e = .returned (.map (some b)) ∧ Ext w w' ∧ w.heap.size ≤ b ∧ ∃ L : Nat → Bool, (∀ e ∈ tab73, L e.1 = true) ∧ MapOwn eb tab73 L b w') := by
  go_enter Tryz.func73, Tryz.ntmps73
  go_wp2
  refine wp_region_ogL (J := MapJ eb tab73 61 62 w) (R := fun _ _ => True) [Sp.any _, Sp.eq _ (.pointer (some ⟨eb, 0, none⟩)), Sp.eq _ (.pointer (some ⟨eb, 0, none⟩)), Sp.eq _ (.pointer (some ⟨eb, 0, none⟩)), Sp.any _, Sp.eq _ (.pointer (some ⟨eb, 0, none⟩)), Sp.eq _ (.pointer (some ⟨eb, 0, none⟩)), Sp.eq _ (.pointer (some ⟨eb, 1, none⟩)), Sp.any _, Sp.eq _ (.pointer (some ⟨eb, 0, none⟩)), Sp.eq _ (.pointer (some ⟨eb, 0, none⟩)), Sp.eq _ (.pointer (some ⟨eb, 2, none⟩)), Sp.any _, Sp.eq _ (.pointer (some ⟨eb, 0, none⟩)), Sp.eq _ (.pointer (some ⟨eb, 0, none⟩)), Sp.eq _ (.pointer (some ⟨eb, 3, none⟩)), Sp.any _, Sp.eq _ (.pointer (some ⟨eb, 0, none⟩)), Sp.eq _ (.pointer (some ⟨eb, 0, none⟩)), Sp.eq _ (.pointer (some ⟨eb, 4, none⟩)), Sp.any _, Sp.eq _ (.pointer (some ⟨eb, 0, none⟩)), Sp.eq _ (.pointer (some ⟨eb, 0, none⟩)), Sp.eq _ (.pointer (some ⟨eb, 5, none⟩)), Sp.any _, Sp.eq _ (.pointer (some ⟨eb, 0, none⟩)), Sp.eq _ (.pointer (some ⟨eb, 0, none⟩)), Sp.eq _ (.pointer (some ⟨eb, 8, none⟩)), Sp.any _, Sp.eq _ (.pointer (some ⟨eb, 0, none⟩)), Sp.eq _ (.pointer (some ⟨eb, 0, none⟩)), Sp.eq _ (.pointer (some ⟨eb, 9, none⟩)), Sp.any _, Sp.eq _ (.pointer (some ⟨eb, 0, none⟩)), Sp.eq _ (.pointer (some ⟨eb, 0, none⟩)), Sp.eq _ (.pointer (some ⟨eb, 10, none⟩)), Sp.any _, Sp.eq _ (.pointer (some ⟨eb, 0, none⟩)), Sp.eq _ (.pointer (some ⟨eb, 0, none⟩)), Sp.eq _ (.pointer (some ⟨eb, 11, none⟩)), Sp.any _, Sp.eq _ (.pointer (some ⟨eb, 0, none⟩)), Sp.eq _ (.pointer (some ⟨eb, 0, none⟩)), Sp.eq _ (.pointer (some ⟨eb, 12, none⟩)), Sp.any _, Sp.eq _ (.pointer (some ⟨eb, 0, none⟩)), Sp.eq _ (.pointer (some ⟨eb, 0, none⟩)), Sp.eq _ (.pointer (some ⟨eb, 13, none⟩)), Sp.any _, Sp.eq _ (.pointer (some ⟨eb, 0, none⟩)), Sp.eq _ (.pointer (some ⟨eb, 0, none⟩)), Sp.eq _ (.pointer (some ⟨eb, 14, none⟩)), Sp.any _, Sp.eq _ (.pointer (some ⟨eb, 0, none⟩)), Sp.eq _ (.pointer (some ⟨eb, 0, none⟩)), Sp.eq _ (.pointer (some ⟨eb, 15, none⟩)), Sp.any _, Sp.eq _ (.pointer (some ⟨eb, 0, none⟩)), Sp.eq _ (.pointer (some ⟨eb, 0, none⟩)), Sp.eq _ (.pointer (some ⟨eb, 17, none⟩)), Sp.any _, Sp.any _, Sp.any _] (by kernel_rfl) (by kernel_rfl) ?_ ?_ ?_
  · exact MapJ.start eb tab73 61 62 w _
  · refine ⟨?_, ?_, ?_, ?_, ?_, ?_, ?_, ?_, ?_, ?_, ?_, ?_, ?_, ?_, ?_, ?_, ?_, ?_, ?_, ?_, ?_, ?_, ?_, ?_, ?_, ?_, ?_, ?_, ?_, ?_, ?_, ?_, ?_, ?_, ?_, ?_, ?_, ?_, ?_, ?_, ?_, ?_, ?_, ?_, ?_, ?_, ?_, ?_, ?_, ?_, ?_, ?_, ?_, ?_, ?_, ?_, ?_, ?_, ?_, ?_, ?_, ?_, ?_, trivial⟩
    · intro vs w1 L hLi hd hdt hJ hp
      have HJ := Lib.hid hJ
      have HT := Lib.hid hdt
      have hmk := run_makeMap (P := Tryz.prog) 254 w1
      clear hp hd hdt hLi hJ
      simp only [putAll, Nat.reduceAdd]
      go_wp2
      exact ⟨rfl, HJ.out.make (fun e he => HT.out e.1 (by revert e he; decide)) (by decide) (HT.out _ (by decide)) (HT.out _ (by decide)) (by decide) (by decide), trivial, trivial⟩
    · intro vs w1 L hLi hd hdt hJ hp
      have HJ := Lib.hid hJ
      clear hp hd hdt hLi hJ
      simp only [putAll, Nat.reduceAdd]
      go_wp2
      exact ⟨rfl, HJ.out.keep 1 _ (by decide) (by decide) (by decide) (by decide), trivial, rfl⟩
    · intro vs w1 L hLi hd hdt hJ hp
      have q1 : vs 1 = (.pointer (some ⟨eb, 0, none⟩)) := hp 1 (by decide)
      have HJ := Lib.hid hJ
      clear hp hd hdt hLi hJ
      simp only [putAll, Nat.reduceAdd]
      go_wp2
      exact ⟨rfl, HJ.out.keep 2 _ (by decide) (by decide) (by decide) (by decide), trivial, rfl⟩
    · intro vs w1 L hLi hd hdt hJ hp
      have q2 : vs 2 = (.pointer (some ⟨eb, 0, none⟩)) := hp 2 (by decide)
      have HJ := Lib.hid hJ
      clear hp hd hdt hLi hJ
      simp only [putAll, Nat.reduceAdd]
      go_wp2
      exact ⟨rfl, HJ.out.keep 3 _ (by decide) (by decide) (by decide) (by decide), trivial, rfl⟩
    · intro vs w1 L hLi hd hdt hJ hp
      have q3 : vs 3 = (.pointer (some ⟨eb, 0, none⟩)) := hp 3 (by decide)
      have H0 := Lib.hid (hd 0 (by decide))
      have HJ := Lib.hid hJ
      have hb := hJ.B H0.out
      have hv0 := hb.1
      clear hp hd hdt hJ
      simp only [putAll, Nat.reduceAdd, Act.put, List.setIfInBounds_toArray, List.set_cons_zero, List.set_cons_succ]
      refine wp_ins hb.2.2 rfl _ _ _ 254 _ rfl Tryz.underlying254 apart73 (e := (4, 83, 0)) (by decide) hLi (by decide) (by decide) hv0 rfl q3 ?_
      intro w2 hmo hg
      exact ⟨rfl, HJ.out.ins H0.out 4 _ (by decide) (by decide) (by decide) hmo hg, trivial, trivial⟩
    · intro vs w1 L hLi hd hdt hJ hp
      have HJ := Lib.hid hJ
      clear hp hd hdt hLi hJ
      simp only [putAll, Nat.reduceAdd]
      go_wp2
      exact ⟨rfl, HJ.out.keep 5 _ (by decide) (by decide) (by decide) (by decide), trivial, rfl⟩
    · intro vs w1 L hLi hd hdt hJ hp
      have q5 : vs 5 = (.pointer (some ⟨eb, 0, none⟩)) := hp 5 (by decide)
      have HJ := Lib.hid hJ
      clear hp hd hdt hLi hJ
      simp only [putAll, Nat.reduceAdd]
      go_wp2
      exact ⟨rfl, HJ.out.keep 6 _ (by decide) (by decide) (by decide) (by decide), trivial, rfl⟩
    · intro vs w1 L hLi hd hdt hJ hp
      have q6 : vs 6 = (.pointer (some ⟨eb, 0, none⟩)) := hp 6 (by decide)
      have HJ := Lib.hid hJ
      clear hp hd hdt hLi hJ
      simp only [putAll, Nat.reduceAdd]
      go_wp2
      exact ⟨rfl, HJ.out.keep 7 _ (by decide) (by decide) (by decide) (by decide), trivial, rfl⟩
    · intro vs w1 L hLi hd hdt hJ hp
      have q7 : vs 7 = (.pointer (some ⟨eb, 1, none⟩)) := hp 7 (by decide)
      have H0 := Lib.hid (hd 0 (by decide))
      have HJ := Lib.hid hJ
      have hb := hJ.B H0.out
      have hv0 := hb.1
      clear hp hd hdt hJ
      simp only [putAll, Nat.reduceAdd, Act.put, List.setIfInBounds_toArray, List.set_cons_zero, List.set_cons_succ]
      refine wp_ins hb.2.2 rfl _ _ _ 254 _ rfl Tryz.underlying254 apart73 (e := (8, 86, 1)) (by decide) hLi (by decide) (by decide) hv0 rfl q7 ?_
      intro w2 hmo hg
      exact ⟨rfl, HJ.out.ins H0.out 8 _ (by decide) (by decide) (by decide) hmo hg, trivial, trivial⟩
    · intro vs w1 L hLi hd hdt hJ hp
      have HJ := Lib.hid hJ
      clear hp hd hdt hLi hJ
      simp only [putAll, Nat.reduceAdd]
      go_wp2
      exact ⟨rfl, HJ.out.keep 9 _ (by decide) (by decide) (by decide) (by decide), trivial, rfl⟩
    · intro vs w1 L hLi hd hdt hJ hp
      have q9 : vs 9 = (.pointer (some ⟨eb, 0, none⟩)) := hp 9 (by decide)
      have HJ := Lib.hid hJ
      clear hp hd hdt hLi hJ
      simp only [putAll, Nat.reduceAdd]
      go_wp2
      exact ⟨rfl, HJ.out.keep 10 _ (by decide) (by decide) (by decide) (by decide), trivial, rfl⟩
    · intro vs w1 L hLi hd hdt hJ hp
      have q10 : vs 10 = (.pointer (some ⟨eb, 0, none⟩)) := hp 10 (by decide)
      have HJ := Lib.hid hJ
      clear hp hd hdt hLi hJ
      simp only [putAll, Nat.reduceAdd]
      go_wp2
      exact ⟨rfl, HJ.out.keep 11 _ (by decide) (by decide) (by decide) (by decide), trivial, rfl⟩
    · intro vs w1 L hLi hd hdt hJ hp
      have q11 : vs 11 = (.pointer (some ⟨eb, 2, none⟩)) := hp 11 (by decide)
      have H0 := Lib.hid (hd 0 (by decide))
      have HJ := Lib.hid hJ
      have hb := hJ.B H0.out
      have hv0 := hb.1
      clear hp hd hdt hJ
      simp only [putAll, Nat.reduceAdd, Act.put, List.setIfInBounds_toArray, List.set_cons_zero, List.set_cons_succ]
      refine wp_ins hb.2.2 rfl _ _ _ 254 _ rfl Tryz.underlying254 apart73 (e := (12, 67, 2)) (by decide) hLi (by decide) (by decide) hv0 rfl q11 ?_
      intro w2 hmo hg
      exact ⟨rfl, HJ.out.ins H0.out 12 _ (by decide) (by decide) (by decide) hmo hg, trivial, trivial⟩
    · intro vs w1 L hLi hd hdt hJ hp
      have HJ := Lib.hid hJ
      clear hp hd hdt hLi hJ
      simp only [putAll, Nat.reduceAdd]
      go_wp2
      exact ⟨rfl, HJ.out.keep 13 _ (by decide) (by decide) (by decide) (by decide), trivial, rfl⟩
    · intro vs w1 L hLi hd hdt hJ hp
      have q13 : vs 13 = (.pointer (some ⟨eb, 0, none⟩)) := hp 13 (by decide)
      have HJ := Lib.hid hJ
      clear hp hd hdt hLi hJ
      simp only [putAll, Nat.reduceAdd]
      go_wp2
      exact ⟨rfl, HJ.out.keep 14 _ (by decide) (by decide) (by decide) (by decide), trivial, rfl⟩
    · intro vs w1 L hLi hd hdt hJ hp
      have q14 : vs 14 = (.pointer (some ⟨eb, 0, none⟩)) := hp 14 (by decide)
      have HJ := Lib.hid hJ
      clear hp hd hdt hLi hJ
      simp only [putAll, Nat.reduceAdd]
      go_wp2
      exact ⟨rfl, HJ.out.keep 15 _ (by decide) (by decide) (by decide) (by decide), trivial, rfl⟩
    · intro vs w1 L hLi hd hdt hJ hp
      have q15 : vs 15 = (.pointer (some ⟨eb, 3, none⟩)) := hp 15 (by decide)
      have H0 := Lib.hid (hd 0 (by decide))
      have HJ := Lib.hid hJ
      have hb := hJ.B H0.out
      have hv0 := hb.1
      clear hp hd hdt hJ
      simp only [putAll, Nat.reduceAdd, Act.put, List.setIfInBounds_toArray, List.set_cons_zero, List.set_cons_succ]
      refine wp_ins hb.2.2 rfl _ _ _ 254 _ rfl Tryz.underlying254 apart73 (e := (16, 77, 3)) (by decide) hLi (by decide) (by decide) hv0 rfl q15 ?_
      intro w2 hmo hg
      exact ⟨rfl, HJ.out.ins H0.out 16 _ (by decide) (by decide) (by decide) hmo hg, trivial, trivial⟩
    · intro vs w1 L hLi hd hdt hJ hp
      have HJ := Lib.hid hJ
      clear hp hd hdt hLi hJ
      simp only [putAll, Nat.reduceAdd]
      go_wp2
      exact ⟨rfl, HJ.out.keep 17 _ (by decide) (by decide) (by decide) (by decide), trivial, rfl⟩
    · intro vs w1 L hLi hd hdt hJ hp
      have q17 : vs 17 = (.pointer (some ⟨eb, 0, none⟩)) := hp 17 (by decide)
      have HJ := Lib.hid hJ
      clear hp hd hdt hLi hJ
      simp only [putAll, Nat.reduceAdd]
      go_wp2
      exact ⟨rfl, HJ.out.keep 18 _ (by decide) (by decide) (by decide) (by decide), trivial, rfl⟩
    · intro vs w1 L hLi hd hdt hJ hp
      have q18 : vs 18 = (.pointer (some ⟨eb, 0, none⟩)) := hp 18 (by decide)
      have HJ := Lib.hid hJ
      clear hp hd hdt hLi hJ
      simp only [putAll, Nat.reduceAdd]
      go_wp2
      exact ⟨rfl, HJ.out.keep 19 _ (by decide) (by decide) (by decide) (by decide), trivial, rfl⟩
    · intro vs w1 L hLi hd hdt hJ hp
      have q19 : vs 19 = (.pointer (some ⟨eb, 4, none⟩)) := hp 19 (by decide)
      have H0 := Lib.hid (hd 0 (by decide))
      have HJ := Lib.hid hJ
      have hb := hJ.B H0.out
      have hv0 := hb.1
      clear hp hd hdt hJ
      simp only [putAll, Nat.reduceAdd, Act.put, List.setIfInBounds_toArray, List.set_cons_zero, List.set_cons_succ]
      refine wp_ins hb.2.2 rfl _ _ _ 254 _ rfl Tryz.underlying254 apart73 (e := (20, 68, 4)) (by decide) hLi (by decide) (by decide) hv0 rfl q19 ?_
      intro w2 hmo hg
      exact ⟨rfl, HJ.out.ins H0.out 20 _ (by decide) (by decide) (by decide) hmo hg, trivial, trivial⟩
    · intro vs w1 L hLi hd hdt hJ hp
      have HJ := Lib.hid hJ
      clear hp hd hdt hLi hJ
      simp only [putAll, Nat.reduceAdd]
      go_wp2
      exact ⟨rfl, HJ.out.keep 21 _ (by decide) (by decide) (by decide) (by decide), trivial, rfl⟩
    · intro vs w1 L hLi hd hdt hJ hp
      have q21 : vs 21 = (.pointer (some ⟨eb, 0, none⟩)) := hp 21 (by decide)
      have HJ := Lib.hid hJ
      clear hp hd hdt hLi hJ
      simp only [putAll, Nat.reduceAdd]
      go_wp2
      exact ⟨rfl, HJ.out.keep 22 _ (by decide) (by decide) (by decide) (by decide), trivial, rfl⟩
    · intro vs w1 L hLi hd hdt hJ hp
      have q22 : vs 22 = (.pointer (some ⟨eb, 0, none⟩)) := hp 22 (by decide)
      have HJ := Lib.hid hJ
      clear hp hd hdt hLi hJ
      simp only [putAll, Nat.reduceAdd]
      go_wp2
      exact ⟨rfl, HJ.out.keep 23 _ (by decide) (by decide) (by decide) (by decide), trivial, rfl⟩
    · intro vs w1 L hLi hd hdt hJ hp
      have q23 : vs 23 = (.pointer (some ⟨eb, 5, none⟩)) := hp 23 (by decide)
      have H0 := Lib.hid (hd 0 (by decide))
      have HJ := Lib.hid hJ
      have hb := hJ.B H0.out
      have hv0 := hb.1
      clear hp hd hdt hJ
      simp only [putAll, Nat.reduceAdd, Act.put, List.setIfInBounds_toArray, List.set_cons_zero, List.set_cons_succ]
      refine wp_ins hb.2.2 rfl _ _ _ 254 _ rfl Tryz.underlying254 apart73 (e := (24, 72, 5)) (by decide) hLi (by decide) (by decide) hv0 rfl q23 ?_
      intro w2 hmo hg
      exact ⟨rfl, HJ.out.ins H0.out 24 _ (by decide) (by decide) (by decide) hmo hg, trivial, trivial⟩
    · intro vs w1 L hLi hd hdt hJ hp
      have HJ := Lib.hid hJ
      clear hp hd hdt hLi hJ
      simp only [putAll, Nat.reduceAdd]
      go_wp2
      exact ⟨rfl, HJ.out.keep 25 _ (by decide) (by decide) (by decide) (by decide), trivial, rfl⟩
    · intro vs w1 L hLi hd hdt hJ hp
      have q25 : vs 25 = (.pointer (some ⟨eb, 0, none⟩)) := hp 25 (by decide)
      have HJ := Lib.hid hJ
      clear hp hd hdt hLi hJ
      simp only [putAll, Nat.reduceAdd]
      go_wp2
      exact ⟨rfl, HJ.out.keep 26 _ (by decide) (by decide) (by decide) (by decide), trivial, rfl⟩
    · intro vs w1 L hLi hd hdt hJ hp
      have q26 : vs 26 = (.pointer (some ⟨eb, 0, none⟩)) := hp 26 (by decide)
      have HJ := Lib.hid hJ
      clear hp hd hdt hLi hJ
      simp only [putAll, Nat.reduceAdd]
      go_wp2
      exact ⟨rfl, HJ.out.keep 27 _ (by decide) (by decide) (by decide) (by decide), trivial, rfl⟩
    · intro vs w1 L hLi hd hdt hJ hp
      have q27 : vs 27 = (.pointer (some ⟨eb, 8, none⟩)) := hp 27 (by decide)
      have H0 := Lib.hid (hd 0 (by decide))
      have HJ := Lib.hid hJ
      have hb := hJ.B H0.out
      have hv0 := hb.1
      clear hp hd hdt hJ
      simp only [putAll, Nat.reduceAdd, Act.put, List.setIfInBounds_toArray, List.set_cons_zero, List.set_cons_succ]
      refine wp_ins hb.2.2 rfl _ _ _ 254 _ rfl Tryz.underlying254 apart73 (e := (28, 113, 8)) (by decide) hLi (by decide) (by decide) hv0 rfl q27 ?_
      intro w2 hmo hg
      exact ⟨rfl, HJ.out.ins H0.out 28 _ (by decide) (by decide) (by decide) hmo hg, trivial, trivial⟩
    · intro vs w1 L hLi hd hdt hJ hp
      have HJ := Lib.hid hJ
      clear hp hd hdt hLi hJ
      simp only [putAll, Nat.reduceAdd]
      go_wp2
      exact ⟨rfl, HJ.out.keep 29 _ (by decide) (by decide) (by decide) (by decide), trivial, rfl⟩
    · intro vs w1 L hLi hd hdt hJ hp
      have q29 : vs 29 = (.pointer (some ⟨eb, 0, none⟩)) := hp 29 (by decide)
      have HJ := Lib.hid hJ
      clear hp hd hdt hLi hJ
      simp only [putAll, Nat.reduceAdd]
      go_wp2
      exact ⟨rfl, HJ.out.keep 30 _ (by decide) (by decide) (by decide) (by decide), trivial, rfl⟩
    · intro vs w1 L hLi hd hdt hJ hp
      have q30 : vs 30 = (.pointer (some ⟨eb, 0, none⟩)) := hp 30 (by decide)
      have HJ := Lib.hid hJ
      clear hp hd hdt hLi hJ
      simp only [putAll, Nat.reduceAdd]
      go_wp2
      exact ⟨rfl, HJ.out.keep 31 _ (by decide) (by decide) (by decide) (by decide), trivial, rfl⟩
    · intro vs w1 L hLi hd hdt hJ hp
      have q31 : vs 31 = (.pointer (some ⟨eb, 9, none⟩)) := hp 31 (by decide)
      have H0 := Lib.hid (hd 0 (by decide))
      have HJ := Lib.hid hJ
      have hb := hJ.B H0.out
      have hv0 := hb.1
      clear hp hd hdt hJ
      simp only [putAll, Nat.reduceAdd, Act.put, List.setIfInBounds_toArray, List.set_cons_zero, List.set_cons_succ]
      refine wp_ins hb.2.2 rfl _ _ _ 254 _ rfl Tryz.underlying254 apart73 (e := (32, 87, 9)) (by decide) hLi (by decide) (by decide) hv0 rfl q31 ?_
      intro w2 hmo hg
      exact ⟨rfl, HJ.out.ins H0.out 32 _ (by decide) (by decide) (by decide) hmo hg, trivial, trivial⟩
    · intro vs w1 L hLi hd hdt hJ hp
      have HJ := Lib.hid hJ
      clear hp hd hdt hLi hJ
      simp only [putAll, Nat.reduceAdd]
      go_wp2
      exact ⟨rfl, HJ.out.keep 33 _ (by decide) (by decide) (by decide) (by decide), trivial, rfl⟩
    · intro vs w1 L hLi hd hdt hJ hp
      have q33 : vs 33 = (.pointer (some ⟨eb, 0, none⟩)) := hp 33 (by decide)
      have HJ := Lib.hid hJ
      clear hp hd hdt hLi hJ
      simp only [putAll, Nat.reduceAdd]
      go_wp2
      exact ⟨rfl, HJ.out.keep 34 _ (by decide) (by decide) (by decide) (by decide), trivial, rfl⟩
    · intro vs w1 L hLi hd hdt hJ hp
      have q34 : vs 34 = (.pointer (some ⟨eb, 0, none⟩)) := hp 34 (by decide)
      have HJ := Lib.hid hJ
      clear hp hd hdt hLi hJ
      simp only [putAll, Nat.reduceAdd]
      go_wp2
      exact ⟨rfl, HJ.out.keep 35 _ (by decide) (by decide) (by decide) (by decide), trivial, rfl⟩
    · intro vs w1 L hLi hd hdt hJ hp
      have q35 : vs 35 = (.pointer (some ⟨eb, 10, none⟩)) := hp 35 (by decide)
      have H0 := Lib.hid (hd 0 (by decide))
      have HJ := Lib.hid hJ
      have hb := hJ.B H0.out
      have hv0 := hb.1
      clear hp hd hdt hJ
      simp only [putAll, Nat.reduceAdd, Act.put, List.setIfInBounds_toArray, List.set_cons_zero, List.set_cons_succ]
      refine wp_ins hb.2.2 rfl _ _ _ 254 _ rfl Tryz.underlying254 apart73 (e := (36, 115, 10)) (by decide) hLi (by decide) (by decide) hv0 rfl q35 ?_
      intro w2 hmo hg
      exact ⟨rfl, HJ.out.ins H0.out 36 _ (by decide) (by decide) (by decide) hmo hg, trivial, trivial⟩
    · intro vs w1 L hLi hd hdt hJ hp
      have HJ := Lib.hid hJ
      clear hp hd hdt hLi hJ
      simp only [putAll, Nat.reduceAdd]
      go_wp2
      exact ⟨rfl, HJ.out.keep 37 _ (by decide) (by decide) (by decide) (by decide), trivial, rfl⟩
    · intro vs w1 L hLi hd hdt hJ hp
      have q37 : vs 37 = (.pointer (some ⟨eb, 0, none⟩)) := hp 37 (by decide)
      have HJ := Lib.hid hJ
      clear hp hd hdt hLi hJ
      simp only [putAll, Nat.reduceAdd]
      go_wp2
      exact ⟨rfl, HJ.out.keep 38 _ (by decide) (by decide) (by decide) (by decide), trivial, rfl⟩
    · intro vs w1 L hLi hd hdt hJ hp
      have q38 : vs 38 = (.pointer (some ⟨eb, 0, none⟩)) := hp 38 (by decide)
      have HJ := Lib.hid hJ
      clear hp hd hdt hLi hJ
      simp only [putAll, Nat.reduceAdd]
      go_wp2
      exact ⟨rfl, HJ.out.keep 39 _ (by decide) (by decide) (by decide) (by decide), trivial, rfl⟩
    · intro vs w1 L hLi hd hdt hJ hp
      have q39 : vs 39 = (.pointer (some ⟨eb, 11, none⟩)) := hp 39 (by decide)
      have H0 := Lib.hid (hd 0 (by decide))
      have HJ := Lib.hid hJ
      have hb := hJ.B H0.out
      have hv0 := hb.1
      clear hp hd hdt hJ
      simp only [putAll, Nat.reduceAdd, Act.put, List.setIfInBounds_toArray, List.set_cons_zero, List.set_cons_succ]
      refine wp_ins hb.2.2 rfl _ _ _ 254 _ rfl Tryz.underlying254 apart73 (e := (40, 116, 11)) (by decide) hLi (by decide) (by decide) hv0 rfl q39 ?_
      intro w2 hmo hg
      exact ⟨rfl, HJ.out.ins H0.out 40 _ (by decide) (by decide) (by decide) hmo hg, trivial, trivial⟩
    · intro vs w1 L hLi hd hdt hJ hp
      have HJ := Lib.hid hJ
      clear hp hd hdt hLi hJ
      simp only [putAll, Nat.reduceAdd]
      go_wp2
      exact ⟨rfl, HJ.out.keep 41 _ (by decide) (by decide) (by decide) (by decide), trivial, rfl⟩
    · intro vs w1 L hLi hd hdt hJ hp
      have q41 : vs 41 = (.pointer (some ⟨eb, 0, none⟩)) := hp 41 (by decide)
      have HJ := Lib.hid hJ
      clear hp hd hdt hLi hJ
      simp only [putAll, Nat.reduceAdd]
      go_wp2
      exact ⟨rfl, HJ.out.keep 42 _ (by decide) (by decide) (by decide) (by decide), trivial, rfl⟩
    · intro vs w1 L hLi hd hdt hJ hp
      have q42 : vs 42 = (.pointer (some ⟨eb, 0, none⟩)) := hp 42 (by decide)
      have HJ := Lib.hid hJ
      clear hp hd hdt hLi hJ
      simp only [putAll, Nat.reduceAdd]
      go_wp2
      exact ⟨rfl, HJ.out.keep 43 _ (by decide) (by decide) (by decide) (by decide), trivial, rfl⟩
    · intro vs w1 L hLi hd hdt hJ hp
      have q43 : vs 43 = (.pointer (some ⟨eb, 12, none⟩)) := hp 43 (by decide)
      have H0 := Lib.hid (hd 0 (by decide))
      have HJ := Lib.hid hJ
      have hb := hJ.B H0.out
      have hv0 := hb.1
      clear hp hd hdt hJ
      simp only [putAll, Nat.reduceAdd, Act.put, List.setIfInBounds_toArray, List.set_cons_zero, List.set_cons_succ]
      refine wp_ins hb.2.2 rfl _ _ _ 254 _ rfl Tryz.underlying254 apart73 (e := (44, 99, 12)) (by decide) hLi (by decide) (by decide) hv0 rfl q43 ?_
      intro w2 hmo hg
      exact ⟨rfl, HJ.out.ins H0.out 44 _ (by decide) (by decide) (by decide) hmo hg, trivial, trivial⟩
    · intro vs w1 L hLi hd hdt hJ hp
      have HJ := Lib.hid hJ
      clear hp hd hdt hLi hJ
      simp only [putAll, Nat.reduceAdd]
      go_wp2
      exact ⟨rfl, HJ.out.keep 45 _ (by decide) (by decide) (by decide) (by decide), trivial, rfl⟩
    · intro vs w1 L hLi hd hdt hJ hp
      have q45 : vs 45 = (.pointer (some ⟨eb, 0, none⟩)) := hp 45 (by decide)
      have HJ := Lib.hid hJ
      clear hp hd hdt hLi hJ
      simp only [putAll, Nat.reduceAdd]
      go_wp2
      exact ⟨rfl, HJ.out.keep 46 _ (by decide) (by decide) (by decide) (by decide), trivial, rfl⟩
    · intro vs w1 L hLi hd hdt hJ hp
      have q46 : vs 46 = (.pointer (some ⟨eb, 0, none⟩)) := hp 46 (by decide)
      have HJ := Lib.hid hJ
      clear hp hd hdt hLi hJ
      simp only [putAll, Nat.reduceAdd]
      go_wp2
      exact ⟨rfl, HJ.out.keep 47 _ (by decide) (by decide) (by decide) (by decide), trivial, rfl⟩
    · intro vs w1 L hLi hd hdt hJ hp
      have q47 : vs 47 = (.pointer (some ⟨eb, 13, none⟩)) := hp 47 (by decide)
      have H0 := Lib.hid (hd 0 (by decide))
      have HJ := Lib.hid hJ
      have hb := hJ.B H0.out
      have hv0 := hb.1
      clear hp hd hdt hJ
      simp only [putAll, Nat.reduceAdd, Act.put, List.setIfInBounds_toArray, List.set_cons_zero, List.set_cons_succ]
      refine wp_ins hb.2.2 rfl _ _ _ 254 _ rfl Tryz.underlying254 apart73 (e := (48, 100, 13)) (by decide) hLi (by decide) (by decide) hv0 rfl q47 ?_
      intro w2 hmo hg
      exact ⟨rfl, HJ.out.ins H0.out 48 _ (by decide) (by decide) (by decide) hmo hg, trivial, trivial⟩
    · intro vs w1 L hLi hd hdt hJ hp
      have HJ := Lib.hid hJ
      clear hp hd hdt hLi hJ
      simp only [putAll, Nat.reduceAdd]
      go_wp2
      exact ⟨rfl, HJ.out.keep 49 _ (by decide) (by decide) (by decide) (by decide), trivial, rfl⟩
    · intro vs w1 L hLi hd hdt hJ hp
      have q49 : vs 49 = (.pointer (some ⟨eb, 0, none⟩)) := hp 49 (by decide)
      have HJ := Lib.hid hJ
      clear hp hd hdt hLi hJ
      simp only [putAll, Nat.reduceAdd]
      go_wp2
      exact ⟨rfl, HJ.out.keep 50 _ (by decide) (by decide) (by decide) (by decide), trivial, rfl⟩
    · intro vs w1 L hLi hd hdt hJ hp
      have q50 : vs 50 = (.pointer (some ⟨eb, 0, none⟩)) := hp 50 (by decide)
      have HJ := Lib.hid hJ
      clear hp hd hdt hLi hJ
      simp only [putAll, Nat.reduceAdd]
      go_wp2
      exact ⟨rfl, HJ.out.keep 51 _ (by decide) (by decide) (by decide) (by decide), trivial, rfl⟩
    · intro vs w1 L hLi hd hdt hJ hp
      have q51 : vs 51 = (.pointer (some ⟨eb, 14, none⟩)) := hp 51 (by decide)
      have H0 := Lib.hid (hd 0 (by decide))
      have HJ := Lib.hid hJ
      have hb := hJ.B H0.out
      have hv0 := hb.1
      clear hp hd hdt hJ
      simp only [putAll, Nat.reduceAdd, Act.put, List.setIfInBounds_toArray, List.set_cons_zero, List.set_cons_succ]
      refine wp_ins hb.2.2 rfl _ _ _ 254 _ rfl Tryz.underlying254 apart73 (e := (52, 110, 14)) (by decide) hLi (by decide) (by decide) hv0 rfl q51 ?_
      intro w2 hmo hg
      exact ⟨rfl, HJ.out.ins H0.out 52 _ (by decide) (by decide) (by decide) hmo hg, trivial, trivial⟩
    · intro vs w1 L hLi hd hdt hJ hp
      have HJ := Lib.hid hJ
      clear hp hd hdt hLi hJ
      simp only [putAll, Nat.reduceAdd]
      go_wp2
      exact ⟨rfl, HJ.out.keep 53 _ (by decide) (by decide) (by decide) (by decide), trivial, rfl⟩
    · intro vs w1 L hLi hd hdt hJ hp
      have q53 : vs 53 = (.pointer (some ⟨eb, 0, none⟩)) := hp 53 (by decide)
      have HJ := Lib.hid hJ
      clear hp hd hdt hLi hJ
      simp only [putAll, Nat.reduceAdd]
      go_wp2
      exact ⟨rfl, HJ.out.keep 54 _ (by decide) (by decide) (by decide) (by decide), trivial, rfl⟩
    · intro vs w1 L hLi hd hdt hJ hp
      have q54 : vs 54 = (.pointer (some ⟨eb, 0, none⟩)) := hp 54 (by decide)
      have HJ := Lib.hid hJ
      clear hp hd hdt hLi hJ
      simp only [putAll, Nat.reduceAdd]
      go_wp2
      exact ⟨rfl, HJ.out.keep 55 _ (by decide) (by decide) (by decide) (by decide), trivial, rfl⟩
    · intro vs w1 L hLi hd hdt hJ hp
      have q55 : vs 55 = (.pointer (some ⟨eb, 15, none⟩)) := hp 55 (by decide)
      have H0 := Lib.hid (hd 0 (by decide))
      have HJ := Lib.hid hJ
      have hb := hJ.B H0.out
      have hv0 := hb.1
      clear hp hd hdt hJ
      simp only [putAll, Nat.reduceAdd, Act.put, List.setIfInBounds_toArray, List.set_cons_zero, List.set_cons_succ]
      refine wp_ins hb.2.2 rfl _ _ _ 254 _ rfl Tryz.underlying254 apart73 (e := (56, 70, 15)) (by decide) hLi (by decide) (by decide) hv0 rfl q55 ?_
      intro w2 hmo hg
      exact ⟨rfl, HJ.out.ins H0.out 56 _ (by decide) (by decide) (by decide) hmo hg, trivial, trivial⟩
    · intro vs w1 L hLi hd hdt hJ hp
      have HJ := Lib.hid hJ
      clear hp hd hdt hLi hJ
      simp only [putAll, Nat.reduceAdd]
      go_wp2
      exact ⟨rfl, HJ.out.keep 57 _ (by decide) (by decide) (by decide) (by decide), trivial, rfl⟩
    · intro vs w1 L hLi hd hdt hJ hp
      have q57 : vs 57 = (.pointer (some ⟨eb, 0, none⟩)) := hp 57 (by decide)
      have HJ := Lib.hid hJ
      clear hp hd hdt hLi hJ
      simp only [putAll, Nat.reduceAdd]
      go_wp2
      exact ⟨rfl, HJ.out.keep 58 _ (by decide) (by decide) (by decide) (by decide), trivial, rfl⟩
    · intro vs w1 L hLi hd hdt hJ hp
      have q58 : vs 58 = (.pointer (some ⟨eb, 0, none⟩)) := hp 58 (by decide)
      have HJ := Lib.hid hJ
      clear hp hd hdt hLi hJ
      simp only [putAll, Nat.reduceAdd]
      go_wp2
      exact ⟨rfl, HJ.out.keep 59 _ (by decide) (by decide) (by decide) (by decide), trivial, rfl⟩
    · intro vs w1 L hLi hd hdt hJ hp
      have q59 : vs 59 = (.pointer (some ⟨eb, 17, none⟩)) := hp 59 (by decide)
      have H0 := Lib.hid (hd 0 (by decide))
      have HJ := Lib.hid hJ
      have hb := hJ.B H0.out
      have hv0 := hb.1
      clear hp hd hdt hJ
      simp only [putAll, Nat.reduceAdd, Act.put, List.setIfInBounds_toArray, List.set_cons_zero, List.set_cons_succ]
      refine wp_ins hb.2.2 rfl _ _ _ 254 _ rfl Tryz.underlying254 apart73 (e := (60, 82, 17)) (by decide) hLi (by decide) (by decide) hv0 rfl q59 ?_
      intro w2 hmo hg
      exact ⟨rfl, HJ.out.ins H0.out 60 _ (by decide) (by decide) (by decide) hmo hg, trivial, trivial⟩
    · intro vs w1 L hLi hd hdt hJ hp
      have HJ := Lib.hid hJ
      clear hp hd hdt hLi hJ
      simp only [putAll, Nat.reduceAdd]
      go_wp2
      exact ⟨rfl, HJ.out.move 61 _ rfl (by decide) (by decide), trivial, trivial⟩
    · intro vs w1 L hLi hd hdt hJ hp
      have HJ := Lib.hid hJ
      have hl := hd 61 (by decide)
      have hc := hJ.C hl
      have HCC := Lib.hid hc
      clear hp hd hdt hLi hJ hc hl
      simp only [putAll, Nat.reduceAdd]
      go_wp2
      exact ⟨rfl, HJ.out.move 62 _ HCC.out (by decide) (by decide), trivial, trivial⟩
  · intro vs w1 L hall hJ hp
    have HJ := Lib.hid hJ
    have HA := Lib.hid hall
    have h62 := hJ.D (hall 62 (by decide))
    have hb := hJ.B (hall 0 (by decide))
    rw [hb.1] at h62
    have HBB := Lib.hid hb
    clear hp hall hJ hb
    simp only [putAll, Nat.reduceAdd, Act.put, h62, List.setIfInBounds_toArray, List.set_cons_zero, List.set_cons_succ]
    clear h62
    simp only [Exit.inBlock, Exit.then]
    try go_at_K
    go_wp2
    go_ret
    exact ⟨_, rfl, HJ.out.A, HBB.out.2.1, L, fun e he => HA.out e.1 (by revert e he; decide), HBB.out.2.2⟩
def tab74 : List (Nat × Int × Nat) := [(4, 80, 6), (8, 112, 7), (12, 76, 16)]
theorem apart74 : Apart tab74 := by unfold Apart tab74; decide
set_option maxRecDepth 100000 in
set_option maxHeartbeats 4000000 in
theorem map74 (eb : Nat) (w : World) : Calls Tryz.prog 74 #[.pointer (some ⟨eb, 0, none⟩)] w (fun e w' => ∃ b, e = .returned (.map (some b)) ∧ Ext w w' ∧ w.heap.size ≤ b ∧ ∃ L : Nat → Bool, (∀ e ∈ tab74, L e.1 = true) ∧ MapOwn eb tab74 L b w') := by
  go_enter Tryz.func74, Tryz.ntmps74
  go_wp2
  refine wp_region_ogL (J := MapJ eb tab74 13 14 w) (R := fun _ _ => True) [Sp.any _, Sp.eq _ (.pointer (some ⟨eb, 0, none⟩)), Sp.eq _ (.pointer (some ⟨eb, 0, none⟩)), Sp.eq _ (.pointer (some ⟨eb, 6, none⟩)), Sp.any _, Sp.eq _ (.pointer (some ⟨eb, 0, none⟩)), Sp.eq _ (.pointer (some ⟨eb, 0, none⟩)), Sp.eq _ (.pointer (some ⟨eb, 7, none⟩)), Sp.any _, Sp.eq _ (.pointer (some ⟨eb, 0, none⟩)), Sp.eq _ (.pointer (some ⟨eb, 0, none⟩)), Sp.eq _ (.pointer (some ⟨eb, 16, none⟩)), Sp.any _, Sp.any _, Sp.any _] (by kernel_rfl) (by kernel_rfl) ?_ ?_ ?_
  · exact MapJ.start eb tab74 13 14 w _
  · refine ⟨?_, ?_, ?_, ?_, ?_, ?_, ?_, ?_, ?_, ?_, ?_, ?_, ?_, ?_, ?_, trivial⟩
    · intro vs w1 L hLi hd hdt hJ hp
      have HJ := Lib.hid hJ
      have HT := Lib.hid hdt
      have hmk := run_makeMap (P := Tryz.prog) 256 w1
      clear hp hd hdt hLi hJ
      simp only [putAll, Nat.reduceAdd]
      go_wp2
      exact ⟨rfl, HJ.out.make (fun e he => HT.out e.1 (by revert e he; decide)) (by decide) (HT.out _ (by decide)) (HT.out _ (by decide)) (by decide) (by decide), trivial, trivial⟩
    · intro vs w1 L hLi hd hdt hJ hp
      have HJ := Lib.hid hJ
      clear hp hd hdt hLi hJ
      simp only [putAll, Nat.reduceAdd]
      go_wp2
      exact ⟨rfl, HJ.out.keep 1 _ (by decide) (by decide) (by decide) (by decide), trivial, rfl⟩
    · intro vs w1 L hLi hd hdt hJ hp
      have q1 : vs 1 = (.pointer (some ⟨eb, 0, none⟩)) := hp 1 (by decide)
      have HJ := Lib.hid hJ
      clear hp hd hdt hLi hJ
      simp only [putAll, Nat.reduceAdd]
      go_wp2
      exact ⟨rfl, HJ.out.keep 2 _ (by decide) (by decide) (by decide) (by decide), trivial, rfl⟩
    · intro vs w1 L hLi hd hdt hJ hp
      have q2 : vs 2 = (.pointer (some ⟨eb, 0, none⟩)) := hp 2 (by decide)
      have HJ := Lib.hid hJ
      clear hp hd hdt hLi hJ
      simp only [putAll, Nat.reduceAdd]
      go_wp2
      exact ⟨rfl, HJ.out.keep 3 _ (by decide) (by decide) (by decide) (by decide), trivial, rfl⟩
    · intro vs w1 L hLi hd hdt hJ hp
      have q3 : vs 3 = (.pointer (some ⟨eb, 6, none⟩)) := hp 3 (by decide)
      have H0 := Lib.hid (hd 0 (by decide))
      have HJ := Lib.hid hJ
      have hb := hJ.B H0.out
      have hv0 := hb.1
      clear hp hd hdt hJ
      simp only [putAll, Nat.reduceAdd, Act.put, List.setIfInBounds_toArray, List.set_cons_zero, List.set_cons_succ]
      refine wp_ins hb.2.2 rfl _ _ _ 256 _ rfl Tryz.underlying256 apart74 (e := (4, 80, 6)) (by decide) hLi (by decide) (by decide) hv0 rfl q3 ?_
      intro w2 hmo hg
      exact ⟨rfl, HJ.out.ins H0.out 4 _ (by decide) (by decide) (by decide) hmo hg, trivial, trivial⟩
    · intro vs w1 L hLi hd hdt hJ hp
      have HJ := Lib.hid hJ
      clear hp hd hdt hLi hJ
      simp only [putAll, Nat.reduceAdd]
      go_wp2
      exact ⟨rfl, HJ.out.keep 5 _ (by decide) (by decide) (by decide) (by decide), trivial, rfl⟩
    · intro vs w1 L hLi hd hdt hJ hp
      have q5 : vs 5 = (.pointer (some ⟨eb, 0, none⟩)) := hp 5 (by decide)
      have HJ := Lib.hid hJ
      clear hp hd hdt hLi hJ
      simp only [putAll, Nat.reduceAdd]
      go_wp2
      exact ⟨rfl, HJ.out.keep 6 _ (by decide) (by decide) (by decide) (by decide), trivial, rfl⟩
    · intro vs w1 L hLi hd hdt hJ hp
      have q6 : vs 6 = (.pointer (some ⟨eb, 0, none⟩)) := hp 6 (by decide)
      have HJ := Lib.hid hJ
      clear hp hd hdt hLi hJ
      simp only [putAll, Nat.reduceAdd]
      go_wp2
      exact ⟨rfl, HJ.out.keep 7 _ (by decide) (by decide) (by decide) (by decide), trivial, rfl⟩
    · intro vs w1 L hLi hd hdt hJ hp
      have q7 : vs 7 = (.pointer (some ⟨eb, 7, none⟩)) := hp 7 (by decide)
      have H0 := Lib.hid (hd 0 (by decide))
      have HJ := Lib.hid hJ
      have hb := hJ.B H0.out
      have hv0 := hb.1
      clear hp hd hdt hJ
      simp only [putAll, Nat.reduceAdd, Act.put, List.setIfInBounds_toArray, List.set_cons_zero, List.set_cons_succ]
      refine wp_ins hb.2.2 rfl _ _ _ 256 _ rfl Tryz.underlying256 apart74 (e := (8, 112, 7)) (by decide) hLi (by decide) (by decide) hv0 rfl q7 ?_
      intro w2 hmo hg
      exact ⟨rfl, HJ.out.ins H0.out 8 _ (by decide) (by decide) (by decide) hmo hg, trivial, trivial⟩
    · intro vs w1 L hLi hd hdt hJ hp
      have HJ := Lib.hid hJ
      clear hp hd hdt hLi hJ
      simp only [putAll, Nat.reduceAdd]
      go_wp2
      exact ⟨rfl, HJ.out.keep 9 _ (by decide) (by decide) (by decide) (by decide), trivial, rfl⟩
    · intro vs w1 L hLi hd hdt hJ hp
      have q9 : vs 9 = (.pointer (some ⟨eb, 0, none⟩)) := hp 9 (by decide)
      have HJ := Lib.hid hJ
      clear hp hd hdt hLi hJ
      simp only [putAll, Nat.reduceAdd]
      go_wp2
      exact ⟨rfl, HJ.out.keep 10 _ (by decide) (by decide) (by decide) (by decide), trivial, rfl⟩
    · intro vs w1 L hLi hd hdt hJ hp
      have q10 : vs 10 = (.pointer (some ⟨eb, 0, none⟩)) := hp 10 (by decide)
      have HJ := Lib.hid hJ
      clear hp hd hdt hLi hJ
      simp only [putAll, Nat.reduceAdd]
      go_wp2
      exact ⟨rfl, HJ.out.keep 11 _ (by decide) (by decide) (by decide) (by decide), trivial, rfl⟩
    · intro vs w1 L hLi hd hdt hJ hp
      have q11 : vs 11 = (.pointer (some ⟨eb, 16, none⟩)) := hp 11 (by decide)
      have H0 := Lib.hid (hd 0 (by decide))
      have HJ := Lib.hid hJ
      have hb := hJ.B H0.out
      have hv0 := hb.1
      clear hp hd hdt hJ
      simp only [putAll, Nat.reduceAdd, Act.put, List.setIfInBounds_toArray, List.set_cons_zero, List.set_cons_succ]
      refine wp_ins hb.2.2 rfl _ _ _ 256 _ rfl Tryz.underlying256 apart74 (e := (12, 76, 16)) (by decide) hLi (by decide) (by decide) hv0 rfl q11 ?_
      intro w2 hmo hg
      exact ⟨rfl, HJ.out.ins H0.out 12 _ (by decide) (by decide) (by decide) hmo hg, trivial, trivial⟩
    · intro vs w1 L hLi hd hdt hJ hp
      have HJ := Lib.hid hJ
      clear hp hd hdt hLi hJ
      simp only [putAll, Nat.reduceAdd]
      go_wp2
      exact ⟨rfl, HJ.out.move 13 _ rfl (by decide) (by decide), trivial, trivial⟩
    · intro vs w1 L hLi hd hdt hJ hp
      have HJ := Lib.hid hJ
      have hl := hd 13 (by decide)
      have hc := hJ.C hl
      have HCC := Lib.hid hc
      clear hp hd hdt hLi hJ hc hl
      simp only [putAll, Nat.reduceAdd]
      go_wp2
      exact ⟨rfl, HJ.out.move 14 _ HCC.out (by decide) (by decide), trivial, trivial⟩
  · intro vs w1 L hall hJ hp
    have HJ := Lib.hid hJ
    have HA := Lib.hid hall
    have h62 := hJ.D (hall 14 (by decide))
    have hb := hJ.B (hall 0 (by decide))
    rw [hb.1] at h62
    have HBB := Lib.hid hb
    clear hp hall hJ hb
    simp only [putAll, Nat.reduceAdd, Act.put, h62, List.setIfInBounds_toArray, List.set_cons_zero, List.set_cons_succ]
    clear h62
    simp only [Exit.inBlock, Exit.then]
    try go_at_K
    go_wp2
    go_ret
    exact ⟨_, rfl, HJ.out.A, HBB.out.2.1, L, fun e he => HA.out e.1 (by revert e he; decide), HBB.out.2.2⟩
end Go.Proofs.YtdenjanihikolaaGreatDoor

namespace Go.Proofs.YtdenjanihikolaaGreatDoor
open Go.RowKit
set_option linter.unusedVariables false
set_option linter.unusedSimpArgs false
def numOf (acc : Nat) (l : List UInt8) : Nat := l.foldl (fun a c => a * 10 + (c.toNat - 48)) acc
def Dig (l : List UInt8) : Prop := ∀ c ∈ l, 48 ≤ c.toNat ∧ c.toNat ≤ 57
theorem numOf_snoc (acc : Nat) (l : List UInt8) (c : UInt8) : numOf acc (l ++ [c]) = numOf acc l * 10 + (c.toNat - 48) := by
  simp [numOf, List.foldl_append]
theorem numOf_lt : ∀ (l : List UInt8) (acc : Nat), Dig l → numOf acc l < (acc + 1) * 10 ^ l.length
  | [], acc, _ => by simp [numOf]
  | c :: r, acc, h => by
    have h1 := h c (by simp)
    have h2 := numOf_lt r (acc * 10 + (c.toNat - 48)) (fun x hx => h x (by simp [hx]))
    show numOf (acc * 10 + (c.toNat - 48)) r < _
    refine Nat.lt_of_lt_of_le h2 ?_
    rw [List.length_cons, Nat.pow_succ, Nat.mul_comm (10 ^ r.length) 10, ← Nat.mul_assoc]
    exact Nat.mul_le_mul_right _ (by omega)
theorem numOf_ge : ∀ (l : List UInt8) (acc : Nat), acc ≤ numOf acc l
  | [], acc => Nat.le_refl _
  | c :: r, acc => by
    have h2 := numOf_ge r (acc * 10 + (c.toNat - 48))
    show acc ≤ numOf (acc * 10 + (c.toNat - 48)) r
    omega
theorem parse_ok : ∀ (l : List UInt8) (acc : Nat), Dig l → numOf acc l < 1000000000 → Lib.parseUintM (2 ^ 32 - 1) acc l = .ok (numOf acc l)
  | [], acc, _, _ => rfl
  | c :: r, acc, h, hn => by
    have h1 := h c (by simp)
    have hn2 : numOf (acc * 10 + (c.toNat - 48)) r < 1000000000 := hn
    have h2 := numOf_ge r (acc * 10 + (c.toNat - 48))
    unfold Lib.parseUintM
    rw [if_pos h1, if_neg (by omega), if_neg (by omega)]
    exact parse_ok r _ (fun x hx => h x (by simp [hx])) hn2
theorem num_pos {c : UInt8} {r : List UInt8} (h : Dig (c :: r)) (h0 : c.toNat ≠ 48) : 1 ≤ numOf 0 (c :: r) := by
  have h1 := h c (by simp)
  have h2 := numOf_ge r (0 * 10 + (c.toNat - 48))
  show 1 ≤ numOf (0 * 10 + (c.toNat - 48)) r
  omega
theorem dec_num : ∀ (n : Nat) (l : List UInt8), l.length = n → Dig l → l ≠ [] → (∀ c, l.head? = some c → c.toNat ≠ 48) → Lib.decDigits (numOf 0 l) = l := by
  intro n
  induction n with
  | zero => intro l hl _ hne; exact absurd (List.eq_nil_of_length_eq_zero hl) hne
  | succ n ih =>
    intro l hl hd hne hh
    obtain ⟨r, c, rfl⟩ : ∃ r c, l = r ++ [c] := ⟨l.dropLast, l.getLast hne, (List.dropLast_concat_getLast hne).symm⟩
    have hc := hd c (by simp)
    rw [numOf_snoc]
    by_cases hr : r = []
    · subst hr
      have e : numOf 0 [] = 0 := rfl
      rw [e, Lib.decDigits_one (by omega)]
      have : UInt8.ofNat (48 + (0 * 10 + (c.toNat - 48))) = c := by
        rw [show 48 + (0 * 10 + (c.toNat - 48)) = c.toNat by omega]
        simp
      rw [this]; rfl
    · have hdr : Dig r := fun x hx => hd x (by simp [hx])
      have hhr : ∀ x, r.head? = some x → x.toNat ≠ 48 := fun x hx => hh x (by
        cases r with
        | nil => exact absurd rfl hr
        | cons a t => simpa using hx)
      have h1 := ih r (by simpa using hl) hdr hr hhr
      have h2 : 1 ≤ numOf 0 r := by
        cases r with
        | nil => exact absurd rfl hr
        | cons a t => exact num_pos hdr (hhr a rfl)
      rw [Lib.decDigits, dif_neg (by omega)]
      rw [show (numOf 0 r * 10 + (c.toNat - 48)) / 10 = numOf 0 r by omega, show 48 + (numOf 0 r * 10 + (c.toNat - 48)) % 10 = c.toNat by omega, h1]
      simp
/-- The number that a numeral of a field spells. -/
def numS (s : ByteArray) : Int := (numOf 0 s.data.toList : Int)
theorem dig_of {s : ByteArray} (h : digP s) : Dig s.data.toList := by
  intro c hc
  obtain ⟨k, hk, rfl⟩ := List.mem_iff_getElem.1 hc
  have hk2 : k < s.size := by simpa using hk
  have h1 := h.2.2.1 k hk2
  have e : s[k] = s.data.toList[k] := by simp [ByteArray.getElem_eq_getElem_data]
  rw [e] at h1
  omega
theorem len_of (s : ByteArray) : s.data.toList.length = s.size := by rw [Array.length_toList]; rfl
theorem num_facts {s : ByteArray} (h : digP s) : Lib.parseIntB 32 s.data.toList = .ok (numS s) ∧ 0 < numS s ∧ numS s < 1000000000 ∧ Lib.itoa (numS s) = s.data.toList := by
  have hd := dig_of h
  have hl := len_of s
  have hne : s.data.toList ≠ [] := fun e => h.1 (by rw [e] at hl; exact hl.symm)
  have hlt : numOf 0 s.data.toList < 1000000000 := by
    have h1 := numOf_lt s.data.toList 0 hd
    have h2 : 10 ^ s.data.toList.length ≤ 10 ^ 9 := Nat.pow_le_pow_right (by decide) (by rw [hl]; exact h.2.1)
    omega
  have hh : ∀ c, s.data.toList.head? = some c → c.toNat ≠ 48 := by
    intro c hc
    have hpos : 0 < s.size := Nat.pos_of_ne_zero h.1
    have h1 := h.2.2.2 hpos
    have e : s[0] = s.data.toList[0]'(by rw [hl]; exact hpos) := by simp [ByteArray.getElem_eq_getElem_data]
    rw [e] at h1
    rw [List.head?_eq_getElem?, List.getElem?_eq_getElem (by rw [hl]; exact hpos)] at hc
    obtain rfl := Option.some.inj hc
    omega
  have hdec := dec_num _ _ rfl hd hne hh
  have hp := parse_ok s.data.toList 0 hd hlt
  have h0 : 0 < numOf 0 s.data.toList := by
    cases e : s.data.toList with
    | nil => exact absurd e hne
    | cons a t =>
      rw [e] at hd hh
      exact num_pos hd (hh a rfl)
  refine ⟨?_, by unfold numS; omega, by unfold numS; omega, ?_⟩
  · unfold numS
    cases e : s.data.toList with
    | nil => exact absurd e hne
    | cons a t =>
      rw [e] at hd hp hlt
      have ha := hd a (by simp)
      unfold Lib.parseIntB
      simp only []
      rw [if_neg (by omega), show Lib.parseUintB 32 (a :: t) = Lib.parseUintM (2 ^ 32 - 1) 0 (a :: t) from if_neg (by simp), hp]
      simp only []
      rw [if_neg (by intro h; have := h.2; omega), if_neg (by intro h; omega), if_neg (by omega)]
  · unfold numS
    rw [Lib.itoa_nonneg, hdec]
end Go.Proofs.YtdenjanihikolaaGreatDoor
