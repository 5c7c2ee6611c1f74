/- Decode of the thin package, over the method's contract. -/
import Derived.Test.YtdenjanihikolaaGreatDoorUWk
namespace Go.Proofs.YtdenjanihikolaaGreatDoor
open Go.RowKit Og
set_option linter.unusedVariables false
set_option linter.unusedSimpArgs false

theorem idle45 (p q : Addr) (w : World) : CallsD Tryz.prog 45 #[.pointer (some p), .pointer (some q)] .returning w fun e u' w' => e = .returned (.tuple #[]) ∧ u' = .returning ∧ w' = w := by
  refine callsD_of_wpS Tryz.func45 rfl fun c₀ cs hu => ?_
  apply wpS_seq
  apply wpS_region
  simp [wpOpsS, go_sem, recoverD, hu, Tryz.ntmps45, Exit.thenS]
  refine wpS_cond (t := false) (by simp [Act.eval, Array.replicate]) ?_
  simp only [Bool.false_eq_true, if_false]
  refine wpS_of_wp (wp_skip ?_)
  cases c₀
  simp_all [bodyPostS, results, Tryz.results45]

set_option maxRecDepth 100000 in
theorem copied47 (v : Value) (xs : List Int) (w : World) (h : RdB w v xs) (hl : xs.length ≤ 1000000) : Calls Tryz.prog 47 #[v] w (Gave w xs) := by
  have HR := Lib.hid h
  have HB := Lib.hid (Buf.nil w)
  go_enter Tryz.func47, Tryz.ntmps47
  go_wp2_with (at_builtin; refine ap_row (ys := xs) rfl _ _ 26 26 rfl Tryz.underlying26 Tryz.underlying26 rfl HB.out rfl HR.out (by simp; omega) ?_; intro v2 w2 hn; clear HB; have HB := Lib.hid hn; clear hn)
  go_ret
  exact ⟨_, rfl, by simpa using HB.out⟩

/-- All blocks but one stand. -/
structure ExtBut (b : Nat) (w w' : World) : Prop where
  os : w'.os = w.os
  tape : w'.tape = w.tape
  output : w'.output = w.output
  size : w.heap.size ≤ w'.heap.size
  block : ∀ k, k < w.heap.size → k ≠ b → w'.heap[k]? = w.heap[k]?
theorem Ext.but {b : Nat} {w w' : World} (h : Ext w w') : ExtBut b w w' := ⟨h.os, h.tape, h.output, h.size, fun k hk _ => h.block k hk⟩
theorem ExtBut.trans {b : Nat} {w w1 w2 : World} (h : ExtBut b w w1) (h2 : ExtBut b w1 w2) : ExtBut b w w2 :=
  ⟨h2.os.trans h.os, h2.tape.trans h.tape, h2.output.trans h.output, Nat.le_trans h.size h2.size, fun k hk hb => (h2.block k (Nat.lt_of_lt_of_le hk h.size) hb).trans (h.block k hk hb)⟩
theorem ExtBut.set {b : Nat} {w w1 : World} (h : ExtBut b w w1) (j : Nat) (v : Value) : ExtBut b w (w1.setCell ⟨b, j, none⟩ v) :=
  ⟨h.os, h.tape, h.output, by simpa [World.setCell] using h.size, fun k hk hb => (heap_setCell_other w1 ⟨b, j, none⟩ k v hb).trans (h.block k hk hb)⟩
theorem ExtBut.ext {b : Nat} {w w1 w2 : World} (h : ExtBut b w1 w2) (hx : Ext w w1) (hb : w.heap.size ≤ b) : Ext w w2 :=
  ⟨h.os.trans hx.os, h.tape.trans hx.tape, h.output.trans hx.output, Nat.le_trans hx.size h.size, fun k hk => (h.block k (Nat.lt_of_lt_of_le hk hx.size) (by omega)).trans (hx.block k hk)⟩

/-- An interface value's parts. -/
def ifT : Value → Nat
  | .iface t _ => t
  | _ => 0
def ifV : Value → Value
  | .iface _ v => v
  | v => v
/-- What Decode of the thin package hands back where it can't. -/
def NoDec (w : World) : Ending → World → Prop := fun e w' => e = .returned (.tuple #[.agg #[.int .i64 0, .string ⟨#[]⟩, .string ⟨#[]⟩, .int .u32 0, .int .u32 0, .slice none 0 0, .slice none 0 0, .slice none 0 0, .slice none 0 0, .slice none 0 0, .slice none 0 0, .slice none 0 0, .slice none 0 0], .bool false]) ∧ Ext w w'
/-- Where Decode stands: the copy made or not, the method called or not. -/
def DecJ (W0 : World) (xs : List Int) (D : Value → World → Prop) (L : Nat → Bool) (vs : Nat → Value) (w : World) : Prop :=
  if L 9 then D (vs 9) w else Ext W0 w ∧ (L 5 = true → RdB w (vs 5) xs)
theorem DecJ.keep {W0 : World} {xs : List Int} {D : Value → World → Prop} {L : Nat → Bool} {vs : Nat → Value} {w : World} (h : DecJ W0 xs D L vs w) (i : Nat) (u : Value) (h5 : 5 ≠ i) (h9 : 9 ≠ i) : DecJ W0 xs D (updB L i) (upd vs i u) w := by
  unfold DecJ at *
  simpa [updB, upd, h5, h9] using h

set_option maxRecDepth 100000 in
set_option maxHeartbeats 1000000 in
theorem dec_err (T FN ty : Nat) (cs0 : Array Value) (kd : Int) (vb : Value) (xs : List Int) (w : World) (hb : RdB w vb xs) (hl : xs.length ≤ 1000000)
   (hmeth : ∀ b w, (method 480 T (.pointer (some ⟨b, 0, none⟩)) "Decode").run Tryz.prog w = .ok (FN, .pointer (some ⟨b, 0, none⟩)) w)
   (hnil : ∀ b w, (nilAhead 480 T (.pointer (some ⟨b, 0, none⟩)) "Decode").run Tryz.prog w = .ok (some false) w)
   (hcall : ∀ args w, (callFunc FN args).run Tryz.prog w = .ok (.enter FN args) w)
   (hE : ∀ w, Calls Tryz.prog 46 #[.int .i64 kd] w (fun e w' => e = .returned (.iface T (.pointer (some ⟨w.heap.size, 0, none⟩))) ∧ w' = w.alloc (.cells cs0 ty)))
   (hD : ∀ w1 b v, Ext w w1 → w.heap.size ≤ b → RdB w1 v xs → Calls Tryz.prog FN #[.pointer (some ⟨b, 0, none⟩), v] w1 (fun e w2 => ∃ Te ve, e = .returned (.iface Te ve) ∧ ExtBut b w1 w2)) :
    Calls Tryz.prog 19 #[.int .i64 kd, vb] w (NoDec w) := by
  have hmf : ∀ (fn : Fn) (first cap : Array Value) (w : World), (Instr.makeFunc fn first cap).run Tryz.prog w = .ok (.func fn first cap) w := fun _ _ _ _ => rfl
  obtain ⟨W3, hW3⟩ : ∃ W3, W3 = (((w.alloc (.cells #[.int .i64 0, .string ⟨#[]⟩, .string ⟨#[]⟩, .int .u32 0, .int .u32 0, .slice none 0 0, .slice none 0 0, .slice none 0 0, .slice none 0 0, .slice none 0 0, .slice none 0 0, .slice none 0 0, .slice none 0 0] 31)).alloc (.cells #[.bool false] 4)).alloc (.cells cs0 ty)) := ⟨_, rfl⟩
  have XW : Hid (Ext w W3) := Lib.hid (by rw [hW3]; exact ((ext_alloc w _).alloc _).alloc _)
  have BX4 : Hid (W3.heap[w.heap.size]? = some (.cells #[.int .i64 0, .string ⟨#[]⟩, .string ⟨#[]⟩, .int .u32 0, .int .u32 0, .slice none 0 0, .slice none 0 0, .slice none 0 0, .slice none 0 0, .slice none 0 0, .slice none 0 0, .slice none 0 0, .slice none 0 0] 31 (0, 0))) := Lib.hid (by
    rw [hW3]
    have e1 := ((ext_alloc (w.alloc (.cells #[.int .i64 0, .string ⟨#[]⟩, .string ⟨#[]⟩, .int .u32 0, .int .u32 0, .slice none 0 0, .slice none 0 0, .slice none 0 0, .slice none 0 0, .slice none 0 0, .slice none 0 0, .slice none 0 0, .slice none 0 0] 31)) (.cells #[.bool false] 4)).alloc (.cells cs0 ty)).block w.heap.size (by simp)
    rw [e1]; exact heap_alloc_new _ _)
  have BX5 : Hid (W3.heap[w.heap.size + 1]? = some (.cells #[.bool false] 4 (0, 0))) := Lib.hid (by
    rw [hW3]
    have e1 := (ext_alloc ((w.alloc (.cells #[.int .i64 0, .string ⟨#[]⟩, .string ⟨#[]⟩, .int .u32 0, .int .u32 0, .slice none 0 0, .slice none 0 0, .slice none 0 0, .slice none 0 0, .slice none 0 0, .slice none 0 0, .slice none 0 0, .slice none 0 0] 31)).alloc (.cells #[.bool false] 4)) (.cells cs0 ty)).block (w.heap.size + 1) (by simp)
    rw [e1]
    have := heap_alloc_new (w.alloc (.cells #[.int .i64 0, .string ⟨#[]⟩, .string ⟨#[]⟩, .int .u32 0, .int .u32 0, .slice none 0 0, .slice none 0 0, .slice none 0 0, .slice none 0 0, .slice none 0 0, .slice none 0 0, .slice none 0 0, .slice none 0 0] 31)) (.cells #[.bool false] 4)
    simpa using this)
  have HB := Lib.hid hb
  have HE := Lib.hid hE
  obtain ⟨D, hDD⟩ : ∃ D : Value → World → Prop, D = fun u w2 => u = .iface (ifT u) (ifV u) ∧ ExtBut (w.heap.size + 1 + 1) W3 w2 := ⟨_, rfl⟩
  have HD : Hid (∀ w1 v, Ext W3 w1 → RdB w1 v xs → Calls Tryz.prog FN #[.pointer (some ⟨w.heap.size + 1 + 1, 0, none⟩), v] w1 (fun e w2 => ∃ u, e = .returned u ∧ D u w2)) := Lib.hid (by
    intro w1 v h1 h2
    refine (hD w1 _ v (XW.out.trans h1) (by omega) h2).mono ?_
    rintro e w2 ⟨Te, ve, rfl, hx⟩
    exact ⟨_, rfl, by rw [hDD]; exact ⟨rfl, h1.but.trans hx⟩⟩)
  clear hb hE hD
  go_enter_defers Tryz.func19, Tryz.ntmps19
  go_wp2_with (go_at_call 46; refine (HE.out _).mono ?_; rintro e w1 ⟨rfl, rfl⟩)
  rw [← hW3]
  clear hW3
  have hJ0 : Hid (DecJ W3 xs D (fun _ => false) (fun _ => undef) W3.drew) := Lib.hid (by unfold DecJ; exact ⟨(Ext.refl W3).drew, fun h => by cases h⟩)
  refine wp_region_ogL (J := DecJ W3 xs D) (R := fun _ _ => True) [Sp.eq _ (.iface T (.pointer (some ⟨w.heap.size + 1 + 1, 0, none⟩))), Sp.eq _ (.bool false), Sp.eq _ (.bool false), Sp.eq _ (.iface T (.pointer (some ⟨w.heap.size + 1 + 1, 0, none⟩))), Sp.eq _ (vb), Sp.any _, Sp.eq _ (.func (.method "Decode") #[.iface T (.pointer (some ⟨w.heap.size + 1 + 1, 0, none⟩))] #[]), Sp.eq _ (.func (.method "Decode") #[.iface T (.pointer (some ⟨w.heap.size + 1 + 1, 0, none⟩))] #[]), Sp.eq _ (.iface T (.pointer (some ⟨w.heap.size + 1 + 1, 0, none⟩))), Sp.any _, Sp.eq _ (.bool true), Sp.eq _ (.bool true)] (by kernel_rfl) (by kernel_rfl) ?_ ?_ ?_
  · exact hJ0.out
  · refine ⟨?_, ?_, ?_, ?_, ?_, ?_, ?_, ?_, ?_, ?_, ?_, ?_, trivial⟩
    · intro vs w1 L hLi hd hdt hJ hp
      have HJ := Lib.hid hJ
      clear hp hd hdt hLi hJ
      simp only [putAll, Nat.reduceAdd]
      go_wp2
      exact ⟨rfl, HJ.out.keep 0 _ (by decide) (by decide), trivial, rfl⟩
    · intro vs w1 L hLi hd hdt hJ hp
      have q0 : vs 0 = .iface T (.pointer (some ⟨w.heap.size + 1 + 1, 0, none⟩)) := hp 0 (by decide)
      have HJ := Lib.hid hJ
      clear hp hd hdt hLi hJ
      simp only [putAll, Nat.reduceAdd]
      go_wp2
      exact ⟨rfl, HJ.out.keep 1 _ (by decide) (by decide), trivial, rfl⟩
    · intro vs w1 L hLi hd hdt hJ hp
      have q1 : vs 1 = .bool false := hp 1 (by decide)
      have HJ := Lib.hid hJ
      clear hp hd hdt hLi hJ
      simp only [putAll, Nat.reduceAdd]
      go_wp2
      exact ⟨rfl, HJ.out.keep 2 _ (by decide) (by decide), trivial, rfl⟩
    · intro vs w1 L hLi hd hdt hJ hp
      have q2 : vs 2 = .bool false := hp 2 (by decide)
      have HJ := Lib.hid hJ
      clear hp hd hdt hLi hJ
      simp only [putAll, Nat.reduceAdd]
      go_wp2
      exact ⟨rfl, HJ.out.keep 3 _ (by decide) (by decide), trivial, rfl⟩
    · intro vs w1 L hLi hd hdt hJ hp
      have q2 : vs 2 = .bool false := hp 2 (by decide)
      have HJ := Lib.hid hJ
      clear hp hd hdt hLi hJ
      simp only [putAll, Nat.reduceAdd]
      go_wp2
      exact ⟨rfl, HJ.out.keep 4 _ (by decide) (by decide), trivial, rfl⟩
    · intro vs w1 L hLi hd hdt hJ hp
      have q2 : vs 2 = .bool false := hp 2 (by decide)
      have q4 : vs 4 = vb := hp 4 (by decide)
      have hL9 : L 9 = false := hdt 9 (by decide)
      unfold DecJ at hJ
      rw [hL9] at hJ
      simp only [Bool.false_eq_true, if_false] at hJ
      have HJ := Lib.hid hJ.1
      have HL9 := Lib.hid hL9
      clear hp hd hdt hLi hJ hL9
      simp only [putAll, Nat.reduceAdd]
      go_wp2_with (go_at_call 47; refine (copied47 vb xs _ (HB.out.ext (XW.out.trans HJ.out)) hl).mono ?_; rintro e w2 hg; obtain ⟨A2, c2, rfl, hx2, hr2⟩ := hg.elim; have HX2 := Lib.hid (HJ.out.trans hx2); have HR2 := Lib.hid hr2; clear hg hx2 hr2)
      refine ⟨rfl, ?_, trivial, trivial⟩
      unfold DecJ
      simp only [updB, upd, HL9.out, Bool.false_or, Nat.reduceBEq, Bool.false_eq_true, if_false, beq_self_eq_true, Bool.or_true, if_true]
      exact ⟨HX2.out, fun _ => HR2.out⟩
    · intro vs w1 L hLi hd hdt hJ hp
      have q2 : vs 2 = .bool false := hp 2 (by decide)
      have q3 : vs 3 = .iface T (.pointer (some ⟨w.heap.size + 1 + 1, 0, none⟩)) := hp 3 (by decide)
      have HJ := Lib.hid hJ
      clear hp hd hdt hLi hJ
      simp only [putAll, Nat.reduceAdd]
      go_wp2
      exact ⟨rfl, HJ.out.keep 6 _ (by decide) (by decide), trivial, rfl⟩
    · intro vs w1 L hLi hd hdt hJ hp
      have q2 : vs 2 = .bool false := hp 2 (by decide)
      have q6 : vs 6 = .func (.method "Decode") #[.iface T (.pointer (some ⟨w.heap.size + 1 + 1, 0, none⟩))] #[] := hp 6 (by decide)
      have HJ := Lib.hid hJ
      clear hp hd hdt hLi hJ
      simp only [putAll, Nat.reduceAdd]
      go_wp2
      exact ⟨rfl, HJ.out.keep 7 _ (by decide) (by decide), trivial, rfl⟩
    · intro vs w1 L hLi hd hdt hJ hp
      have q2 : vs 2 = .bool false := hp 2 (by decide)
      have q3 : vs 3 = .iface T (.pointer (some ⟨w.heap.size + 1 + 1, 0, none⟩)) := hp 3 (by decide)
      have q6 : vs 6 = .func (.method "Decode") #[.iface T (.pointer (some ⟨w.heap.size + 1 + 1, 0, none⟩))] #[] := hp 6 (by decide)
      have q7 : vs 7 = .func (.method "Decode") #[.iface T (.pointer (some ⟨w.heap.size + 1 + 1, 0, none⟩))] #[] := hp 7 (by decide)
      have HJ := Lib.hid hJ
      clear hp hd hdt hLi hJ
      simp only [putAll, Nat.reduceAdd]
      go_wp2
      exact ⟨rfl, HJ.out.keep 8 _ (by decide) (by decide), trivial, rfl⟩
    · intro vs w1 L hLi hd hdt hJ hp
      have q2 : vs 2 = .bool false := hp 2 (by decide)
      have q8 : vs 8 = .iface T (.pointer (some ⟨w.heap.size + 1 + 1, 0, none⟩)) := hp 8 (by decide)
      have hL5 : L 5 = true := hd 5 (by decide)
      unfold DecJ at hJ
      rw [hLi] at hJ
      simp only [Bool.false_eq_true, if_false] at hJ
      have HJ := Lib.hid hJ.1
      have HR := Lib.hid (hJ.2 hL5)
      have HL5 := Lib.hid hL5
      clear hp hd hdt hLi hJ hL5
      simp only [putAll, Nat.reduceAdd]
      go_wp2_with (with_reducible refine (HD.out _ (vs 5) HJ.out HR.out).mono ?_; rintro e w2 ⟨ue, rfl, hue⟩; have HU := Lib.hid hue; clear hue)
      refine ⟨rfl, ?_, trivial, trivial⟩
      unfold DecJ
      simp only [updB, upd, beq_self_eq_true, Bool.or_true, if_true]
      exact HU.out
    · intro vs w1 L hLi hd hdt hJ hp
      have q2 : vs 2 = .bool false := hp 2 (by decide)
      have hL9 : L 9 = true := hd 9 (by decide)
      unfold DecJ at hJ
      rw [hL9] at hJ
      simp only [if_true] at hJ
      have HDD := Lib.hid hJ
      have HL9 := Lib.hid hL9
      have hJ2 : vs 9 = .iface (ifT (vs 9)) (ifV (vs 9)) ∧ ExtBut (w.heap.size + 1 + 1) W3 w1 := by rw [hDD] at HDD; exact HDD.out
      have hv9 := hJ2.1
      have HV9 := Lib.hid hv9
      clear hp hd hdt hLi hJ hL9 hJ2 hv9
      simp only [putAll, Nat.reduceAdd]
      rw [HV9.out]
      go_wp2
      refine ⟨rfl, ?_, trivial, rfl⟩
      unfold DecJ
      simp only [updB, upd, HL9.out, Bool.true_or, Nat.reduceBEq, if_true, Nat.reduceEqDiff, if_false]
      exact HDD.out
    · intro vs w1 L hLi hd hdt hJ hp
      have q2 : vs 2 = .bool false := hp 2 (by decide)
      have q10 : vs 10 = .bool true := hp 10 (by decide)
      have HJ := Lib.hid hJ
      clear hp hd hdt hLi hJ
      simp only [putAll, Nat.reduceAdd]
      go_wp2
      exact ⟨rfl, HJ.out.keep 11 _ (by decide) (by decide), trivial, rfl⟩
  · intro vs w1 L hall hJ hp
    have q0 : vs 0 = .iface T (.pointer (some ⟨w.heap.size + 1 + 1, 0, none⟩)) := hp 0 (by decide)
    have q1 : vs 1 = .bool false := hp 1 (by decide)
    have q2 : vs 2 = .bool false := hp 2 (by decide)
    have q3 : vs 3 = .iface T (.pointer (some ⟨w.heap.size + 1 + 1, 0, none⟩)) := hp 3 (by decide)
    have q4 : vs 4 = vb := hp 4 (by decide)
    have q6 : vs 6 = .func (.method "Decode") #[.iface T (.pointer (some ⟨w.heap.size + 1 + 1, 0, none⟩))] #[] := hp 6 (by decide)
    have q7 : vs 7 = .func (.method "Decode") #[.iface T (.pointer (some ⟨w.heap.size + 1 + 1, 0, none⟩))] #[] := hp 7 (by decide)
    have q8 : vs 8 = .iface T (.pointer (some ⟨w.heap.size + 1 + 1, 0, none⟩)) := hp 8 (by decide)
    have q10 : vs 10 = .bool true := hp 10 (by decide)
    have q11 : vs 11 = .bool true := hp 11 (by decide)
    have hL9 := hall 9 (by decide)
    unfold DecJ at hJ
    rw [hL9] at hJ
    simp only [if_true] at hJ
    rw [hDD] at hJ
    have HX := Lib.hid hJ.2
    clear hJ hp hall hL9
    have b4 := (HX.out.block w.heap.size (lt_of_block BX4.out) (by omega)).trans BX4.out
    have b5 := (HX.out.block (w.heap.size + 1) (lt_of_block BX5.out) (by omega)).trans BX5.out
    have hz0 := cell_slot b4 0 (.int .i64 0) rfl
    have hz1 := cell_slot b4 1 (.string ⟨#[]⟩) rfl
    have hz2 := cell_slot b4 2 (.string ⟨#[]⟩) rfl
    have hz3 := cell_slot b4 3 (.int .u32 0) rfl
    have hz4 := cell_slot b4 4 (.int .u32 0) rfl
    have hz5 := cell_slot b4 5 (.slice none 0 0) rfl
    have hz6 := cell_slot b4 6 (.slice none 0 0) rfl
    have hz7 := cell_slot b4 7 (.slice none 0 0) rfl
    have hz8 := cell_slot b4 8 (.slice none 0 0) rfl
    have hz9 := cell_slot b4 9 (.slice none 0 0) rfl
    have hz10 := cell_slot b4 10 (.slice none 0 0) rfl
    have hz11 := cell_slot b4 11 (.slice none 0 0) rfl
    have hz12 := cell_slot b4 12 (.slice none 0 0) rfl
    have hy0 := free_slot b4 0
    have hy1 := free_slot b4 1
    have hy2 := free_slot b4 2
    have hy3 := free_slot b4 3
    have hy4 := free_slot b4 4
    have hy5 := free_slot b4 5
    have hy6 := free_slot b4 6
    have hy7 := free_slot b4 7
    have hy8 := free_slot b4 8
    have hy9 := free_slot b4 9
    have hy10 := free_slot b4 10
    have hy11 := free_slot b4 11
    have hy12 := free_slot b4 12
    have hz13 := cell_slot b5 0 (.bool false) rfl
    have hy13 := free_slot b5 0
    clear b4 b5
    simp only [putAll, Nat.reduceAdd]
    simp only [Exit.then]
    go_at_K
    simp only [Act.put, q0, q1, q2, q3, q4, q6, q7, q8, q10, q11, List.setIfInBounds_toArray, List.set_cons_zero, List.set_cons_succ]
    go_wp2
    refine leaves_cons (f := 45) (args := #[.pointer (some ⟨w.heap.size, 0, none⟩), .pointer (some ⟨w.heap.size + 1, 0, none⟩)]) (by simp) (by simp [go_sem]) ?_
    refine (idle45 _ _ _).mono ?_
    rintro e u' w'' ⟨rfl, rfl, rfl⟩
    have hfin : NoDec w (.returned (.tuple #[.agg #[.int .i64 0, .string ⟨#[]⟩, .string ⟨#[]⟩, .int .u32 0, .int .u32 0, .slice none 0 0, .slice none 0 0, .slice none 0 0, .slice none 0 0, .slice none 0 0, .slice none 0 0, .slice none 0 0, .slice none 0 0], .bool false])) ((((((((((((((w1.setCell ⟨w.heap.size, 0, none⟩ (.int .i64 0)).setCell ⟨w.heap.size, 1, none⟩ (.string ⟨#[]⟩)).setCell ⟨w.heap.size, 2, none⟩ (.string ⟨#[]⟩)).setCell ⟨w.heap.size, 3, none⟩ (.int .u32 0)).setCell ⟨w.heap.size, 4, none⟩ (.int .u32 0)).setCell ⟨w.heap.size, 5, none⟩ (.slice none 0 0)).setCell ⟨w.heap.size, 6, none⟩ (.slice none 0 0)).setCell ⟨w.heap.size, 7, none⟩ (.slice none 0 0)).setCell ⟨w.heap.size, 8, none⟩ (.slice none 0 0)).setCell ⟨w.heap.size, 9, none⟩ (.slice none 0 0)).setCell ⟨w.heap.size, 10, none⟩ (.slice none 0 0)).setCell ⟨w.heap.size, 11, none⟩ (.slice none 0 0)).setCell ⟨w.heap.size, 12, none⟩ (.slice none 0 0)).setCell ⟨w.heap.size + 1, 0, none⟩ (.bool false)) := ⟨rfl, (((((((((((((((HX.out.ext XW.out (by omega)).set (Nat.le_refl _) 0 (.int .i64 0)).set (Nat.le_refl _) 1 (.string ⟨#[]⟩)).set (Nat.le_refl _) 2 (.string ⟨#[]⟩)).set (Nat.le_refl _) 3 (.int .u32 0)).set (Nat.le_refl _) 4 (.int .u32 0)).set (Nat.le_refl _) 5 (.slice none 0 0)).set (Nat.le_refl _) 6 (.slice none 0 0)).set (Nat.le_refl _) 7 (.slice none 0 0)).set (Nat.le_refl _) 8 (.slice none 0 0)).set (Nat.le_refl _) 9 (.slice none 0 0)).set (Nat.le_refl _) 10 (.slice none 0 0)).set (Nat.le_refl _) 11 (.slice none 0 0)).set (Nat.le_refl _) 12 (.slice none 0 0)).set (by omega) 0 (.bool false))⟩
    have HF := Lib.hid hfin
    clear hfin
    simp [Leaves, settle, results, Tryz.results19, go_sem, hz0, hz1, hz2, hz3, hz4, hz5, hz6, hz7, hz8, hz9, hz10, hz11, hz12, hz13]
    exact HF.out
end Go.Proofs.YtdenjanihikolaaGreatDoor

