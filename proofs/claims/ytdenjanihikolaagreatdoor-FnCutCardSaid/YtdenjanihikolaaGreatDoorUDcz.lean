/- Numbers and texts that a method of decoding reads, by contract. -/
import Derived.Test.YtdenjanihikolaaGreatDoorUDec
import Derived.Test.YtdenjanihikolaaGreatDoorUGr
import Derived.Lib.EndianBits
import Derived.Test.YtdenjanihikolaaGreatDoorUPpb
import Derived.Deep.QuietTactic
import Derived.Deep.Light
namespace Go.Proofs.YtdenjanihikolaaGreatDoor
open Go.RowKit Og
set_option linter.unusedVariables false
set_option linter.unusedSimpArgs false

/-- Where Decode stands: the copy made or not, the method called or not. -/
def DecK (W0 : World) (bk : Nat) (xs : List Int) (D : Value → World → Prop) (L : Nat → Bool) (vs : Nat → Value) (w : World) : Prop :=
  if L 9 then D (vs 9) w else Ext W0 w ∧ (L 5 = true → RdB w (vs 5) xs ∧ (vs 5).ownBlock ≠ some bk)
theorem DecK.keep {W0 : World} {bk : Nat} {xs : List Int} {D : Value → World → Prop} {L : Nat → Bool} {vs : Nat → Value} {w : World} (h : DecK W0 bk xs D L vs w) (i : Nat) (u : Value) (h5 : 5 ≠ i) (h9 : 9 ≠ i) : DecK W0 bk xs D (updB L i) (upd vs i u) w := by
  unfold DecK at *
  simpa [updB, upd, h5, h9] using h

set_option maxRecDepth 100000 in
set_option maxHeartbeats 1000000 in
theorem dec_errz (T FN ty : Nat) (cs0 : Array Value) (kd : Int) (vb : Value) (xs : List Int) (w : World) (hb : RdB w vb xs) (hl : xs.length ≤ 1000000)
   (hmeth : ∀ b w, (method 480 T (.pointer (some ⟨b, 0, none⟩)) "Decode").run Tryz.prog w = .ok (FN, .pointer (some ⟨b, 0, none⟩)) w)
   (hnil : ∀ b w, (nilAhead 480 T (.pointer (some ⟨b, 0, none⟩)) "Decode").run Tryz.prog w = .ok (some false) w)
   (hcall : ∀ args w, (callFunc FN args).run Tryz.prog w = .ok (.enter FN args) w)
   (hE : ∀ w, Calls Tryz.prog 46 #[.int .i64 kd] w (fun e w' => e = .returned (.iface T (.pointer (some ⟨w.heap.size, 0, none⟩))) ∧ w' = w.alloc (.cells cs0 ty)))
   (hD : ∀ w1 b v, Ext w w1 → w.heap.size ≤ b → w1.heap[b]? = some (.cells cs0 ty (0, 0)) → RdB w1 v xs → v.ownBlock ≠ some b → Calls Tryz.prog FN #[.pointer (some ⟨b, 0, none⟩), v] w1 (fun e w2 => ∃ Te ve, e = .returned (.iface Te ve) ∧ ExtBut b w1 w2)) :
    Calls Tryz.prog 19 #[.int .i64 kd, vb] w (NoDec w) := by
  have hmf : ∀ (fn : Fn) (first cap : Array Value) (w : World), (Instr.makeFunc fn first cap).run Tryz.prog w = .ok (.func fn first cap) w := fun _ _ _ _ => rfl
  obtain ⟨W3, hW3⟩ : ∃ W3, W3 = (((w.alloc (.cells #[.int .i64 0, .string ⟨#[]⟩, .string ⟨#[]⟩, .int .u32 0, .int .u32 0, .slice none 0 0, .slice none 0 0, .slice none 0 0, .slice none 0 0, .slice none 0 0, .slice none 0 0, .slice none 0 0, .slice none 0 0] 31)).alloc (.cells #[.bool false] 4)).alloc (.cells cs0 ty)) := ⟨_, rfl⟩
  have XW : Hid (Ext w W3) := Lib.hid (by rw [hW3]; exact ((ext_alloc w _).alloc _).alloc _)
  have BX4 : Hid (W3.heap[w.heap.size]? = some (.cells #[.int .i64 0, .string ⟨#[]⟩, .string ⟨#[]⟩, .int .u32 0, .int .u32 0, .slice none 0 0, .slice none 0 0, .slice none 0 0, .slice none 0 0, .slice none 0 0, .slice none 0 0, .slice none 0 0, .slice none 0 0] 31 (0, 0))) := Lib.hid (by
    rw [hW3]
    have e1 := ((ext_alloc (w.alloc (.cells #[.int .i64 0, .string ⟨#[]⟩, .string ⟨#[]⟩, .int .u32 0, .int .u32 0, .slice none 0 0, .slice none 0 0, .slice none 0 0, .slice none 0 0, .slice none 0 0, .slice none 0 0, .slice none 0 0, .slice none 0 0] 31)) (.cells #[.bool false] 4)).alloc (.cells cs0 ty)).block w.heap.size (by simp)
    rw [e1]; exact heap_alloc_new _ _)
  have BX5 : Hid (W3.heap[w.heap.size + 1]? = some (.cells #[.bool false] 4 (0, 0))) := Lib.hid (by
    rw [hW3]
    have e1 := (ext_alloc ((w.alloc (.cells #[.int .i64 0, .string ⟨#[]⟩, .string ⟨#[]⟩, .int .u32 0, .int .u32 0, .slice none 0 0, .slice none 0 0, .slice none 0 0, .slice none 0 0, .slice none 0 0, .slice none 0 0, .slice none 0 0, .slice none 0 0] 31)).alloc (.cells #[.bool false] 4)) (.cells cs0 ty)).block (w.heap.size + 1) (by simp)
    rw [e1]
    have := heap_alloc_new (w.alloc (.cells #[.int .i64 0, .string ⟨#[]⟩, .string ⟨#[]⟩, .int .u32 0, .int .u32 0, .slice none 0 0, .slice none 0 0, .slice none 0 0, .slice none 0 0, .slice none 0 0, .slice none 0 0, .slice none 0 0, .slice none 0 0] 31)) (.cells #[.bool false] 4)
    simpa using this)
  have HBB : Hid (W3.heap[w.heap.size + 1 + 1]? = some (.cells cs0 ty (0, 0))) := Lib.hid (by
    rw [hW3]
    have := heap_alloc_new ((w.alloc (.cells #[.int .i64 0, .string ⟨#[]⟩, .string ⟨#[]⟩, .int .u32 0, .int .u32 0, .slice none 0 0, .slice none 0 0, .slice none 0 0, .slice none 0 0, .slice none 0 0, .slice none 0 0, .slice none 0 0, .slice none 0 0] 31)).alloc (.cells #[.bool false] 4)) (.cells cs0 ty)
    simpa using this)
  have HBL : Hid (w.heap.size + 1 + 1 < W3.heap.size) := Lib.hid (lt_of_block HBB.out)
  have HB := Lib.hid hb
  have HE := Lib.hid hE
  obtain ⟨D, hDD⟩ : ∃ D : Value → World → Prop, D = fun u w2 => u = .iface (ifT u) (ifV u) ∧ ExtBut (w.heap.size + 1 + 1) W3 w2 := ⟨_, rfl⟩
  have HD : Hid (∀ w1 v, Ext W3 w1 → RdB w1 v xs ∧ v.ownBlock ≠ some (w.heap.size + 1 + 1) → Calls Tryz.prog FN #[.pointer (some ⟨w.heap.size + 1 + 1, 0, none⟩), v] w1 (fun e w2 => ∃ u, e = .returned u ∧ D u w2)) := Lib.hid (by
    intro w1 v h1 h2
    refine (hD w1 _ v (XW.out.trans h1) (by omega) ((h1.block _ HBL.out).trans HBB.out) h2.1 h2.2).mono ?_
    rintro e w2 ⟨Te, ve, rfl, hx⟩
    exact ⟨_, rfl, by rw [hDD]; exact ⟨rfl, h1.but.trans hx⟩⟩)
  clear hb hE hD
  go_enter_defers Tryz.func19, Tryz.ntmps19
  go_wp2_with (go_at_call 46; refine (HE.out _).mono ?_; rintro e w1 ⟨rfl, rfl⟩)
  rw [← hW3]
  clear hW3
  have hJ0 : Hid (DecK W3 (w.heap.size + 1 + 1) xs D (fun _ => false) (fun _ => undef) W3.drew) := Lib.hid (by unfold DecK; exact ⟨(Ext.refl W3).drew, fun h => by cases h⟩)
  refine wp_region_ogL (J := DecK W3 (w.heap.size + 1 + 1) xs D) (R := fun _ _ => True) [Sp.eq _ (.iface T (.pointer (some ⟨w.heap.size + 1 + 1, 0, none⟩))), Sp.eq _ (.bool false), Sp.eq _ (.bool false), Sp.eq _ (.iface T (.pointer (some ⟨w.heap.size + 1 + 1, 0, none⟩))), Sp.eq _ (vb), Sp.any _, Sp.eq _ (.func (.method "Decode") #[.iface T (.pointer (some ⟨w.heap.size + 1 + 1, 0, none⟩))] #[]), Sp.eq _ (.func (.method "Decode") #[.iface T (.pointer (some ⟨w.heap.size + 1 + 1, 0, none⟩))] #[]), Sp.eq _ (.iface T (.pointer (some ⟨w.heap.size + 1 + 1, 0, none⟩))), Sp.any _, Sp.eq _ (.bool true), Sp.eq _ (.bool true)] (by kernel_rfl) (by kernel_rfl) ?_ ?_ ?_
  · exact hJ0.out
  · refine ⟨?_, ?_, ?_, ?_, ?_, ?_, ?_, ?_, ?_, ?_, ?_, ?_, trivial⟩
    · intro vs w1 L hLi hd hdt hJ hp
      have HJ := Lib.hid hJ
      clear hp hd hdt hLi hJ
      simp only [putAll, Nat.reduceAdd]
      go_wp2
      exact ⟨rfl, HJ.out.keep 0 _ (by decide) (by decide), trivial, rfl⟩
    · intro vs w1 L hLi hd hdt hJ hp
      have q0 : vs 0 = .iface T (.pointer (some ⟨w.heap.size + 1 + 1, 0, none⟩)) := hp 0 (by decide)
      have HJ := Lib.hid hJ
      clear hp hd hdt hLi hJ
      simp only [putAll, Nat.reduceAdd]
      go_wp2
      exact ⟨rfl, HJ.out.keep 1 _ (by decide) (by decide), trivial, rfl⟩
    · intro vs w1 L hLi hd hdt hJ hp
      have q1 : vs 1 = .bool false := hp 1 (by decide)
      have HJ := Lib.hid hJ
      clear hp hd hdt hLi hJ
      simp only [putAll, Nat.reduceAdd]
      go_wp2
      exact ⟨rfl, HJ.out.keep 2 _ (by decide) (by decide), trivial, rfl⟩
    · intro vs w1 L hLi hd hdt hJ hp
      have q2 : vs 2 = .bool false := hp 2 (by decide)
      have HJ := Lib.hid hJ
      clear hp hd hdt hLi hJ
      simp only [putAll, Nat.reduceAdd]
      go_wp2
      exact ⟨rfl, HJ.out.keep 3 _ (by decide) (by decide), trivial, rfl⟩
    · intro vs w1 L hLi hd hdt hJ hp
      have q2 : vs 2 = .bool false := hp 2 (by decide)
      have HJ := Lib.hid hJ
      clear hp hd hdt hLi hJ
      simp only [putAll, Nat.reduceAdd]
      go_wp2
      exact ⟨rfl, HJ.out.keep 4 _ (by decide) (by decide), trivial, rfl⟩
    · intro vs w1 L hLi hd hdt hJ hp
      have q2 : vs 2 = .bool false := hp 2 (by decide)
      have q4 : vs 4 = vb := hp 4 (by decide)
      have hL9 : L 9 = false := hdt 9 (by decide)
      unfold DecK at hJ
      rw [hL9] at hJ
      simp only [Bool.false_eq_true, if_false] at hJ
      have HJ := Lib.hid hJ.1
      have HL9 := Lib.hid hL9
      clear hp hd hdt hLi hJ hL9
      simp only [putAll, Nat.reduceAdd]
      go_wp2_with (go_at_call 47; refine (copied47 vb xs _ (HB.out.ext (XW.out.trans HJ.out)) hl).mono ?_; rintro e w2 ⟨v2, rfl, hbu⟩; obtain ⟨A2, c2, hv2⟩ := hbu.len; subst hv2; have HX2 := Lib.hid (HJ.out.trans hbu.bel); have HR2 := Lib.hid (And.intro (RdB.of_own hbu.own) (fun e => hbu.off _ e (Nat.lt_of_lt_of_le HBL.out HJ.out.size))); clear hbu)
      refine ⟨rfl, ?_, trivial, trivial⟩
      unfold DecK
      simp only [updB, upd, HL9.out, Bool.false_or, Nat.reduceBEq, Bool.false_eq_true, if_false, beq_self_eq_true, Bool.or_true, if_true]
      exact ⟨HX2.out, fun _ => HR2.out⟩
    · intro vs w1 L hLi hd hdt hJ hp
      have q2 : vs 2 = .bool false := hp 2 (by decide)
      have q3 : vs 3 = .iface T (.pointer (some ⟨w.heap.size + 1 + 1, 0, none⟩)) := hp 3 (by decide)
      have HJ := Lib.hid hJ
      clear hp hd hdt hLi hJ
      simp only [putAll, Nat.reduceAdd]
      go_wp2
      exact ⟨rfl, HJ.out.keep 6 _ (by decide) (by decide), trivial, rfl⟩
    · intro vs w1 L hLi hd hdt hJ hp
      have q2 : vs 2 = .bool false := hp 2 (by decide)
      have q6 : vs 6 = .func (.method "Decode") #[.iface T (.pointer (some ⟨w.heap.size + 1 + 1, 0, none⟩))] #[] := hp 6 (by decide)
      have HJ := Lib.hid hJ
      clear hp hd hdt hLi hJ
      simp only [putAll, Nat.reduceAdd]
      go_wp2
      exact ⟨rfl, HJ.out.keep 7 _ (by decide) (by decide), trivial, rfl⟩
    · intro vs w1 L hLi hd hdt hJ hp
      have q2 : vs 2 = .bool false := hp 2 (by decide)
      have q3 : vs 3 = .iface T (.pointer (some ⟨w.heap.size + 1 + 1, 0, none⟩)) := hp 3 (by decide)
      have q6 : vs 6 = .func (.method "Decode") #[.iface T (.pointer (some ⟨w.heap.size + 1 + 1, 0, none⟩))] #[] := hp 6 (by decide)
      have q7 : vs 7 = .func (.method "Decode") #[.iface T (.pointer (some ⟨w.heap.size + 1 + 1, 0, none⟩))] #[] := hp 7 (by decide)
      have HJ := Lib.hid hJ
      clear hp hd hdt hLi hJ
      simp only [putAll, Nat.reduceAdd]
      go_wp2
      exact ⟨rfl, HJ.out.keep 8 _ (by decide) (by decide), trivial, rfl⟩
    · intro vs w1 L hLi hd hdt hJ hp
      have q2 : vs 2 = .bool false := hp 2 (by decide)
      have q8 : vs 8 = .iface T (.pointer (some ⟨w.heap.size + 1 + 1, 0, none⟩)) := hp 8 (by decide)
      have hL5 : L 5 = true := hd 5 (by decide)
      unfold DecK at hJ
      rw [hLi] at hJ
      simp only [Bool.false_eq_true, if_false] at hJ
      have HJ := Lib.hid hJ.1
      have HR := Lib.hid (hJ.2 hL5)
      have HL5 := Lib.hid hL5
      clear hp hd hdt hLi hJ hL5
      simp only [putAll, Nat.reduceAdd]
      go_wp2_with (with_reducible refine (HD.out _ (vs 5) HJ.out HR.out).mono ?_; rintro e w2 ⟨ue, rfl, hue⟩; have HU := Lib.hid hue; clear hue)
      refine ⟨rfl, ?_, trivial, trivial⟩
      unfold DecK
      simp only [updB, upd, beq_self_eq_true, Bool.or_true, if_true]
      exact HU.out
    · intro vs w1 L hLi hd hdt hJ hp
      have q2 : vs 2 = .bool false := hp 2 (by decide)
      have hL9 : L 9 = true := hd 9 (by decide)
      unfold DecK at hJ
      rw [hL9] at hJ
      simp only [if_true] at hJ
      have HDD := Lib.hid hJ
      have HL9 := Lib.hid hL9
      have hJ2 : vs 9 = .iface (ifT (vs 9)) (ifV (vs 9)) ∧ ExtBut (w.heap.size + 1 + 1) W3 w1 := by rw [hDD] at HDD; exact HDD.out
      have hv9 := hJ2.1
      have HV9 := Lib.hid hv9
      clear hp hd hdt hLi hJ hL9 hJ2 hv9
      simp only [putAll, Nat.reduceAdd]
      rw [HV9.out]
      go_wp2
      refine ⟨rfl, ?_, trivial, rfl⟩
      unfold DecK
      simp only [updB, upd, HL9.out, Bool.true_or, Nat.reduceBEq, if_true, Nat.reduceEqDiff, if_false]
      exact HDD.out
    · intro vs w1 L hLi hd hdt hJ hp
      have q2 : vs 2 = .bool false := hp 2 (by decide)
      have q10 : vs 10 = .bool true := hp 10 (by decide)
      have HJ := Lib.hid hJ
      clear hp hd hdt hLi hJ
      simp only [putAll, Nat.reduceAdd]
      go_wp2
      exact ⟨rfl, HJ.out.keep 11 _ (by decide) (by decide), trivial, rfl⟩
  · intro vs w1 L hall hJ hp
    have q0 : vs 0 = .iface T (.pointer (some ⟨w.heap.size + 1 + 1, 0, none⟩)) := hp 0 (by decide)
    have q1 : vs 1 = .bool false := hp 1 (by decide)
    have q2 : vs 2 = .bool false := hp 2 (by decide)
    have q3 : vs 3 = .iface T (.pointer (some ⟨w.heap.size + 1 + 1, 0, none⟩)) := hp 3 (by decide)
    have q4 : vs 4 = vb := hp 4 (by decide)
    have q6 : vs 6 = .func (.method "Decode") #[.iface T (.pointer (some ⟨w.heap.size + 1 + 1, 0, none⟩))] #[] := hp 6 (by decide)
    have q7 : vs 7 = .func (.method "Decode") #[.iface T (.pointer (some ⟨w.heap.size + 1 + 1, 0, none⟩))] #[] := hp 7 (by decide)
    have q8 : vs 8 = .iface T (.pointer (some ⟨w.heap.size + 1 + 1, 0, none⟩)) := hp 8 (by decide)
    have q10 : vs 10 = .bool true := hp 10 (by decide)
    have q11 : vs 11 = .bool true := hp 11 (by decide)
    have hL9 := hall 9 (by decide)
    unfold DecK at hJ
    rw [hL9] at hJ
    simp only [if_true] at hJ
    rw [hDD] at hJ
    have HX := Lib.hid hJ.2
    clear hJ hp hall hL9
    have b4 := (HX.out.block w.heap.size (lt_of_block BX4.out) (by omega)).trans BX4.out
    have b5 := (HX.out.block (w.heap.size + 1) (lt_of_block BX5.out) (by omega)).trans BX5.out
    have hz0 := cell_slot b4 0 (.int .i64 0) rfl
    have hz1 := cell_slot b4 1 (.string ⟨#[]⟩) rfl
    have hz2 := cell_slot b4 2 (.string ⟨#[]⟩) rfl
    have hz3 := cell_slot b4 3 (.int .u32 0) rfl
    have hz4 := cell_slot b4 4 (.int .u32 0) rfl
    have hz5 := cell_slot b4 5 (.slice none 0 0) rfl
    have hz6 := cell_slot b4 6 (.slice none 0 0) rfl
    have hz7 := cell_slot b4 7 (.slice none 0 0) rfl
    have hz8 := cell_slot b4 8 (.slice none 0 0) rfl
    have hz9 := cell_slot b4 9 (.slice none 0 0) rfl
    have hz10 := cell_slot b4 10 (.slice none 0 0) rfl
    have hz11 := cell_slot b4 11 (.slice none 0 0) rfl
    have hz12 := cell_slot b4 12 (.slice none 0 0) rfl
    have hy0 := free_slot b4 0
    have hy1 := free_slot b4 1
    have hy2 := free_slot b4 2
    have hy3 := free_slot b4 3
    have hy4 := free_slot b4 4
    have hy5 := free_slot b4 5
    have hy6 := free_slot b4 6
    have hy7 := free_slot b4 7
    have hy8 := free_slot b4 8
    have hy9 := free_slot b4 9
    have hy10 := free_slot b4 10
    have hy11 := free_slot b4 11
    have hy12 := free_slot b4 12
    have hz13 := cell_slot b5 0 (.bool false) rfl
    have hy13 := free_slot b5 0
    clear b4 b5
    simp only [putAll, Nat.reduceAdd]
    simp only [Exit.then]
    go_at_K
    simp only [Act.put, q0, q1, q2, q3, q4, q6, q7, q8, q10, q11, List.setIfInBounds_toArray, List.set_cons_zero, List.set_cons_succ]
    go_wp2
    refine leaves_cons (f := 45) (args := #[.pointer (some ⟨w.heap.size, 0, none⟩), .pointer (some ⟨w.heap.size + 1, 0, none⟩)]) (by simp) (by simp [go_sem]) ?_
    refine (idle45 _ _ _).mono ?_
    rintro e u' w'' ⟨rfl, rfl, rfl⟩
    have hfin : NoDec w (.returned (.tuple #[.agg #[.int .i64 0, .string ⟨#[]⟩, .string ⟨#[]⟩, .int .u32 0, .int .u32 0, .slice none 0 0, .slice none 0 0, .slice none 0 0, .slice none 0 0, .slice none 0 0, .slice none 0 0, .slice none 0 0, .slice none 0 0], .bool false])) ((((((((((((((w1.setCell ⟨w.heap.size, 0, none⟩ (.int .i64 0)).setCell ⟨w.heap.size, 1, none⟩ (.string ⟨#[]⟩)).setCell ⟨w.heap.size, 2, none⟩ (.string ⟨#[]⟩)).setCell ⟨w.heap.size, 3, none⟩ (.int .u32 0)).setCell ⟨w.heap.size, 4, none⟩ (.int .u32 0)).setCell ⟨w.heap.size, 5, none⟩ (.slice none 0 0)).setCell ⟨w.heap.size, 6, none⟩ (.slice none 0 0)).setCell ⟨w.heap.size, 7, none⟩ (.slice none 0 0)).setCell ⟨w.heap.size, 8, none⟩ (.slice none 0 0)).setCell ⟨w.heap.size, 9, none⟩ (.slice none 0 0)).setCell ⟨w.heap.size, 10, none⟩ (.slice none 0 0)).setCell ⟨w.heap.size, 11, none⟩ (.slice none 0 0)).setCell ⟨w.heap.size, 12, none⟩ (.slice none 0 0)).setCell ⟨w.heap.size + 1, 0, none⟩ (.bool false)) := ⟨rfl, (((((((((((((((HX.out.ext XW.out (by omega)).set (Nat.le_refl _) 0 (.int .i64 0)).set (Nat.le_refl _) 1 (.string ⟨#[]⟩)).set (Nat.le_refl _) 2 (.string ⟨#[]⟩)).set (Nat.le_refl _) 3 (.int .u32 0)).set (Nat.le_refl _) 4 (.int .u32 0)).set (Nat.le_refl _) 5 (.slice none 0 0)).set (Nat.le_refl _) 6 (.slice none 0 0)).set (Nat.le_refl _) 7 (.slice none 0 0)).set (Nat.le_refl _) 8 (.slice none 0 0)).set (Nat.le_refl _) 9 (.slice none 0 0)).set (Nat.le_refl _) 10 (.slice none 0 0)).set (Nat.le_refl _) 11 (.slice none 0 0)).set (Nat.le_refl _) 12 (.slice none 0 0)).set (by omega) 0 (.bool false))⟩
    have HF := Lib.hid hfin
    clear hfin
    simp [Leaves, settle, results, Tryz.results19, go_sem, hz0, hz1, hz2, hz3, hz4, hz5, hz6, hz7, hz8, hz9, hz10, hz11, hz12, hz13]
    exact HF.out
end Go.Proofs.YtdenjanihikolaaGreatDoor

namespace Go.Proofs.YtdenjanihikolaaGreatDoor
open Go.RowKit Og
set_option linter.unusedVariables false
set_option linter.unusedSimpArgs false

/-- bytes that lie outside the block bk -/
def RdN (bk : Nat) (w : World) (v : Value) (xs : List Int) : Prop := RdB w v xs ∧ (0 < xs.length → v.ownBlock ≠ some bk)
theorem RdN.at_ {bk : Nat} {w w' : World} {v : Value} {xs : List Int} (h : RdN bk w v xs) (hx : ExtBut bk w w') : RdN bk w' v xs := by
  refine ⟨?_, h.2⟩
  obtain ⟨⟨A, c, hv, h1, h2, h3⟩, h4⟩ := h
  refine ⟨A, c, hv, h1, h2, fun hn => ?_⟩
  obtain ⟨b, off, hA, hc⟩ := h3 hn
  refine ⟨b, off, hA, fun j hj => ?_⟩
  have hne : b ≠ bk := fun e => h4 hn (by rw [hv, hA, e]; rfl)
  exact (cell_of_heap (hx.block b (lt_of_cell (hc j hj)) hne) _).trans (hc j hj)
theorem RdB.len {w : World} {v : Value} {xs : List Int} (h : RdB w v xs) : ∃ A c, v = .slice A xs.length c := by
  obtain ⟨A, c, hv, _⟩ := h
  exact ⟨A, c, hv⟩

theorem RdB.sub {w : World} {A A' : Option Addr} {c n l : Nat} {xs : List Int} (h : RdB w (.slice A xs.length c) xs) (hl : l + n ≤ xs.length) (hA : 0 < n → A' = A.map (·.add l)) (c' : Nat) (hc : n ≤ c' ∧ c' ≤ maxLen) : RdB w (.slice A' n c') ((xs.drop l).take n) := by
  obtain ⟨A0, c0, hv, h1, h2, h3⟩ := h
  obtain ⟨rfl, rfl⟩ : A = A0 ∧ c = c0 := by simpa using hv
  have hlen : ((xs.drop l).take n).length = n := by rw [List.length_take, List.length_drop]; omega
  refine ⟨A', c', by rw [hlen], by omega, hc.2, fun hn => ?_⟩
  rw [hlen] at hn
  obtain ⟨b, off, hA0, hcell⟩ := h3 (by omega)
  subst hA0
  refine ⟨b, off + l, by rw [hA hn]; simp [add_lit0], fun j hj => ?_⟩
  rw [hlen] at hj
  have := hcell (l + j) (by omega)
  rw [show off + l + j = off + (l + j) by omega, this]
  congr 2
  simp [List.getD, List.getElem?_take, List.getElem?_drop, hj]
theorem RdN.sub {bk : Nat} {w : World} {A A' : Option Addr} {c n l : Nat} {xs : List Int} (h : RdN bk w (.slice A xs.length c) xs) (hl : l + n ≤ xs.length) (hA : 0 < n → A' = A.map (·.add l)) (c' : Nat) (hc : n ≤ c' ∧ c' ≤ maxLen) : RdN bk w (.slice A' n c') ((xs.drop l).take n) := by
  refine ⟨h.1.sub hl hA c' hc, fun hn => ?_⟩
  have hlen : ((xs.drop l).take n).length = n := by rw [List.length_take, List.length_drop]; omega
  rw [hlen] at hn
  have h2 := h.2 (by omega)
  rw [hA hn]
  cases A with
  | none => simp [Value.ownBlock]
  | some a =>
    simp only [Value.ownBlock, Option.map_some] at h2 ⊢
    have : (a.add l).block = a.block := by unfold Addr.add; split <;> rfl
    rw [this]
    exact h2

theorem add_zero_map (A : Option Addr) : A.map (·.add 0) = A := by
  cases A with
  | none => rfl
  | some a => obtain ⟨b, o, p⟩ := a; cases p <;> simp [Addr.add]
theorem RdB.parts {w : World} {A : Option Addr} {n c : Nat} {xs : List Int} (h : RdB w (.slice A n c) xs) : n = xs.length ∧ xs.length ≤ c ∧ c ≤ maxLen := by
  obtain ⟨A0, c0, hv, h1, h2, _⟩ := h
  obtain ⟨rfl, rfl, rfl⟩ : A = A0 ∧ n = xs.length ∧ c = c0 := by simpa using hv
  exact ⟨rfl, h1, h2⟩
theorem RdB.take {w : World} {A : Option Addr} {n c : Nat} {xs : List Int} (h : RdB w (.slice A n c) xs) (k : Nat) (hk : k ≤ n) : RdB w (.slice A k c) (xs.take k) := by
  obtain ⟨rfl, h1, h2⟩ := h.parts
  have := h.sub (l := 0) (n := k) (A' := A) (by omega) (fun _ => (add_zero_map A).symm) c (by omega)
  simpa using this
theorem RdN.take {bk : Nat} {w : World} {A : Option Addr} {n c : Nat} {xs : List Int} (h : RdN bk w (.slice A n c) xs) (k : Nat) (hk : k ≤ n) : RdN bk w (.slice A k c) (xs.take k) := by
  refine ⟨h.1.take k hk, fun hn => ?_⟩
  rw [List.length_take] at hn
  have e : (Value.slice A k c).ownBlock = (Value.slice A n c).ownBlock := by cases A <;> rfl
  rw [e]
  exact h.2 (by omega)
theorem RdN.drop {bk : Nat} {w : World} {A : Option Addr} {n c : Nat} {xs : List Int} (h : RdN bk w (.slice A n c) xs) (k : Nat) (hk : k ≤ n) : RdN bk w (.slice (A.map (·.add k)) (n - k) (c - k)) (xs.drop k) := by
  obtain ⟨rfl, h1, h2⟩ := h.1.parts
  have := h.sub (l := k) (n := xs.length - k) (A' := A.map (·.add k)) (by omega) (fun _ => rfl) (c - k) (by omega)
  rwa [List.take_of_length_le (by rw [List.length_drop]; omega)] at this
theorem RdN.none {bk : Nat} {w : World} (A : Option Addr) (n c : Nat) (xs : List Int) (hx : xs = []) (hn : n = 0) (hc : c ≤ maxLen) : RdN bk w (.slice A n c) xs := by
  subst hx; subst hn
  exact ⟨⟨A, c, rfl, Nat.zero_le _, hc, fun h => absurd h (Nat.lt_irrefl 0)⟩, fun h => absurd h (Nat.lt_irrefl 0)⟩

/-- A Buffer, made since w1, whose rest is xs. -/
structure Cur (bk : Nat) (w1 : World) (bb : Nat) (w : World) (xs : List Int) : Prop where
  bel : ExtBut bk w1 w
  lo : w1.heap.size ≤ bb
  hi : bk < w1.heap.size
  blk : ∃ A c, w.heap[bb]? = some (.cells #[.slice A xs.length c] 347 (0, 0)) ∧ RdN bk w1 (.slice A xs.length c) xs
theorem Cur.ext {bk bb : Nat} {w1 w w' : World} {xs : List Int} (h : Cur bk w1 bb w xs) (hx : Ext w w') : Cur bk w1 bb w' xs := by
  obtain ⟨A, c, hb, hr⟩ := h.blk
  exact ⟨h.bel.trans hx.but, h.lo, h.hi, A, c, (hx.block bb (lt_of_block hb)).trans hb, hr⟩
theorem Cur.but {bk bb : Nat} {w1 w w' : World} {xs : List Int} (h : Cur bk w1 bb w xs) (hx : ExtBut bk w w') : Cur bk w1 bb w' xs := by
  obtain ⟨A, c, hb, hr⟩ := h.blk
  refine ⟨h.bel.trans hx, h.lo, h.hi, A, c, (hx.block bb (lt_of_block hb) ?_).trans hb, hr⟩
  have := h.lo; have := h.hi; omega
/-- The Buffer's slot set. -/
theorem Cur.set {bk bb : Nat} {w1 w : World} {xs ys : List Int} (h : Cur bk w1 bb w xs) {A : Option Addr} {n c : Nat} (hr : RdN bk w1 (.slice A n c) ys) : Cur bk w1 bb (w.setCell ⟨bb, 0, none⟩ (.slice A n c)) ys ∧ ExtBut bb w (w.setCell ⟨bb, 0, none⟩ (.slice A n c)) := by
  obtain ⟨A0, c0, hb, _⟩ := h.blk
  obtain ⟨rfl, _, _⟩ := hr.1.parts
  have hE : ExtBut bb w (w.setCell ⟨bb, 0, none⟩ (.slice A ys.length c)) := (Ext.refl w).but.set 0 _
  refine ⟨⟨?_, h.lo, h.hi, A, c, slot_setCell hb, hr⟩, hE⟩
  refine ⟨h.bel.os, h.bel.tape, h.bel.output, by simpa [World.setCell] using h.bel.size, fun k hk hne => ?_⟩
  have := h.lo
  exact (heap_setCell_other w ⟨bb, 0, none⟩ k _ (by simp only []; omega)).trans (h.bel.block k hk hne)

set_option maxRecDepth 100000 in
theorem cur_len {bk bb : Nat} {w1 w : World} {xs : List Int} (h : Cur bk w1 bb w xs) :
    Calls Tryz.prog 167 #[.pointer (some ⟨bb, 0, none⟩)] w (fun e w' => e = .returned (.int .i64 xs.length) ∧ w' = w) := by
  obtain ⟨A, c, hb, hr⟩ := h.blk
  have hc := cell_slot hb 0 _ rfl
  clear hr h
  go_enter Tryz.func167, Tryz.ntmps167
  go_wp2
  go_ret
  exact ⟨rfl, rfl⟩
set_option maxRecDepth 100000 in
theorem cur_new {bk : Nat} {w1 w : World} {v : Value} {xs : List Int} (h : RdN bk w1 v xs) (hb : bk < w1.heap.size) (hx : ExtBut bk w1 w) :
    Calls Tryz.prog 165 #[v] w (fun e w' => e = .returned (.pointer (some ⟨w.heap.size, 0, none⟩)) ∧ Cur bk w1 w.heap.size w' xs ∧ Ext w w') := by
  obtain ⟨A, c, hv⟩ := h.1.len
  subst hv
  have H := Lib.hid h
  have HX := Lib.hid hx
  clear h hx
  go_enter Tryz.func165, Tryz.ntmps165
  go_wp2
  go_ret
  exact ⟨rfl, ⟨HX.out.trans (ext_alloc w _).but, HX.out.size, hb, A, c, heap_alloc_new _ _, H.out⟩, ext_alloc w _⟩
/-- What Next hands back. -/
def GaveN (bk : Nat) (w1 : World) (bb k : Nat) (w : World) (xs : List Int) : Ending → World → Prop := fun e w' => ∃ A c, e = .returned (.slice A k c) ∧ RdN bk w1 (.slice A k c) (xs.take k) ∧ Cur bk w1 bb w' (xs.drop k) ∧ ExtBut bb w w'
set_option maxRecDepth 100000 in
theorem cur_next {bk bb : Nat} {w1 w : World} {xs : List Int} (h : Cur bk w1 bb w xs) (k : Nat) (hk : k ≤ xs.length) :
    Calls Tryz.prog 168 #[.pointer (some ⟨bb, 0, none⟩), .int .i64 k] w (GaveN bk w1 bb k w xs) := by
  obtain ⟨A, c, hb, hr⟩ := h.blk
  have hc := cell_slot hb 0 _ rfl
  have hf := free_slot hb 0
  obtain ⟨_, hn, hm⟩ := hr.1.parts
  have HR := Lib.hid hr
  have H := Lib.hid h
  clear hr h hb
  have hG : GaveN bk w1 bb k w xs = GaveN bk w1 bb k w xs := rfl
  go_enter Tryz.func168, Tryz.ntmps168
  go_wp2
  all_goals go_ret
  · have hck : c = k := by assumption
    have h3 := HR.out.take k hk
    rw [hck] at h3 hm
    obtain ⟨h1, h2⟩ := H.out.set (RdN.none (bk := bk) (w := w1) A (xs.length - k) 0 (xs.drop k) (List.drop_eq_nil_of_le (by omega)) (by omega) (by omega))
    exact ⟨A, k, rfl, h3, h1, h2⟩
  · obtain ⟨h1, h2⟩ := H.out.set (HR.out.drop k hk)
    exact ⟨A, c, rfl, HR.out.take k hk, h1, h2⟩
end Go.Proofs.YtdenjanihikolaaGreatDoor

namespace Go.Proofs.YtdenjanihikolaaGreatDoor
open Go.RowKit Og
set_option linter.unusedVariables false
set_option linter.unusedSimpArgs false

set_option maxRecDepth 100000 in
theorem rd16 (A : Option Addr) (n c : Nat) (x0 x1 : Int) (r : List Int) (w : World) (h : RdB w (.slice A n c) (x0 :: x1 :: r)) (h0 : 0 ≤ x0 ∧ x0 < 256) (h1 : 0 ≤ x1 ∧ x1 < 256) :
    Calls Tryz.prog 137 #[.slice A n c] w (fun e w' => e = .returned (.int .u16 (x0 * 256 + x1)) ∧ Ext w w') := by
  obtain ⟨rfl, _, _⟩ := h.parts
  obtain ⟨A', c', hv, _, _, h3⟩ := h
  obtain ⟨rfl, rfl⟩ : A = A' ∧ c = c' := by simpa using hv
  obtain ⟨b1, o1, rfl, hc⟩ := h3 (by simp)
  have hd0 := hc 0 (by simp)
  have hd1 := hc 1 (by simp)
  simp only [List.getD_cons_zero, List.getD_cons_succ, Nat.add_zero] at hd0 hd1
  have w0 : IntKind.u16.wrap x0 = x0 := by rw [IntKind.wrap_u16]; omega
  have w1' : IntKind.u16.wrap x1 = x1 := by rw [IntKind.wrap_u16]; omega
  have w2 : IntKind.u16.wrap (x0 * 256) = x0 * 256 := by rw [IntKind.wrap_u16]; omega
  have w3 : x0 % 65536 = x0 := by omega
  have w4 : x1 % 65536 = x1 := by omega
  have w5 : x0 * 256 % 65536 = x0 * 256 := by omega
  have hor : bits .or .u16 x1 (x0 * 256) = x1 + x0 * 256 := u16_or8 (x := x0 * 256) (y := x1) (by omega) (by omega) (by omega) (by omega) (by omega)
  clear h3 hc hv
  go_enter Tryz.func137, Tryz.ntmps137
  go_wp2
  go_quiet (skip)
  go_wp2
  go_ret
  exact ⟨by rw [Int.add_comm (x0 * 256)]; rfl, (Ext.refl w).drewN nq⟩
set_option maxRecDepth 100000 in
theorem rd32 (A : Option Addr) (n c : Nat) (x0 x1 x2 x3 : Int) (r : List Int) (w : World) (h : RdB w (.slice A n c) (x0 :: x1 :: x2 :: x3 :: r)) (h0 : 0 ≤ x0 ∧ x0 < 256) (h1 : 0 ≤ x1 ∧ x1 < 256) (h2 : 0 ≤ x2 ∧ x2 < 256) (h3 : 0 ≤ x3 ∧ x3 < 256) :
    Calls Tryz.prog 138 #[.slice A n c] w (fun e w' => e = .returned (.int .u32 (x0 * 16777216 + x1 * 65536 + x2 * 256 + x3)) ∧ Ext w w') := by
  obtain ⟨rfl, _, _⟩ := h.parts
  obtain ⟨A', c', hv, _, _, hh⟩ := h
  obtain ⟨rfl, rfl⟩ : A = A' ∧ c = c' := by simpa using hv
  obtain ⟨b1, o1, rfl, hc⟩ := hh (by simp)
  have hd0 := hc 0 (by simp)
  have hd1 := hc 1 (by simp)
  have hd2 := hc 2 (by simp)
  have hd3 := hc 3 (by simp)
  simp only [List.getD_cons_zero, List.getD_cons_succ, Nat.add_zero] at hd0 hd1 hd2 hd3
  have w0 : x0 % 4294967296 = x0 := by omega
  have w1 : x1 % 4294967296 = x1 := by omega
  have w2 : x2 % 4294967296 = x2 := by omega
  have w3 : x3 % 4294967296 = x3 := by omega
  have w4 : x2 * 256 % 4294967296 = x2 * 256 := by omega
  have w5 : x1 * 65536 % 4294967296 = x1 * 65536 := by omega
  have w6 : x0 * 16777216 % 4294967296 = x0 * 16777216 := by omega
  have v0 : IntKind.u32.wrap x0 = x0 := by rw [IntKind.wrap_u32]; omega
  have v1 : IntKind.u32.wrap x1 = x1 := by rw [IntKind.wrap_u32]; omega
  have v2 : IntKind.u32.wrap x2 = x2 := by rw [IntKind.wrap_u32]; omega
  have v3 : IntKind.u32.wrap x3 = x3 := by rw [IntKind.wrap_u32]; omega
  have v4 : IntKind.u32.wrap (x2 * 256) = x2 * 256 := by rw [IntKind.wrap_u32]; omega
  have v5 : IntKind.u32.wrap (x1 * 65536) = x1 * 65536 := by rw [IntKind.wrap_u32]; omega
  have v6 : IntKind.u32.wrap (x0 * 16777216) = x0 * 16777216 := by rw [IntKind.wrap_u32]; omega
  have hor : bits .or .u32 x3 (x2 * 256) = x3 + x2 * 256 := u32_or8 (x := x2 * 256) (y := x3) (by omega) (by omega) (by omega) (by omega) (by omega)
  have hor2 : bits .or .u32 (x3 + x2 * 256) (x1 * 65536) = x3 + x2 * 256 + x1 * 65536 := u32_or16 (x := x1 * 65536) (y := x3 + x2 * 256) (by omega) (by omega) (by omega) (by omega) (by omega)
  have hor3 : bits .or .u32 (x3 + x2 * 256 + x1 * 65536) (x0 * 16777216) = x3 + x2 * 256 + x1 * 65536 + x0 * 16777216 := u32_or24 (x := x0 * 16777216) (y := x3 + x2 * 256 + x1 * 65536) (by omega) (by omega) (by omega) (by omega) (by omega)
  have hs : x0 * 16777216 + x1 * 65536 + x2 * 256 + x3 = x3 + x2 * 256 + x1 * 65536 + x0 * 16777216 := by omega
  rw [hs]
  clear hs hh hc hv
  go_enter Tryz.func138, Tryz.ntmps138
  go_wp2
  go_quiet (skip)
  go_wp2
  go_ret
  exact ⟨rfl, (Ext.refl w).drewN nq⟩

/-- What ReadBytes(0) hands back where it finds the end. -/
def GaveT (bk : Nat) (w1 : World) (bb : Nat) (w : World) (s : List Int) (r : List Int) : Ending → World → Prop := fun e w' => ∃ A c, e = .returned (.tuple #[.slice A (s.length + 1) c, .nilIface]) ∧ RdB w' (.slice A (s.length + 1) c) (s ++ [0]) ∧ Cur bk w1 bb w' r ∧ ExtBut bb w w'
set_option maxRecDepth 100000 in
theorem cur_text {bk bb : Nat} {w1 w : World} {s r : List Int} (h : Cur bk w1 bb w (s ++ 0 :: r)) (hs : ∀ y ∈ s, y ≠ 0) (hl : (s ++ 0 :: r).length ≤ 1000000) :
    Calls Tryz.prog 166 #[.pointer (some ⟨bb, 0, none⟩), .int .u8 0] w (GaveT bk w1 bb w s r) := by
  obtain ⟨A, c, hb, hr⟩ := h.blk
  have hc := cell_slot hb 0 _ rfl
  have hf := free_slot hb 0
  have HR := Lib.hid (hr.at_ h.bel)
  have HR1 := Lib.hid hr
  have H := Lib.hid h
  have HS := Lib.hid hs
  obtain ⟨hn, hcm, hcx⟩ := hr.1.parts
  have HL : Hid ((s ++ 0 :: r).length = s.length + 1 + r.length) := Lib.hid (by simp; omega)
  have HB := Lib.hid hb
  have HT : Hid (RdB w (.slice A (s.length + 1) c) (s ++ [0])) := Lib.hid (by
    have h1 := HR.out.1.take (s.length + 1) (by rw [HL.out]; omega)
    have h2 : (s ++ 0 :: r).take (s.length + 1) = s ++ [0] := by rw [List.take_length_add_append]; rfl
    rw [h2] at h1
    exact h1)
  have HDR : Hid (RdN bk w1 (.slice (A.map (·.add (s.length + 1))) ((s ++ 0 :: r).length - (s.length + 1)) (c - (s.length + 1))) r) := Lib.hid (by
    have h1 := HR1.out.drop (s.length + 1) (by rw [HL.out]; omega)
    have h2 : (s ++ 0 :: r).drop (s.length + 1) = r := by simp [List.drop_append]
    rw [h2] at h1
    exact h1)
  have HLL : Hid (s.length + 1 ≤ (s ++ 0 :: r).length) := Lib.hid (by rw [HL.out]; omega)
  obtain ⟨b1, o1, hA, hcell⟩ : ∃ b1 o1, A = some ⟨b1, o1, none⟩ ∧ ∀ j, j < (s ++ 0 :: r).length → w.cell? ⟨b1, o1 + j, none⟩ = some (.int .u8 ((s ++ 0 :: r).getD j 0)) := by
    obtain ⟨A', c', hv, _, _, h3⟩ := HR.out.1
    obtain ⟨rfl, _⟩ : A = A' ∧ c = c' := by simpa using hv
    exact h3 (by rw [HL.out]; omega)
  subst hA
  have HCE := Lib.hid hcell
  obtain ⟨N, hN⟩ : ∃ N, N = (s ++ 0 :: r).length := ⟨_, rfl⟩
  rw [← hN] at hc HDR hn hl HLL HB
  have HN := Lib.hid hN
  have hNl := HLL.out
  have hcb : s.length + 1 ≤ c := by rw [HL.out] at hcm; omega
  have hNr : Hid (N = s.length + 1 + r.length) := Lib.hid (by rw [HN.out, HL.out])
  clear hr h hb hs hcell hN
  go_enter Tryz.func166, Tryz.ntmps166
  go_wp2
  go_loopw [15] (fun i wr => ∃ k : Nat, k ≤ s.length ∧ i = .int .i64 k ∧ wr = w) (fun i _ => s.length - (intOf i).toNat)
  case atStart => exact ⟨0, Nat.zero_le _, rfl, rfl⟩
  case round =>
    obtain ⟨k, hk, rfl, rfl⟩ := hrel
    by_cases hlt : k < s.length
    · have hd := HCE.out k (by rw [HL.out]; omega)
      rw [show (s ++ 0 :: r).getD k 0 = s[k] by simp [List.getD, List.getElem?_append_left hlt, List.getElem?_eq_getElem hlt]] at hd
      have hne := HS.out _ (List.getElem_mem hlt)
      obtain ⟨y, hy⟩ : ∃ y, y = s[k] := ⟨_, rfl⟩
      rw [← hy] at hd hne
      have hnb : (y == 0) = false := by simpa using hne
      clear hy
      go_wp2
      go_roundw
      case rel => exact ⟨k + 1, by omega, by go_num, by first | trivial | rfl⟩
      case measure => simp only [intOf]; omega
    · obtain rfl : k = s.length := by omega
      have hd := HCE.out s.length (by rw [HL.out]; omega)
      rw [show (s ++ 0 :: r).getD s.length 0 = 0 by simp [List.getD]] at hd
      go_wp2_with (at_builtin; refine ap_row (ys := s ++ [0]) rfl _ _ 26 26 rfl Tryz.underlying26 Tryz.underlying26 rfl (Buf.nil _) rfl HT.out (by have := HLL.out; simp; omega) ?_; intro v2 w2 hnb2; have HBU := Lib.hid hnb2; clear hnb2; have hb2 := (HBU.out.bel.block bb (lt_of_block HB.out)).trans HB.out; have hc2 := cell_slot hb2 0 _ rfl; have hf2 := free_slot hb2 0; have HB2 := Lib.hid hb2; clear hb2)
      · go_ret2
        obtain ⟨A2, c2, hv2⟩ := HBU.out.len
        have hrn : r = [] := List.eq_nil_of_length_eq_zero (by rw [HL.out] at hcm; omega)
        obtain ⟨h1, h2⟩ := (H.out.ext HBU.out.bel).set (RdN.none (bk := bk) (w := w1) (some ⟨b1, o1, none⟩) (N - (s.length + 1)) 0 r hrn (by rw [hNr.out, hrn]; simp) (by omega))
        have h3 : RdN bb w2 v2 (s ++ [0]) := ⟨HBU.out.rd, fun _ e => HBU.out.off _ e (lt_of_block HB.out)⟩
        have h4 : v2 = .slice A2 (s.length + 1) c2 := by rw [hv2]; simp
        subst h4
        exact ⟨A2, c2, rfl, (h3.at_ h2).1, h1, HBU.out.bel.but.trans h2⟩
      · go_ret2
        obtain ⟨A2, c2, hv2⟩ := HBU.out.len
        obtain ⟨h1, h2⟩ := (H.out.ext HBU.out.bel).set HDR.out
        have h3 : RdN bb w2 v2 (s ++ [0]) := ⟨HBU.out.rd, fun _ e => HBU.out.off _ e (lt_of_block HB.out)⟩
        have h4 : v2 = .slice A2 (s.length + 1) c2 := by rw [hv2]; simp
        subst h4
        have h5 := (h3.at_ h2).1
        have h6 := HBU.out.bel.but.trans h2
        simp only [Option.map_some, add_lit0] at h1 h5 h6
        exact ⟨A2, c2, rfl, h5, h1, h6⟩

set_option maxRecDepth 100000 in
theorem cur_eof {bk bb : Nat} {w1 w : World} {s : List Int} (h : Cur bk w1 bb w s) (hs : ∀ y ∈ s, y ≠ 0) (hl : s.length ≤ 1000000) :
    Calls Tryz.prog 166 #[.pointer (some ⟨bb, 0, none⟩), .int .u8 0] w (fun e w' => ∃ v, e = .returned (.tuple #[v, .iface 348 (.string ⟨#[69, 79, 70]⟩)]) ∧ Cur bk w1 bb w' [] ∧ ExtBut bb w w') := by
  obtain ⟨A, c, hb, hr⟩ := h.blk
  have hc := cell_slot hb 0 _ rfl
  have hf := free_slot hb 0
  have HR := Lib.hid (hr.at_ h.bel)
  have HS := Lib.hid hs
  have HB := Lib.hid hb
  have H := Lib.hid h
  have HCE : Hid (∀ j, j < s.length → ∃ b1 o1, A = some ⟨b1, o1, none⟩ ∧ w.cell? ⟨b1, o1 + j, none⟩ = some (.int .u8 (s.getD j 0))) := Lib.hid (by
    intro j hj
    obtain ⟨A', c', hv, _, _, h3⟩ := HR.out.1
    obtain ⟨rfl, _⟩ : A = A' ∧ c = c' := by simpa using hv
    obtain ⟨b1, o1, hA, hcell⟩ := h3 (by omega)
    exact ⟨b1, o1, hA, hcell j hj⟩)
  clear hr h hb hs
  go_enter Tryz.func166, Tryz.ntmps166
  go_wp2
  go_loopw [15] (fun i wr => ∃ k : Nat, k ≤ s.length ∧ i = .int .i64 k ∧ wr = w) (fun i _ => s.length - (intOf i).toNat)
  case atStart => exact ⟨0, Nat.zero_le _, rfl, rfl⟩
  case round =>
    obtain ⟨k, hk, rfl, rfl⟩ := hrel
    by_cases hlt : k < s.length
    · obtain ⟨b1, o1, rfl, hd⟩ := HCE.out k hlt
      rw [show s.getD k 0 = s[k] by simp [List.getD, List.getElem?_eq_getElem hlt]] at hd
      have hne := HS.out _ (List.getElem_mem hlt)
      obtain ⟨y, hy⟩ : ∃ y, y = s[k] := ⟨_, rfl⟩
      rw [← hy] at hd hne
      have hnb : (y == 0) = false := by simpa using hne
      clear hy
      go_wp2
      go_roundw
      case rel => exact ⟨k + 1, by omega, by go_num, by first | trivial | rfl⟩
      case measure => simp only [intOf]; omega
    · obtain rfl : k = s.length := by omega
      go_wp2_with (at_builtin; refine ap_row (ys := s) rfl _ _ 26 26 rfl Tryz.underlying26 Tryz.underlying26 rfl (Buf.nil _) rfl HR.out.1 (by simp; omega) ?_; intro v2 w2 hnb2; have HBU := Lib.hid hnb2; clear hnb2; have hb2 := (HBU.out.bel.block bb (lt_of_block HB.out)).trans HB.out; have hc2 := cell_slot hb2 0 _ rfl; have hf2 := free_slot hb2 0; clear hb2)
      go_ret2
      obtain ⟨h1, h2⟩ := (H.out.ext HBU.out.bel).set (RdN.none (bk := bk) (w := w1) none 0 0 [] rfl rfl (by unfold maxLen; omega))
      exact ⟨v2, rfl, h1, HBU.out.bel.but.trans h2⟩
end Go.Proofs.YtdenjanihikolaaGreatDoor

