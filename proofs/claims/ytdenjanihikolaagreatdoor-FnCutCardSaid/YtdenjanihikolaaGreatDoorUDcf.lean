/- Parse's Decode on a strict prefix of a body. -/
import Derived.Test.YtdenjanihikolaaGreatDoorUDcp
import Derived.Test.YtdenjanihikolaaGreatDoorUMkm
namespace Go.Proofs.YtdenjanihikolaaGreatDoor
open Go.RowKit Og
set_option linter.unusedVariables false
set_option linter.unusedSimpArgs false

/-- A row made since w1, not the Buffer. -/
structure Own (bb : Nat) (w1 w : World) (e size : Nat) (v : Value) (n : Nat) (xs : List Value) : Prop where
  own : w.ownsRow 0 e size v n xs
  off : ∀ g, v.ownBlock = some g → w1.heap.size ≤ g ∧ g ≠ bb
theorem Own.row {bb : Nat} {w1 w : World} {e size : Nat} {v : Value} {n : Nat} {xs : List Value} (h : Own bb w1 w e size v n xs) : Row e size (But w v) w w v n xs :=
  ⟨h.own, fun g hg hk => hk.2 hg, fun _ _ => rfl, fun k hk => hk.1, rfl, rfl, rfl⟩
theorem Own.step {bb : Nat} {w1 w w' : World} {e size : Nat} {v v' : Value} {n m : Nat} {xs ys : List Value} (h : Own bb w1 w e size v n xs) (hr : Row e size (But w v) w w' v' m ys) (hbb : bb < w.heap.size) (hw : w1.heap.size ≤ w.heap.size) : Own bb w1 w' e size v' m ys := by
  refine ⟨hr.own, fun g hg => ?_⟩
  have h1 := hr.off g hg
  by_cases hlt : g < w.heap.size
  · by_cases ho : v.ownBlock = some g
    · exact h.off g ho
    · exact absurd ⟨hlt, ho⟩ h1
  · exact ⟨by omega, by omega⟩
theorem Own.keep {bb : Nat} {w1 w w' : World} {e size : Nat} {v : Value} {n : Nat} {xs : List Value} (h : Own bb w1 w e size v n xs) (hx : ∀ g, w1.heap.size ≤ g → g ≠ bb → g < w.heap.size → w'.heap[g]? = w.heap[g]?) : Own bb w1 w' e size v n xs :=
  ⟨own_keep h.own fun g hg => hx g (h.off g hg).1 (h.off g hg).2 (h.own.lt g hg).2, h.off⟩
theorem Own.ext {bb : Nat} {w1 w w' : World} {e size : Nat} {v : Value} {n : Nat} {xs : List Value} (h : Own bb w1 w e size v n xs) (hx : Ext w w') : Own bb w1 w' e size v n xs :=
  h.keep fun g _ _ hg => hx.block g hg
theorem Cur.row {bk bb : Nat} {w1 w w' : World} {R : List Int} {e size : Nat} {v v' : Value} {n m : Nat} {xs ys : List Value} (hc : Cur bk w1 bb w R) (ho : Own bb w1 w e size v n xs) (hr : Row e size (But w v) w w' v' m ys) : Cur bk w1 bb w' R := by
  obtain ⟨A, c, hb, hrd⟩ := hc.blk
  have hlt := lt_of_block hb
  have hbb : But w v bb := ⟨hlt, fun e => (ho.off bb e).2 rfl⟩
  have hs := hc.lo
  have h2 := hr.lt bb hbb
  refine ⟨⟨hr.os.trans hc.bel.os, hr.tape.trans hc.bel.tape, hr.output.trans hc.bel.output, by omega, fun k hk hne => ?_⟩, hc.lo, hc.hi, A, c, (hr.kept bb hbb).trans hb, hrd⟩
  have hk' : But w v k := ⟨Nat.lt_of_lt_of_le hk hc.bel.size, fun e => by have := (ho.off k e).1; omega⟩
  exact (hr.kept k hk').trans (hc.bel.block k hk hne)

/-- What the region keeps: 6 the bytes taken, 8 the number's block, 9 the row appended, 12 the store. -/
structure PJ (b bb : Nat) (w1 W0 : World) (v : Value) (n : Nat) (xs : List Value) (B R : List Int) (x : Int) (s1 s2 : Value) (L : Nat → Bool) (vs : Nat → Value) (w : World) : Prop where
  A : L 6 = false → Ext W0 w
  B1 : L 6 = true → Cur b w1 bb w R
  B2 : L 6 = true → vs 6 = .slice (slA (vs 6)) 4 (slC (vs 6)) ∧ RdN b w1 (.slice (slA (vs 6)) 4 (slC (vs 6))) B
  C : L 9 = false → Own bb w1 w 22 1 v n xs
  D : L 8 = true → L 9 = false → vs 8 = .slice (some ⟨slB (vs 8), 0, none⟩) 1 1 ∧ w.heap[slB (vs 8)]? = some (.cells #[.int .u32 x] 22 (0, 0))
  E : L 9 = true → Own bb w1 w 22 1 (vs 9) (n + 1) (xs ++ [.int .u32 x])
  F : L 12 = false → w.heap[b]? = some (.cells #[s1, s2, v] 137 (0, 0))
  G : L 12 = true → w.heap[b]? = some (.cells #[s1, s2, vs 9] 137 (0, 0))
  M1 : L 7 = true → L 6 = true
  M2 : L 8 = true → L 7 = true
  M3 : L 9 = true → L 8 = true
  M4 : L 12 = true → L 9 = true

variable {b bb : Nat} {w1 W0 w w2 : World} {v : Value} {n : Nat} {xs : List Value} {B R : List Int} {x : Int} {s1 s2 : Value} {L : Nat → Bool} {vs : Nat → Value}
theorem PJ.start (h : Cur b w1 bb W0 (B ++ R)) (ho : Own bb w1 W0 22 1 v n xs) (hb : W0.heap[b]? = some (.cells #[s1, s2, v] 137 (0, 0))) : PJ b bb w1 W0 v n xs B R x s1 s2 (fun _ => false) vs W0.drew :=
  ⟨fun _ => (Ext.refl W0).drew, nofun, nofun, fun _ => ho.ext (Ext.refl W0).drew, nofun, nofun, fun _ => hb, nofun, nofun, nofun, nofun, nofun⟩
theorem PJ.keep (h : PJ b bb w1 W0 v n xs B R x s1 s2 L vs w) (i : Nat) (u : Value) (h6 : 6 ≠ i) (h7 : 7 ≠ i) (h8 : 8 ≠ i) (h9 : 9 ≠ i) (h12 : 12 ≠ i) : PJ b bb w1 W0 v n xs B R x s1 s2 (updB L i) (upd vs i u) w := by
  obtain ⟨A, B1, B2, C, D, E, F, G, M1, M2, M3, M4⟩ := h
  constructor <;> simp only [updB, upd, h6, h7, h8, h9, h12, if_false, beq_eq_false_iff_ne.2, Bool.or_false, ne_eq, not_false_eq_true] <;> assumption
theorem PJ.lows (h : PJ b bb w1 W0 v n xs B R x s1 s2 L vs w) : (L 6 = false → L 7 = false) ∧ (L 7 = false → L 8 = false) ∧ (L 8 = false → L 9 = false) ∧ (L 9 = false → L 12 = false) := by
  refine ⟨fun e => ?_, fun e => ?_, fun e => ?_, fun e => ?_⟩
  · cases e2 : L 7 with
    | false => rfl
    | true => rw [h.M1 e2] at e; cases e
  · cases e2 : L 8 with
    | false => rfl
    | true => rw [h.M2 e2] at e; cases e
  · cases e2 : L 9 with
    | false => rfl
    | true => rw [h.M3 e2] at e; cases e
  · cases e2 : L 12 with
    | false => rfl
    | true => rw [h.M4 e2] at e; cases e
theorem PJ.step6 (h : PJ b bb w1 W0 v n xs B R x s1 s2 L vs w) (e6 : L 6 = false) (hlt : b < w1.heap.size) (hlo : w1.heap.size ≤ bb) (A' : Option Addr) (c' : Nat) (hr : RdN b w1 (.slice A' 4 c') B) (hc : Cur b w1 bb w2 R) (hx : ExtBut bb w w2) : PJ b bb w1 W0 v n xs B R x s1 s2 (updB L 6) (upd vs 6 (.slice A' 4 c')) w2 := by
  have e7 := h.lows.1 e6
  have e8 := h.lows.2.1 e7
  have e9 := h.lows.2.2.1 e8
  have e12 := h.lows.2.2.2 e9
  have hF := h.F e12
  constructor <;> simp only [updB, upd, e7, e8, e9, e12, Nat.reduceEqDiff, if_false, if_true, Nat.reduceBEq, Bool.or_false, Bool.or_true, Bool.false_eq_true, Bool.true_eq_false, false_implies, true_implies]
  · exact hc
  · exact ⟨rfl, hr⟩
  · exact (h.C e9).keep fun g _ hne hg => hx.block g hg hne
  · exact (hx.block b (lt_of_block hF) (by omega)).trans hF
theorem PJ.step7 (h : PJ b bb w1 W0 v n xs B R x s1 s2 L vs w) (e6 : L 6 = true) (e8 : L 8 = false) (hx : Ext w w2) (u : Value) : PJ b bb w1 W0 v n xs B R x s1 s2 (updB L 7) (upd vs 7 u) w2 := by
  have e9 := h.lows.2.2.1 e8
  have e12 := h.lows.2.2.2 e9
  have hF := h.F e12
  have hB := h.B1 e6
  have hB2 := h.B2 e6
  constructor <;> simp only [updB, upd, e6, e8, e9, e12, Nat.reduceEqDiff, if_false, if_true, Nat.reduceBEq, Bool.or_false, Bool.or_true, Bool.false_eq_true, Bool.true_eq_false, false_implies, true_implies]
  · exact hB.ext hx
  · exact hB2
  · exact (h.C e9).ext hx
  · exact (hx.block b (lt_of_block hF)).trans hF
theorem PJ.step8 (h : PJ b bb w1 W0 v n xs B R x s1 s2 L vs w) (e7 : L 7 = true) (e9 : L 9 = false) : PJ b bb w1 W0 v n xs B R x s1 s2 (updB L 8) (upd vs 8 (.slice (some ⟨w.heap.size, 0, none⟩) 1 1)) (w.alloc (.cells #[.int .u32 x] 22)) := by
  have e6 := h.M1 e7
  have e12 := h.lows.2.2.2 e9
  have hF := h.F e12
  have hB := h.B1 e6
  have hB2 := h.B2 e6
  have hx := ext_alloc w (.cells #[.int .u32 x] 22)
  constructor <;> simp only [updB, upd, e6, e7, e9, e12, Nat.reduceEqDiff, if_false, if_true, Nat.reduceBEq, Bool.or_false, Bool.or_true, Bool.false_eq_true, Bool.true_eq_false, false_implies, true_implies]
  · exact hB.ext hx
  · exact hB2
  · exact (h.C e9).ext hx
  · exact ⟨rfl, heap_alloc_new _ _⟩
  · exact (hx.block b (lt_of_block hF)).trans hF
theorem PJ.step9 (h : PJ b bb w1 W0 v n xs B R x s1 s2 L vs w) (e8 : L 8 = true) (e9 : L 9 = false) (v2 : Value) (hr : Row 22 1 (But w v) w w2 v2 (n + 1) (xs ++ [.int .u32 x])) : PJ b bb w1 W0 v n xs B R x s1 s2 (updB L 9) (upd vs 9 v2) w2 := by
  have e7 := h.M2 e8
  have e6 := h.M1 e7
  have e12 := h.lows.2.2.2 e9
  have hF := h.F e12
  have hB := h.B1 e6
  have hB2 := h.B2 e6
  have hC := h.C e9
  have hbb : bb < w.heap.size := by
    obtain ⟨A, c, hb, _⟩ := hB.blk
    exact lt_of_block hb
  have hbn : But w v b := ⟨lt_of_block hF, fun e => by have := (hC.off b e).1; have := hB.hi; omega⟩
  constructor <;> simp only [updB, upd, e6, e7, e8, e12, Nat.reduceEqDiff, if_false, if_true, Nat.reduceBEq, Bool.or_false, Bool.or_true, Bool.false_eq_true, Bool.true_eq_false, false_implies, true_implies]
  · exact hB.row hC hr
  · exact hB2
  · exact hC.step hr hbb hB.bel.size
  · exact (hr.kept b hbn).trans hF
theorem PJ.step12 (h : PJ b bb w1 W0 v n xs B R x s1 s2 L vs w) (e9 : L 9 = true) (e12 : L 12 = false) (u z : Value) (hz : vs 9 = z) : PJ b bb w1 W0 v n xs B R x s1 s2 (updB L 12) (upd vs 12 u) (w.setCell ⟨b, 2, none⟩ z) := by
  subst hz
  have e8 := h.M3 e9
  have e7 := h.M2 e8
  have e6 := h.M1 e7
  have hF := h.F e12
  have hB := h.B1 e6
  have hB2 := h.B2 e6
  have hE := h.E e9
  have hoth : ∀ k, k ≠ b → (w.setCell ⟨b, 2, none⟩ (vs 9)).heap[k]? = w.heap[k]? := fun k hk => heap_setCell_other w ⟨b, 2, none⟩ k _ hk
  constructor <;> simp only [updB, upd, e6, e7, e8, e9, Nat.reduceEqDiff, if_false, if_true, Nat.reduceBEq, Bool.or_false, Bool.or_true, Bool.false_eq_true, Bool.true_eq_false, false_implies, true_implies]
  · exact hB.but ((Ext.refl w).but.set 2 _)
  · exact hB2
  · exact hE.keep fun g hg _ _ => hoth g (by have := hB.hi; omega)
  · exact slot_setCell hF
end Go.Proofs.YtdenjanihikolaaGreatDoor

namespace Go.Proofs.YtdenjanihikolaaGreatDoor
open Go.RowKit Og
set_option linter.unusedVariables false
set_option linter.unusedSimpArgs false

theorem upb {bb b : Nat} {w w' : World} {o : Obj} (hx : ExtBut bb w w') (hb : b < bb) (h : w.heap[b]? = some o) : w'.heap[b]? = some o := (hx.block b (lt_of_block h) (Nat.ne_of_lt hb)).trans h
theorem upbe {bb b : Nat} {w w' : World} {o : Obj} (hx : Ext w w') (hb : b < bb) (h : w.heap[b]? = some o) : w'.heap[b]? = some o := (hx.block b (lt_of_block h)).trans h
theorem upb1 {bb b j : Nat} {w w' : World} {u : Value} {cs : Array Value} {t : TypeId} (hx : ExtBut bb (w.setCell ⟨b, j, none⟩ u) w') (hb : b < bb) (h : w.heap[b]? = some (.cells cs t (0, 0))) : w'.heap[b]? = some (.cells (cs.setIfInBounds j u) t (0, 0)) := upb hx hb (slot_setCell h)
theorem upb3 {bb b j1 j2 j3 : Nat} {w w' : World} {u1 u2 u3 : Value} {cs : Array Value} {t : TypeId} (hx : ExtBut bb (((w.setCell ⟨b, j1, none⟩ u1).setCell ⟨b, j2, none⟩ u2).setCell ⟨b, j3, none⟩ u3) w') (hb : b < bb) (h : w.heap[b]? = some (.cells cs t (0, 0))) : w'.heap[b]? = some (.cells (((cs.setIfInBounds j1 u1).setIfInBounds j2 u2).setIfInBounds j3 u3) t (0, 0)) := upb hx hb (slot_setCell (slot_setCell (slot_setCell h)))
theorem upbe1 {bb b j : Nat} {w w' : World} {u : Value} {cs : Array Value} {t : TypeId} (hx : Ext (w.setCell ⟨b, j, none⟩ u) w') (hb : b < bb) (h : w.heap[b]? = some (.cells cs t (0, 0))) : w'.heap[b]? = some (.cells (cs.setIfInBounds j u) t (0, 0)) := upbe hx hb (slot_setCell h)
theorem upbe3 {bb b j1 j2 j3 : Nat} {w w' : World} {u1 u2 u3 : Value} {cs : Array Value} {t : TypeId} (hx : Ext (((w.setCell ⟨b, j1, none⟩ u1).setCell ⟨b, j2, none⟩ u2).setCell ⟨b, j3, none⟩ u3) w') (hb : b < bb) (h : w.heap[b]? = some (.cells cs t (0, 0))) : w'.heap[b]? = some (.cells (((cs.setIfInBounds j1 u1).setIfInBounds j2 u2).setIfInBounds j3 u3) t (0, 0)) := upbe hx hb (slot_setCell (slot_setCell (slot_setCell h)))
theorem cur_newb {bk bb : Nat} {w1 w : World} {v : Value} {xs : List Int} (h : RdN bk w1 v xs) (hb : bk < w1.heap.size) (hx : ExtBut bk w1 w) (hbb : w.heap.size = bb) :
    Calls Tryz.prog 165 #[v] w (fun e w' => e = .returned (.pointer (some ⟨bb, 0, none⟩)) ∧ Cur bk w1 bb w' xs ∧ Ext w w') := by
  subst hbb
  exact cur_new h hb hx

set_option maxRecDepth 100000 in
set_option maxHeartbeats 2000000 in
theorem cut12 (a c : ByteArray) (l : List Int) (ha : plainP a) (hc : plainP c) (hll : l.length ≤ 20) (hlr : ∀ y ∈ l, 0 ≤ y ∧ y < 4294967296) (xs : List Int) (hx : SPre xs (sby a ++ 0 :: (sby c ++ 0 :: (numB (l.length : Int) 2 ++ l.flatMap fun n => numB n 4)))) (hl : xs.length ≤ 100000) (wd : World) (b : Nat) (v : Value) (hb : wd.heap[b]? = some (.cells #[.string ⟨#[]⟩, .string ⟨#[]⟩, .slice none 0 0] 137 (0, 0))) (hv : RdB wd v xs) (hof : v.ownBlock ≠ some b) :
    Calls Tryz.prog 175 #[.pointer (some ⟨b, 0, none⟩), v] wd (NotD b wd) := by
  have HV := Lib.hid (And.intro hv hof)
  have HLT := Lib.hid (lt_of_block hb)
  have HBK := Lib.hid hb
  have HLR := Lib.hid hlr
  have hck0 := cell_slot hb 0 _ rfl
  have hck1 := cell_slot hb 1 _ rfl
  have hck2 := cell_slot hb 2 _ rfl
  have hfk0 := free_slot hb 0
  have hfk1 := free_slot hb 1
  have hfk2 := free_slot hb 2
  have HSa := Lib.hid (plain_ne ha)
  have HSc := Lib.hid (plain_ne hc)
  have hla : (sby a).length ≤ 200 := by rw [sby_length]; exact ha.1
  have hlc : (sby c).length ≤ 200 := by rw [sby_length]; exact hc.1
  clear hv hof hb hlr
  rcases hx.text HSa.out with h0 | ⟨R, rfl, hR⟩
  · have HE := Lib.hid h0
    have HEL : Hid (xs.length ≤ 1000000) := Lib.hid (by omega)
    clear h0 hx hl
    go_enter Tryz.func175, Tryz.ntmps175
    go_wp2_with (first | (go_at_call 165; refine (cur_newb (bk := b) (w1 := wd) (bb := wd.heap.size) ⟨HV.out.1, fun _ => HV.out.2⟩ HLT.out (by first | exact (((Ext.refl wd).but.set _ _).set _ _).set _ _ | exact (Ext.refl wd).but) (by simp [World.setCell])).mono ?_; rintro e w2 ⟨rfl, hcu, hx⟩; have HC := Lib.hid hcu; (first | have hbk := upbe3 hx HLT.out HBK.out | have hbk := upbe1 hx HLT.out HBK.out | have hbk := upbe hx HLT.out HBK.out); (try simp only [List.setIfInBounds_toArray, List.set_cons_zero, List.set_cons_succ] at hbk); clear HBK; have HBK := Lib.hid hbk; (try clear hck0); (try clear hck1); (try clear hck2); (try clear hfk0); (try clear hfk1); (try clear hfk2); have hck0 := cell_slot hbk 0 _ rfl; have hck1 := cell_slot hbk 1 _ rfl; have hck2 := cell_slot hbk 2 _ rfl; have hfk0 := free_slot hbk 0; have hfk1 := free_slot hbk 1; have hfk2 := free_slot hbk 2; clear hbk; clear hcu hx) | (go_at_call 166; refine (cur_eof (by first | exact HC.out | exact HC.out.but ((Ext.refl _).but.set _ _)) HE.out HEL.out).mono ?_; rintro e w3 ⟨v3, rfl, hcu, hx3⟩; clear HC; have HC := Lib.hid hcu; clear hcu hx3))
    (go_ret; exact ⟨_, _, rfl, by first | exact HC.out.bel | exact HC.out.bel.trans (ext_alloc _ _).but | exact (HC.out.bel.set _ _).trans (ext_alloc _ _).but⟩)
  · have HLa : Hid ((sby a ++ 0 :: R).length ≤ 1000000) := Lib.hid (by omega)
    have hl1 : R.length ≤ 100000 := by simp only [List.length_append, List.length_cons] at hl; omega
    clear hx hl
    rcases hR.text HSc.out with h0 | ⟨R1, rfl, hR1⟩
    · have HE := Lib.hid h0
      have HEL : Hid (R.length ≤ 1000000) := Lib.hid (by omega)
      clear h0 hR
      go_enter Tryz.func175, Tryz.ntmps175
      go_wp2_with (first | (go_at_call 165; refine (cur_newb (bk := b) (w1 := wd) (bb := wd.heap.size) ⟨HV.out.1, fun _ => HV.out.2⟩ HLT.out (by first | exact (((Ext.refl wd).but.set _ _).set _ _).set _ _ | exact (Ext.refl wd).but) (by simp [World.setCell])).mono ?_; rintro e w2 ⟨rfl, hcu, hx⟩; have HC := Lib.hid hcu; (first | have hbk := upbe3 hx HLT.out HBK.out | have hbk := upbe1 hx HLT.out HBK.out | have hbk := upbe hx HLT.out HBK.out); (try simp only [List.setIfInBounds_toArray, List.set_cons_zero, List.set_cons_succ] at hbk); clear HBK; have HBK := Lib.hid hbk; (try clear hck0); (try clear hck1); (try clear hck2); (try clear hfk0); (try clear hfk1); (try clear hfk2); have hck0 := cell_slot hbk 0 _ rfl; have hck1 := cell_slot hbk 1 _ rfl; have hck2 := cell_slot hbk 2 _ rfl; have hfk0 := free_slot hbk 0; have hfk1 := free_slot hbk 1; have hfk2 := free_slot hbk 2; clear hbk; clear hcu hx) | (go_at_call 166; refine (cur_text (s := sby a) (by first | exact HC.out | exact HC.out.but ((Ext.refl _).but.set _ _)) HSa.out HLa.out).mono ?_; rintro e w3 ⟨A3, c3, rfl, hrd, hcu, hx3⟩; clear HC; have HC := Lib.hid hcu; (try clear hcv); (try clear hc3); have hcv := conv_rd (show RdB w3 (.slice A3 (sby a).length c3) (sby a) from by (have h9 := hrd.take (sby a).length (by omega); rwa [List.take_left] at h9)); have hc3 : (sby a).length + 1 ≤ c3 := (by have h9 := hrd.parts.2.1; simpa using h9); (first | have hbk := upb3 hx3 HLT.out HBK.out | have hbk := upb1 hx3 HLT.out HBK.out | have hbk := upb hx3 HLT.out HBK.out); (try simp only [List.setIfInBounds_toArray, List.set_cons_zero, List.set_cons_succ] at hbk); clear HBK; have HBK := Lib.hid hbk; (try clear hck0); (try clear hck1); (try clear hck2); (try clear hfk0); (try clear hfk1); (try clear hfk2); have hck0 := cell_slot hbk 0 _ rfl; have hck1 := cell_slot hbk 1 _ rfl; have hck2 := cell_slot hbk 2 _ rfl; have hfk0 := free_slot hbk 0; have hfk1 := free_slot hbk 1; have hfk2 := free_slot hbk 2; clear hbk; clear hcu hx3 hrd) | (go_at_call 166; refine (cur_eof (by first | exact HC.out | exact HC.out.but ((Ext.refl _).but.set _ _)) HE.out HEL.out).mono ?_; rintro e w3 ⟨v3, rfl, hcu, hx3⟩; clear HC; have HC := Lib.hid hcu; clear hcu hx3))
      (go_ret; exact ⟨_, _, rfl, by first | exact HC.out.bel | exact HC.out.bel.trans (ext_alloc _ _).but | exact (HC.out.bel.set _ _).trans (ext_alloc _ _).but⟩)
    · have HLc : Hid ((sby c ++ 0 :: R1).length ≤ 1000000) := Lib.hid (by omega)
      have hl2 : R1.length ≤ 100000 := by simp only [List.length_append, List.length_cons] at hl1; omega
      clear hR hl1
      rcases hR1.fixed with h0 | ⟨R2, rfl, hR2⟩
      · rw [numB_len] at h0
        clear hR1
        go_enter Tryz.func175, Tryz.ntmps175
        go_wp2_with (first | (go_at_call 165; refine (cur_newb (bk := b) (w1 := wd) (bb := wd.heap.size) ⟨HV.out.1, fun _ => HV.out.2⟩ HLT.out (by first | exact (((Ext.refl wd).but.set _ _).set _ _).set _ _ | exact (Ext.refl wd).but) (by simp [World.setCell])).mono ?_; rintro e w2 ⟨rfl, hcu, hx⟩; have HC := Lib.hid hcu; (first | have hbk := upbe3 hx HLT.out HBK.out | have hbk := upbe1 hx HLT.out HBK.out | have hbk := upbe hx HLT.out HBK.out); (try simp only [List.setIfInBounds_toArray, List.set_cons_zero, List.set_cons_succ] at hbk); clear HBK; have HBK := Lib.hid hbk; (try clear hck0); (try clear hck1); (try clear hck2); (try clear hfk0); (try clear hfk1); (try clear hfk2); have hck0 := cell_slot hbk 0 _ rfl; have hck1 := cell_slot hbk 1 _ rfl; have hck2 := cell_slot hbk 2 _ rfl; have hfk0 := free_slot hbk 0; have hfk1 := free_slot hbk 1; have hfk2 := free_slot hbk 2; clear hbk; clear hcu hx) | (go_at_call 166; refine (cur_text (s := sby a) (by first | exact HC.out | exact HC.out.but ((Ext.refl _).but.set _ _)) HSa.out HLa.out).mono ?_; rintro e w3 ⟨A3, c3, rfl, hrd, hcu, hx3⟩; clear HC; have HC := Lib.hid hcu; (try clear hcv); (try clear hc3); have hcv := conv_rd (show RdB w3 (.slice A3 (sby a).length c3) (sby a) from by (have h9 := hrd.take (sby a).length (by omega); rwa [List.take_left] at h9)); have hc3 : (sby a).length + 1 ≤ c3 := (by have h9 := hrd.parts.2.1; simpa using h9); (first | have hbk := upb3 hx3 HLT.out HBK.out | have hbk := upb1 hx3 HLT.out HBK.out | have hbk := upb hx3 HLT.out HBK.out); (try simp only [List.setIfInBounds_toArray, List.set_cons_zero, List.set_cons_succ] at hbk); clear HBK; have HBK := Lib.hid hbk; (try clear hck0); (try clear hck1); (try clear hck2); (try clear hfk0); (try clear hfk1); (try clear hfk2); have hck0 := cell_slot hbk 0 _ rfl; have hck1 := cell_slot hbk 1 _ rfl; have hck2 := cell_slot hbk 2 _ rfl; have hfk0 := free_slot hbk 0; have hfk1 := free_slot hbk 1; have hfk2 := free_slot hbk 2; clear hbk; clear hcu hx3 hrd) | (go_at_call 166; refine (cur_text (s := sby c) (by first | exact HC.out | exact HC.out.but ((Ext.refl _).but.set _ _)) HSc.out HLc.out).mono ?_; rintro e w3 ⟨A3, c3, rfl, hrd, hcu, hx3⟩; clear HC; have HC := Lib.hid hcu; (try clear hcv); (try clear hc3); have hcv := conv_rd (show RdB w3 (.slice A3 (sby c).length c3) (sby c) from by (have h9 := hrd.take (sby c).length (by omega); rwa [List.take_left] at h9)); have hc3 : (sby c).length + 1 ≤ c3 := (by have h9 := hrd.parts.2.1; simpa using h9); (first | have hbk := upb3 hx3 HLT.out HBK.out | have hbk := upb1 hx3 HLT.out HBK.out | have hbk := upb hx3 HLT.out HBK.out); (try simp only [List.setIfInBounds_toArray, List.set_cons_zero, List.set_cons_succ] at hbk); clear HBK; have HBK := Lib.hid hbk; (try clear hck0); (try clear hck1); (try clear hck2); (try clear hfk0); (try clear hfk1); (try clear hfk2); have hck0 := cell_slot hbk 0 _ rfl; have hck1 := cell_slot hbk 1 _ rfl; have hck2 := cell_slot hbk 2 _ rfl; have hfk0 := free_slot hbk 0; have hfk1 := free_slot hbk 1; have hfk2 := free_slot hbk 2; clear hbk; clear hcu hx3 hrd) | (go_at_call 167; refine (cur_len (by first | exact HC.out | exact HC.out.but ((Ext.refl _).but.set _ _))).mono ?_; rintro e w4 ⟨rfl, hw4⟩; rw [hw4]; clear hw4))
        (go_ret; exact ⟨_, _, rfl, by first | exact HC.out.bel | exact HC.out.bel.trans (ext_alloc _ _).but | exact (HC.out.bel.set _ _).trans (ext_alloc _ _).but⟩)
      · have hln : (numB (l.length : Int) 2 ++ R2).length = 2 + R2.length := by simp only [List.length_append, numB_len]
        have HNL : Hid (0 ≤ (l.length : Int) ∧ (l.length : Int) < 65536) := Lib.hid (by omega)
        have HR2 := Lib.hid hR2
        clear hR1 hR2 hl2
        go_enter Tryz.func175, Tryz.ntmps175
        go_wp2_with (first | (go_at_call 165; refine (cur_newb (bk := b) (w1 := wd) (bb := wd.heap.size) ⟨HV.out.1, fun _ => HV.out.2⟩ HLT.out (by first | exact (((Ext.refl wd).but.set _ _).set _ _).set _ _ | exact (Ext.refl wd).but) (by simp [World.setCell])).mono ?_; rintro e w2 ⟨rfl, hcu, hx⟩; have HC := Lib.hid hcu; (first | have hbk := upbe3 hx HLT.out HBK.out | have hbk := upbe1 hx HLT.out HBK.out | have hbk := upbe hx HLT.out HBK.out); (try simp only [List.setIfInBounds_toArray, List.set_cons_zero, List.set_cons_succ] at hbk); clear HBK; have HBK := Lib.hid hbk; (try clear hck0); (try clear hck1); (try clear hck2); (try clear hfk0); (try clear hfk1); (try clear hfk2); have hck0 := cell_slot hbk 0 _ rfl; have hck1 := cell_slot hbk 1 _ rfl; have hck2 := cell_slot hbk 2 _ rfl; have hfk0 := free_slot hbk 0; have hfk1 := free_slot hbk 1; have hfk2 := free_slot hbk 2; clear hbk; clear hcu hx) | (go_at_call 166; refine (cur_text (s := sby a) (by first | exact HC.out | exact HC.out.but ((Ext.refl _).but.set _ _)) HSa.out HLa.out).mono ?_; rintro e w3 ⟨A3, c3, rfl, hrd, hcu, hx3⟩; clear HC; have HC := Lib.hid hcu; (try clear hcv); (try clear hc3); have hcv := conv_rd (show RdB w3 (.slice A3 (sby a).length c3) (sby a) from by (have h9 := hrd.take (sby a).length (by omega); rwa [List.take_left] at h9)); have hc3 : (sby a).length + 1 ≤ c3 := (by have h9 := hrd.parts.2.1; simpa using h9); (first | have hbk := upb3 hx3 HLT.out HBK.out | have hbk := upb1 hx3 HLT.out HBK.out | have hbk := upb hx3 HLT.out HBK.out); (try simp only [List.setIfInBounds_toArray, List.set_cons_zero, List.set_cons_succ] at hbk); clear HBK; have HBK := Lib.hid hbk; (try clear hck0); (try clear hck1); (try clear hck2); (try clear hfk0); (try clear hfk1); (try clear hfk2); have hck0 := cell_slot hbk 0 _ rfl; have hck1 := cell_slot hbk 1 _ rfl; have hck2 := cell_slot hbk 2 _ rfl; have hfk0 := free_slot hbk 0; have hfk1 := free_slot hbk 1; have hfk2 := free_slot hbk 2; clear hbk; clear hcu hx3 hrd) | (go_at_call 166; refine (cur_text (s := sby c) (by first | exact HC.out | exact HC.out.but ((Ext.refl _).but.set _ _)) HSc.out HLc.out).mono ?_; rintro e w3 ⟨A3, c3, rfl, hrd, hcu, hx3⟩; clear HC; have HC := Lib.hid hcu; (try clear hcv); (try clear hc3); have hcv := conv_rd (show RdB w3 (.slice A3 (sby c).length c3) (sby c) from by (have h9 := hrd.take (sby c).length (by omega); rwa [List.take_left] at h9)); have hc3 : (sby c).length + 1 ≤ c3 := (by have h9 := hrd.parts.2.1; simpa using h9); (first | have hbk := upb3 hx3 HLT.out HBK.out | have hbk := upb1 hx3 HLT.out HBK.out | have hbk := upb hx3 HLT.out HBK.out); (try simp only [List.setIfInBounds_toArray, List.set_cons_zero, List.set_cons_succ] at hbk); clear HBK; have HBK := Lib.hid hbk; (try clear hck0); (try clear hck1); (try clear hck2); (try clear hfk0); (try clear hfk1); (try clear hfk2); have hck0 := cell_slot hbk 0 _ rfl; have hck1 := cell_slot hbk 1 _ rfl; have hck2 := cell_slot hbk 2 _ rfl; have hfk0 := free_slot hbk 0; have hfk1 := free_slot hbk 1; have hfk2 := free_slot hbk 2; clear hbk; clear hcu hx3 hrd) | (go_at_call 167; refine (cur_len (by first | exact HC.out | exact HC.out.but ((Ext.refl _).but.set _ _))).mono ?_; rintro e w4 ⟨rfl, hw4⟩; rw [hw4]; clear hw4) | (go_at_call 168; refine (cur_piece (by first | exact HC.out | exact HC.out.but ((Ext.refl _).but.set _ _)) _ (by first | (rw [numB_len]; rfl) | rfl)).mono ?_; rintro e w5 ⟨A5, c5, rfl, hrn, hcu, hx5⟩; (try clear HN); clear HC; have HC := Lib.hid hcu; have HN := Lib.hid hrn; simp only [Int.reduceToNat]; (first | have hbk := upb3 hx5 HLT.out HBK.out | have hbk := upb1 hx5 HLT.out HBK.out | have hbk := upb hx5 HLT.out HBK.out); (try simp only [List.setIfInBounds_toArray, List.set_cons_zero, List.set_cons_succ] at hbk); clear HBK; have HBK := Lib.hid hbk; (try clear hck0); (try clear hck1); (try clear hck2); (try clear hfk0); (try clear hfk1); (try clear hfk2); have hck0 := cell_slot hbk 0 _ rfl; have hck1 := cell_slot hbk 1 _ rfl; have hck2 := cell_slot hbk 2 _ rfl; have hfk0 := free_slot hbk 0; have hfk1 := free_slot hbk 1; have hfk2 := free_slot hbk 2; clear hbk; clear hcu hrn hx5) | (go_at_call 137; refine (rd16n (l.length : Int) HNL.out _ _ _ [] _ (by rw [List.append_nil]; exact (HN.out.at_ HC.out.bel).1)).mono ?_; rintro e w6 ⟨rfl, hx6⟩; have HC6 := Lib.hid (HC.out.ext hx6); clear HC; have HC := HC6; clear HC6; (first | have hbk := upbe3 hx6 HLT.out HBK.out | have hbk := upbe1 hx6 HLT.out HBK.out | have hbk := upbe hx6 HLT.out HBK.out); (try simp only [List.setIfInBounds_toArray, List.set_cons_zero, List.set_cons_succ] at hbk); clear HBK; have HBK := Lib.hid hbk; (try clear hck0); (try clear hck1); (try clear hck2); (try clear hfk0); (try clear hfk1); (try clear hfk2); have hck0 := cell_slot hbk 0 _ rfl; have hck1 := cell_slot hbk 1 _ rfl; have hck2 := cell_slot hbk 2 _ rfl; have hfk0 := free_slot hbk 0; have hfk1 := free_slot hbk 1; have hfk2 := free_slot hbk 2; clear hbk; clear hx6))
        clear hck0 hck1 hck2 hfk0 hfk1 hfk2
        go_loopw [59] (fun i wr => ∃ k : Nat, k ≤ l.length ∧ i = .int .i64 k ∧ ∃ v ys R, Hid (Cur b wd wd.heap.size wr R ∧ SPre R ((l.drop k).flatMap fun n => numB n 4) ∧ Own wd.heap.size wd wr 22 1 v k ys ∧ wr.heap[b]? = some (.cells #[.string (strOf (sby a)), .string (strOf (sby c)), v] 137 (0, 0)))) (fun i _ => l.length - (intOf i).toNat)
        case atStart => exact ⟨0, Nat.zero_le _, rfl, .slice none 0 0, [], R2, Lib.hid ⟨HC.out, by simpa using HR2.out, ⟨World.ownsRow_nil _ _ _ _, nofun⟩, HBK.out⟩⟩
        case round =>
          clear HC HBK HN
          obtain ⟨k, hk1, rfl, v5, ys, R, HH⟩ := hrel
          obtain ⟨hC0, hS0, hO0, hB0⟩ := HH.out
          obtain ⟨Av, cv, hv5⟩ := own_slice hO0.own
          subst hv5
          by_cases hlt : k < l.length
          · obtain ⟨x, hx⟩ : ∃ x, x = l[k] := ⟨_, rfl⟩
            have hxr := HLR.out _ (List.getElem_mem hlt)
            rw [← hx] at hxr
            have HXR := Lib.hid hxr
            rw [List.drop_eq_getElem_cons hlt, List.flatMap_cons, ← hx] at hS0
            have HO0 := Lib.hid hO0
            have HB0 := Lib.hid hB0
            rcases hS0.fixed with h0 | ⟨R', rfl, hR'⟩
            · have HC := Lib.hid hC0
              rw [numB_len] at h0
              clear hC0 hS0 hO0 hB0 hx hxr HH
              go_wp2_with (go_at_call 167; refine (cur_len (by first | exact HC.out | exact HC.out.but ((Ext.refl _).but.set _ _))).mono ?_; rintro e w4 ⟨rfl, hw4⟩; rw [hw4]; clear hw4)
              (go_ret; exact ⟨_, _, rfl, by first | exact HC.out.bel | exact HC.out.bel.trans (ext_alloc _ _).but | exact (HC.out.bel.set _ _).trans (ext_alloc _ _).but⟩)
            · have HC0 := Lib.hid hC0
              have HC := Lib.hid hC0
              have hln4 : (numB x 4 ++ R').length = 4 + R'.length := by simp only [List.length_append, numB_len]
              clear hC0 hS0 hO0 hB0 hx hxr HH
              go_wp2_with (go_at_call 167; refine (cur_len (by first | exact HC.out | exact HC.out.but ((Ext.refl _).but.set _ _))).mono ?_; rintro e w4 ⟨rfl, hw4⟩; rw [hw4]; clear hw4)
              refine wp_region_ogL (J := PJ b wd.heap.size wd wr (.slice Av k cv) k ys (numB x 4) R' x (.string (strOf (sby a))) (.string (strOf (sby c)))) (R := fun _ _ => True) [Sp.eq _ (.pointer (some ⟨b, 0, none⟩)), Sp.eq _ (.pointer (some ⟨b, 0, none⟩)), Sp.eq _ (.pointer (some ⟨b, 0, none⟩)), Sp.eq _ (.pointer (some ⟨b, 2, none⟩)), Sp.eq _ (.slice Av k cv), Sp.eq _ (.pointer (some ⟨wd.heap.size, 0, none⟩)), Sp.any _, Sp.eq _ (.int .u32 x), Sp.any _, Sp.any _, Sp.eq _ (.pointer (some ⟨b, 0, none⟩)), Sp.eq _ (.pointer (some ⟨b, 2, none⟩)), Sp.any _] (by kernel_rfl) (by kernel_rfl) ?_ ?_ ?_
              · exact PJ.start HC0.out HO0.out HB0.out
              · refine ⟨?_, ?_, ?_, ?_, ?_, ?_, ?_, ?_, ?_, ?_, ?_, ?_, ?_, trivial⟩
                · intro vs w1 L hLi hd hdt hJ hp
                  have HJ := Lib.hid hJ
                  clear hp hd hdt hLi hJ
                  simp only [putAll, Nat.reduceAdd]
                  go_wp2
                  exact ⟨rfl, HJ.out.keep 0 _ (by decide) (by decide) (by decide) (by decide) (by decide), trivial, rfl⟩
                · intro vs w1 L hLi hd hdt hJ hp
                  have HJ := Lib.hid hJ
                  clear hp hd hdt hLi hJ
                  simp only [putAll, Nat.reduceAdd]
                  go_wp2
                  exact ⟨rfl, HJ.out.keep 1 _ (by decide) (by decide) (by decide) (by decide) (by decide), trivial, rfl⟩
                · intro vs w1 L hLi hd hdt hJ hp
                  have q1 : vs 1 = .pointer (some ⟨b, 0, none⟩) := hp 1 (by decide)
                  have HJ := Lib.hid hJ
                  clear hp hd hdt hLi hJ
                  simp only [putAll, Nat.reduceAdd]
                  go_wp2
                  exact ⟨rfl, HJ.out.keep 2 _ (by decide) (by decide) (by decide) (by decide) (by decide), trivial, rfl⟩
                · intro vs w1 L hLi hd hdt hJ hp
                  have q2 : vs 2 = .pointer (some ⟨b, 0, none⟩) := hp 2 (by decide)
                  have HJ := Lib.hid hJ
                  clear hp hd hdt hLi hJ
                  simp only [putAll, Nat.reduceAdd]
                  go_wp2
                  exact ⟨rfl, HJ.out.keep 3 _ (by decide) (by decide) (by decide) (by decide) (by decide), trivial, rfl⟩
                · intro vs w1 L hLi hd hdt hJ hp
                  have q3 : vs 3 = .pointer (some ⟨b, 2, none⟩) := hp 3 (by decide)
                  have HJ := Lib.hid hJ
                  have hq := cell_slot (hJ.F (hdt 12 (by decide))) 2 (.slice Av k cv) rfl
                  clear hp hd hdt hLi hJ
                  simp only [putAll, Nat.reduceAdd]
                  go_wp2
                  exact ⟨rfl, HJ.out.keep 4 _ (by decide) (by decide) (by decide) (by decide) (by decide), trivial, rfl⟩
                · intro vs w1 L hLi hd hdt hJ hp
                  have HJ := Lib.hid hJ
                  clear hp hd hdt hLi hJ
                  simp only [putAll, Nat.reduceAdd]
                  go_wp2
                  exact ⟨rfl, HJ.out.keep 5 _ (by decide) (by decide) (by decide) (by decide) (by decide), trivial, rfl⟩
                · intro vs w1 L hLi hd hdt hJ hp
                  have q5 : vs 5 = .pointer (some ⟨wd.heap.size, 0, none⟩) := hp 5 (by decide)
                  have HJ := Lib.hid hJ
                  have HLI := Lib.hid hLi
                  have HX := Lib.hid (hJ.A hLi)
                  clear hp hd hdt hLi hJ
                  simp only [putAll, Nat.reduceAdd]
                  go_wp2_with (go_at_call 168; refine (cur_piece (HC0.out.ext HX.out) _ (by rw [numB_len]; rfl)).mono ?_; rintro e w2' ⟨A5, c5, rfl, hrn, hcu, hx5⟩; have HRN := Lib.hid hrn; have HCU := Lib.hid hcu; have HX5 := Lib.hid hx5; clear hrn hcu hx5; simp only [Int.reduceToNat])
                  refine ⟨rfl, ?_, trivial, trivial⟩
                  exact HJ.out.step6 HLI.out HLT.out (Nat.le_refl _) A5 c5 HRN.out HCU.out HX5.out
                · intro vs w1 L hLi hd hdt hJ hp
                  have h6 := hd 6 (by decide)
                  have H6 := Lib.hid h6
                  have H8 := Lib.hid (hdt 8 (by decide))
                  have h6s := (hJ.B2 h6).1
                  have HB1 := Lib.hid (hJ.B1 h6)
                  have HB2 := Lib.hid (hJ.B2 h6).2
                  obtain ⟨S6, hS6⟩ : ∃ y, y = slA (vs 6) := ⟨_, rfl⟩
                  obtain ⟨T6, hT6⟩ : ∃ y, y = slC (vs 6) := ⟨_, rfl⟩
                  rw [← hS6, ← hT6] at h6s HB2
                  have HJ := Lib.hid hJ
                  clear h6 hS6 hT6
                  clear hp hd hdt hLi hJ
                  simp only [putAll, Nat.reduceAdd]
                  rw [h6s]
                  go_wp2_with (go_at_call 138; refine (rd32n x HXR.out _ _ _ [] _ (by rw [List.append_nil]; exact (HB2.out.at_ HB1.out.bel).1)).mono ?_; rintro e w2' ⟨rfl, hx6⟩; have HX6 := Lib.hid hx6; clear hx6)
                  refine ⟨rfl, ?_, trivial, rfl⟩
                  exact HJ.out.step7 H6.out H8.out HX6.out _
                · intro vs w1 L hLi hd hdt hJ hp
                  have q7 : vs 7 = .int .u32 x := hp 7 (by decide)
                  have H7 := Lib.hid (hd 7 (by decide))
                  have H9 := Lib.hid (hdt 9 (by decide))
                  have HJ := Lib.hid hJ
                  clear hp hd hdt hLi hJ
                  simp only [putAll, Nat.reduceAdd]
                  go_wp2
                  refine ⟨rfl, ?_, trivial, trivial⟩
                  exact HJ.out.step8 H7.out H9.out
                · intro vs w1 L hLi hd hdt hJ hp
                  have q4 : vs 4 = .slice Av k cv := hp 4 (by decide)
                  have q7 : vs 7 = .int .u32 x := hp 7 (by decide)
                  have h8 := hd 8 (by decide)
                  have H8 := Lib.hid h8
                  have HLi := Lib.hid hLi
                  have HD := Lib.hid (hJ.D h8 hLi)
                  have HR := Lib.hid (hJ.C hLi).row
                  have HJ := Lib.hid hJ
                  clear h8
                  clear hp hd hdt hLi hJ
                  simp only [putAll, Nat.reduceAdd]
                  refine ap_one rfl (.tmp 71) (.tmp 75) 24 22 1 4 _ rfl Tryz.underlying24 info22 rfl (by decide) (v := .slice Av k cv) (b := slB (vs 8)) (c := 1) (ys := [.int .u32 x]) (by simp only [evp_none, ne_eq, Nat.reduceEqDiff, not_false_eq_true, evp_ne]; rw [evp_same _ _ _ (by simp [evp_size])]; exact q4) HR.out (by simp only [evp_none, ne_eq, Nat.reduceEqDiff, not_false_eq_true, evp_ne]; rw [evp_same _ _ _ (by simp [evp_size])]; exact HD.out.1) rfl (fun j u hj => (cell_of_row _ _ _ _ _ _ HD.out.2).trans (by rw [← Array.getElem?_toList]; exact hj)) (List.all_eq_true.1 rfl) (by omega) (by decide) ?_
                  intro v2 w2' hn
                  refine ⟨rfl, ?_, trivial, trivial⟩
                  rw [slot_put _ _ _ (by simp [evp_size])]
                  exact HJ.out.step9 H8.out HLi.out _ hn
                · intro vs w1 L hLi hd hdt hJ hp
                  have q0 : vs 0 = .pointer (some ⟨b, 0, none⟩) := hp 0 (by decide)
                  have q1 : vs 1 = .pointer (some ⟨b, 0, none⟩) := hp 1 (by decide)
                  have q2 : vs 2 = .pointer (some ⟨b, 0, none⟩) := hp 2 (by decide)
                  have q3 : vs 3 = .pointer (some ⟨b, 2, none⟩) := hp 3 (by decide)
                  have q4 : vs 4 = .slice Av k cv := hp 4 (by decide)
                  have q5 : vs 5 = .pointer (some ⟨wd.heap.size, 0, none⟩) := hp 5 (by decide)
                  have q7 : vs 7 = .int .u32 x := hp 7 (by decide)
                  have HJ := Lib.hid hJ
                  clear hp hd hdt hLi hJ
                  simp only [putAll, Nat.reduceAdd]
                  go_wp2
                  exact ⟨rfl, HJ.out.keep 10 _ (by decide) (by decide) (by decide) (by decide) (by decide), trivial, rfl⟩
                · intro vs w1 L hLi hd hdt hJ hp
                  have q0 : vs 0 = .pointer (some ⟨b, 0, none⟩) := hp 0 (by decide)
                  have q1 : vs 1 = .pointer (some ⟨b, 0, none⟩) := hp 1 (by decide)
                  have q2 : vs 2 = .pointer (some ⟨b, 0, none⟩) := hp 2 (by decide)
                  have q3 : vs 3 = .pointer (some ⟨b, 2, none⟩) := hp 3 (by decide)
                  have q4 : vs 4 = .slice Av k cv := hp 4 (by decide)
                  have q5 : vs 5 = .pointer (some ⟨wd.heap.size, 0, none⟩) := hp 5 (by decide)
                  have q7 : vs 7 = .int .u32 x := hp 7 (by decide)
                  have q10 : vs 10 = .pointer (some ⟨b, 0, none⟩) := hp 10 (by decide)
                  have HJ := Lib.hid hJ
                  clear hp hd hdt hLi hJ
                  simp only [putAll, Nat.reduceAdd]
                  go_wp2
                  exact ⟨rfl, HJ.out.keep 11 _ (by decide) (by decide) (by decide) (by decide) (by decide), trivial, rfl⟩
                · intro vs w1 L hLi hd hdt hJ hp
                  have q0 : vs 0 = .pointer (some ⟨b, 0, none⟩) := hp 0 (by decide)
                  have q1 : vs 1 = .pointer (some ⟨b, 0, none⟩) := hp 1 (by decide)
                  have q2 : vs 2 = .pointer (some ⟨b, 0, none⟩) := hp 2 (by decide)
                  have q3 : vs 3 = .pointer (some ⟨b, 2, none⟩) := hp 3 (by decide)
                  have q4 : vs 4 = .slice Av k cv := hp 4 (by decide)
                  have q5 : vs 5 = .pointer (some ⟨wd.heap.size, 0, none⟩) := hp 5 (by decide)
                  have q7 : vs 7 = .int .u32 x := hp 7 (by decide)
                  have q11 : vs 11 = .pointer (some ⟨b, 2, none⟩) := hp 11 (by decide)
                  have h9 := hd 9 (by decide)
                  have H9 := Lib.hid h9
                  have HLi := Lib.hid hLi
                  have hF := hJ.F hLi
                  have hc1 := cell_slot hF 2 _ rfl
                  have hf1 := free_slot hF 2
                  obtain ⟨A9, c9, hv9⟩ := own_slice (hJ.E h9).own
                  have HV9 := Lib.hid hv9
                  have HJ := Lib.hid hJ
                  clear h9 hF hv9
                  clear hp hd hdt hLi hJ
                  simp only [putAll, Nat.reduceAdd]
                  rw [HV9.out]
                  go_wp2
                  refine ⟨rfl, ?_, trivial, trivial⟩
                  exact HJ.out.step12 H9.out HLi.out _ _ HV9.out
              · intro vs w1 L hall hJ hp
                have q0 : vs 0 = .pointer (some ⟨b, 0, none⟩) := hp 0 (by decide)
                have q1 : vs 1 = .pointer (some ⟨b, 0, none⟩) := hp 1 (by decide)
                have q2 : vs 2 = .pointer (some ⟨b, 0, none⟩) := hp 2 (by decide)
                have q3 : vs 3 = .pointer (some ⟨b, 2, none⟩) := hp 3 (by decide)
                have q4 : vs 4 = .slice Av k cv := hp 4 (by decide)
                have q5 : vs 5 = .pointer (some ⟨wd.heap.size, 0, none⟩) := hp 5 (by decide)
                have q7 : vs 7 = .int .u32 x := hp 7 (by decide)
                have q10 : vs 10 = .pointer (some ⟨b, 0, none⟩) := hp 10 (by decide)
                have q11 : vs 11 = .pointer (some ⟨b, 2, none⟩) := hp 11 (by decide)
                have HFI := Lib.hid (And.intro (hJ.B1 (hall 6 (by decide))) (And.intro (hJ.E (hall 9 (by decide))) (hJ.G (hall 12 (by decide)))))
                clear hJ hp hall
                simp only [putAll, Nat.reduceAdd]
                clear q0 q1 q2 q3 q4 q5 q7 q10 q11
                simp only [Exit.inBlock, Exit.then]
                try go_at_K
                simp only [Act.put, List.setIfInBounds_toArray, List.set_cons_zero, List.set_cons_succ]
                go_wp2
                go_roundw
                case rel => exact ⟨k + 1, by omega, by go_num, vs 9, ys ++ [.int .u32 x], R', Lib.hid ⟨HFI.out.1, hR', HFI.out.2.1, HFI.out.2.2⟩⟩
                case measure => simp only [intOf]; omega
          · obtain rfl : k = l.length := by omega
            rw [List.drop_length] at hS0
            exact absurd hS0 SPre.nil
end Go.Proofs.YtdenjanihikolaaGreatDoor

