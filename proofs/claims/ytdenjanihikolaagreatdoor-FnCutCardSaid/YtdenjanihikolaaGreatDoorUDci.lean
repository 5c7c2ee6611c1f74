/- Bind's Decode on a strict prefix of a body: what its loops keep. -/
import Derived.Test.YtdenjanihikolaaGreatDoorUDch
import Derived.Test.YtdenjanihikolaaGreatDoorUMkd
namespace Go.Proofs.YtdenjanihikolaaGreatDoor
open Go.RowKit Og
set_option linter.unusedVariables false
set_option linter.unusedSimpArgs false

theorem wrapI16 (x : Int) : IntKind.i16.wrap x = (x + 32768) % 65536 - 32768 := by unfold IntKind.wrap; simp [IntKind.bits, IntKind.signed]; omega
theorem sl_at (A : Option Addr) (N c p : Nat) (hp : p ≤ N) (hN : N ≤ c) (hc : c ≤ maxLen) : ∃ A' c', (∀ (i : Int) (w : World), i = (p : Int) → (Instr.slice 26 (.slice A N c) (some (.int .i64 i)) none none).run Tryz.prog w = .ok (.slice A' (N - p) c') w) ∧ ∀ (b : Nat) (w : World) (xs : List Int), RdN b w (.slice A N c) xs → RdN b w (.slice A' (N - p) c') (xs.drop p) := by
  obtain ⟨A', c', h1, h2⟩ := sl_from A N c p (p : Int) rfl hp hN hc
  exact ⟨A', c', fun i w hi => by subst hi; exact h1 w, h2⟩
set_option maxRecDepth 100000 in
theorem sl_mid (A : Option Addr) (N c p n : Nat) (hp : p + n ≤ c) : ∃ A' c', ∀ (i j : Int) (w : World), i = (p : Int) → j = (p : Int) + (n : Int) → (Instr.slice 26 (.slice A N c) (some (.int .i64 i)) (some (.int .i64 j)) none).run Tryz.prog w = .ok (.slice A' n c') w := by
  refine ⟨if c = p then A else A.map (·.add p), c - p, fun i j w hi hj => ?_⟩
  subst hi; subst hj
  rw [run_slice_lh (P := Tryz.prog) w 26 A N c Tryz.underlying26 .i64 .i64 p ((p : Int) + (n : Int)) (by omega) (by omega) (by omega)]
  have hs : (sizeOf (Tryz.prog.elem 26)).run Tryz.prog w = .ok 1 w := by
    obtain ⟨i0, hi, hz0, hz1, hz2⟩ := info_parts info5
    simp [sizeOf, typeInfo, show Tryz.prog.elem 26 = 5 from by kernel_rfl, hi, hz1]
  rw [hs]
  have h9 : ((p : Int) + (n : Int)).toNat = p + n := by omega
  simp [Result.andThen, sliced, h9]

/-- Inside a round: the column's own block f. -/
structure Fst (b f : Nat) (wd w : World) (v : Value) (k : Nat) (ys : List Value) (cs : Array Value) : Prop where
  bel : ExtBut b wd w
  blk : w.heap[b]? = some (.cells #[v] 236 (0, 0))
  fd : w.heap[f]? = some (.cells cs 249 (0, 0))
  own : Own f wd w 249 7 v k ys
  lo : wd.heap.size ≤ f
  hi : b < wd.heap.size
theorem Fst.ext {b f : Nat} {wd w w2 : World} {v : Value} {k : Nat} {ys : List Value} {cs : Array Value} (h : Fst b f wd w v k ys cs) (hx : Ext w w2) : Fst b f wd w2 v k ys cs :=
  ⟨h.bel.trans hx.but, (hx.block b (lt_of_block h.blk)).trans h.blk, (hx.block f (lt_of_block h.fd)).trans h.fd, h.own.ext hx, h.lo, h.hi⟩
theorem Fst.set {b f : Nat} {wd w : World} {v : Value} {k : Nat} {ys : List Value} {cs : Array Value} (h : Fst b f wd w v k ys cs) (j : Nat) (u : Value) : Fst b f wd (w.setCell ⟨f, j, none⟩ u) v k ys (cs.setIfInBounds j u) := by
  have hoth : ∀ q, q ≠ f → (w.setCell ⟨f, j, none⟩ u).heap[q]? = w.heap[q]? := fun q hq => heap_setCell_other w ⟨f, j, none⟩ q _ hq
  have h1 := h.lo
  have h2 := h.hi
  exact ⟨⟨h.bel.os, h.bel.tape, h.bel.output, by simpa [World.setCell] using h.bel.size, fun q hq hqb => (hoth q (by omega)).trans (h.bel.block q hq hqb)⟩, (hoth b (by omega)).trans h.blk, slot_setCell h.fd, h.own.keep fun g _ hne _ => hoth g hne, h1, h2⟩
theorem drop_step {xs B T : List Int} {a m : Nat} (h : xs.drop a = B ++ T) (hB : B.length = m) : xs.drop (a + m) = T := by
  rw [← List.drop_drop, h]; exact List.drop_left' hB
/-- The region that appends the column. -/
structure RJ (b f : Nat) (wd W0 : World) (v : Value) (k : Nat) (ys : List Value) (cs : Array Value) (L : Nat → Bool) (vs : Nat → Value) (w : World) : Prop where
  A : L 6 = false → Ext W0 w
  X : ExtBut b wd w
  C : L 7 = false → Own f wd w 249 7 v k ys
  D : L 6 = true → L 7 = false → vs 6 = .slice (some ⟨slB (vs 6), 0, none⟩) 1 1 ∧ w.heap[slB (vs 6)]? = some (.cells cs 249 (0, 0))
  E : L 7 = true → Own f wd w 249 7 (vs 7) (k + 1) (ys ++ cs.toList)
  F : L 10 = false → w.heap[b]? = some (.cells #[v] 236 (0, 0))
  G : L 10 = true → w.heap[b]? = some (.cells #[vs 7] 236 (0, 0))
  S : f < w.heap.size
  M1 : L 7 = true → L 6 = true
  M2 : L 10 = true → L 7 = true
section
variable {b f : Nat} {wd W0 w w2 : World} {v : Value} {k : Nat} {ys : List Value} {cs : Array Value} {L : Nat → Bool} {vs : Nat → Value}
theorem RJ.start (h : Fst b f wd W0 v k ys cs) : RJ b f wd W0 v k ys cs (fun _ => false) vs W0.drew :=
  ⟨fun _ => (Ext.refl W0).drew, h.bel.trans (Ext.refl W0).drew.but, fun _ => h.own.ext (Ext.refl W0).drew, nofun, nofun, fun _ => h.blk, nofun, lt_of_block h.fd, nofun, nofun⟩
theorem RJ.keep (h : RJ b f wd W0 v k ys cs L vs w) (i : Nat) (u : Value) (h6 : 6 ≠ i) (h7 : 7 ≠ i) (h10 : 10 ≠ i) : RJ b f wd W0 v k ys cs (updB L i) (upd vs i u) w := by
  obtain ⟨A, X, C, D, E, F, G, S, M1, M2⟩ := h
  constructor <;> (try simp only [updB, upd, h6, h7, h10, if_false, beq_eq_false_iff_ne.2, Bool.or_false, ne_eq, not_false_eq_true]) <;> assumption
theorem RJ.low (h : RJ b f wd W0 v k ys cs L vs w) (e : L 7 = false) : L 10 = false := by
  cases e2 : L 10 with
  | false => rfl
  | true => rw [h.M2 e2] at e; cases e
theorem RJ.step6 (h : RJ b f wd W0 v k ys cs L vs w) (e7 : L 7 = false) : RJ b f wd W0 v k ys cs (updB L 6) (upd vs 6 (.slice (some ⟨w.heap.size, 0, none⟩) 1 1)) (w.alloc (.cells cs 249)) := by
  have e10 := h.low e7
  have hF := h.F e10
  have hx := ext_alloc w (.cells cs 249)
  have hX := h.X.trans hx.but
  constructor <;> (try simp only [updB, upd, e7, e10, Nat.reduceEqDiff, if_false, if_true, Nat.reduceBEq, Bool.or_false, Bool.or_true, Bool.false_eq_true, Bool.true_eq_false, false_implies, true_implies])
  · exact hX
  · exact (h.C e7).ext hx
  · exact ⟨rfl, heap_alloc_new _ _⟩
  · exact (hx.block b (lt_of_block hF)).trans hF
  · exact Nat.lt_of_lt_of_le h.S hx.size
theorem RJ.step7 (h : RJ b f wd W0 v k ys cs L vs w) (hb : b < wd.heap.size) (hlo : wd.heap.size ≤ f) (e6 : L 6 = true) (e7 : L 7 = false) (v2 : Value) (hr : Row 249 7 (But w v) w w2 v2 (k + 1) (ys ++ cs.toList)) : RJ b f wd W0 v k ys cs (updB L 7) (upd vs 7 v2) w2 := by
  have e10 := h.low e7
  have hF := h.F e10
  have hC := h.C e7
  have hS := h.S
  have hX := h.X
  have hbn : ∀ q, q < wd.heap.size → But w v q := fun q hq => ⟨Nat.lt_of_lt_of_le hq hX.size, fun e => by have := (hC.off q e).1; omega⟩
  have hfn : But w v f := ⟨hS, fun e => (hC.off f e).2 rfl⟩
  have hsz := hr.lt f hfn
  constructor <;> (try simp only [updB, upd, e6, e10, Nat.reduceEqDiff, if_false, if_true, Nat.reduceBEq, Bool.or_false, Bool.or_true, Bool.false_eq_true, Bool.true_eq_false, false_implies, true_implies])
  · exact ⟨hr.os.trans hX.os, hr.tape.trans hX.tape, hr.output.trans hX.output, by omega, fun q hq hqb => (hr.kept q (hbn q hq)).trans (hX.block q hq hqb)⟩
  · exact hC.step hr hS hX.size
  · exact (hr.kept b (hbn b hb)).trans hF
  · exact hr.lt f hfn
theorem RJ.step10 (h : RJ b f wd W0 v k ys cs L vs w) (hb : b < wd.heap.size) (e7 : L 7 = true) (e10 : L 10 = false) (u z : Value) (hz : vs 7 = z) : RJ b f wd W0 v k ys cs (updB L 10) (upd vs 10 u) (w.setCell ⟨b, 0, none⟩ z) := by
  subst hz
  have e6 := h.M1 e7
  have hF := h.F e10
  have hE := h.E e7
  have hoth : ∀ q, q ≠ b → (w.setCell ⟨b, 0, none⟩ (vs 7)).heap[q]? = w.heap[q]? := fun q hq => heap_setCell_other w ⟨b, 0, none⟩ q _ hq
  constructor <;> (try simp only [updB, upd, e6, e7, Nat.reduceEqDiff, if_false, if_true, Nat.reduceBEq, Bool.or_false, Bool.or_true, Bool.false_eq_true, Bool.true_eq_false, false_implies, true_implies])
  · exact h.X.set 0 _
  · exact hE.keep fun g hg _ _ => hoth g (by omega)
  · exact slot_setCell hF
  · have := h.S; simpa [World.setCell] using this
end
/-- Where RowDescription's Decode stands: at p, R left of what T wants. -/
structure RdS (b : Nat) (wd w : World) (v : Value) (k N : Nat) (ys : List Value) (xs : List Int) (p : Nat) (R T : List Int) : Prop where
  len : N = p + R.length
  rest : xs.drop p = R
  pre : SPre R T
  bel : ExtBut b wd w
  blk : w.heap[b]? = some (.cells #[v] 236 (0, 0))
  own : Own b wd w 249 7 v k ys
theorem sfB_parts (x : Sf) (T : List Int) : sfB x ++ T = sby x.name ++ 0 :: ((numB x.tab 4 ++ (numB x.col 2 ++ (numB x.typ 4 ++ (numB x.siz 2 ++ (numB x.mdf 4 ++ numB x.fmt 2))))) ++ T) := by
  simp [sfB, txt, List.append_assoc]

set_option maxRecDepth 100000 in
set_option maxHeartbeats 2000000 in
theorem cut57 (l : List Sf) (hll : l.length ≤ 20) (hlr : ∀ y ∈ l, plainP y.name ∧ y.name.size ≤ 200 ∧ 0 ≤ y.tab ∧ y.tab < 4294967296 ∧ 0 ≤ y.typ ∧ y.typ < 4294967296 ∧ 0 ≤ y.col ∧ y.col ≤ 32767 ∧ -32768 ≤ y.siz ∧ y.siz ≤ 32767 ∧ -2147483648 ≤ y.mdf ∧ y.mdf < 2147483648 ∧ 0 ≤ y.fmt ∧ y.fmt ≤ 1) (xs : List Int) (hx : SPre xs (numB (l.length : Int) 2 ++ l.flatMap sfB)) (hl : xs.length ≤ 100000) (wd : World) (b : Nat) (v : Value) (hb : wd.heap[b]? = some (.cells #[.slice none 0 0] 236 (0, 0))) (hv : RdB wd v xs) (hof : v.ownBlock ≠ some b) :
    Calls Tryz.prog 332 #[.pointer (some ⟨b, 0, none⟩), v] wd (NotD b wd) := by
  obtain ⟨A, c, hvA⟩ := hv.len
  subst hvA
  have HV : Hid (RdN b wd (.slice A xs.length c) xs) := Lib.hid ⟨hv, fun _ => hof⟩
  have HLT := Lib.hid (lt_of_block hb)
  have HBK := Lib.hid hb
  have HLR := Lib.hid hlr
  have HX : Hid (ExtBut b wd wd) := Lib.hid (Ext.refl wd).but
  clear hof hb hlr
  rcases hx.fixed with h0 | ⟨R, rfl, hR⟩
  · rw [numB_len] at h0
    clear hx
    go_enter Tryz.func332, Tryz.ntmps332
    go_wp2
    (go_ret; exact ⟨_, _, rfl, by first | exact HX.out | exact HX.out.trans (ext_alloc _ _).but | exact (HX.out.trans (ext_alloc _ _).but).trans (ext_alloc _ _).but | exact ((HX.out.trans (ext_alloc _ _).but).trans (ext_alloc _ _).but).trans (ext_alloc _ _).but⟩)
  · obtain ⟨N, hN⟩ : ∃ m, m = (numB (l.length : Int) 2 ++ R).length := ⟨_, rfl⟩
    have HN2 : Hid (N = 2 + R.length) := Lib.hid (by rw [hN]; simp only [List.length_append, numB_len])
    have hN2 : 2 ≤ N := by rw [HN2.out]; omega
    have hcap := hv.parts.2.1
    have HCM := Lib.hid hv.parts.2.2
    rw [← hN] at hcap HV hl
    rw [← hN]
    have HNL : Hid (0 ≤ (l.length : Int) ∧ (l.length : Int) < 65536) := Lib.hid (by omega)
    have HR := Lib.hid hR
    obtain ⟨xs0, hxs0⟩ : ∃ y, y = numB (l.length : Int) 2 ++ R := ⟨_, rfl⟩
    have HXS := Lib.hid hxs0.symm
    rw [← hxs0] at HV
    clear hv hN hR hx hxs0
    go_enter Tryz.func332, Tryz.ntmps332
    go_wp2_with (first | (go_at_call 137; refine (rd16n (l.length : Int) HNL.out _ _ _ R _ (by rw [HXS.out]; exact (HV.out.at_ HX.out).1)).mono ?_; rintro e w2 ⟨rfl, hx2⟩; have HX2 := Lib.hid (HX.out.trans hx2.but); clear HX; have HX := HX2; clear HX2; have hbk := (hx2.block b HLT.out).trans HBK.out; clear HBK; have HBK := Lib.hid hbk; have hck0 := cell_slot hbk 0 _ rfl; have hfk0 := free_slot hbk 0; clear hbk hx2))
    go_loopw [27, 6] (fun i rp wr => ∃ k p : Nat, k ≤ l.length ∧ i = .int .i64 k ∧ rp = .int .i64 p ∧ ∃ v ys R, Hid (RdS b wd wr v k N ys xs0 p R ((l.drop k).flatMap sfB))) (fun i _ _ => l.length - (intOf i).toNat)
    case atStart =>
      refine ⟨0, 2, Nat.zero_le _, rfl, rfl, .slice none 0 0, [], R, Lib.hid ?_⟩
      exact ⟨by rw [HN2.out], by rw [← HXS.out]; exact List.drop_left' (by rw [numB_len]), by simpa using HR.out, HX.out.set 0 _, slot_setCell HBK.out, ⟨World.ownsRow_nil _ _ _ _, nofun⟩⟩
    case round =>
      clear HX HBK hck0 hfk0 HNL
      obtain ⟨k, p, hk1, rfl, rfl, v, ys, R3, HH⟩ := hrel
      obtain ⟨Av, cv, hv⟩ := own_slice HH.out.own.own
      subst hv
      by_cases hlt : k < l.length
      · obtain ⟨x, hx⟩ : ∃ x, x = l[k] := ⟨_, rfl⟩
        have hxr := HLR.out _ (List.getElem_mem hlt)
        rw [← hx] at hxr
        have hS0 := HH.out.pre
        rw [List.drop_eq_getElem_cons hlt, List.flatMap_cons, ← hx, sfB_parts] at hS0
        have hNp : N - p = R3.length := by have := HH.out.len; omega
        have hpN : p ≤ N := by have := HH.out.len; omega
        have HX := Lib.hid HH.out.bel
        have HPOS := Lib.hid (plain_pos hxr.1)
        obtain ⟨A4, c4, hsl, hsr⟩ := sl_at A N c p hpN hcap HCM.out
        have HD : Hid (RdN b wd (.slice A4 R3.length c4) R3) := Lib.hid (by
          have h9 := hsr b wd xs0 HV.out
          rwa [HH.out.rest, hNp] at h9)
        have HXA : Hid (ExtBut b wd (wr.alloc (.cells #[.slice none 0 0, .int .u32 0, .int .u16 0, .int .u32 0, .int .i16 0, .int .i32 0, .int .i16 0] 249))) := Lib.hid (HX.out.trans (ext_alloc _ _).but)
        rw [hNp] at hsl
        clear hsr
        rcases hS0.textm with h0 | ⟨R4, hR4, hS4⟩
        · have HE := Lib.hid (show ∀ y ∈ R3, 0 < y ∧ y < 256 from fun y hy => HPOS.out y (h0 y hy))
          clear hS0 hx hxr h0
          go_wp2_with (first | (go_at_call 136; refine (idx_none _ _ _ _ _ (HD.out.at_ HXA.out).1 HE.out).mono ?_; rintro e w3 ⟨rfl, hw3⟩; rw [hw3]; clear hw3))
          (go_ret; exact ⟨_, _, rfl, by first | exact HX.out | exact HX.out.trans (ext_alloc _ _).but | exact (HX.out.trans (ext_alloc _ _).but).trans (ext_alloc _ _).but | exact ((HX.out.trans (ext_alloc _ _).but).trans (ext_alloc _ _).but).trans (ext_alloc _ _).but⟩)
        · have HD4 : Hid (RdN b wd (.slice A4 R3.length c4) (sby x.name ++ 0 :: R4)) := Lib.hid (by rw [← hR4]; exact HD.out)
          have hl3 : R3.length = (sby x.name).length + 1 + R4.length := by rw [hR4]; simp only [List.length_append, List.length_cons]; omega
          have hla : (sby x.name).length ≤ 200 := by rw [sby_length]; exact hxr.1.1
          obtain ⟨A5, c5, hsm⟩ := sl_mid A N c p (sby x.name).length (by omega)
          obtain ⟨A6, c6, hs6, hr6⟩ := sl_at A N c (p + ((sby x.name).length + 1)) (by omega) hcap HCM.out
          have hN6 : N - (p + ((sby x.name).length + 1)) = R4.length := by omega
          rw [hN6] at hs6
          rcases hS4.fixed with h5 | ⟨R5, hR5, hS5⟩
          · have h5' : R4.length < 18 := by simpa [List.length_append, numB_len] using h5
            clear hS0 hx hxr hS4 h5 hr6 hl3 hR4
            go_wp2_with (first | (go_at_call 136; refine (idx_found _ _ _ _ _ _ (HD4.out.at_ HXA.out).1 HPOS.out).mono ?_; rintro e w3 ⟨rfl, hw3⟩; rw [hw3]; clear hw3))
            (go_ret; exact ⟨_, _, rfl, by first | exact HX.out | exact HX.out.trans (ext_alloc _ _).but | exact (HX.out.trans (ext_alloc _ _).but).trans (ext_alloc _ _).but | exact ((HX.out.trans (ext_alloc _ _).but).trans (ext_alloc _ _).but).trans (ext_alloc _ _).but⟩)
          · skip
            have hl4 : R4.length = 18 + R5.length := by rw [hR5]; simp only [List.length_append, numB_len]
            have h18 : ¬ R4.length < 18 := by omega
            obtain ⟨m4, hm4⟩ : ∃ m, m = x.siz % 65536 := ⟨_, rfl⟩
            obtain ⟨m5, hm5⟩ : ∃ m, m = x.mdf % 4294967296 := ⟨_, rfl⟩
            obtain ⟨m6, hm6⟩ : ∃ m, m = x.fmt % 65536 := ⟨_, rfl⟩
            rw [numB_mod2 x.siz, numB_mod4 x.mdf, numB_mod2 x.fmt, ← hm4, ← hm5, ← hm6] at hR5
            have ht0 : xs0.drop (p + ((sby x.name).length + 1)) = numB x.tab 4 ++ (numB x.col 2 ++ (numB x.typ 4 ++ (numB m4 2 ++ (numB m5 4 ++ (numB m6 2 ++ (R5)))))) := by
              have h9 := drop_step (B := sby x.name ++ [0]) (T := R4) (a := p) (m := (sby x.name).length + 1) (by rw [HH.out.rest, hR4]; simp) (by simp)
              rw [h9, hR5]; simp only [List.append_assoc]
            have ht1 : xs0.drop (p + ((sby x.name).length + 1) + 4) = numB x.col 2 ++ (numB x.typ 4 ++ (numB m4 2 ++ (numB m5 4 ++ (numB m6 2 ++ (R5))))) := by
              have h9 := drop_step ht0 (m := 4) (by rw [numB_len])
              exact h9
            have ht2 : xs0.drop (p + ((sby x.name).length + 1) + 4 + 2) = numB x.typ 4 ++ (numB m4 2 ++ (numB m5 4 ++ (numB m6 2 ++ (R5)))) := by
              have h9 := drop_step ht1 (m := 2) (by rw [numB_len])
              exact h9
            have ht3 : xs0.drop (p + ((sby x.name).length + 1) + 4 + 2 + 4) = numB m4 2 ++ (numB m5 4 ++ (numB m6 2 ++ (R5))) := by
              have h9 := drop_step ht2 (m := 4) (by rw [numB_len])
              exact h9
            have ht4 : xs0.drop (p + ((sby x.name).length + 1) + 4 + 2 + 4 + 2) = numB m5 4 ++ (numB m6 2 ++ (R5)) := by
              have h9 := drop_step ht3 (m := 2) (by rw [numB_len])
              exact h9
            have ht5 : xs0.drop (p + ((sby x.name).length + 1) + 4 + 2 + 4 + 2 + 4) = numB m6 2 ++ (R5) := by
              have h9 := drop_step ht4 (m := 4) (by rw [numB_len])
              exact h9
            have ht6 : xs0.drop (p + ((sby x.name).length + 1) + 4 + 2 + 4 + 2 + 4 + 2) = R5 := by
              have h9 := drop_step ht5 (m := 2) (by rw [numB_len])
              exact h9
            have HQ0 : Hid (∀ w, ExtBut b wd w → RdB w (.slice A6 R4.length c6) (numB x.tab 4 ++ (numB x.col 2 ++ (numB x.typ 4 ++ (numB m4 2 ++ (numB m5 4 ++ (numB m6 2 ++ (R5)))))))) := Lib.hid (fun w hw => by have h9 := (hr6 b wd xs0 HV.out).at_ hw; rw [ht0, hN6] at h9; exact h9.1)
            obtain ⟨B1, d1, hs1, hr1⟩ := sl_at A N c (p + ((sby x.name).length + 1) + 4) (by omega) hcap HCM.out
            have HQ1 : Hid (∀ w, ExtBut b wd w → RdB w (.slice B1 (N - (p + ((sby x.name).length + 1) + 4)) d1) (numB x.col 2 ++ (numB x.typ 4 ++ (numB m4 2 ++ (numB m5 4 ++ (numB m6 2 ++ (R5))))))) := Lib.hid (fun w hw => by have h9 := (hr1 b wd xs0 HV.out).at_ hw; rw [ht1] at h9; exact h9.1)
            obtain ⟨B2, d2, hs2, hr2⟩ := sl_at A N c (p + ((sby x.name).length + 1) + 4 + 2) (by omega) hcap HCM.out
            have HQ2 : Hid (∀ w, ExtBut b wd w → RdB w (.slice B2 (N - (p + ((sby x.name).length + 1) + 4 + 2)) d2) (numB x.typ 4 ++ (numB m4 2 ++ (numB m5 4 ++ (numB m6 2 ++ (R5)))))) := Lib.hid (fun w hw => by have h9 := (hr2 b wd xs0 HV.out).at_ hw; rw [ht2] at h9; exact h9.1)
            obtain ⟨B3, d3, hs3, hr3⟩ := sl_at A N c (p + ((sby x.name).length + 1) + 4 + 2 + 4) (by omega) hcap HCM.out
            have HQ3 : Hid (∀ w, ExtBut b wd w → RdB w (.slice B3 (N - (p + ((sby x.name).length + 1) + 4 + 2 + 4)) d3) (numB m4 2 ++ (numB m5 4 ++ (numB m6 2 ++ (R5))))) := Lib.hid (fun w hw => by have h9 := (hr3 b wd xs0 HV.out).at_ hw; rw [ht3] at h9; exact h9.1)
            obtain ⟨B4, d4, hs4, hr4⟩ := sl_at A N c (p + ((sby x.name).length + 1) + 4 + 2 + 4 + 2) (by omega) hcap HCM.out
            have HQ4 : Hid (∀ w, ExtBut b wd w → RdB w (.slice B4 (N - (p + ((sby x.name).length + 1) + 4 + 2 + 4 + 2)) d4) (numB m5 4 ++ (numB m6 2 ++ (R5)))) := Lib.hid (fun w hw => by have h9 := (hr4 b wd xs0 HV.out).at_ hw; rw [ht4] at h9; exact h9.1)
            obtain ⟨B5, d5, hs5, hr5⟩ := sl_at A N c (p + ((sby x.name).length + 1) + 4 + 2 + 4 + 2 + 4) (by omega) hcap HCM.out
            have HQ5 : Hid (∀ w, ExtBut b wd w → RdB w (.slice B5 (N - (p + ((sby x.name).length + 1) + 4 + 2 + 4 + 2 + 4)) d5) (numB m6 2 ++ (R5))) := Lib.hid (fun w hw => by have h9 := (hr5 b wd xs0 HV.out).at_ hw; rw [ht5] at h9; exact h9.1)
            have HK0 : Hid (0 ≤ x.tab ∧ x.tab < 4294967296) := Lib.hid (by omega)
            have HK1 : Hid (0 ≤ x.col ∧ x.col < 65536) := Lib.hid (by omega)
            have HK2 : Hid (0 ≤ x.typ ∧ x.typ < 4294967296) := Lib.hid (by omega)
            have HK3 : Hid (0 ≤ m4 ∧ m4 < 65536) := Lib.hid (by omega)
            have HK4 : Hid (0 ≤ m5 ∧ m5 < 4294967296) := Lib.hid (by omega)
            have HK5 : Hid (0 ≤ m6 ∧ m6 < 65536) := Lib.hid (by omega)
            have hw4 : IntKind.i16.wrap m4 = x.siz := by rw [wrapI16]; omega
            have hw5 : IntKind.i32.wrap m5 = x.mdf := by rw [IntKind.wrap_i32]; omega
            have hw6 : IntKind.i16.wrap m6 = x.fmt := by rw [wrapI16]; omega
            have hl5 : N = p + ((sby x.name).length + 1) + 4 + 2 + 4 + 2 + 4 + 2 + R5.length := by have := HH.out.len; omega
            have HL5 := Lib.hid hl5
            have HT6 := Lib.hid ht6
            have HX0 := Lib.hid hx
            have HS5 := Lib.hid hS5
            have HFS : Hid (Fst b wr.heap.size wd (wr.alloc (.cells #[.slice A5 (sby x.name).length c5, .int .u32 0, .int .u16 0, .int .u32 0, .int .i16 0, .int .i32 0, .int .i16 0] 249)) (.slice Av k cv) k ys #[.slice A5 (sby x.name).length c5, .int .u32 0, .int .u16 0, .int .u32 0, .int .i16 0, .int .i32 0, .int .i16 0]) := Lib.hid (by
              have h9 := ext_alloc wr (.cells #[.slice A5 (sby x.name).length c5, .int .u32 0, .int .u16 0, .int .u32 0, .int .i16 0, .int .i32 0, .int .i16 0] 249)
              exact ⟨HX.out.trans h9.but, (h9.block b (lt_of_block HH.out.blk)).trans HH.out.blk, heap_alloc_new _ _, ⟨ownsRow_ext HH.out.own.own h9, fun g hg => ⟨(HH.out.own.off g hg).1, by have := (HH.out.own.own.lt g hg).2; omega⟩⟩, HX.out.size, HLT.out⟩)
            clear hS0 hx hxr hS4 hS5 hr6 hl3 hl4 hR4 hR5 hl5 ht6 hm4 hm5 hm6 ht0 ht1 hr1 ht2 hr2 ht3 hr3 ht4 hr4 ht5 hr5
            go_wp2_with (first | (go_at_call 136; refine (idx_found _ _ _ _ _ _ (HD4.out.at_ HXA.out).1 HPOS.out).mono ?_; rintro e w3 ⟨rfl, hw3⟩; rw [hw3]; clear hw3) | (go_at_call_of 138 A6; refine (rd32n x.tab HK0.out _ _ _ (numB x.col 2 ++ (numB x.typ 4 ++ (numB m4 2 ++ (numB m5 4 ++ (numB m6 2 ++ (R5)))))) _ (HQ0.out _ (by first | exact HFS.out.bel | exact (HFS.out.set _ _).bel))).mono ?_; rintro e w3 ⟨rfl, hx3⟩; (first | have HFn := Lib.hid (HFS.out.ext hx3) | have HFn := Lib.hid ((HFS.out.set _ _).ext hx3)); clear HFS; have HFS := HFn; clear HFn hx3; (try clear hfc hfz); have hfc := cell_slot HFS.out.fd 1 _ rfl; have hfz := free_slot HFS.out.fd 1) | (go_at_call_of 137 B1; refine (rd16n x.col HK1.out _ _ _ (numB x.typ 4 ++ (numB m4 2 ++ (numB m5 4 ++ (numB m6 2 ++ (R5))))) _ (HQ1.out _ (by first | exact HFS.out.bel | exact (HFS.out.set _ _).bel))).mono ?_; rintro e w3 ⟨rfl, hx3⟩; (first | have HFn := Lib.hid (HFS.out.ext hx3) | have HFn := Lib.hid ((HFS.out.set _ _).ext hx3)); clear HFS; have HFS := HFn; clear HFn hx3; (try clear hfc hfz); have hfc := cell_slot HFS.out.fd 2 _ rfl; have hfz := free_slot HFS.out.fd 2) | (go_at_call_of 138 B2; refine (rd32n x.typ HK2.out _ _ _ (numB m4 2 ++ (numB m5 4 ++ (numB m6 2 ++ (R5)))) _ (HQ2.out _ (by first | exact HFS.out.bel | exact (HFS.out.set _ _).bel))).mono ?_; rintro e w3 ⟨rfl, hx3⟩; (first | have HFn := Lib.hid (HFS.out.ext hx3) | have HFn := Lib.hid ((HFS.out.set _ _).ext hx3)); clear HFS; have HFS := HFn; clear HFn hx3; (try clear hfc hfz); have hfc := cell_slot HFS.out.fd 3 _ rfl; have hfz := free_slot HFS.out.fd 3) | (go_at_call_of 137 B3; refine (rd16n m4 HK3.out _ _ _ (numB m5 4 ++ (numB m6 2 ++ (R5))) _ (HQ3.out _ (by first | exact HFS.out.bel | exact (HFS.out.set _ _).bel))).mono ?_; rintro e w3 ⟨rfl, hx3⟩; (first | have HFn := Lib.hid (HFS.out.ext hx3) | have HFn := Lib.hid ((HFS.out.set _ _).ext hx3)); clear HFS; have HFS := HFn; clear HFn hx3; (try clear hfc hfz); have hfc := cell_slot HFS.out.fd 4 _ rfl; have hfz := free_slot HFS.out.fd 4) | (go_at_call_of 138 B4; refine (rd32n m5 HK4.out _ _ _ (numB m6 2 ++ (R5)) _ (HQ4.out _ (by first | exact HFS.out.bel | exact (HFS.out.set _ _).bel))).mono ?_; rintro e w3 ⟨rfl, hx3⟩; (first | have HFn := Lib.hid (HFS.out.ext hx3) | have HFn := Lib.hid ((HFS.out.set _ _).ext hx3)); clear HFS; have HFS := HFn; clear HFn hx3; (try clear hfc hfz); have hfc := cell_slot HFS.out.fd 5 _ rfl; have hfz := free_slot HFS.out.fd 5) | (go_at_call_of 137 B5; refine (rd16n m6 HK5.out _ _ _ (R5) _ (HQ5.out _ (by first | exact HFS.out.bel | exact (HFS.out.set _ _).bel))).mono ?_; rintro e w3 ⟨rfl, hx3⟩; (first | have HFn := Lib.hid (HFS.out.ext hx3) | have HFn := Lib.hid ((HFS.out.set _ _).ext hx3)); clear HFS; have HFS := HFn; clear HFn hx3; (try clear hfc hfz); have hfc := cell_slot HFS.out.fd 6 _ rfl; have hfz := free_slot HFS.out.fd 6))
            have HF0 : Hid (Fst b wr.heap.size wd (w3.setCell ⟨wr.heap.size, 6, none⟩ (.int .i16 x.fmt)) (.slice Av k cv) k ys #[.slice A5 (sby x.name).length c5, .int .u32 x.tab, .int .u16 x.col, .int .u32 x.typ, .int .i16 x.siz, .int .i32 x.mdf, .int .i16 x.fmt]) := Lib.hid (HFS.out.set 6 (.int .i16 x.fmt))
            refine wp_region_ogL (J := RJ b wr.heap.size wd (w3.setCell ⟨wr.heap.size, 6, none⟩ (.int .i16 x.fmt)) (.slice Av k cv) k ys #[.slice A5 (sby x.name).length c5, .int .u32 x.tab, .int .u16 x.col, .int .u32 x.typ, .int .i16 x.siz, .int .i32 x.mdf, .int .i16 x.fmt]) (R := fun _ _ => True) [Sp.eq _ (.pointer (some ⟨b, 0, none⟩)), Sp.eq _ (.pointer (some ⟨b, 0, none⟩)), Sp.eq _ (.pointer (some ⟨b, 0, none⟩)), Sp.eq _ (.pointer (some ⟨b, 0, none⟩)), Sp.eq _ (.slice Av k cv), Sp.eq _ (.agg #[.slice A5 (sby x.name).length c5, .int .u32 x.tab, .int .u16 x.col, .int .u32 x.typ, .int .i16 x.siz, .int .i32 x.mdf, .int .i16 x.fmt]), Sp.any _, Sp.any _, Sp.eq _ (.pointer (some ⟨b, 0, none⟩)), Sp.eq _ (.pointer (some ⟨b, 0, none⟩)), Sp.any _] (by kernel_rfl) (by kernel_rfl) ?_ ?_ ?_
            · exact RJ.start HF0.out
            · refine ⟨?_, ?_, ?_, ?_, ?_, ?_, ?_, ?_, ?_, ?_, ?_, trivial⟩
              · intro vs w1 L hLi hd hdt hJ hp
                have HJ := Lib.hid hJ
                clear hp hd hdt hLi hJ
                simp only [putAll, Nat.reduceAdd]
                go_wp2
                exact ⟨rfl, HJ.out.keep 0 _ (by decide) (by decide) (by decide), trivial, rfl⟩
              · intro vs w1 L hLi hd hdt hJ hp
                have HJ := Lib.hid hJ
                clear hp hd hdt hLi hJ
                simp only [putAll, Nat.reduceAdd]
                go_wp2
                exact ⟨rfl, HJ.out.keep 1 _ (by decide) (by decide) (by decide), trivial, rfl⟩
              · intro vs w1 L hLi hd hdt hJ hp
                have q1 : vs 1 = .pointer (some ⟨b, 0, none⟩) := hp 1 (by decide)
                have HJ := Lib.hid hJ
                clear hp hd hdt hLi hJ
                simp only [putAll, Nat.reduceAdd]
                go_wp2
                exact ⟨rfl, HJ.out.keep 2 _ (by decide) (by decide) (by decide), trivial, rfl⟩
              · intro vs w1 L hLi hd hdt hJ hp
                have q2 : vs 2 = .pointer (some ⟨b, 0, none⟩) := hp 2 (by decide)
                have HJ := Lib.hid hJ
                clear hp hd hdt hLi hJ
                simp only [putAll, Nat.reduceAdd]
                go_wp2
                exact ⟨rfl, HJ.out.keep 3 _ (by decide) (by decide) (by decide), trivial, rfl⟩
              · intro vs w1 L hLi hd hdt hJ hp
                have q3 : vs 3 = .pointer (some ⟨b, 0, none⟩) := hp 3 (by decide)
                have HJ := Lib.hid hJ
                have hq := cell_slot (hJ.F (hdt 10 (by decide))) 0 (.slice Av k cv) rfl
                clear hp hd hdt hLi hJ
                simp only [putAll, Nat.reduceAdd]
                go_wp2
                exact ⟨rfl, HJ.out.keep 4 _ (by decide) (by decide) (by decide), trivial, rfl⟩
              · intro vs w1 L hLi hd hdt hJ hp
                have HJ := Lib.hid hJ
                have hf9 := ((hJ.A (hdt 6 (by decide))).block _ (lt_of_block HF0.out.fd)).trans HF0.out.fd
                have hq0' := cell_slot hf9 0 (.slice A5 (sby x.name).length c5) rfl
                have hq1' := cell_slot hf9 1 (.int .u32 x.tab) rfl
                have hq2' := cell_slot hf9 2 (.int .u16 x.col) rfl
                have hq3' := cell_slot hf9 3 (.int .u32 x.typ) rfl
                have hq4' := cell_slot hf9 4 (.int .i16 x.siz) rfl
                have hq5' := cell_slot hf9 5 (.int .i32 x.mdf) rfl
                have hq6' := cell_slot hf9 6 (.int .i16 x.fmt) rfl
                clear hf9
                clear hp hd hdt hLi hJ
                simp only [putAll, Nat.reduceAdd]
                go_wp2
                exact ⟨rfl, HJ.out.keep 5 _ (by decide) (by decide) (by decide), trivial, rfl⟩
              · intro vs w1 L hLi hd hdt hJ hp
                have q5 : vs 5 = .agg #[.slice A5 (sby x.name).length c5, .int .u32 x.tab, .int .u16 x.col, .int .u32 x.typ, .int .i16 x.siz, .int .i32 x.mdf, .int .i16 x.fmt] := hp 5 (by decide)
                have H7 := Lib.hid (hdt 7 (by decide))
                have HJ := Lib.hid hJ
                clear hp hd hdt hLi hJ
                simp only [putAll, Nat.reduceAdd]
                go_wp2
                refine ⟨rfl, ?_, trivial, trivial⟩
                exact HJ.out.step6 H7.out
              · intro vs w1 L hLi hd hdt hJ hp
                have q4 : vs 4 = .slice Av k cv := hp 4 (by decide)
                have h6 := hd 6 (by decide)
                have H6 := Lib.hid h6
                have HLi := Lib.hid hLi
                have HD9 := Lib.hid (hJ.D h6 hLi)
                have HR9 := Lib.hid (hJ.C hLi).row
                have HJ := Lib.hid hJ
                clear h6
                clear hp hd hdt hLi hJ
                simp only [putAll, Nat.reduceAdd]
                refine ap_one rfl (.tmp 106) (.tmp 108) 234 249 7 48 _ rfl Tryz.underlying234 info249 rfl (by decide) (v := .slice Av k cv) (b := slB (vs 6)) (c := 1) (ys := (#[.slice A5 (sby x.name).length c5, .int .u32 x.tab, .int .u16 x.col, .int .u32 x.typ, .int .i16 x.siz, .int .i32 x.mdf, .int .i16 x.fmt] : Array Value).toList) (by simp only [evp_none, ne_eq, Nat.reduceEqDiff, not_false_eq_true, evp_ne]; rw [evp_same _ _ _ (by simp [evp_size])]; exact q4) HR9.out (by simp only [evp_none, ne_eq, Nat.reduceEqDiff, not_false_eq_true, evp_ne]; rw [evp_same _ _ _ (by simp [evp_size])]; exact HD9.out.1) rfl (fun j u hj => (cell_of_row _ _ _ _ _ _ HD9.out.2).trans (by rw [← Array.getElem?_toList]; exact hj)) (List.all_eq_true.1 rfl) (by omega) (by decide) ?_
                intro v2 w2' hn
                refine ⟨rfl, ?_, trivial, trivial⟩
                rw [slot_put _ _ _ (by simp [evp_size])]
                exact HJ.out.step7 HLT.out HF0.out.lo H6.out HLi.out _ hn
              · intro vs w1 L hLi hd hdt hJ hp
                have q0 : vs 0 = .pointer (some ⟨b, 0, none⟩) := hp 0 (by decide)
                have q1 : vs 1 = .pointer (some ⟨b, 0, none⟩) := hp 1 (by decide)
                have q2 : vs 2 = .pointer (some ⟨b, 0, none⟩) := hp 2 (by decide)
                have q3 : vs 3 = .pointer (some ⟨b, 0, none⟩) := hp 3 (by decide)
                have q4 : vs 4 = .slice Av k cv := hp 4 (by decide)
                have q5 : vs 5 = .agg #[.slice A5 (sby x.name).length c5, .int .u32 x.tab, .int .u16 x.col, .int .u32 x.typ, .int .i16 x.siz, .int .i32 x.mdf, .int .i16 x.fmt] := hp 5 (by decide)
                have HJ := Lib.hid hJ
                clear hp hd hdt hLi hJ
                simp only [putAll, Nat.reduceAdd]
                go_wp2
                exact ⟨rfl, HJ.out.keep 8 _ (by decide) (by decide) (by decide), trivial, rfl⟩
              · intro vs w1 L hLi hd hdt hJ hp
                have q0 : vs 0 = .pointer (some ⟨b, 0, none⟩) := hp 0 (by decide)
                have q1 : vs 1 = .pointer (some ⟨b, 0, none⟩) := hp 1 (by decide)
                have q2 : vs 2 = .pointer (some ⟨b, 0, none⟩) := hp 2 (by decide)
                have q3 : vs 3 = .pointer (some ⟨b, 0, none⟩) := hp 3 (by decide)
                have q4 : vs 4 = .slice Av k cv := hp 4 (by decide)
                have q5 : vs 5 = .agg #[.slice A5 (sby x.name).length c5, .int .u32 x.tab, .int .u16 x.col, .int .u32 x.typ, .int .i16 x.siz, .int .i32 x.mdf, .int .i16 x.fmt] := hp 5 (by decide)
                have q8 : vs 8 = .pointer (some ⟨b, 0, none⟩) := hp 8 (by decide)
                have HJ := Lib.hid hJ
                clear hp hd hdt hLi hJ
                simp only [putAll, Nat.reduceAdd]
                go_wp2
                exact ⟨rfl, HJ.out.keep 9 _ (by decide) (by decide) (by decide), trivial, rfl⟩
              · intro vs w1 L hLi hd hdt hJ hp
                have q0 : vs 0 = .pointer (some ⟨b, 0, none⟩) := hp 0 (by decide)
                have q1 : vs 1 = .pointer (some ⟨b, 0, none⟩) := hp 1 (by decide)
                have q2 : vs 2 = .pointer (some ⟨b, 0, none⟩) := hp 2 (by decide)
                have q3 : vs 3 = .pointer (some ⟨b, 0, none⟩) := hp 3 (by decide)
                have q4 : vs 4 = .slice Av k cv := hp 4 (by decide)
                have q5 : vs 5 = .agg #[.slice A5 (sby x.name).length c5, .int .u32 x.tab, .int .u16 x.col, .int .u32 x.typ, .int .i16 x.siz, .int .i32 x.mdf, .int .i16 x.fmt] := hp 5 (by decide)
                have q9 : vs 9 = .pointer (some ⟨b, 0, none⟩) := hp 9 (by decide)
                have h7 := hd 7 (by decide)
                have H7 := Lib.hid h7
                have HLi := Lib.hid hLi
                have hF := hJ.F hLi
                have hc1 := cell_slot hF 0 _ rfl
                have hf1 := free_slot hF 0
                obtain ⟨A9, c9, hv9⟩ := own_slice (hJ.E h7).own
                have HV9 := Lib.hid hv9
                have HJ := Lib.hid hJ
                clear h7 hF hv9
                clear hp hd hdt hLi hJ
                simp only [putAll, Nat.reduceAdd]
                rw [HV9.out]
                go_wp2
                refine ⟨rfl, ?_, trivial, trivial⟩
                exact HJ.out.step10 HLT.out H7.out HLi.out _ _ HV9.out
            · intro vs w1 L hall hJ hp
              have q0 : vs 0 = .pointer (some ⟨b, 0, none⟩) := hp 0 (by decide)
              have q1 : vs 1 = .pointer (some ⟨b, 0, none⟩) := hp 1 (by decide)
              have q2 : vs 2 = .pointer (some ⟨b, 0, none⟩) := hp 2 (by decide)
              have q3 : vs 3 = .pointer (some ⟨b, 0, none⟩) := hp 3 (by decide)
              have q4 : vs 4 = .slice Av k cv := hp 4 (by decide)
              have q5 : vs 5 = .agg #[.slice A5 (sby x.name).length c5, .int .u32 x.tab, .int .u16 x.col, .int .u32 x.typ, .int .i16 x.siz, .int .i32 x.mdf, .int .i16 x.fmt] := hp 5 (by decide)
              have q8 : vs 8 = .pointer (some ⟨b, 0, none⟩) := hp 8 (by decide)
              have q9 : vs 9 = .pointer (some ⟨b, 0, none⟩) := hp 9 (by decide)
              have HFI := Lib.hid (And.intro hJ.X (And.intro (hJ.E (hall 7 (by decide))) (hJ.G (hall 10 (by decide)))))
              clear hJ hp hall
              simp only [putAll, Nat.reduceAdd]
              clear q0 q1 q2 q3 q4 q5 q8 q9
              simp only [Exit.inBlock, Exit.then]
              try go_at_K
              simp only [Act.put, List.setIfInBounds_toArray, List.set_cons_zero, List.set_cons_succ]
              go_wp2
              go_roundw
              case rel =>
                refine ⟨k + 1, p + ((sby x.name).length + 1) + 4 + 2 + 4 + 2 + 4 + 2, by omega, by go_num, by go_num, vs 7, ys ++ (#[.slice A5 (sby x.name).length c5, .int .u32 x.tab, .int .u16 x.col, .int .u32 x.typ, .int .i16 x.siz, .int .i32 x.mdf, .int .i16 x.fmt] : Array Value).toList, R5, Lib.hid ?_⟩
                exact ⟨HL5.out, HT6.out, HS5.out, HFI.out.1, HFI.out.2.2, ⟨HFI.out.2.1.own, fun g hg => ⟨(HFI.out.2.1.off g hg).1, by have := (HFI.out.2.1.off g hg).1; have := HLT.out; omega⟩⟩⟩
              case measure => simp only [intOf]; omega
      · obtain rfl : k = l.length := by omega
        have hS0 := HH.out.pre
        rw [List.drop_length] at hS0
        exact absurd hS0 SPre.nil
end Go.Proofs.YtdenjanihikolaaGreatDoor

namespace Go.Proofs.YtdenjanihikolaaGreatDoor
open Go.RowKit Og
set_option linter.unusedVariables false
set_option linter.unusedSimpArgs false
set_option maxRecDepth 100000

theorem sl_midr (A : Option Addr) (N c p n : Nat) (hp : p + n ≤ N) (hN : N ≤ c) (hc : c ≤ maxLen) : ∃ A' c', (∀ (i j : Int) (w : World), i = (p : Int) → j = (p : Int) + (n : Int) → (Instr.slice 26 (.slice A N c) (some (.int .i64 i)) (some (.int .i64 j)) none).run Tryz.prog w = .ok (.slice A' n c') w) ∧ ∀ (b : Nat) (w : World) (xs : List Int), RdN b w (.slice A N c) xs → RdN b w (.slice A' n c') ((xs.drop p).take n) := by
  obtain ⟨A1, c1, h1, h2⟩ := sl_at A N c p (by omega) hN hc
  have h3 : ∃ A' c', (∀ (i j : Int) (w : World), i = (p : Int) → j = (p : Int) + (n : Int) → (Instr.slice 26 (.slice A N c) (some (.int .i64 i)) (some (.int .i64 j)) none).run Tryz.prog w = .ok (.slice A' n c') w) ∧ ((c = p ∧ A' = A ∧ c' = c - p) ∨ (A' = A.map (·.add p) ∧ c' = c - p)) := by
    refine ⟨if c = p then A else A.map (·.add p), c - p, fun i j w hi hj => ?_, ?_⟩
    · subst hi; subst hj
      rw [run_slice_lh (P := Tryz.prog) w 26 A N c Tryz.underlying26 .i64 .i64 p ((p : Int) + (n : Int)) (by omega) (by omega) (by omega)]
      have hs : (sizeOf (Tryz.prog.elem 26)).run Tryz.prog w = .ok 1 w := by
        obtain ⟨i0, hi, hz0, hz1, hz2⟩ := info_parts info5
        simp [sizeOf, typeInfo, show Tryz.prog.elem 26 = 5 from by kernel_rfl, hi, hz1]
      rw [hs]
      have h9 : ((p : Int) + (n : Int)).toNat = p + n := by omega
      simp [Result.andThen, sliced, h9]
    · by_cases e : c = p
      · rw [if_pos e]; exact .inl ⟨e, rfl, rfl⟩
      · rw [if_neg e]; exact .inr ⟨rfl, rfl⟩
  obtain ⟨A', c', h4, h5⟩ := h3
  refine ⟨A', c', h4, fun b w xs h => ?_⟩
  obtain ⟨rfl, h6, h7⟩ := h.1.parts
  rcases h5 with ⟨e, rfl, rfl⟩ | ⟨rfl, rfl⟩
  · exact RdN.none A' n (c - p) _ (by rw [show n = 0 by omega]; rfl) (by omega) (by omega)
  · exact h.sub (l := p) (n := n) (by omega) (fun _ => rfl) (c - p) (by omega)

def mkH (m : Nat) (w : World) : World := w.alloc (.cells (madeCells #[.int .i16 0] m) 243)
def mkV (m : Nat) (w : World) : World := w.alloc (.cells (madeCells #[.slice none 0 0] m) 26)
theorem mkH_run (m : Nat) (hm : m ≤ 1000) (w : World) : (Instr.makeSlice 102 (.int .i64 m) (.int .i64 m)).run Tryz.prog w = .ok (.slice (some ⟨w.heap.size, 0, none⟩) m m) (mkH m w) := by
  obtain ⟨i0, hi, hz0, hz1, hz2⟩ := info_parts info243
  have h9 := run_makeSlice (P := Tryz.prog) w 102 243 i0 _ Tryz.underlying102 hi hz0 .i64 .i64 (m : Int) (m : Int) (by omega) (by omega) (by rw [hz1]; omega) (by rw [hz2]; omega) (by omega)
  rw [h9, hz1]
  simp only [Int.toNat_natCast, Nat.mul_one]
  rfl
theorem mkV_run (m : Nat) (hm : m ≤ 1000) (w : World) : (Instr.makeSlice 104 (.int .i64 m) (.int .i64 m)).run Tryz.prog w = .ok (.slice (some ⟨w.heap.size, 0, none⟩) m m) (mkV m w) := by
  obtain ⟨i0, hi, hz0, hz1, hz2⟩ := info_parts info26
  have h9 := run_makeSlice (P := Tryz.prog) w 104 26 i0 _ Tryz.underlying104 hi hz0 .i64 .i64 (m : Int) (m : Int) (by omega) (by omega) (by rw [hz1]; omega) (by rw [hz2]; omega) (by omega)
  rw [h9, hz1]
  simp only [Int.toNat_natCast, Nat.mul_one]
  rfl
theorem mkH_ext (m : Nat) (w : World) : Ext w (mkH m w) := ext_alloc w _
theorem mkV_ext (m : Nat) (w : World) : Ext w (mkV m w) := ext_alloc w _

/-- Where Bind's Decode stands in a loop over a new array g: at p, R left of what T wants. -/
structure ArS (b g : Nat) (wd w : World) (cs0 : Array Value) (te : TypeId) (m N : Nat) (xs : List Int) (p : Nat) (R T : List Int) (cs : Array Value) : Prop where
  len : N = p + R.length
  rest : xs.drop p = R
  pre : SPre R T
  bel : ExtBut b wd w
  blk : w.heap[b]? = some (.cells cs0 107 (0, 0))
  arr : w.heap[g]? = some (.cells cs te (0, 0))
  size : cs.size = m
  lo : wd.heap.size ≤ g
section
variable {b g : Nat} {wd w w2 : World} {cs0 : Array Value} {te : TypeId} {m N : Nat} {xs : List Int} {p : Nat} {R R2 B T T2 : List Int} {cs : Array Value}
theorem ArS.at_ (h : ArS b g wd w cs0 te m N xs p R T cs) {k : Nat} (hk : k < m) : cs[k]? = some (cs.getD k undef) := by
  have := h.size
  have hk' : k < cs.size := by omega
  simp [Array.getD, hk']
theorem ArS.skip (h : ArS b g wd w cs0 te m N xs p R T cs) (hx : Ext w w2) (hR : R = B ++ R2) (hS : SPre R2 T2) {q : Nat} (hq : B.length = q) : ArS b g wd w2 cs0 te m N xs (p + q) R2 T2 cs := by
  subst hq
  exact ⟨by rw [h.len, hR, List.length_append]; omega, by rw [← List.drop_drop, h.rest, hR, List.drop_left], hS, h.bel.trans hx.but, (hx.block b (lt_of_block h.blk)).trans h.blk, (hx.block g (lt_of_block h.arr)).trans h.arr, h.size, h.lo⟩
theorem ArS.next (h : ArS b g wd w cs0 te m N xs p R T cs) (hx : Ext w w2) (hR : R = B ++ R2) (hS : SPre R2 T2) {q : Nat} (hq : B.length = q) (k : Nat) (u : Value) (hb : b < wd.heap.size) : ArS b g wd (w2.setCell ⟨g, k, none⟩ u) cs0 te m N xs (p + q) R2 T2 (cs.setIfInBounds k u) := by
  have h1 := h.skip hx hR hS hq
  have hlo := h.lo
  have hoth : ∀ q, q ≠ g → (w2.setCell ⟨g, k, none⟩ u).heap[q]? = w2.heap[q]? := fun q hq => heap_setCell_other w2 ⟨g, k, none⟩ q _ hq
  exact ⟨h1.len, h1.rest, hS, ⟨h1.bel.os, h1.bel.tape, h1.bel.output, by simpa [World.setCell] using h1.bel.size, fun q hq hqb => (hoth q (by omega)).trans (h1.bel.block q hq hqb)⟩, (hoth b (by omega)).trans h1.blk, slot_setCell h1.arr, by simp [h.size], hlo⟩
end

end Go.Proofs.YtdenjanihikolaaGreatDoor

