/- bytes.IndexByte at the byte 0, by contract. -/
import Derived.Test.YtdenjanihikolaaGreatDoorUDcf
import Derived.Lib.BytesEntry
import Derived.WalkKit
namespace Go.Proofs.YtdenjanihikolaaGreatDoor
open Go.RowKit Og
set_option linter.unusedVariables false
set_option linter.unusedSimpArgs false

set_option maxRecDepth 100000 in
theorem sl_from (A : Option Addr) (N c p : Nat) (i : Int) (hi : i = (p : Int)) (hp : p ≤ N) (hN : N ≤ c) (hc : c ≤ maxLen) : ∃ A' c', (∀ w : World, (Instr.slice 26 (.slice A N c) (some (.int .i64 i)) none none).run Tryz.prog w = .ok (.slice A' (N - p) c') w) ∧ ∀ (b : Nat) (w : World) (xs : List Int), RdN b w (.slice A N c) xs → RdN b w (.slice A' (N - p) c') (xs.drop p) := by
  subst hi
  have h1 : ∀ w : World, (Instr.slice 26 (.slice A N c) (some (.int .i64 (p : Int))) none none).run Tryz.prog w = .ok (.slice (if c = p then A else A.map (·.add p)) (N - p) (c - p)) w := by
    intro w
    rw [run_slice_l (P := Tryz.prog) w 26 A N c Tryz.underlying26 .i64 p (by omega) (by omega)]
    have hs : (sizeOf (Tryz.prog.elem 26)).run Tryz.prog w = .ok 1 w := by
      obtain ⟨i0, hi, hz0, hz1, hz2⟩ := info_parts info5
      simp [sizeOf, typeInfo, show Tryz.prog.elem 26 = 5 from by kernel_rfl, hi, hz1]
    rw [hs]
    simp [Result.andThen, sliced]
  by_cases e : c = p
  · refine ⟨A, c - p, fun w => by rw [h1 w, if_pos e], fun b w xs h => ?_⟩
    obtain ⟨h2, _, _⟩ := h.1.parts
    exact RdN.none A (N - p) (c - p) _ (List.drop_eq_nil_of_le (by omega)) (by omega) (by omega)
  · refine ⟨A.map (·.add p), c - p, fun w => by rw [h1 w, if_neg e], fun b w xs h => h.drop p hp⟩
/-- The world with the row's new array. -/
def mkW (w : World) : World := w.alloc (.cells (madeCells #[.slice none 0 0] 32) 26)
/-- a slice, whatever its parts -/
def slN : Value → Nat
  | .slice _ n _ => n
  | _ => 0
def spSl : Sp Ext := ⟨fun v _ => v = .slice (slA v) (slN v) (slC v), fun _ _ _ _ h => h⟩
/-- Where DataRow's Decode stands: at p, R left of what T wants. -/
structure DrS (b g : Nat) (wd w : World) (m N : Nat) (xs : List Int) (p : Nat) (R T : List Int) (cs : Array Value) : Prop where
  len : N = p + R.length
  rest : xs.drop p = R
  pre : SPre R T
  bel : ExtBut b wd w
  blk : w.heap[b]? = some (.cells #[.slice (some ⟨g, 0, none⟩) m 32] 212 (0, 0))
  arr : w.heap[g]? = some (.cells cs 26 (0, 0))
  size : cs.size = 32
  lo : wd.heap.size ≤ g
theorem DrS.at_ {b g : Nat} {wd w : World} {m N : Nat} {xs : List Int} {p : Nat} {R T : List Int} {cs : Array Value} (h : DrS b g wd w m N xs p R T cs) {k : Nat} (hk : k < 32) : cs[k]? = some (cs.getD k undef) := by
  have := h.size
  have hk' : k < cs.size := by omega
  simp [Array.getD, hk']
theorem DrS.next {b g : Nat} {wd w w2 : World} {m N : Nat} {xs : List Int} {p : Nat} {R R2 B T T2 : List Int} {cs : Array Value} (h : DrS b g wd w m N xs p R T cs) (hx : Ext w w2) (hR : R = B ++ R2) (hS : SPre R2 T2) {q : Nat} (hq : B.length = q) (k : Nat) (u : Value) (hne : b < g) : DrS b g wd (w2.setCell ⟨g, k, none⟩ u) m N xs (p + q) R2 T2 (cs.setIfInBounds k u) := by
  subst hq
  have hg := (hx.block g (lt_of_block h.arr)).trans h.arr
  have hb := (hx.block b (lt_of_block h.blk)).trans h.blk
  have hoth : ∀ q, q ≠ g → (w2.setCell ⟨g, k, none⟩ u).heap[q]? = w2.heap[q]? := fun q hq => heap_setCell_other w2 ⟨g, k, none⟩ q _ hq
  refine ⟨by rw [h.len, hR, List.length_append]; omega, ?_, hS, ?_, (hoth b (by omega)).trans hb, slot_setCell hg, by simp [h.size], h.lo⟩
  · rw [← List.drop_drop, h.rest, hR, List.drop_left]
  · have h1 := h.bel.trans hx.but
    exact ⟨h1.os, h1.tape, h1.output, by simpa [World.setCell] using h1.size, fun q hq hqb => (hoth q (by have := h.lo; omega)).trans (h1.block q hq hqb)⟩

set_option maxRecDepth 100000 in
set_option maxHeartbeats 2000000 in
theorem cut45 (l : List (Bool × List Int)) (hll : l.length ≤ 20) (hlr : ∀ y ∈ l, y.2.length ≤ 200) (xs : List Int) (hx : SPre xs (numB (l.length : Int) 2 ++ l.flatMap fun x => valB x.1 x.2)) (hl : xs.length ≤ 100000) (wd : World) (b : Nat) (v : Value) (hb : wd.heap[b]? = some (.cells #[.slice none 0 0] 212 (0, 0))) (hv : RdB wd v xs) (hof : v.ownBlock ≠ some b) :
    Calls Tryz.prog 289 #[.pointer (some ⟨b, 0, none⟩), v] wd (NotD b wd) := by
  obtain ⟨A, c, hvA⟩ := hv.len
  subst hvA
  have HV : Hid (RdN b wd (.slice A xs.length c) xs) := Lib.hid ⟨hv, fun _ => hof⟩
  have HLT := Lib.hid (lt_of_block hb)
  have HBK := Lib.hid hb
  have HLR := Lib.hid hlr
  have hck0 := cell_slot hb 0 _ rfl
  have hfk0 := free_slot hb 0
  have HX : Hid (ExtBut b wd wd) := Lib.hid (Ext.refl wd).but
  clear hof hb hlr
  rcases hx.fixed with h0 | ⟨R, rfl, hR⟩
  · rw [numB_len] at h0
    clear hx
    go_enter Tryz.func289, Tryz.ntmps289
    go_wp2
    (go_ret; exact ⟨_, _, rfl, by first | exact HX.out | exact HX.out.trans (ext_alloc _ _).but⟩)
  · obtain ⟨N, hN⟩ : ∃ m, m = (numB (l.length : Int) 2 ++ R).length := ⟨_, rfl⟩
    have HN2 : Hid (N = 2 + R.length) := Lib.hid (by rw [hN]; simp only [List.length_append, numB_len])
    have hN2 : 2 ≤ N := by rw [HN2.out]; omega
    have HN := Lib.hid hN
    have hln : 0 < l.length := by
      rcases l with _ | ⟨y, l⟩
      · exact absurd hR SPre.nil
      · simp
    have hcap := hv.parts.2.1
    have HCM := Lib.hid hv.parts.2.2
    rw [← hN] at hcap HV hl
    rw [← hN]
    have HNL : Hid (0 ≤ (l.length : Int) ∧ (l.length : Int) < 65536) := Lib.hid (by omega)
    have hgt : (0 : Int) < (l.length : Int) := by omega
    have hmk : ∀ w : World, (Instr.makeSlice 104 (.int .i64 l.length) (.int .i64 32)).run Tryz.prog w = .ok (.slice (some ⟨w.heap.size, 0, none⟩) l.length 32) (mkW w) := by
      intro w
      obtain ⟨i0, hi, hz0, hz1, hz2⟩ := info_parts info26
      have h9 := run_makeSlice (P := Tryz.prog) w 104 26 i0 _ Tryz.underlying104 hi hz0 .i64 .i64 (l.length : Int) 32 (by omega) (by omega) (by rw [hz1]; decide) (by rw [hz2]; decide) (by decide)
      rw [h9, hz1]
      rfl
    have HR := Lib.hid hR
    obtain ⟨xs0, hxs0⟩ : ∃ y, y = numB (l.length : Int) 2 ++ R := ⟨_, rfl⟩
    have HXS := Lib.hid hxs0.symm
    rw [← hxs0] at HV
    obtain ⟨b1, o1, hA⟩ : ∃ b1 o1, A = some ⟨b1, o1, none⟩ := by
      obtain ⟨A', c', hv', _, _, h3⟩ := hv
      obtain ⟨rfl, _⟩ : A = A' ∧ _ := by simpa using hv'
      obtain ⟨b1, o1, hA, _⟩ := h3 (by simp only [List.length_append, numB_len]; omega)
      exact ⟨b1, o1, hA⟩
    subst hA
    clear hv hN hR hx hxs0
    go_enter Tryz.func289, Tryz.ntmps289
    go_wp2_with (first | (go_at_call 137; refine (rd16n (l.length : Int) HNL.out _ _ _ R _ (by rw [HXS.out]; exact (HV.out.at_ HX.out).1)).mono ?_; rintro e w2 ⟨rfl, hx2⟩; have HX2 := Lib.hid (HX.out.trans hx2.but); clear HX; have HX := HX2; clear HX2; have hbk := (hx2.block b HLT.out).trans HBK.out; clear HBK hck0 hfk0; have HBK := Lib.hid hbk; have hck0 := cell_slot hbk 0 _ rfl; have hfk0 := free_slot hbk 0; have hbm := ((ext_alloc w2 (.cells (madeCells #[.slice none 0 0] 32) 26)).block b (lt_of_block hbk)).trans hbk; have hcm : (mkW w2).cell? ⟨b, 0, none⟩ = some (.slice none 0 0) := cell_slot hbm 0 _ rfl; have hfm : (mkW w2).frozen? ⟨b, 0, none⟩ = false := free_slot hbm 0; clear hbk hx2 hbm))
    go_loopw [58, 5] (fun i rp wr => ∃ k p : Nat, k ≤ l.length ∧ i = .int .i64 k ∧ rp = .int .i64 p ∧ ∃ R cs, Hid (DrS b w2.heap.size wd wr l.length N xs0 p R ((l.drop k).flatMap fun x => valB x.1 x.2) cs)) (fun i _ _ => l.length - (intOf i).toNat)
    case atStart =>
      refine ⟨0, 2, Nat.zero_le _, rfl, rfl, R, madeCells #[.slice none 0 0] 32, Lib.hid ?_⟩
      have h1 := (ext_alloc w2 (.cells (madeCells #[.slice none 0 0] 32) 26))
      refine ⟨by rw [HN2.out], by rw [← HXS.out]; exact List.drop_left' (by rw [numB_len]), by simpa using HR.out, (HX.out.trans h1.but).set 0 _, slot_setCell ((h1.block b (lt_of_block HBK.out)).trans HBK.out), ?_, by rw [size_madeCells], HX.out.size⟩
      exact (heap_setCell_other _ _ _ _ (by have := lt_of_block HBK.out; simp only []; omega)).trans (heap_alloc_new _ _)
    case round =>
      clear HX HBK hck0 hfk0 HNL hmk hgt hcm hfm
      obtain ⟨k, p, hk1, rfl, rfl, R3, cs, HH⟩ := hrel
      by_cases hlt : k < l.length
      · obtain ⟨x, hx⟩ : ∃ x, x = l[k] := ⟨_, rfl⟩
        have hxr := HLR.out _ (List.getElem_mem hlt)
        rw [← hx] at hxr
        have hS0 := HH.out.pre
        rw [List.drop_eq_getElem_cons hlt, List.flatMap_cons, ← hx] at hS0
        have hNp : N - p = R3.length := by have := HH.out.len; omega
        have hpN : p ≤ N := by have := HH.out.len; omega
        have HX := Lib.hid HH.out.bel
        have hck0 := cell_slot HH.out.blk 0 _ rfl
        have HD : Hid (RdN b wd (.slice (some ⟨b1, o1 + p, none⟩) R3.length (c - p)) R3) := Lib.hid (by
          have h9 := HV.out.drop p hpN
          rw [HH.out.rest, hNp] at h9
          simpa [add_lit0] using h9)
        by_cases h4 : R3.length < 4
        · clear hS0 hx hxr
          go_wp2
          all_goals (go_ret; exact ⟨_, _, rfl, by first | exact HX.out | exact HX.out.trans (ext_alloc _ _).but⟩)
        · have hcp : ¬ c = p := by omega
          obtain ⟨x1, x2⟩ := x
          cases x1 with
          | true =>
            have e1 : valB (true, x2).1 (true, x2).2 = numB 4294967295 4 := by simp only [valB, if_true]; exact numB_mod4 (-1)
            rw [e1] at hS0
            rcases hS0.fixed with h0 | ⟨R4, hR4, hS4⟩
            · exact absurd h0 (by rw [numB_len]; exact h4)
            · have HS4 := Lib.hid hS4
              have HR4 := Lib.hid hR4
              have hw : IntKind.i32.wrap 4294967295 = -1 := by rw [IntKind.wrap_i32]; rfl
              have hcg := cell_slot HH.out.arr k (cs.getD k undef) (HH.out.at_ (by omega))
              have hfg := free_slot HH.out.arr k
              have HK4 : Hid (0 ≤ (4294967295 : Int) ∧ (4294967295 : Int) < 4294967296) := Lib.hid (by omega)
              clear hS0 hx hxr hS4 hR4 e1
              go_wp2_with (first | (go_at_call 138; refine (rd32n (4294967295) HK4.out _ _ _ R4 _ (by rw [← HR4.out]; exact (HD.out.at_ HX.out).1)).mono ?_; rintro e w3 ⟨rfl, hx3⟩; have HX3 := Lib.hid hx3; have hbk3 := (hx3.block b (lt_of_block HH.out.blk)).trans HH.out.blk; clear hck0; have hck0 := cell_slot hbk3 0 _ rfl; have hg3 := (hx3.block w2.heap.size (lt_of_block HH.out.arr)).trans HH.out.arr; clear hcg hfg; have hcg := cell_slot hg3 k (cs.getD k undef) (HH.out.at_ (by omega)); have hfg := free_slot hg3 k; have HB3 := Lib.hid hbk3; have HG3 := Lib.hid hg3; clear hx3 hbk3 hg3))
              go_roundw
              case rel =>
                refine ⟨k + 1, p + 4, by omega, by go_num, by go_num, R4, cs.setIfInBounds k (.slice none 0 0), Lib.hid ?_⟩
                exact HH.out.next HX3.out HR4.out HS4.out (by rw [numB_len]) _ _ (Nat.lt_of_lt_of_le HLT.out HH.out.lo)
              case measure => simp only [intOf]; omega
          | false =>
            have e1 : valB (false, x2).1 (false, x2).2 = numB (x2.length : Int) 4 ++ x2 := by simp only [valB, Bool.false_eq_true, if_false]
            rw [e1, List.append_assoc] at hS0
            replace hxr : x2.length ≤ 200 := hxr
            rcases hS0.fixed with h0 | ⟨R4, hR4, hS4⟩
            · exact absurd h0 (by rw [numB_len]; exact h4)
            · have HR4 := Lib.hid hR4
              have hl4 : R3.length = 4 + R4.length := by rw [hR4]; simp only [List.length_append, numB_len]
              have hw : IntKind.i32.wrap (x2.length : Int) = (x2.length : Int) := by rw [IntKind.wrap_i32]; omega
              have hm : ((x2.length : Int) == -1) = false := beq_eq_false_iff_ne.2 (by omega)
              have hm2 : ¬ ((x2.length : Int) = -1) := by omega
              have HK4 : Hid (0 ≤ (x2.length : Int) ∧ (x2.length : Int) < 4294967296) := Lib.hid (by omega)
              have hcg := cell_slot HH.out.arr k (cs.getD k undef) (HH.out.at_ (by omega))
              have hfg := free_slot HH.out.arr k
              have hN5 : N - (p + 4) = R4.length := by omega
              rcases hS4.fixed with h5 | ⟨R5, hR5, hS5⟩
              · obtain ⟨A6, c6, hsl, hsr⟩ := sl_from (some ⟨b1, o1, none⟩) N c (p + 4) ((p : Int) + 4) (by omega) (by have := HH.out.len; omega) hcap HCM.out
                clear hS0 hx hS4 hR4 e1 hsr hl4
                go_wp2_with (first | (go_at_call 138; refine (rd32n (x2.length) HK4.out _ _ _ R4 _ (by rw [← HR4.out]; exact (HD.out.at_ HX.out).1)).mono ?_; rintro e w3 ⟨rfl, hx3⟩; have HX3 := Lib.hid hx3; have hbk3 := (hx3.block b (lt_of_block HH.out.blk)).trans HH.out.blk; clear hck0; have hck0 := cell_slot hbk3 0 _ rfl; have hg3 := (hx3.block w2.heap.size (lt_of_block HH.out.arr)).trans HH.out.arr; clear hcg hfg; have hcg := cell_slot hg3 k (cs.getD k undef) (HH.out.at_ (by omega)); have hfg := free_slot hg3 k; have HB3 := Lib.hid hbk3; have HG3 := Lib.hid hg3; clear hx3 hbk3 hg3))
                all_goals (go_ret; exact ⟨_, _, rfl, by first | exact HX.out.trans HX3.out.but | exact (HX.out.trans HX3.out.but).trans (ext_alloc _ _).but⟩)
              · have hl5 : R4.length = x2.length + R5.length := by rw [hR5]; simp only [List.length_append]
                have HR5 := Lib.hid (show R3 = (numB (x2.length : Int) 4 ++ x2) ++ R5 by rw [hR4, hR5, List.append_assoc])
                have HS5 := Lib.hid hS5
                obtain ⟨A6, c6, hsl, hsr⟩ := sl_from (some ⟨b1, o1, none⟩) N c (p + 4) ((p : Int) + 4) (by omega) (by have := HH.out.len; omega) hcap HCM.out
                have HSR := Lib.hid hsr
                clear hsr
                have hcc : p + 4 + x2.length ≤ c := by omega
                clear hS0 hx hS4 hR4 hR5 hS5 e1 hl4
                go_wp2_with (first | (go_at_call 138; refine (rd32n (x2.length) HK4.out _ _ _ R4 _ (by rw [← HR4.out]; exact (HD.out.at_ HX.out).1)).mono ?_; rintro e w3 ⟨rfl, hx3⟩; have HX3 := Lib.hid hx3; have hbk3 := (hx3.block b (lt_of_block HH.out.blk)).trans HH.out.blk; clear hck0; have hck0 := cell_slot hbk3 0 _ rfl; have hg3 := (hx3.block w2.heap.size (lt_of_block HH.out.arr)).trans HH.out.arr; clear hcg hfg; have hcg := cell_slot hg3 k (cs.getD k undef) (HH.out.at_ (by omega)); have hfg := free_slot hg3 k; have HB3 := Lib.hid hbk3; have HG3 := Lib.hid hg3; clear hx3 hbk3 hg3))
                have HCK3 := Lib.hid hck0
                refine wp_region_cut (J := fun x => Ext w3 x) (R := Ext) 14 [Sp.eq _ (.pointer (some ⟨b, 0, none⟩)), Sp.eq _ (.pointer (some ⟨b, 0, none⟩)), Sp.eq _ (.pointer (some ⟨b, 0, none⟩)), Sp.eq _ (.slice (some ⟨w2.heap.size, 0, none⟩) l.length 32), Sp.eq _ (.int .i64 k), Sp.eq _ (.slice (some ⟨b1, o1, none⟩) N c), Sp.eq _ (.int .i64 ((p : Int) + 4)), Sp.eq _ (.int .i64 ((p : Int) + 4)), Sp.eq _ (.int .i64 (x2.length : Int)), Sp.eq _ (.int .i64 ((p : Int) + 4 + (x2.length : Int))), Sp.eq _ (.int .i64 ((p : Int) + 4)), Sp.eq _ (.int .i64 (x2.length : Int)), Sp.eq _ (.int .i64 ((p : Int) + 4 + (x2.length : Int))), spSl] (by kernel_rfl) (by kernel_rfl) ?_ ?_ ?_
                · exact (Ext.refl w3).drew
                · refine ⟨?_, ?_, ?_, ?_, ?_, ?_, ?_, ?_, ?_, ?_, ?_, ?_, ?_, ?_, trivial⟩
                  · intro vs w1 hJ hp
                    have HJ := Lib.hid hJ
                    clear hp hJ
                    simp only [List.take_succ_cons, List.take_zero, putAll, Nat.reduceAdd]
                    go_wp2
                    exact ⟨rfl, HJ.out, Ext.refl _, rfl⟩
                  · intro vs w1 hJ hp
                    have q0 : vs 0 = .pointer (some ⟨b, 0, none⟩) := hp 0 (by decide)
                    have HJ := Lib.hid hJ
                    clear hp hJ
                    simp only [List.take_succ_cons, List.take_zero, putAll, Nat.reduceAdd]
                    go_wp2
                    exact ⟨rfl, HJ.out, Ext.refl _, rfl⟩
                  · intro vs w1 hJ hp
                    have q1 : vs 1 = .pointer (some ⟨b, 0, none⟩) := hp 1 (by decide)
                    have HJ := Lib.hid hJ
                    clear hp hJ
                    simp only [List.take_succ_cons, List.take_zero, putAll, Nat.reduceAdd]
                    go_wp2
                    exact ⟨rfl, HJ.out, Ext.refl _, rfl⟩
                  · intro vs w1 hJ hp
                    have q2 : vs 2 = .pointer (some ⟨b, 0, none⟩) := hp 2 (by decide)
                    have HJ := Lib.hid hJ
                    have hq := hJ.cell HCK3.out
                    clear hp hJ
                    simp only [List.take_succ_cons, List.take_zero, putAll, Nat.reduceAdd]
                    go_wp2
                    exact ⟨rfl, HJ.out, Ext.refl _, rfl⟩
                  · intro vs w1 hJ hp
                    have HJ := Lib.hid hJ
                    clear hp hJ
                    simp only [List.take_succ_cons, List.take_zero, putAll, Nat.reduceAdd]
                    go_wp2
                    exact ⟨rfl, HJ.out, Ext.refl _, rfl⟩
                  · intro vs w1 hJ hp
                    have HJ := Lib.hid hJ
                    clear hp hJ
                    simp only [List.take_succ_cons, List.take_zero, putAll, Nat.reduceAdd]
                    go_wp2
                    exact ⟨rfl, HJ.out, Ext.refl _, rfl⟩
                  · intro vs w1 hJ hp
                    have HJ := Lib.hid hJ
                    clear hp hJ
                    simp only [List.take_succ_cons, List.take_zero, putAll, Nat.reduceAdd]
                    go_wp2
                    exact ⟨rfl, HJ.out, Ext.refl _, rfl⟩
                  · intro vs w1 hJ hp
                    have HJ := Lib.hid hJ
                    clear hp hJ
                    simp only [List.take_succ_cons, List.take_zero, putAll, Nat.reduceAdd]
                    go_wp2
                    exact ⟨rfl, HJ.out, Ext.refl _, rfl⟩
                  · intro vs w1 hJ hp
                    have HJ := Lib.hid hJ
                    clear hp hJ
                    simp only [List.take_succ_cons, List.take_zero, putAll, Nat.reduceAdd]
                    go_wp2
                    exact ⟨rfl, HJ.out, Ext.refl _, rfl⟩
                  · intro vs w1 hJ hp
                    have q7 : vs 7 = .int .i64 ((p : Int) + 4) := hp 7 (by decide)
                    have q8 : vs 8 = .int .i64 (x2.length : Int) := hp 8 (by decide)
                    have HJ := Lib.hid hJ
                    clear hp hJ
                    simp only [List.take_succ_cons, List.take_zero, putAll, Nat.reduceAdd]
                    go_wp2
                    exact ⟨rfl, HJ.out, Ext.refl _, rfl⟩
                  · intro vs w1 hJ hp
                    have HJ := Lib.hid hJ
                    clear hp hJ
                    simp only [List.take_succ_cons, List.take_zero, putAll, Nat.reduceAdd]
                    go_wp2
                    exact ⟨rfl, HJ.out, Ext.refl _, rfl⟩
                  · intro vs w1 hJ hp
                    have HJ := Lib.hid hJ
                    clear hp hJ
                    simp only [List.take_succ_cons, List.take_zero, putAll, Nat.reduceAdd]
                    go_wp2
                    exact ⟨rfl, HJ.out, Ext.refl _, rfl⟩
                  · intro vs w1 hJ hp
                    have q10 : vs 10 = .int .i64 ((p : Int) + 4) := hp 10 (by decide)
                    have q11 : vs 11 = .int .i64 (x2.length : Int) := hp 11 (by decide)
                    have HJ := Lib.hid hJ
                    clear hp hJ
                    simp only [List.take_succ_cons, List.take_zero, putAll, Nat.reduceAdd]
                    go_wp2
                    exact ⟨rfl, HJ.out, Ext.refl _, rfl⟩
                  · intro vs w1 hJ hp
                    have q5 : vs 5 = .slice (some ⟨b1, o1, none⟩) N c := hp 5 (by decide)
                    have q6 : vs 6 = .int .i64 ((p : Int) + 4) := hp 6 (by decide)
                    have q9 : vs 9 = .int .i64 ((p : Int) + 4 + (x2.length : Int)) := hp 9 (by decide)
                    have q12 : vs 12 = .int .i64 ((p : Int) + 4 + (x2.length : Int)) := hp 12 (by decide)
                    have HJ := Lib.hid hJ
                    clear hp hJ
                    simp only [List.take_succ_cons, List.take_zero, putAll, Nat.reduceAdd]
                    go_wp2
                    all_goals exact ⟨rfl, HJ.out, Ext.refl _, rfl⟩
                · intro vs w1 hJ hp
                  have q0 : vs 0 = .pointer (some ⟨b, 0, none⟩) := hp 0 (by decide)
                  have q1 : vs 1 = .pointer (some ⟨b, 0, none⟩) := hp 1 (by decide)
                  have q2 : vs 2 = .pointer (some ⟨b, 0, none⟩) := hp 2 (by decide)
                  have q3 : vs 3 = .slice (some ⟨w2.heap.size, 0, none⟩) l.length 32 := hp 3 (by decide)
                  have q4 : vs 4 = .int .i64 k := hp 4 (by decide)
                  have q5 : vs 5 = .slice (some ⟨b1, o1, none⟩) N c := hp 5 (by decide)
                  have q6 : vs 6 = .int .i64 ((p : Int) + 4) := hp 6 (by decide)
                  have q7 : vs 7 = .int .i64 ((p : Int) + 4) := hp 7 (by decide)
                  have q8 : vs 8 = .int .i64 (x2.length : Int) := hp 8 (by decide)
                  have q9 : vs 9 = .int .i64 ((p : Int) + 4 + (x2.length : Int)) := hp 9 (by decide)
                  have q10 : vs 10 = .int .i64 ((p : Int) + 4) := hp 10 (by decide)
                  have q11 : vs 11 = .int .i64 (x2.length : Int) := hp 11 (by decide)
                  have q12 : vs 12 = .int .i64 ((p : Int) + 4 + (x2.length : Int)) := hp 12 (by decide)
                  have q13 : (spSl).p (vs 13) w1 := hp 13 (by decide)
                  have q13' : vs 13 = .slice (slA (vs 13)) (slN (vs 13)) (slC (vs 13)) := q13
                  obtain ⟨S13, hS13⟩ : ∃ y, y = slA (vs 13) := ⟨_, rfl⟩
                  obtain ⟨N13, hN13⟩ : ∃ y, y = slN (vs 13) := ⟨_, rfl⟩
                  obtain ⟨T13, hT13⟩ : ∃ y, y = slC (vs 13) := ⟨_, rfl⟩
                  rw [← hS13, ← hN13, ← hT13] at q13'
                  have HJ := Lib.hid hJ
                  have hcg' := cell_slot ((hJ.block _ (lt_of_block HG3.out)).trans HG3.out) k (cs.getD k undef) (HH.out.at_ (by omega))
                  have hfg' := free_slot ((hJ.block _ (lt_of_block HG3.out)).trans HG3.out) k
                  clear hp hJ q13 hS13 hN13 hT13 hcg hfg hck0
                  simp only [List.drop_succ_cons, List.drop_zero, List.take_succ_cons, List.take_zero, putAll, Nat.reduceAdd, Act.put, q13', q0, q1, q2, q3, q4, q5, q6, q7, q8, q9, q10, q11, q12, List.setIfInBounds_toArray, List.set_cons_zero, List.set_cons_succ]
                  clear q13' q0 q1 q2 q3 q4 q5 q6 q7 q8 q9 q10 q11 q12
                  go_wp2
                  go_roundw
                  case rel =>
                    refine ⟨k + 1, p + (4 + x2.length), by omega, by go_num, by go_num, R5, cs.setIfInBounds k (.slice S13 N13 T13), Lib.hid ?_⟩
                    exact HH.out.next (HX3.out.trans HJ.out) HR5.out HS5.out (by rw [List.length_append, numB_len]) _ _ (Nat.lt_of_lt_of_le HLT.out HH.out.lo)
                  case measure => simp only [intOf]; omega
      · obtain rfl : k = l.length := by omega
        have hS0 := HH.out.pre
        rw [List.drop_length] at hS0
        exact absurd hS0 SPre.nil
end Go.Proofs.YtdenjanihikolaaGreatDoor

namespace Go.Proofs.YtdenjanihikolaaGreatDoor
open Go.RowKit Og
set_option linter.unusedVariables false
set_option linter.unusedSimpArgs false

theorem byte_ne {y : Int} (h0 : 0 < y) (h : y < 256) : (UInt8.ofNat y.toNat == (0 : Int).toNat.toUInt8) = false := by
  refine beq_eq_false_iff_ne.2 fun e => ?_
  have := congrArg UInt8.toNat e
  simp [UInt8.toNat_ofNat'] at this
  omega
theorem index_none : ∀ (s : List Int), (∀ y ∈ s, 0 < y ∧ y < 256) → Lib.indexByte (Lib.bytesOf s) (0 : Int).toNat.toUInt8 = -1
  | [], _ => rfl
  | y :: s, h => by
    have h1 := h y (by simp)
    have h2 := index_none s fun z hz => h z (by simp [hz])
    show Lib.indexByte (UInt8.ofNat y.toNat :: Lib.bytesOf s) _ = -1
    unfold Lib.indexByte
    rw [byte_ne h1.1 h1.2, h2]
    rfl
theorem index_found : ∀ (s r : List Int), (∀ y ∈ s, 0 < y ∧ y < 256) → Lib.indexByte (Lib.bytesOf (s ++ 0 :: r)) (0 : Int).toNat.toUInt8 = s.length
  | [], r, _ => rfl
  | y :: s, r, h => by
    have h1 := h y (by simp)
    have h2 := index_found s r fun z hz => h z (by simp [hz])
    show Lib.indexByte (UInt8.ofNat y.toNat :: Lib.bytesOf (s ++ 0 :: r)) _ = _
    unfold Lib.indexByte
    rw [byte_ne h1.1 h1.2, h2]
    have h3 : (((s.length : Nat) : Int) == -1) = false := beq_eq_false_iff_ne.2 (by omega)
    rw [h3]
    simp
section
variable {P : Program} (w : World)
theorem run_indexEmpty (a : Addr) (c : Nat) (cv : Int) :
    (Extern.BytealgIndexByte.indexByte #[.slice (some a) 0 c, .int .u8 cv]).run P w = .ok (.int .i64 (-1)) w := by
  have hl := Lib.run_loadBytesX (P := P) w [] a .empty (fun j x hj => by simp at hj)
  have hs := Lib.run_indexByteString (P := P) ⟨#[]⟩ cv w
  change Sem.run P (do
    let b ← Extern.Bytes.bytesOf (.slice (some a) 0 c)
    let c ← Extern.Bytes.asByte (.int .u8 cv)
    match (List.range b.size).find? fun i => b[i]! == c with
    | some i => pure (goInt i)
    | none => pure (goInt (-1))) w = _
  change Sem.run P (do
    let b ← Extern.Bytes.bytesOf (.string ⟨#[]⟩)
    let c ← Extern.Bytes.asByte (.int .u8 cv)
    match (List.range b.size).find? fun i => b[i]! == c with
    | some i => pure (goInt i)
    | none => pure (goInt (-1))) w = _ at hs
  have he : (ByteArray.empty ++ (⟨(Lib.bytesOf []).toArray⟩ : ByteArray)) = ⟨#[]⟩ := rfl
  simp only [List.length_nil] at hl
  simp only [Extern.Bytes.bytesOf, Sem.run_bind, Sem.run_pure, Result.andThen] at hs ⊢
  rw [hl]
  exact hs
end

set_option maxRecDepth 100000 in
set_option maxHeartbeats 1000000 in
theorem idx136 (A : Option Addr) (n c : Nat) (xs : List Int) (w : World) (h : RdB w (.slice A n c) xs) (z : Int) (hz : Lib.indexByte (Lib.bytesOf xs) (0 : Int).toNat.toUInt8 = z) :
    Calls Tryz.prog 136 #[.slice A n c, .int .u8 0] w (fun e w' => e = .returned (.int .i64 z) ∧ w' = w) := by
  have hr : (Extern.BytealgIndexByte.indexByte #[.slice A n c, .int .u8 0]).run Tryz.prog w = .ok (.int .i64 z) w := by
    obtain ⟨rfl, _, _⟩ := h.parts
    obtain ⟨A', c', hv, _, _, h3⟩ := h
    obtain ⟨rfl, rfl⟩ : A = A' ∧ c = c' := by simpa using hv
    by_cases hn : 0 < xs.length
    · obtain ⟨b, o, rfl, hc⟩ := h3 hn
      rw [Lib.run_indexByteSlice w b o xs.length c xs rfl hc 0, hz]
    · have hx : xs = [] := List.eq_nil_of_length_eq_zero (by omega)
      subst hx
      have hz1 : z = -1 := by rw [← hz]; rfl
      subst hz1
      cases A with
      | none => exact Lib.run_indexByteNil w 0 c 0
      | some a => exact run_indexEmpty w a c 0
  clear h hz
  go_enter Tryz.func136, Tryz.ntmps136
  go_wp2
  rw [run_callFunc_extern Tryz.func144 (by kernel_rfl) (by kernel_rfl) (by kernel_rfl) (e := Extern.BytealgIndexByte.indexByte) (by kernel_rfl), hr]
  simp only [Result.andThen]
  rw [Oper.upon_value]
  go_wp2
  go_ret
  exact ⟨rfl, rfl⟩
theorem idx_found (A : Option Addr) (n c : Nat) (s r : List Int) (w : World) (h : RdB w (.slice A n c) (s ++ 0 :: r)) (hs : ∀ y ∈ s, 0 < y ∧ y < 256) :
    Calls Tryz.prog 136 #[.slice A n c, .int .u8 0] w (fun e w' => e = .returned (.int .i64 s.length) ∧ w' = w) := idx136 A n c _ w h _ (index_found s r hs)
theorem idx_none (A : Option Addr) (n c : Nat) (s : List Int) (w : World) (h : RdB w (.slice A n c) s) (hs : ∀ y ∈ s, 0 < y ∧ y < 256) :
    Calls Tryz.prog 136 #[.slice A n c, .int .u8 0] w (fun e w' => e = .returned (.int .i64 (-1)) ∧ w' = w) := idx136 A n c _ w h _ (index_none s hs)
theorem plain_pos {s : ByteArray} (h : plainP s) : ∀ y ∈ sby s, 0 < y ∧ y < 256 := by
  intro y hy
  have h1 := plain_ne h y hy
  have h2 := sby_byte s y hy
  unfold Byte at h2
  omega
/-- as SPre.text: what has no end lies in the text -/
theorem SPre.textm {R s T : List Int} (h : SPre R (s ++ 0 :: T)) : (∀ y ∈ R, y ∈ s) ∨ ∃ R', R = s ++ 0 :: R' ∧ SPre R' T := by
  have h' : SPre R ((s ++ [0]) ++ T) := by simpa using h
  rcases h'.fixed with hl | ⟨R', rfl, h2⟩
  · left
    obtain ⟨z, he, hz⟩ := h
    have hle : R.length ≤ s.length := by simp at hl; omega
    have h1 := congrArg (List.take R.length) he
    rw [List.take_left, List.take_append_of_le_length hle] at h1
    intro y hy
    rw [← h1] at hy
    exact List.mem_of_mem_take hy
  · right
    exact ⟨R', by simp, h2⟩
end Go.Proofs.YtdenjanihikolaaGreatDoor

