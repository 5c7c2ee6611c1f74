/- The letters of the messages of the reference. -/
import Derived.Test.YtdenjanihikolaaGreatDoorVBdz
namespace Go.Proofs.YtdenjanihikolaaGreatDoor
open Go.RowKit Og
set_option linter.unusedVariables false
set_option linter.unusedSimpArgs false

/-- the bytes of a message with its type -/
def allB (L : Int) (body : List Int) : List Int := (if L = 0 then [] else numB L 1) ++ (numB ((body.length : Int) + 4) 4 ++ body)

theorem Gave.elim {w : World} {xs : List Int} {e : Ending} {w' : World} (h : Gave w xs e w') : ∃ A c, e = .returned (.slice A xs.length c) ∧ Ext w w' ∧ RdB w' (.slice A xs.length c) xs := by
  obtain ⟨v, rfl, hb⟩ := h
  obtain ⟨A, c, rfl⟩ := hb.len
  exact ⟨A, c, rfl, hb.bel, RdB.of_own hb.own⟩

theorem own_keep {w w2 : World} {B e size n : Nat} {v : Value} {xs : List Value} (h : w.ownsRow B e size v n xs) (hk : ∀ g, v.ownBlock = some g → w2.heap[g]? = w.heap[g]?) : w2.ownsRow B e size v n xs := by
  refine ⟨h.1, ?_⟩
  rcases h.2 with hn | ⟨g, cap, cur, hv, hb, hg, rest⟩
  · exact .inl hn
  · exact .inr ⟨g, cap, cur, hv, hb, (hk g (by rw [hv]; rfl)).trans hg, rest⟩

/-- The blocks that are kept beside a second row. -/
def Two (K : Nat → Prop) (wa wb : World) (k : Nat) : Prop := K k ∨ (wa.heap.size ≤ k ∧ k < wb.heap.size)
theorem Wr.two {K : Nat → Prop} {w0 wa wb : World} {pb : Nat} {v vb : Value} {xs ys : List Int} (h : Wr K w0 wa pb v xs) (hb : Buf (Lt wa.heap.size) wa wb vb ys) : Wr (Two K wa wb) wb wb pb v xs := by
  have h1 := h.ext hb.bel
  refine ⟨fun hk => hk.elim h.out fun e => Nat.lt_irrefl _ (Nat.lt_of_lt_of_le (lt_of_block h.blk) e.1), h1.blk, h1.buf.rebase ?_ ?_, h.off⟩
  · intro k hk
    exact hk.elim (h1.buf.lt k) fun e => e.2
  · intro g hg hk
    exact hk.elim (h.buf.off g hg) fun e => Nat.lt_irrefl _ (Nat.lt_of_lt_of_le (h.buf.own_lt g hg) e.1)
theorem Wr.untwo {K : Nat → Prop} {w0 wa wb w' : World} {pb : Nat} {v v' vb : Value} {xs ys zs : List Int} (h : Wr K w0 wa pb v xs) (hb : Buf (Lt wa.heap.size) wa wb vb ys) (h' : Wr (Two K wa wb) wb w' pb v' zs) : Wr K w0 w' pb v' zs :=
  ⟨h.out, h'.blk, Buf.unbase (h.ext hb.bel).buf h'.buf (fun _ hk => .inl hk), h'.off⟩
theorem Wr.two_rd {K : Nat → Prop} {wa wb w' : World} {pb : Nat} {v' vb : Value} {ys zs : List Int} (hb : Buf (Lt wa.heap.size) wa wb vb ys) (h' : Wr (Two K wa wb) wb w' pb v' zs) : RdB w' vb ys := by
  refine RdB.of_own (own_keep hb.own fun g hg => h'.buf.kept g (.inr ⟨?_, hb.own_lt g hg⟩))
  exact Nat.le_of_not_lt fun hl => hb.off g hg hl

set_option maxRecDepth 100000 in
set_option maxHeartbeats 1000000 in
theorem bytes_gen (kd : Int) (a b : ByteArray) (n : Int) (vf vr vt vv vd vw vp vl : Value) (w : World) (L : Int) (body : List Int) (hb : body.length ≤ 100000000000) (hLb : 0 ≤ L ∧ L < 256)
    (hL : ∀ w, Calls Tryz.prog 35 #[.int .i64 kd] w (fun e w' => e = .returned (.int .u8 L) ∧ w' = w))
    (hB : ∀ w', Ext w w' → Calls Tryz.prog 16 #[.agg #[.int .i64 kd, .string a, .string b, .int .u32 n, vf, vr, vt, vv, vd, vw, vp, vl]] w' (Gave w' body)) :
    Calls Tryz.prog 15 #[.agg #[.int .i64 kd, .string a, .string b, .int .u32 n, vf, vr, vt, vv, vd, vw, vp, vl]] w (Gave w (allB L body)) := by
  have h0 := Wr.start1 w (.cells #[.int .i64 kd, .string a, .string b, .int .u32 n, vf, vr, vt, vv, vd, vw, vp, vl] 37)
  have hc := h0.cell
  have HB := Lib.hid h0
  clear h0
  have HL := Lib.hid hL
  clear hL
  have HBo := Lib.hid hB
  clear hB
  have hx0 : True := trivial
  have hx1 : True := trivial
  have hx2 : True := trivial
  have hx3 : True := trivial
  have hx4 : True := trivial
  have hx5 : True := trivial
  have hx6 : True := trivial
  have hx7 : True := trivial
  have hx8 : True := trivial
  have hx9 : True := trivial
  have hx10 : True := trivial
  have hx11 : True := trivial
  have hwn : wrap64 L = L := by unfold wrap64; omega
  by_cases hz : L = 0
  · subst hz
    go_enter Tryz.func15, Tryz.ntmps15
    go_wp2_with (first | (go_at_call 35; refine (HL.out _).mono ?_; rintro e w1 ⟨rfl, rfl⟩) | (go_at_call 16; refine (HBo.out _ (((ext_alloc w _).alloc _).alloc _)).mono ?_; rintro e w1 ⟨vb, rfl, hg⟩; obtain ⟨A1, c1, rfl⟩ := hg.len; have HG := Lib.hid hg; clear hg; have HK := HB; replace HB := Lib.hid (HK.out.two HG.out); clear hc; have hc := HB.out.cell) | (go_at_call 37; refine (bytes_w HB.out (Wr.two_rd HG.out HB.out) (by simp [numB_len]; omega)).mono ?_; rintro e w1 ⟨rfl, v1, hn⟩; clear hc; have hc := hn.cell; replace HB := Lib.hid hn; clear hn) | (go_at_call 36; refine (number_v _ 4 (by decide) (by omega) _ HB.out (by simp)).mono ?_; rintro e w1 ⟨rfl, v1, hn⟩; clear hc; have hc := hn.cell; replace HB := Lib.hid hn; clear hn))
    go_ret
    exact gave_of (HK.out.untwo HG.out HB.out) (by simp [allB])
  · go_enter Tryz.func15, Tryz.ntmps15
    go_wp2_with (first | (go_at_call 35; refine (HL.out _).mono ?_; rintro e w1 ⟨rfl, rfl⟩) | (go_at_call 16; refine (HBo.out _ ((ext_alloc w _).trans HB.out.buf.bel)).mono ?_; rintro e w1 ⟨vb, rfl, hg⟩; obtain ⟨A1, c1, rfl⟩ := hg.len; have HG := Lib.hid hg; clear hg; have HK := HB; replace HB := Lib.hid (HK.out.two HG.out); clear hc; have hc := HB.out.cell) | (go_at_call 37; refine (bytes_w HB.out (Wr.two_rd HG.out HB.out) (by simp [numB_len]; omega)).mono ?_; rintro e w1 ⟨rfl, v1, hn⟩; clear hc; have hc := hn.cell; replace HB := Lib.hid hn; clear hn) | (go_at_call 36; refine (number_v _ 1 (by decide) (by omega) _ HB.out (by simp)).mono ?_; rintro e w1 ⟨rfl, v1, hn⟩; clear hc; have hc := hn.cell; clear hx0; have hx0 := box_at hn.buf.bel 0 (.int .i64 kd) rfl; clear hx1; have hx1 := box_at hn.buf.bel 1 (.string a) rfl; clear hx2; have hx2 := box_at hn.buf.bel 2 (.string b) rfl; clear hx3; have hx3 := box_at hn.buf.bel 3 (.int .u32 n) rfl; clear hx4; have hx4 := box_at hn.buf.bel 4 (vf) rfl; clear hx5; have hx5 := box_at hn.buf.bel 5 (vr) rfl; clear hx6; have hx6 := box_at hn.buf.bel 6 (vt) rfl; clear hx7; have hx7 := box_at hn.buf.bel 7 (vv) rfl; clear hx8; have hx8 := box_at hn.buf.bel 8 (vd) rfl; clear hx9; have hx9 := box_at hn.buf.bel 9 (vw) rfl; clear hx10; have hx10 := box_at hn.buf.bel 10 (vp) rfl; clear hx11; have hx11 := box_at hn.buf.bel 11 (vl) rfl; replace HB := Lib.hid hn; clear hn) | (go_at_call 36; refine (number_v _ 4 (by decide) (by omega) _ HB.out (by simp [numB_len])).mono ?_; rintro e w1 ⟨rfl, v1, hn⟩; clear hc; have hc := hn.cell; replace HB := Lib.hid hn; clear hn))
    go_ret
    exact gave_of (HK.out.untwo HG.out HB.out) (by simp [allB, hz])
end Go.Proofs.YtdenjanihikolaaGreatDoor

namespace Go.Proofs.YtdenjanihikolaaGreatDoor
open Go.RowKit
set_option linter.unusedVariables false

set_option maxRecDepth 100000 in
theorem letter0 (w : World) : Calls Tryz.prog 35 #[.int .i64 0] w (fun e w' => e = .returned (.int .u8 66) ∧ w' = w) := by
  go_enter Tryz.func35, Tryz.ntmps35
  go_wp2
  go_ret
  exact ⟨rfl, rfl⟩
set_option maxRecDepth 100000 in
theorem letter1 (w : World) : Calls Tryz.prog 35 #[.int .i64 1] w (fun e w' => e = .returned (.int .u8 0) ∧ w' = w) := by
  go_enter Tryz.func35, Tryz.ntmps35
  go_wp2
  go_ret
  exact ⟨rfl, rfl⟩
set_option maxRecDepth 100000 in
theorem letter2 (w : World) : Calls Tryz.prog 35 #[.int .i64 2] w (fun e w' => e = .returned (.int .u8 67) ∧ w' = w) := by
  go_enter Tryz.func35, Tryz.ntmps35
  go_wp2
  go_ret
  exact ⟨rfl, rfl⟩
set_option maxRecDepth 100000 in
theorem letter3 (w : World) : Calls Tryz.prog 35 #[.int .i64 3] w (fun e w' => e = .returned (.int .u8 100) ∧ w' = w) := by
  go_enter Tryz.func35, Tryz.ntmps35
  go_wp2
  go_ret
  exact ⟨rfl, rfl⟩
set_option maxRecDepth 100000 in
theorem letter4 (w : World) : Calls Tryz.prog 35 #[.int .i64 4] w (fun e w' => e = .returned (.int .u8 99) ∧ w' = w) := by
  go_enter Tryz.func35, Tryz.ntmps35
  go_wp2
  go_ret
  exact ⟨rfl, rfl⟩
set_option maxRecDepth 100000 in
theorem letter5 (w : World) : Calls Tryz.prog 35 #[.int .i64 5] w (fun e w' => e = .returned (.int .u8 102) ∧ w' = w) := by
  go_enter Tryz.func35, Tryz.ntmps35
  go_wp2
  go_ret
  exact ⟨rfl, rfl⟩
set_option maxRecDepth 100000 in
theorem letter6 (w : World) : Calls Tryz.prog 35 #[.int .i64 6] w (fun e w' => e = .returned (.int .u8 68) ∧ w' = w) := by
  go_enter Tryz.func35, Tryz.ntmps35
  go_wp2
  go_ret
  exact ⟨rfl, rfl⟩
set_option maxRecDepth 100000 in
theorem letter7 (w : World) : Calls Tryz.prog 35 #[.int .i64 7] w (fun e w' => e = .returned (.int .u8 69) ∧ w' = w) := by
  go_enter Tryz.func35, Tryz.ntmps35
  go_wp2
  go_ret
  exact ⟨rfl, rfl⟩
set_option maxRecDepth 100000 in
theorem letter8 (w : World) : Calls Tryz.prog 35 #[.int .i64 8] w (fun e w' => e = .returned (.int .u8 72) ∧ w' = w) := by
  go_enter Tryz.func35, Tryz.ntmps35
  go_wp2
  go_ret
  exact ⟨rfl, rfl⟩
set_option maxRecDepth 100000 in
theorem letter9 (w : World) : Calls Tryz.prog 35 #[.int .i64 9] w (fun e w' => e = .returned (.int .u8 70) ∧ w' = w) := by
  go_enter Tryz.func35, Tryz.ntmps35
  go_wp2
  go_ret
  exact ⟨rfl, rfl⟩
set_option maxRecDepth 100000 in
theorem letter10 (w : World) : Calls Tryz.prog 35 #[.int .i64 10] w (fun e w' => e = .returned (.int .u8 0) ∧ w' = w) := by
  go_enter Tryz.func35, Tryz.ntmps35
  go_wp2
  go_ret
  exact ⟨rfl, rfl⟩
set_option maxRecDepth 100000 in
theorem letter11 (w : World) : Calls Tryz.prog 35 #[.int .i64 11] w (fun e w' => e = .returned (.int .u8 112) ∧ w' = w) := by
  go_enter Tryz.func35, Tryz.ntmps35
  go_wp2
  go_ret
  exact ⟨rfl, rfl⟩
set_option maxRecDepth 100000 in
theorem letter12 (w : World) : Calls Tryz.prog 35 #[.int .i64 12] w (fun e w' => e = .returned (.int .u8 80) ∧ w' = w) := by
  go_enter Tryz.func35, Tryz.ntmps35
  go_wp2
  go_ret
  exact ⟨rfl, rfl⟩
set_option maxRecDepth 100000 in
theorem letter13 (w : World) : Calls Tryz.prog 35 #[.int .i64 13] w (fun e w' => e = .returned (.int .u8 112) ∧ w' = w) := by
  go_enter Tryz.func35, Tryz.ntmps35
  go_wp2
  go_ret
  exact ⟨rfl, rfl⟩
set_option maxRecDepth 100000 in
theorem letter14 (w : World) : Calls Tryz.prog 35 #[.int .i64 14] w (fun e w' => e = .returned (.int .u8 81) ∧ w' = w) := by
  go_enter Tryz.func35, Tryz.ntmps35
  go_wp2
  go_ret
  exact ⟨rfl, rfl⟩
set_option maxRecDepth 100000 in
theorem letter15 (w : World) : Calls Tryz.prog 35 #[.int .i64 15] w (fun e w' => e = .returned (.int .u8 112) ∧ w' = w) := by
  go_enter Tryz.func35, Tryz.ntmps35
  go_wp2
  go_ret
  exact ⟨rfl, rfl⟩
set_option maxRecDepth 100000 in
theorem letter16 (w : World) : Calls Tryz.prog 35 #[.int .i64 16] w (fun e w' => e = .returned (.int .u8 112) ∧ w' = w) := by
  go_enter Tryz.func35, Tryz.ntmps35
  go_wp2
  go_ret
  exact ⟨rfl, rfl⟩
set_option maxRecDepth 100000 in
theorem letter17 (w : World) : Calls Tryz.prog 35 #[.int .i64 17] w (fun e w' => e = .returned (.int .u8 0) ∧ w' = w) := by
  go_enter Tryz.func35, Tryz.ntmps35
  go_wp2
  go_ret
  exact ⟨rfl, rfl⟩
set_option maxRecDepth 100000 in
theorem letter18 (w : World) : Calls Tryz.prog 35 #[.int .i64 18] w (fun e w' => e = .returned (.int .u8 0) ∧ w' = w) := by
  go_enter Tryz.func35, Tryz.ntmps35
  go_wp2
  go_ret
  exact ⟨rfl, rfl⟩
set_option maxRecDepth 100000 in
theorem letter19 (w : World) : Calls Tryz.prog 35 #[.int .i64 19] w (fun e w' => e = .returned (.int .u8 83) ∧ w' = w) := by
  go_enter Tryz.func35, Tryz.ntmps35
  go_wp2
  go_ret
  exact ⟨rfl, rfl⟩
set_option maxRecDepth 100000 in
theorem letter20 (w : World) : Calls Tryz.prog 35 #[.int .i64 20] w (fun e w' => e = .returned (.int .u8 88) ∧ w' = w) := by
  go_enter Tryz.func35, Tryz.ntmps35
  go_wp2
  go_ret
  exact ⟨rfl, rfl⟩
set_option maxRecDepth 100000 in
theorem letter30 (w : World) : Calls Tryz.prog 35 #[.int .i64 30] w (fun e w' => e = .returned (.int .u8 82) ∧ w' = w) := by
  go_enter Tryz.func35, Tryz.ntmps35
  go_wp2
  go_ret
  exact ⟨rfl, rfl⟩
set_option maxRecDepth 100000 in
theorem letter31 (w : World) : Calls Tryz.prog 35 #[.int .i64 31] w (fun e w' => e = .returned (.int .u8 82) ∧ w' = w) := by
  go_enter Tryz.func35, Tryz.ntmps35
  go_wp2
  go_ret
  exact ⟨rfl, rfl⟩
set_option maxRecDepth 100000 in
theorem letter32 (w : World) : Calls Tryz.prog 35 #[.int .i64 32] w (fun e w' => e = .returned (.int .u8 82) ∧ w' = w) := by
  go_enter Tryz.func35, Tryz.ntmps35
  go_wp2
  go_ret
  exact ⟨rfl, rfl⟩
set_option maxRecDepth 100000 in
theorem letter33 (w : World) : Calls Tryz.prog 35 #[.int .i64 33] w (fun e w' => e = .returned (.int .u8 82) ∧ w' = w) := by
  go_enter Tryz.func35, Tryz.ntmps35
  go_wp2
  go_ret
  exact ⟨rfl, rfl⟩
set_option maxRecDepth 100000 in
theorem letter34 (w : World) : Calls Tryz.prog 35 #[.int .i64 34] w (fun e w' => e = .returned (.int .u8 82) ∧ w' = w) := by
  go_enter Tryz.func35, Tryz.ntmps35
  go_wp2
  go_ret
  exact ⟨rfl, rfl⟩
set_option maxRecDepth 100000 in
theorem letter35 (w : World) : Calls Tryz.prog 35 #[.int .i64 35] w (fun e w' => e = .returned (.int .u8 82) ∧ w' = w) := by
  go_enter Tryz.func35, Tryz.ntmps35
  go_wp2
  go_ret
  exact ⟨rfl, rfl⟩
set_option maxRecDepth 100000 in
theorem letter36 (w : World) : Calls Tryz.prog 35 #[.int .i64 36] w (fun e w' => e = .returned (.int .u8 82) ∧ w' = w) := by
  go_enter Tryz.func35, Tryz.ntmps35
  go_wp2
  go_ret
  exact ⟨rfl, rfl⟩
set_option maxRecDepth 100000 in
theorem letter37 (w : World) : Calls Tryz.prog 35 #[.int .i64 37] w (fun e w' => e = .returned (.int .u8 82) ∧ w' = w) := by
  go_enter Tryz.func35, Tryz.ntmps35
  go_wp2
  go_ret
  exact ⟨rfl, rfl⟩
set_option maxRecDepth 100000 in
theorem letter38 (w : World) : Calls Tryz.prog 35 #[.int .i64 38] w (fun e w' => e = .returned (.int .u8 75) ∧ w' = w) := by
  go_enter Tryz.func35, Tryz.ntmps35
  go_wp2
  go_ret
  exact ⟨rfl, rfl⟩
set_option maxRecDepth 100000 in
theorem letter39 (w : World) : Calls Tryz.prog 35 #[.int .i64 39] w (fun e w' => e = .returned (.int .u8 50) ∧ w' = w) := by
  go_enter Tryz.func35, Tryz.ntmps35
  go_wp2
  go_ret
  exact ⟨rfl, rfl⟩
set_option maxRecDepth 100000 in
theorem letter40 (w : World) : Calls Tryz.prog 35 #[.int .i64 40] w (fun e w' => e = .returned (.int .u8 51) ∧ w' = w) := by
  go_enter Tryz.func35, Tryz.ntmps35
  go_wp2
  go_ret
  exact ⟨rfl, rfl⟩
set_option maxRecDepth 100000 in
theorem letter41 (w : World) : Calls Tryz.prog 35 #[.int .i64 41] w (fun e w' => e = .returned (.int .u8 67) ∧ w' = w) := by
  go_enter Tryz.func35, Tryz.ntmps35
  go_wp2
  go_ret
  exact ⟨rfl, rfl⟩
set_option maxRecDepth 100000 in
theorem letter42 (w : World) : Calls Tryz.prog 35 #[.int .i64 42] w (fun e w' => e = .returned (.int .u8 87) ∧ w' = w) := by
  go_enter Tryz.func35, Tryz.ntmps35
  go_wp2
  go_ret
  exact ⟨rfl, rfl⟩
set_option maxRecDepth 100000 in
theorem letter43 (w : World) : Calls Tryz.prog 35 #[.int .i64 43] w (fun e w' => e = .returned (.int .u8 71) ∧ w' = w) := by
  go_enter Tryz.func35, Tryz.ntmps35
  go_wp2
  go_ret
  exact ⟨rfl, rfl⟩
set_option maxRecDepth 100000 in
theorem letter44 (w : World) : Calls Tryz.prog 35 #[.int .i64 44] w (fun e w' => e = .returned (.int .u8 72) ∧ w' = w) := by
  go_enter Tryz.func35, Tryz.ntmps35
  go_wp2
  go_ret
  exact ⟨rfl, rfl⟩
set_option maxRecDepth 100000 in
theorem letter45 (w : World) : Calls Tryz.prog 35 #[.int .i64 45] w (fun e w' => e = .returned (.int .u8 68) ∧ w' = w) := by
  go_enter Tryz.func35, Tryz.ntmps35
  go_wp2
  go_ret
  exact ⟨rfl, rfl⟩
set_option maxRecDepth 100000 in
theorem letter46 (w : World) : Calls Tryz.prog 35 #[.int .i64 46] w (fun e w' => e = .returned (.int .u8 73) ∧ w' = w) := by
  go_enter Tryz.func35, Tryz.ntmps35
  go_wp2
  go_ret
  exact ⟨rfl, rfl⟩
set_option maxRecDepth 100000 in
theorem letter47 (w : World) : Calls Tryz.prog 35 #[.int .i64 47] w (fun e w' => e = .returned (.int .u8 69) ∧ w' = w) := by
  go_enter Tryz.func35, Tryz.ntmps35
  go_wp2
  go_ret
  exact ⟨rfl, rfl⟩
set_option maxRecDepth 100000 in
theorem letter48 (w : World) : Calls Tryz.prog 35 #[.int .i64 48] w (fun e w' => e = .returned (.int .u8 78) ∧ w' = w) := by
  go_enter Tryz.func35, Tryz.ntmps35
  go_wp2
  go_ret
  exact ⟨rfl, rfl⟩
set_option maxRecDepth 100000 in
theorem letter49 (w : World) : Calls Tryz.prog 35 #[.int .i64 49] w (fun e w' => e = .returned (.int .u8 86) ∧ w' = w) := by
  go_enter Tryz.func35, Tryz.ntmps35
  go_wp2
  go_ret
  exact ⟨rfl, rfl⟩
set_option maxRecDepth 100000 in
theorem letter50 (w : World) : Calls Tryz.prog 35 #[.int .i64 50] w (fun e w' => e = .returned (.int .u8 110) ∧ w' = w) := by
  go_enter Tryz.func35, Tryz.ntmps35
  go_wp2
  go_ret
  exact ⟨rfl, rfl⟩
set_option maxRecDepth 100000 in
theorem letter51 (w : World) : Calls Tryz.prog 35 #[.int .i64 51] w (fun e w' => e = .returned (.int .u8 65) ∧ w' = w) := by
  go_enter Tryz.func35, Tryz.ntmps35
  go_wp2
  go_ret
  exact ⟨rfl, rfl⟩
set_option maxRecDepth 100000 in
theorem letter52 (w : World) : Calls Tryz.prog 35 #[.int .i64 52] w (fun e w' => e = .returned (.int .u8 116) ∧ w' = w) := by
  go_enter Tryz.func35, Tryz.ntmps35
  go_wp2
  go_ret
  exact ⟨rfl, rfl⟩
set_option maxRecDepth 100000 in
theorem letter53 (w : World) : Calls Tryz.prog 35 #[.int .i64 53] w (fun e w' => e = .returned (.int .u8 83) ∧ w' = w) := by
  go_enter Tryz.func35, Tryz.ntmps35
  go_wp2
  go_ret
  exact ⟨rfl, rfl⟩
set_option maxRecDepth 100000 in
theorem letter54 (w : World) : Calls Tryz.prog 35 #[.int .i64 54] w (fun e w' => e = .returned (.int .u8 49) ∧ w' = w) := by
  go_enter Tryz.func35, Tryz.ntmps35
  go_wp2
  go_ret
  exact ⟨rfl, rfl⟩
set_option maxRecDepth 100000 in
theorem letter55 (w : World) : Calls Tryz.prog 35 #[.int .i64 55] w (fun e w' => e = .returned (.int .u8 115) ∧ w' = w) := by
  go_enter Tryz.func35, Tryz.ntmps35
  go_wp2
  go_ret
  exact ⟨rfl, rfl⟩
set_option maxRecDepth 100000 in
theorem letter56 (w : World) : Calls Tryz.prog 35 #[.int .i64 56] w (fun e w' => e = .returned (.int .u8 90) ∧ w' = w) := by
  go_enter Tryz.func35, Tryz.ntmps35
  go_wp2
  go_ret
  exact ⟨rfl, rfl⟩
set_option maxRecDepth 100000 in
theorem letter57 (w : World) : Calls Tryz.prog 35 #[.int .i64 57] w (fun e w' => e = .returned (.int .u8 84) ∧ w' = w) := by
  go_enter Tryz.func35, Tryz.ntmps35
  go_wp2
  go_ret
  exact ⟨rfl, rfl⟩
end Go.Proofs.YtdenjanihikolaaGreatDoor

