/- The bytes of a message of the reference, by contract. -/
import Derived.Test.YtdenjanihikolaaGreatDoorUBdz
namespace Go.Proofs.YtdenjanihikolaaGreatDoor
open Go.RowKit Og
set_option linter.unusedVariables false
set_option linter.unusedSimpArgs false

/-- the bytes of a message with its type -/
def allB (L : Int) (body : List Int) : List Int := (if L = 0 then [] else numB L 1) ++ (numB ((body.length : Int) + 4) 4 ++ body)

theorem Gave.elim {w : World} {xs : List Int} {e : Ending} {w' : World} (h : Gave w xs e w') : ∃ A c, e = .returned (.slice A xs.length c) ∧ Ext w w' ∧ RdB w' (.slice A xs.length c) xs := by
  obtain ⟨v, rfl, hb⟩ := h
  obtain ⟨A, c, rfl⟩ := hb.len
  exact ⟨A, c, rfl, hb.bel, RdB.of_own hb.own⟩

theorem own_keep {w w2 : World} {B e size n : Nat} {v : Value} {xs : List Value} (h : w.ownsRow B e size v n xs) (hk : ∀ g, v.ownBlock = some g → w2.heap[g]? = w.heap[g]?) : w2.ownsRow B e size v n xs := by
  refine ⟨h.1, ?_⟩
  rcases h.2 with hn | ⟨g, cap, cur, hv, hb, hg, rest⟩
  · exact .inl hn
  · exact .inr ⟨g, cap, cur, hv, hb, (hk g (by rw [hv]; rfl)).trans hg, rest⟩

/-- The blocks that are kept beside a second row. -/
def Two (K : Nat → Prop) (wa wb : World) (k : Nat) : Prop := K k ∨ (wa.heap.size ≤ k ∧ k < wb.heap.size)
theorem Wr.two {K : Nat → Prop} {w0 wa wb : World} {pb : Nat} {v vb : Value} {xs ys : List Int} (h : Wr K w0 wa pb v xs) (hb : Buf (Lt wa.heap.size) wa wb vb ys) : Wr (Two K wa wb) wb wb pb v xs := by
  have h1 := h.ext hb.bel
  refine ⟨fun hk => hk.elim h.out fun e => Nat.lt_irrefl _ (Nat.lt_of_lt_of_le (lt_of_block h.blk) e.1), h1.blk, h1.buf.rebase ?_ ?_, h.off⟩
  · intro k hk
    exact hk.elim (h1.buf.lt k) fun e => e.2
  · intro g hg hk
    exact hk.elim (h.buf.off g hg) fun e => Nat.lt_irrefl _ (Nat.lt_of_lt_of_le (h.buf.own_lt g hg) e.1)
theorem Wr.untwo {K : Nat → Prop} {w0 wa wb w' : World} {pb : Nat} {v v' vb : Value} {xs ys zs : List Int} (h : Wr K w0 wa pb v xs) (hb : Buf (Lt wa.heap.size) wa wb vb ys) (h' : Wr (Two K wa wb) wb w' pb v' zs) : Wr K w0 w' pb v' zs :=
  ⟨h.out, h'.blk, Buf.unbase (h.ext hb.bel).buf h'.buf (fun _ hk => .inl hk), h'.off⟩
theorem Wr.two_rd {K : Nat → Prop} {wa wb w' : World} {pb : Nat} {v' vb : Value} {ys zs : List Int} (hb : Buf (Lt wa.heap.size) wa wb vb ys) (h' : Wr (Two K wa wb) wb w' pb v' zs) : RdB w' vb ys := by
  refine RdB.of_own (own_keep hb.own fun g hg => h'.buf.kept g (.inr ⟨?_, hb.own_lt g hg⟩))
  exact Nat.le_of_not_lt fun hl => hb.off g hg hl

set_option maxRecDepth 100000 in
set_option maxHeartbeats 1000000 in
theorem bytes_gen (kd : Int) (a b : ByteArray) (n : Int) (vf vr vt vv vd vw vp vl : Value) (w : World) (L : Int) (body : List Int) (hb : body.length ≤ 100000000000) (hLb : 0 ≤ L ∧ L < 256)
    (hL : ∀ w, Calls Tryz.prog 35 #[.int .i64 kd] w (fun e w' => e = .returned (.int .u8 L) ∧ w' = w))
    (hB : ∀ w', Ext w w' → Calls Tryz.prog 16 #[.agg #[.int .i64 kd, .string a, .string b, .int .u32 n, vf, vr, vt, vv, vd, vw, vp, vl]] w' (Gave w' body)) :
    Calls Tryz.prog 15 #[.agg #[.int .i64 kd, .string a, .string b, .int .u32 n, vf, vr, vt, vv, vd, vw, vp, vl]] w (Gave w (allB L body)) := by
  have h0 := Wr.start1 w (.cells #[.int .i64 kd, .string a, .string b, .int .u32 n, vf, vr, vt, vv, vd, vw, vp, vl] 37)
  have hc := h0.cell
  have HB := Lib.hid h0
  clear h0
  have HL := Lib.hid hL
  clear hL
  have HBo := Lib.hid hB
  clear hB
  have hx0 : True := trivial
  have hx1 : True := trivial
  have hx2 : True := trivial
  have hx3 : True := trivial
  have hx4 : True := trivial
  have hx5 : True := trivial
  have hx6 : True := trivial
  have hx7 : True := trivial
  have hx8 : True := trivial
  have hx9 : True := trivial
  have hx10 : True := trivial
  have hx11 : True := trivial
  have hwn : wrap64 L = L := by unfold wrap64; omega
  by_cases hz : L = 0
  · subst hz
    go_enter Tryz.func15, Tryz.ntmps15
    go_wp2_with (first | (go_at_call 35; refine (HL.out _).mono ?_; rintro e w1 ⟨rfl, rfl⟩) | (go_at_call 16; refine (HBo.out _ (((ext_alloc w _).alloc _).alloc _)).mono ?_; rintro e w1 ⟨vb, rfl, hg⟩; obtain ⟨A1, c1, rfl⟩ := hg.len; have HG := Lib.hid hg; clear hg; have HK := HB; replace HB := Lib.hid (HK.out.two HG.out); clear hc; have hc := HB.out.cell) | (go_at_call 37; refine (bytes_w HB.out (Wr.two_rd HG.out HB.out) (by simp [numB_len]; omega)).mono ?_; rintro e w1 ⟨rfl, v1, hn⟩; clear hc; have hc := hn.cell; replace HB := Lib.hid hn; clear hn) | (go_at_call 36; refine (number_v _ 4 (by decide) (by omega) _ HB.out (by simp)).mono ?_; rintro e w1 ⟨rfl, v1, hn⟩; clear hc; have hc := hn.cell; replace HB := Lib.hid hn; clear hn))
    go_ret
    exact gave_of (HK.out.untwo HG.out HB.out) (by simp [allB])
  · go_enter Tryz.func15, Tryz.ntmps15
    go_wp2_with (first | (go_at_call 35; refine (HL.out _).mono ?_; rintro e w1 ⟨rfl, rfl⟩) | (go_at_call 16; refine (HBo.out _ ((ext_alloc w _).trans HB.out.buf.bel)).mono ?_; rintro e w1 ⟨vb, rfl, hg⟩; obtain ⟨A1, c1, rfl⟩ := hg.len; have HG := Lib.hid hg; clear hg; have HK := HB; replace HB := Lib.hid (HK.out.two HG.out); clear hc; have hc := HB.out.cell) | (go_at_call 37; refine (bytes_w HB.out (Wr.two_rd HG.out HB.out) (by simp [numB_len]; omega)).mono ?_; rintro e w1 ⟨rfl, v1, hn⟩; clear hc; have hc := hn.cell; replace HB := Lib.hid hn; clear hn) | (go_at_call 36; refine (number_v _ 1 (by decide) (by omega) _ HB.out (by simp)).mono ?_; rintro e w1 ⟨rfl, v1, hn⟩; clear hc; have hc := hn.cell; clear hx0; have hx0 := box_at hn.buf.bel 0 (.int .i64 kd) rfl; clear hx1; have hx1 := box_at hn.buf.bel 1 (.string a) rfl; clear hx2; have hx2 := box_at hn.buf.bel 2 (.string b) rfl; clear hx3; have hx3 := box_at hn.buf.bel 3 (.int .u32 n) rfl; clear hx4; have hx4 := box_at hn.buf.bel 4 (vf) rfl; clear hx5; have hx5 := box_at hn.buf.bel 5 (vr) rfl; clear hx6; have hx6 := box_at hn.buf.bel 6 (vt) rfl; clear hx7; have hx7 := box_at hn.buf.bel 7 (vv) rfl; clear hx8; have hx8 := box_at hn.buf.bel 8 (vd) rfl; clear hx9; have hx9 := box_at hn.buf.bel 9 (vw) rfl; clear hx10; have hx10 := box_at hn.buf.bel 10 (vp) rfl; clear hx11; have hx11 := box_at hn.buf.bel 11 (vl) rfl; replace HB := Lib.hid hn; clear hn) | (go_at_call 36; refine (number_v _ 4 (by decide) (by omega) _ HB.out (by simp [numB_len])).mono ?_; rintro e w1 ⟨rfl, v1, hn⟩; clear hc; have hc := hn.cell; replace HB := Lib.hid hn; clear hn))
    go_ret
    exact gave_of (HK.out.untwo HG.out HB.out) (by simp [allB, hz])
end Go.Proofs.YtdenjanihikolaaGreatDoor

