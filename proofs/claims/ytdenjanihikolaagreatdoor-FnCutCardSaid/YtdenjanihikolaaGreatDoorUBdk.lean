/- Bodies of the messages of the reference, with loops, by contract. -/
import Derived.Test.YtdenjanihikolaaGreatDoorUBdz
namespace Go.Proofs.YtdenjanihikolaaGreatDoor
open Go.RowKit Og
set_option linter.unusedVariables false
set_option linter.unusedSimpArgs false

set_option maxRecDepth 100000 in
set_option maxHeartbeats 1000000 in
theorem body57 (a b : ByteArray) (n : Int) (vf vr vt vv vd vw vp vl : Value) (w : World) (fs : List Sf) (A_l : Option Addr) (c_l : Nat) (hvl : vl = .slice A_l fs.length c_l) (hr : RdM 7 isSf w (.slice A_l fs.length c_l) fs) (hl : fs.length ≤ 1000) (hm : ∀ y ∈ fs, y.name.size ≤ 1000 ∧ 0 ≤ y.tab ∧ y.tab < 4294967296 ∧ 0 ≤ y.typ ∧ y.typ < 4294967296) (R : List Int) (hE : (numB (fs.length : Int) 2 ++ fs.flatMap sfB) = R) :
    Calls Tryz.prog 16 #[.agg #[.int .i64 57, .string a, .string b, .int .u32 n, vf, vr, vt, vv, vd, vw, vp, vl]] w (Gave w R) := by
  subst hvl
  have HRl := Lib.hid (hr.ext (ext_alloc w (.cells #[.int .i64 57, .string a, .string b, .int .u32 n, vf, vr, vt, vv, vd, vw, vp, .slice A_l fs.length c_l] 37)) (fun _ _ h => h))
  clear hr
  have HM := Lib.hid hm
  have HF := Lib.hid (show ∀ y ∈ fs, (sfB y).length ≤ 1021 from fun y hy => (by have := (hm y hy).1; simp only [sfB, txt, List.length_append, List.length_cons, List.length_nil, sby_length, numB_len]; omega))
  clear hm
  have hx11 : True := trivial
  have h0 := Wr.start1 w (.cells #[.int .i64 57, .string a, .string b, .int .u32 n, vf, vr, vt, vv, vd, vw, vp, .slice A_l fs.length c_l] 37)
  have hc := h0.cell
  have HB := Lib.hid h0
  clear h0
  have HE := Lib.hid hE
  clear hE
  go_enter Tryz.func16, Tryz.ntmps16
  go_wp2_with (first | (go_at_call 36; refine (number_w 2 (by omega) _ HB.out (by first | omega | (simp only [List.length_append, List.length_nil, List.length_cons, txt, sby_length, numB_len, sfB] <;> omega))).mono ?_; rintro e w1 ⟨rfl, v1, hn⟩; clear hc; have hc := hn.cell; clear hx11; have hx11 := box_at hn.buf.bel 11 (.slice A_l fs.length c_l) rfl; replace HB := Lib.hid hn; clear hn))
  obtain ⟨PRE0, HB', HP0⟩ : ∃ P, Hid (Wr (Lt (w.alloc (.cells #[.int .i64 57, .string a, .string b, .int .u32 n, vf, vr, vt, vv, vd, vw, vp, .slice A_l fs.length c_l] 37)).heap.size) (w.alloc (.cells #[.int .i64 57, .string a, .string b, .int .u32 n, vf, vr, vt, vv, vd, vw, vp, .slice A_l fs.length c_l] 37)) _ (w.heap.size + 1 + 1) _ (P)) ∧ Hid (P = numB (fs.length : Int) 2) := ⟨_, HB, Lib.hid rfl⟩
  clear HB
  have hpl0 : PRE0.length ≤ 2 := by rw [HP0.out]; first | omega | (simp only [List.length_append, List.length_nil, List.length_cons, txt, sby_length, numB_len, sfB] <;> omega)
  go_loopw [357] (fun i wr => ∃ k : Nat, k ≤ fs.length ∧ i = .int .i64 k ∧ ∃ v', Hid (Wr (Lt (w.alloc (.cells #[.int .i64 57, .string a, .string b, .int .u32 n, vf, vr, vt, vv, vd, vw, vp, .slice A_l fs.length c_l] 37)).heap.size) (w.alloc (.cells #[.int .i64 57, .string a, .string b, .int .u32 n, vf, vr, vt, vv, vd, vw, vp, .slice A_l fs.length c_l] 37)) wr (w.heap.size + 1 + 1) v' (PRE0 ++ (fs.take k).flatMap sfB))) (fun i _ => fs.length - (intOf i).toNat)
  case atStart => exact ⟨0, Nat.zero_le _, rfl, _, by simpa using HB'⟩
  case round =>
    clear HB' hc hx11
    obtain ⟨k, hk1, rfl, v2, HB⟩ := hrel
    by_cases hlt : k < fs.length
    · have hfl := flat_take_len sfB 1021 k fs HF.out
      obtain ⟨b1, o1, f, rfl, hcell, hv⟩ := HRl.out.at_ hlt
      have hxl := HM.out _ (List.getElem_mem hlt)
      obtain ⟨x, hx⟩ : ∃ x, x = fs[k] := ⟨_, rfl⟩
      rw [← hx] at hv hxl
      obtain ⟨hf0, hf1, hf2, hf3, hf4, hf5, hf6⟩ := hv
      have hw1 : wrap64 x.tab = x.tab := by unfold wrap64; omega
      have hw2 : wrap64 x.typ = x.typ := by unfold wrap64; omega
      have hd0 := HB.out.buf.bel.cell (hcell 0 (by omega))
      rw [hf0, Nat.add_zero] at hd0
      have hd1 := HB.out.buf.bel.cell (hcell 1 (by omega))
      rw [hf1] at hd1
      have hd2 := HB.out.buf.bel.cell (hcell 2 (by omega))
      rw [hf2] at hd2
      have hd3 := HB.out.buf.bel.cell (hcell 3 (by omega))
      rw [hf3] at hd3
      have hd4 := HB.out.buf.bel.cell (hcell 4 (by omega))
      rw [hf4] at hd4
      have hd5 := HB.out.buf.bel.cell (hcell 5 (by omega))
      rw [hf5] at hd5
      have hd6 := HB.out.buf.bel.cell (hcell 6 (by omega))
      rw [hf6] at hd6
      have HX := Lib.hid hx
      clear hx hcell hf0 hf1 hf2 hf3 hf4 hf5 hf6
      have HB0 := HB
      replace HB := Lib.hid (HB0.out.box (.cells #[.string x.name, .int .u32 x.tab, .int .i64 x.col, .int .u32 x.typ, .int .i64 x.siz, .int .i64 x.mdf, .int .i64 x.fmt] 63))
      have hb0 : True := trivial
      have hb1 : True := trivial
      have hb2 : True := trivial
      have hb3 : True := trivial
      have hb4 : True := trivial
      have hb5 : True := trivial
      have hb6 : True := trivial
      go_wp2_with (first | (go_at_call 38; refine (text_w _ HB.out (by first | omega | (simp only [List.length_append, List.length_nil, List.length_cons, txt, sby_length, numB_len, sfB] <;> omega))).mono ?_; rintro e w1 ⟨rfl, v1, hn⟩; clear hb0; have hb0 := (hn.buf.boxed 0).trans (show _ = some (.string x.name) from rfl); clear hb1; have hb1 := (hn.buf.boxed 1).trans (show _ = some (.int .u32 x.tab) from rfl); clear hb2; have hb2 := (hn.buf.boxed 2).trans (show _ = some (.int .i64 x.col) from rfl); clear hb3; have hb3 := (hn.buf.boxed 3).trans (show _ = some (.int .u32 x.typ) from rfl); clear hb4; have hb4 := (hn.buf.boxed 4).trans (show _ = some (.int .i64 x.siz) from rfl); clear hb5; have hb5 := (hn.buf.boxed 5).trans (show _ = some (.int .i64 x.mdf) from rfl); clear hb6; have hb6 := (hn.buf.boxed 6).trans (show _ = some (.int .i64 x.fmt) from rfl); replace HB := Lib.hid hn; clear hn) | (go_at_call 36; (first | refine (number_v _ 4 (by decide) (by omega) _ HB.out (by first | omega | (simp only [List.length_append, List.length_nil, List.length_cons, txt, sby_length, numB_len, sfB] <;> omega))).mono ?_ | refine (number_v _ 2 (by decide) (by omega) _ HB.out (by first | omega | (simp only [List.length_append, List.length_nil, List.length_cons, txt, sby_length, numB_len, sfB] <;> omega))).mono ?_); rintro e w1 ⟨rfl, v1, hn⟩; clear hb0; have hb0 := (hn.buf.boxed 0).trans (show _ = some (.string x.name) from rfl); clear hb1; have hb1 := (hn.buf.boxed 1).trans (show _ = some (.int .u32 x.tab) from rfl); clear hb2; have hb2 := (hn.buf.boxed 2).trans (show _ = some (.int .i64 x.col) from rfl); clear hb3; have hb3 := (hn.buf.boxed 3).trans (show _ = some (.int .u32 x.typ) from rfl); clear hb4; have hb4 := (hn.buf.boxed 4).trans (show _ = some (.int .i64 x.siz) from rfl); clear hb5; have hb5 := (hn.buf.boxed 5).trans (show _ = some (.int .i64 x.mdf) from rfl); clear hb6; have hb6 := (hn.buf.boxed 6).trans (show _ = some (.int .i64 x.fmt) from rfl); replace HB := Lib.hid hn; clear hn))
      replace HB := Lib.hid (HB0.out.unbox HB.out)
      go_roundw
      case rel =>
        refine ⟨k + 1, by omega, by go_num, v1, ?_⟩
        rw [take_flat _ fs k hlt, ← HX.out]
        have hz := HB.out
        simp only [List.append_assoc, sfB, prB, erB] at hz ⊢
        exact Lib.hid hz
      case measure => simp [intOf]; omega
    · obtain rfl : k = fs.length := by omega
      have hfl := flat_len sfB 1021 fs HF.out
      rw [List.take_length] at HB
      have hc := HB.out.cell
      go_wp2
      go_ret
      exact gave_of HB.out (by have hz := HE.out; subst hz; rw [HP0.out]; first | done | (simp only [List.nil_append, List.append_assoc, List.append_nil]))

end Go.Proofs.YtdenjanihikolaaGreatDoor

