/- Messages of errors and notices, made; the kinds with pairs, encoded. -/
import Derived.Test.YtdenjanihikolaaGreatDoorPWrb
import Derived.Test.YtdenjanihikolaaGreatDoorPEri
import Derived.Test.YtdenjanihikolaaGreatDoorPErd
import Derived.Test.YtdenjanihikolaaGreatDoorPMda
import Derived.Test.YtdenjanihikolaaGreatDoorPPpd
import Derived.Test.YtdenjanihikolaaGreatDoorPRdl
import Derived.Test.YtdenjanihikolaaGreatDoorPBase
import Derived.Test.YtdenjanihikolaaGreatDoorPDcp
namespace Go.Proofs.YtdenjanihikolaaGreatDoor
set_option linter.unusedVariables false
set_option linter.unusedSimpArgs false
open Go.RowKit Og
set_option linter.unusedVariables false
set_option linter.unusedSimpArgs false
theorem conv_str (w : World) (s : ByteArray) (hs : s.size ≤ maxLen) : ∃ W5 A5 c5, (convert 9 26 (.string s)).run Tryz.prog w = .ok (.slice A5 s.size c5) W5 ∧ Ext w W5 ∧ RdB W5 (.slice A5 s.size c5) (sby s) := ⟨_, _, _, run_bytes s w, ext_bytes w s, RdB.str w s hs⟩
set_option maxRecDepth 100000 in
set_option maxHeartbeats 1000000 in
theorem body47 (a b : ByteArray) (n : Int) (vf vr vt vv vd vw vp vl : Value) (w : World) (ps : List (ByteArray × ByteArray)) (A_l : Option Addr) (c_l : Nat) (hvl : vp = .slice A_l ps.length c_l) (hr : RdM 2 isPr w (.slice A_l ps.length c_l) ps) (hl : ps.length ≤ 1000) (hm : ∀ y ∈ ps, y.1.size ≤ 1000 ∧ y.2.size ≤ 1000) (R : List Int) (hE : (ps.flatMap erB ++ numB 0 1) = R) :
    Calls Tryz.prog 16 #[.agg #[.int .i64 47, .string a, .string b, .int .u32 n, vf, vr, vt, vv, vd, vw, vp, vl]] w (Gave w R) := by
  subst hvl
  have HRl := Lib.hid (hr.ext (ext_alloc w (.cells #[.int .i64 47, .string a, .string b, .int .u32 n, vf, vr, vt, vv, vd, vw, .slice A_l ps.length c_l, vl] 37)) (fun _ _ h => h))
  clear hr
  have HM := Lib.hid hm
  have HF := Lib.hid (show ∀ y ∈ ps, (erB y).length ≤ 2002 from fun y hy => (by have := hm y hy; simp only [prB, erB, txt, List.length_append, List.length_cons, List.length_nil, sby_length]; omega))
  clear hm
  have hx10 : True := trivial
  have h0 := Wr.start1 w (.cells #[.int .i64 47, .string a, .string b, .int .u32 n, vf, vr, vt, vv, vd, vw, .slice A_l ps.length c_l, vl] 37)
  have hc := h0.cell
  have HB := Lib.hid h0
  clear h0
  have HE := Lib.hid hE
  clear hE
  go_enter Tryz.func16, Tryz.ntmps16
  go_wp2
  obtain ⟨PRE0, HB', HP0⟩ : ∃ P, Hid (Wr (Lt (w.alloc (.cells #[.int .i64 47, .string a, .string b, .int .u32 n, vf, vr, vt, vv, vd, vw, .slice A_l ps.length c_l, vl] 37)).heap.size) (w.alloc (.cells #[.int .i64 47, .string a, .string b, .int .u32 n, vf, vr, vt, vv, vd, vw, .slice A_l ps.length c_l, vl] 37)) _ (w.heap.size + 1 + 1) _ (P)) ∧ Hid (P = []) := ⟨_, HB, Lib.hid rfl⟩
  clear HB
  have hpl0 : PRE0.length ≤ 4 := by rw [HP0.out]; first | omega | (simp only [List.length_append, List.length_nil, List.length_cons, txt, sby_length, numB_len, sfB] <;> omega)
  go_loopw [280] (fun i wr => ∃ k : Nat, k ≤ ps.length ∧ i = .int .i64 k ∧ ∃ v', Hid (Wr (Lt (w.alloc (.cells #[.int .i64 47, .string a, .string b, .int .u32 n, vf, vr, vt, vv, vd, vw, .slice A_l ps.length c_l, vl] 37)).heap.size) (w.alloc (.cells #[.int .i64 47, .string a, .string b, .int .u32 n, vf, vr, vt, vv, vd, vw, .slice A_l ps.length c_l, vl] 37)) wr (w.heap.size + 1 + 1) v' (PRE0 ++ (ps.take k).flatMap erB))) (fun i _ => ps.length - (intOf i).toNat)
  case atStart => exact ⟨0, Nat.zero_le _, rfl, _, by simpa using HB'⟩
  case round =>
    clear HB' hc hx10
    obtain ⟨k, hk1, rfl, v2, HB⟩ := hrel
    by_cases hlt : k < ps.length
    · have hfl := flat_take_len erB 2002 k ps HF.out
      obtain ⟨b1, o1, f, rfl, hcell, hv⟩ := HRl.out.at_ hlt
      have hxl := HM.out _ (List.getElem_mem hlt)
      obtain ⟨x, hx⟩ : ∃ x, x = ps[k] := ⟨_, rfl⟩
      rw [← hx] at hv hxl
      obtain ⟨hf0, hf1⟩ := hv
      have hd0 := HB.out.buf.bel.cell (hcell 0 (by omega))
      rw [hf0, Nat.add_zero] at hd0
      have hd1 := HB.out.buf.bel.cell (hcell 1 (by omega))
      rw [hf1] at hd1
      have HX := Lib.hid hx
      clear hx hcell hf0 hf1
      have HB0 := HB
      replace HB := Lib.hid (HB0.out.box (.cells #[.string x.1, .string x.2] 48))
      have hb0 : True := trivial
      have hb1 : True := trivial
      obtain ⟨W5, A5, c5, hcv, hx5, hr5⟩ := conv_str (wr.alloc (.cells #[.string x.1, .string x.2] 48)) x.1 (by unfold maxLen; omega)
      have HX5 := Lib.hid hx5
      have HR5 := Lib.hid hr5
      clear hx5 hr5
      go_wp2_with (first | (go_at_call 38; refine (text_w _ HB.out (by first | omega | (simp only [List.length_append, List.length_nil, List.length_cons, txt, sby_length, numB_len, sfB] <;> omega))).mono ?_; rintro e w1 ⟨rfl, v1, hn⟩; clear hb0; have hb0 := (hn.buf.boxed 0).trans (show _ = some (.string x.1) from rfl); clear hb1; have hb1 := (hn.buf.boxed 1).trans (show _ = some (.string x.2) from rfl); replace HB := Lib.hid hn; clear hn) | (go_at_call 37; refine (bytes_w (HB.out.ext HX5.out) HR5.out (by first | omega | (simp only [List.length_append, List.length_nil, List.length_cons, txt, sby_length, numB_len, sfB] <;> omega))).mono ?_; rintro e w1 ⟨rfl, v1, hn⟩; clear hb0; have hb0 := (hn.buf.boxed 0).trans (show _ = some (.string x.1) from rfl); clear hb1; have hb1 := (hn.buf.boxed 1).trans (show _ = some (.string x.2) from rfl); replace HB := Lib.hid hn; clear hn))
      replace HB := Lib.hid (HB0.out.unbox HB.out)
      go_roundw
      case rel =>
        refine ⟨k + 1, by omega, by go_num, v1, ?_⟩
        rw [take_flat _ ps k hlt, ← HX.out]
        have hz := HB.out
        simp only [List.append_assoc, sfB, prB, erB] at hz ⊢
        exact Lib.hid hz
      case measure => simp [intOf]; omega
    · obtain rfl : k = ps.length := by omega
      have hfl := flat_len erB 2002 ps HF.out
      rw [List.take_length] at HB
      have hc := HB.out.cell
      go_wp2_with (go_at_call 36; refine (number_w 1 (by omega) _ HB.out (by first | omega | (simp only [List.length_append, List.length_nil, List.length_cons, txt, sby_length, numB_len, sfB] <;> omega))).mono ?_; rintro e w1 ⟨rfl, v1, hn⟩; clear hc; have hc := hn.cell; replace HB := Lib.hid hn; clear hn)
      go_ret
      exact gave_of HB.out (by have hz := HE.out; subst hz; rw [HP0.out]; first | done | (simp only [List.nil_append, List.append_assoc, List.append_nil]))
set_option maxRecDepth 100000 in
set_option maxHeartbeats 1000000 in
theorem body48 (a b : ByteArray) (n : Int) (vf vr vt vv vd vw vp vl : Value) (w : World) (ps : List (ByteArray × ByteArray)) (A_l : Option Addr) (c_l : Nat) (hvl : vp = .slice A_l ps.length c_l) (hr : RdM 2 isPr w (.slice A_l ps.length c_l) ps) (hl : ps.length ≤ 1000) (hm : ∀ y ∈ ps, y.1.size ≤ 1000 ∧ y.2.size ≤ 1000) (R : List Int) (hE : (ps.flatMap erB ++ numB 0 1) = R) :
    Calls Tryz.prog 16 #[.agg #[.int .i64 48, .string a, .string b, .int .u32 n, vf, vr, vt, vv, vd, vw, vp, vl]] w (Gave w R) := by
  subst hvl
  have HRl := Lib.hid (hr.ext (ext_alloc w (.cells #[.int .i64 48, .string a, .string b, .int .u32 n, vf, vr, vt, vv, vd, vw, .slice A_l ps.length c_l, vl] 37)) (fun _ _ h => h))
  clear hr
  have HM := Lib.hid hm
  have HF := Lib.hid (show ∀ y ∈ ps, (erB y).length ≤ 2002 from fun y hy => (by have := hm y hy; simp only [prB, erB, txt, List.length_append, List.length_cons, List.length_nil, sby_length]; omega))
  clear hm
  have hx10 : True := trivial
  have h0 := Wr.start1 w (.cells #[.int .i64 48, .string a, .string b, .int .u32 n, vf, vr, vt, vv, vd, vw, .slice A_l ps.length c_l, vl] 37)
  have hc := h0.cell
  have HB := Lib.hid h0
  clear h0
  have HE := Lib.hid hE
  clear hE
  go_enter Tryz.func16, Tryz.ntmps16
  go_wp2
  obtain ⟨PRE0, HB', HP0⟩ : ∃ P, Hid (Wr (Lt (w.alloc (.cells #[.int .i64 48, .string a, .string b, .int .u32 n, vf, vr, vt, vv, vd, vw, .slice A_l ps.length c_l, vl] 37)).heap.size) (w.alloc (.cells #[.int .i64 48, .string a, .string b, .int .u32 n, vf, vr, vt, vv, vd, vw, .slice A_l ps.length c_l, vl] 37)) _ (w.heap.size + 1 + 1) _ (P)) ∧ Hid (P = []) := ⟨_, HB, Lib.hid rfl⟩
  clear HB
  have hpl0 : PRE0.length ≤ 4 := by rw [HP0.out]; first | omega | (simp only [List.length_append, List.length_nil, List.length_cons, txt, sby_length, numB_len, sfB] <;> omega)
  go_loopw [280] (fun i wr => ∃ k : Nat, k ≤ ps.length ∧ i = .int .i64 k ∧ ∃ v', Hid (Wr (Lt (w.alloc (.cells #[.int .i64 48, .string a, .string b, .int .u32 n, vf, vr, vt, vv, vd, vw, .slice A_l ps.length c_l, vl] 37)).heap.size) (w.alloc (.cells #[.int .i64 48, .string a, .string b, .int .u32 n, vf, vr, vt, vv, vd, vw, .slice A_l ps.length c_l, vl] 37)) wr (w.heap.size + 1 + 1) v' (PRE0 ++ (ps.take k).flatMap erB))) (fun i _ => ps.length - (intOf i).toNat)
  case atStart => exact ⟨0, Nat.zero_le _, rfl, _, by simpa using HB'⟩
  case round =>
    clear HB' hc hx10
    obtain ⟨k, hk1, rfl, v2, HB⟩ := hrel
    by_cases hlt : k < ps.length
    · have hfl := flat_take_len erB 2002 k ps HF.out
      obtain ⟨b1, o1, f, rfl, hcell, hv⟩ := HRl.out.at_ hlt
      have hxl := HM.out _ (List.getElem_mem hlt)
      obtain ⟨x, hx⟩ : ∃ x, x = ps[k] := ⟨_, rfl⟩
      rw [← hx] at hv hxl
      obtain ⟨hf0, hf1⟩ := hv
      have hd0 := HB.out.buf.bel.cell (hcell 0 (by omega))
      rw [hf0, Nat.add_zero] at hd0
      have hd1 := HB.out.buf.bel.cell (hcell 1 (by omega))
      rw [hf1] at hd1
      have HX := Lib.hid hx
      clear hx hcell hf0 hf1
      have HB0 := HB
      replace HB := Lib.hid (HB0.out.box (.cells #[.string x.1, .string x.2] 48))
      have hb0 : True := trivial
      have hb1 : True := trivial
      obtain ⟨W5, A5, c5, hcv, hx5, hr5⟩ := conv_str (wr.alloc (.cells #[.string x.1, .string x.2] 48)) x.1 (by unfold maxLen; omega)
      have HX5 := Lib.hid hx5
      have HR5 := Lib.hid hr5
      clear hx5 hr5
      go_wp2_with (first | (go_at_call 38; refine (text_w _ HB.out (by first | omega | (simp only [List.length_append, List.length_nil, List.length_cons, txt, sby_length, numB_len, sfB] <;> omega))).mono ?_; rintro e w1 ⟨rfl, v1, hn⟩; clear hb0; have hb0 := (hn.buf.boxed 0).trans (show _ = some (.string x.1) from rfl); clear hb1; have hb1 := (hn.buf.boxed 1).trans (show _ = some (.string x.2) from rfl); replace HB := Lib.hid hn; clear hn) | (go_at_call 37; refine (bytes_w (HB.out.ext HX5.out) HR5.out (by first | omega | (simp only [List.length_append, List.length_nil, List.length_cons, txt, sby_length, numB_len, sfB] <;> omega))).mono ?_; rintro e w1 ⟨rfl, v1, hn⟩; clear hb0; have hb0 := (hn.buf.boxed 0).trans (show _ = some (.string x.1) from rfl); clear hb1; have hb1 := (hn.buf.boxed 1).trans (show _ = some (.string x.2) from rfl); replace HB := Lib.hid hn; clear hn))
      replace HB := Lib.hid (HB0.out.unbox HB.out)
      go_roundw
      case rel =>
        refine ⟨k + 1, by omega, by go_num, v1, ?_⟩
        rw [take_flat _ ps k hlt, ← HX.out]
        have hz := HB.out
        simp only [List.append_assoc, sfB, prB, erB] at hz ⊢
        exact Lib.hid hz
      case measure => simp [intOf]; omega
    · obtain rfl : k = ps.length := by omega
      have hfl := flat_len erB 2002 ps HF.out
      rw [List.take_length] at HB
      have hc := HB.out.cell
      go_wp2_with (go_at_call 36; refine (number_w 1 (by omega) _ HB.out (by first | omega | (simp only [List.length_append, List.length_nil, List.length_cons, txt, sby_length, numB_len, sfB] <;> omega))).mono ?_; rintro e w1 ⟨rfl, v1, hn⟩; clear hc; have hc := hn.cell; replace HB := Lib.hid hn; clear hn)
      go_ret
      exact gave_of HB.out (by have hz := HE.out; subst hz; rw [HP0.out]; first | done | (simp only [List.nil_append, List.append_assoc, List.append_nil]))
end Go.Proofs.YtdenjanihikolaaGreatDoor

namespace Go.Proofs.YtdenjanihikolaaGreatDoor
open Go.RowKit Og
set_option linter.unusedVariables false
set_option linter.unusedSimpArgs false
set_option maxRecDepth 100000 in
set_option maxHeartbeats 1000000 in
theorem body18 (a b : ByteArray) (n : Int) (vf vr vt vv vd vw vp vl : Value) (w : World) (hn : 0 ≤ n ∧ n < 4294967296) (ps : List (ByteArray × ByteArray)) (A_l : Option Addr) (c_l : Nat) (hvl : vp = .slice A_l ps.length c_l) (hr : RdM 2 isPr w (.slice A_l ps.length c_l) ps) (hl : ps.length ≤ 1000) (hm : ∀ y ∈ ps, y.1.size ≤ 1000 ∧ y.2.size ≤ 1000) (R : List Int) (hE : (numB n 4 ++ ps.flatMap prB ++ numB 0 1) = R) :
    Calls Tryz.prog 16 #[.agg #[.int .i64 18, .string a, .string b, .int .u32 n, vf, vr, vt, vv, vd, vw, vp, vl]] w (Gave w R) := by
  subst hvl
  have hwn : wrap64 n = n := by unfold wrap64; omega
  have HRl := Lib.hid (hr.ext (ext_alloc w (.cells #[.int .i64 18, .string a, .string b, .int .u32 n, vf, vr, vt, vv, vd, vw, .slice A_l ps.length c_l, vl] 37)) (fun _ _ h => h))
  clear hr
  have HM := Lib.hid hm
  have HF := Lib.hid (show ∀ y ∈ ps, (prB y).length ≤ 2002 from fun y hy => (by have := hm y hy; simp only [prB, erB, txt, List.length_append, List.length_cons, List.length_nil, sby_length]; omega))
  clear hm
  have hx10 : True := trivial
  have hx3 : True := trivial
  have h0 := Wr.start1 w (.cells #[.int .i64 18, .string a, .string b, .int .u32 n, vf, vr, vt, vv, vd, vw, .slice A_l ps.length c_l, vl] 37)
  have hc := h0.cell
  have HB := Lib.hid h0
  clear h0
  have HE := Lib.hid hE
  clear hE
  go_enter Tryz.func16, Tryz.ntmps16
  go_wp2_with (first | (go_at_call 36; refine (number_w 4 (by omega) _ HB.out (by first | omega | (simp only [List.length_append, List.length_nil, List.length_cons, txt, sby_length, numB_len, sfB] <;> omega))).mono ?_; rintro e w1 ⟨rfl, v1, hn⟩; clear hc; have hc := hn.cell; clear hx10; have hx10 := box_at hn.buf.bel 10 (.slice A_l ps.length c_l) rfl; clear hx3; have hx3 := box_at hn.buf.bel 3 (.int .u32 n) rfl; replace HB := Lib.hid hn; clear hn))
  obtain ⟨PRE0, HB', HP0⟩ : ∃ P, Hid (Wr (Lt (w.alloc (.cells #[.int .i64 18, .string a, .string b, .int .u32 n, vf, vr, vt, vv, vd, vw, .slice A_l ps.length c_l, vl] 37)).heap.size) (w.alloc (.cells #[.int .i64 18, .string a, .string b, .int .u32 n, vf, vr, vt, vv, vd, vw, .slice A_l ps.length c_l, vl] 37)) _ (w.heap.size + 1 + 1) _ (P)) ∧ Hid (P = numB n 4) := ⟨_, HB, Lib.hid rfl⟩
  clear HB
  have hpl0 : PRE0.length ≤ 4 := by rw [HP0.out]; first | omega | (simp only [List.length_append, List.length_nil, List.length_cons, txt, sby_length, numB_len, sfB] <;> omega)
  go_loopw [168] (fun i wr => ∃ k : Nat, k ≤ ps.length ∧ i = .int .i64 k ∧ ∃ v', Hid (Wr (Lt (w.alloc (.cells #[.int .i64 18, .string a, .string b, .int .u32 n, vf, vr, vt, vv, vd, vw, .slice A_l ps.length c_l, vl] 37)).heap.size) (w.alloc (.cells #[.int .i64 18, .string a, .string b, .int .u32 n, vf, vr, vt, vv, vd, vw, .slice A_l ps.length c_l, vl] 37)) wr (w.heap.size + 1 + 1) v' (PRE0 ++ (ps.take k).flatMap prB))) (fun i _ => ps.length - (intOf i).toNat)
  case atStart => exact ⟨0, Nat.zero_le _, rfl, _, by simpa using HB'⟩
  case round =>
    clear HB' hc hx10 hx3
    obtain ⟨k, hk1, rfl, v2, HB⟩ := hrel
    by_cases hlt : k < ps.length
    · have hfl := flat_take_len prB 2002 k ps HF.out
      obtain ⟨b1, o1, f, rfl, hcell, hv⟩ := HRl.out.at_ hlt
      have hxl := HM.out _ (List.getElem_mem hlt)
      obtain ⟨x, hx⟩ : ∃ x, x = ps[k] := ⟨_, rfl⟩
      rw [← hx] at hv hxl
      obtain ⟨hf0, hf1⟩ := hv
      have hd0 := HB.out.buf.bel.cell (hcell 0 (by omega))
      rw [hf0, Nat.add_zero] at hd0
      have hd1 := HB.out.buf.bel.cell (hcell 1 (by omega))
      rw [hf1] at hd1
      have HX := Lib.hid hx
      clear hx hcell hf0 hf1
      have HB0 := HB
      replace HB := Lib.hid (HB0.out.box (.cells #[.string x.1, .string x.2] 48))
      have hb0 : True := trivial
      have hb1 : True := trivial
      go_wp2_with (first | (go_at_call 38; refine (text_w _ HB.out (by first | omega | (simp only [List.length_append, List.length_nil, List.length_cons, txt, sby_length, numB_len, sfB] <;> omega))).mono ?_; rintro e w1 ⟨rfl, v1, hn⟩; clear hb0; have hb0 := (hn.buf.boxed 0).trans (show _ = some (.string x.1) from rfl); clear hb1; have hb1 := (hn.buf.boxed 1).trans (show _ = some (.string x.2) from rfl); replace HB := Lib.hid hn; clear hn))
      replace HB := Lib.hid (HB0.out.unbox HB.out)
      go_roundw
      case rel =>
        refine ⟨k + 1, by omega, by go_num, v1, ?_⟩
        rw [take_flat _ ps k hlt, ← HX.out]
        have hz := HB.out
        simp only [List.append_assoc, sfB, prB, erB] at hz ⊢
        exact Lib.hid hz
      case measure => simp [intOf]; omega
    · obtain rfl : k = ps.length := by omega
      have hfl := flat_len prB 2002 ps HF.out
      rw [List.take_length] at HB
      have hc := HB.out.cell
      go_wp2_with (go_at_call 36; refine (number_w 1 (by omega) _ HB.out (by first | omega | (simp only [List.length_append, List.length_nil, List.length_cons, txt, sby_length, numB_len, sfB] <;> omega))).mono ?_; rintro e w1 ⟨rfl, v1, hn⟩; clear hc; have hc := hn.cell; replace HB := Lib.hid hn; clear hn)
      go_ret
      exact gave_of HB.out (by have hz := HE.out; subst hz; rw [HP0.out]; first | done | (simp only [List.nil_append, List.append_assoc, List.append_nil]))
end Go.Proofs.YtdenjanihikolaaGreatDoor

namespace Go.Proofs.YtdenjanihikolaaGreatDoor
open Go.RowKit Og
set_option linter.unusedVariables false
set_option linter.unusedSimpArgs false
/-- Fields of an error, as the reference wants them. -/
def ErrIn (ps : List Pr) : Prop := ps.length ≤ 20 ∧ (∀ y ∈ ps, fldP y ∧ plainP y.1 ∧ plainP y.2 ∧ y.1.size = 1 ∧ y.2.size ≠ 0) ∧ Srt ps
theorem tOf_size {ps : List Pr} (h : ErrIn ps) : ∀ i, (tOf ps i).size ≤ 200 := tOf_at (Q := fun _ v => v.size ≤ 200) ps (fun _ => by show 0 ≤ 200; omega) fun y hy => (h.2.1 y hy).2.2.1.1
theorem tOf_dig {ps : List Pr} (h : ErrIn ps) : ∀ i, i = 6 ∨ i = 7 ∨ i = 16 → tOf ps i = ⟨#[]⟩ ∨ digP (tOf ps i) := fun i => tOf_at (Q := fun i v => numJ i → v = ⟨#[]⟩ ∨ digP v) ps (fun _ _ => .inl rfl) (fun y hy hn => .inr (by
  have h1 := (h.2.1 y hy).1
  obtain ⟨j, hj, hc, _⟩ := let_of h1.1
  rw [hc, slot_at hj] at hn
  exact dig_at h1 hc hn)) i
set_option maxRecDepth 100000 in
set_option maxHeartbeats 2000000 in
theorem ans47 (a b : ByteArray) (n : Int) (v4 v5 v6 v7 v8 v9 v10 v12 : Value) (ps : List Pr) (A11 : Option Addr) (c11 : Nat) (w w1 : World) (bk : Nat) (HP : Hid (RdM 2 isPr w (.slice A11 ps.length c11) ps)) (HI : Hid (ErrIn ps)) (ht : Hid (Tab w)) (hx : Ext w w1) (hbk : w.heap.size ≤ bk) (hblk : w1.heap[bk]? = some (.cells #[.string ⟨#[]⟩, .string ⟨#[]⟩, .string ⟨#[]⟩, .string ⟨#[]⟩, .string ⟨#[]⟩, .string ⟨#[]⟩, .int .i32 0, .int .i32 0, .string ⟨#[]⟩, .string ⟨#[]⟩, .string ⟨#[]⟩, .string ⟨#[]⟩, .string ⟨#[]⟩, .string ⟨#[]⟩, .string ⟨#[]⟩, .string ⟨#[]⟩, .int .i32 0, .string ⟨#[]⟩, .map none] 216 (0, 0))) (R : List Int) (HR : Hid (R = msgB 69 (flT (tOf ps) ++ [0]))) :
    Calls Tryz.prog 60 #[.iface 213 (.pointer (some ⟨bk, 0, none⟩)), .agg #[.int .i64 47, .string a, .string b, .int .u32 n, v4, v5, v6, v7, v8, v9, v10, .slice A11 ps.length c11, v12], .bool true] w1 (Ans 213 293 bk w R) := by
  have n185 := no185 213 (by decide)
  have n189 := no189 213 (by decide)
  have n191 := no191 213 (by decide)
  have n194 := no194 213 (by decide)
  have n196 := no196 213 (by decide)
  have n198 := no198 213 (by decide)
  have n200 := no200 213 (by decide)
  have n203 := no203 213 (by decide)
  have n206 := no206 213 (by decide)
  have n208 := no208 213 (by decide)
  have n210 := no210 213 (by decide)
  have y213 := yes213
  obtain ⟨W2, hW2⟩ : ∃ W2, W2 = w1.alloc (.cells #[.int .i64 47, .string a, .string b, .int .u32 n, v4, v5, v6, v7, v8, v9, v10, .slice A11 ps.length c11, v12] 31) := ⟨_, rfl⟩
  have X1 : Hid (Ext w1 W2) := Lib.hid (by rw [hW2]; exact ext_alloc w1 _)
  have XW : Hid (Ext w W2) := Lib.hid (hx.trans X1.out)
  have HB : Hid (W2.heap[bk]? = some (.cells #[.string ⟨#[]⟩, .string ⟨#[]⟩, .string ⟨#[]⟩, .string ⟨#[]⟩, .string ⟨#[]⟩, .string ⟨#[]⟩, .int .i32 0, .int .i32 0, .string ⟨#[]⟩, .string ⟨#[]⟩, .string ⟨#[]⟩, .string ⟨#[]⟩, .string ⟨#[]⟩, .string ⟨#[]⟩, .string ⟨#[]⟩, .string ⟨#[]⟩, .int .i32 0, .string ⟨#[]⟩, .map none] 216 (0, 0))) := Lib.hid ((X1.out.block _ (lt_of_block hblk)).trans hblk)
  have HO : Hid (W2.heap[w1.heap.size]? = some (.cells #[.int .i64 47, .string a, .string b, .int .u32 n, v4, v5, v6, v7, v8, v9, v10, .slice A11 ps.length c11, v12] 31 (0, 0))) := Lib.hid (by rw [hW2]; exact heap_alloc_new _ _)
  have HBK := Lib.hid hbk
  clear hx hbk hblk
  have hb3 := cell_slot HO.out 3 (.int .u32 n) rfl
  have hb11 := cell_slot HO.out 11 (.slice A11 ps.length c11) rfl
  go_enter Tryz.func60, Tryz.ntmps60
  go_wp2_with (first | (go_at_call 54; rw [← hW2]; clear hW2; refine (let54 n _).mono ?_; rintro e w54 ⟨rfl, hw54⟩; rw [hw54]; clear hw54) | (go_at_call 68; refine (errorOf68 ps A11 c11 _ (HP.out.ext XW.out (fun _ _ h => h)) HI.out.1 (fun y hy => (HI.out.2.1 y hy).1)).mono ?_; rintro e w2 ⟨rfl, hx2⟩; have HX2 := Lib.hid hx2; clear hx2; have BB := Lib.hid ((HX2.out.block _ (lt_of_block HB.out)).trans HB.out)) | (refine wpList_store_row rfl 216 (.tmp 165) (.tmp 163) rfl bk (errCells (tOf ps)) rfl rfl 216 _ BB.out size216 rfl (err_one _) ?_))
  go_ret2
  have SS := setRow_heap _ _ _ (errCells (tOf ps)) _ _ BB.out
  have E2 := ((HX2.out.but (b := bk)).row (errCells (tOf ps))).ext XW.out HBK.out
  exact ⟨rfl, E2, encError (tOf ps) bk _ SS (tOf_size HI.out) (tOf_dig HI.out) (ht.out.ext E2) R HR⟩
theorem eF47 (a b : ByteArray) (n : Int) (v4 v5 v6 v7 v8 v9 v10 v12 : Value) (ps : List Pr) (A11 : Option Addr) (c11 : Nat) (w : World) (HP : Hid (RdM 2 isPr w (.slice A11 ps.length c11) ps)) (HI : Hid (ErrIn ps)) (ht : Hid (Tab w)) (R : List Int) (HR : Hid (R = msgB 69 (flT (tOf ps) ++ [0]))) : Calls Tryz.prog 14 #[.agg #[.int .i64 47, .string a, .string b, .int .u32 n, v4, v5, v6, v7, v8, v9, v10, .slice A11 ps.length c11, v12]] w (Encs w R) :=
  enc14 213 293 _ _ _ _ _ _ _ _ _ _ _ _ _ w R me47 ce47 fun w' hx => made_dflt 213 293 216 #[.string ⟨#[]⟩, .string ⟨#[]⟩, .string ⟨#[]⟩, .string ⟨#[]⟩, .string ⟨#[]⟩, .string ⟨#[]⟩, .int .i32 0, .int .i32 0, .string ⟨#[]⟩, .string ⟨#[]⟩, .string ⟨#[]⟩, .string ⟨#[]⟩, .string ⟨#[]⟩, .string ⟨#[]⟩, .string ⟨#[]⟩, .string ⟨#[]⟩, .int .i32 0, .string ⟨#[]⟩, .map none] 47 n _ _ _ _ _ _ _ _ _ _ _ w' R (by decide) emp47 fun w1 bk hx1 hbk hblk => ans47 a b n v4 v5 v6 v7 v8 v9 v10 v12 ps A11 c11 w' w1 bk (Lib.hid (HP.out.ext hx (fun _ _ h => h))) HI (Lib.hid (ht.out.ext hx)) hx1 hbk hblk R HR
set_option maxRecDepth 100000 in
set_option maxHeartbeats 2000000 in
theorem ans48 (a b : ByteArray) (n : Int) (v4 v5 v6 v7 v8 v9 v10 v12 : Value) (ps : List Pr) (A11 : Option Addr) (c11 : Nat) (w w1 : World) (bk : Nat) (HP : Hid (RdM 2 isPr w (.slice A11 ps.length c11) ps)) (HI : Hid (ErrIn ps)) (ht : Hid (Tab w)) (hx : Ext w w1) (hbk : w.heap.size ≤ bk) (hblk : w1.heap[bk]? = some (.cells #[.string ⟨#[]⟩, .string ⟨#[]⟩, .string ⟨#[]⟩, .string ⟨#[]⟩, .string ⟨#[]⟩, .string ⟨#[]⟩, .int .i32 0, .int .i32 0, .string ⟨#[]⟩, .string ⟨#[]⟩, .string ⟨#[]⟩, .string ⟨#[]⟩, .string ⟨#[]⟩, .string ⟨#[]⟩, .string ⟨#[]⟩, .string ⟨#[]⟩, .int .i32 0, .string ⟨#[]⟩, .map none] 218 (0, 0))) (R : List Int) (HR : Hid (R = msgB 78 (flT (tOf ps) ++ [0]))) :
    Calls Tryz.prog 60 #[.iface 217 (.pointer (some ⟨bk, 0, none⟩)), .agg #[.int .i64 48, .string a, .string b, .int .u32 n, v4, v5, v6, v7, v8, v9, v10, .slice A11 ps.length c11, v12], .bool true] w1 (Ans 217 315 bk w R) := by
  have n185 := no185 217 (by decide)
  have n189 := no189 217 (by decide)
  have n191 := no191 217 (by decide)
  have n194 := no194 217 (by decide)
  have n196 := no196 217 (by decide)
  have n198 := no198 217 (by decide)
  have n200 := no200 217 (by decide)
  have n203 := no203 217 (by decide)
  have n206 := no206 217 (by decide)
  have n208 := no208 217 (by decide)
  have n210 := no210 217 (by decide)
  have n213 := no213 217 (by decide)
  have y217 := yes217
  obtain ⟨W2, hW2⟩ : ∃ W2, W2 = w1.alloc (.cells #[.int .i64 48, .string a, .string b, .int .u32 n, v4, v5, v6, v7, v8, v9, v10, .slice A11 ps.length c11, v12] 31) := ⟨_, rfl⟩
  have X1 : Hid (Ext w1 W2) := Lib.hid (by rw [hW2]; exact ext_alloc w1 _)
  have XW : Hid (Ext w W2) := Lib.hid (hx.trans X1.out)
  have HB : Hid (W2.heap[bk]? = some (.cells #[.string ⟨#[]⟩, .string ⟨#[]⟩, .string ⟨#[]⟩, .string ⟨#[]⟩, .string ⟨#[]⟩, .string ⟨#[]⟩, .int .i32 0, .int .i32 0, .string ⟨#[]⟩, .string ⟨#[]⟩, .string ⟨#[]⟩, .string ⟨#[]⟩, .string ⟨#[]⟩, .string ⟨#[]⟩, .string ⟨#[]⟩, .string ⟨#[]⟩, .int .i32 0, .string ⟨#[]⟩, .map none] 218 (0, 0))) := Lib.hid ((X1.out.block _ (lt_of_block hblk)).trans hblk)
  have HO : Hid (W2.heap[w1.heap.size]? = some (.cells #[.int .i64 48, .string a, .string b, .int .u32 n, v4, v5, v6, v7, v8, v9, v10, .slice A11 ps.length c11, v12] 31 (0, 0))) := Lib.hid (by rw [hW2]; exact heap_alloc_new _ _)
  have HBK := Lib.hid hbk
  clear hx hbk hblk
  have hb3 := cell_slot HO.out 3 (.int .u32 n) rfl
  have hb11 := cell_slot HO.out 11 (.slice A11 ps.length c11) rfl
  go_enter Tryz.func60, Tryz.ntmps60
  go_wp2_with (first | (go_at_call 54; rw [← hW2]; clear hW2; refine (let54 n _).mono ?_; rintro e w54 ⟨rfl, hw54⟩; rw [hw54]; clear hw54) | (go_at_call 68; refine (errorOf68 ps A11 c11 _ (HP.out.ext XW.out (fun _ _ h => h)) HI.out.1 (fun y hy => (HI.out.2.1 y hy).1)).mono ?_; rintro e w2 ⟨rfl, hx2⟩; have HX2 := Lib.hid hx2; clear hx2; have BB := Lib.hid ((HX2.out.block _ (lt_of_block HB.out)).trans HB.out)) | (refine wpList_store_row rfl 216 (.tmp 23) (.tmp 173) rfl w2.heap.size (errCells (tOf ps)) rfl rfl 216 #[.string ⟨#[]⟩, .string ⟨#[]⟩, .string ⟨#[]⟩, .string ⟨#[]⟩, .string ⟨#[]⟩, .string ⟨#[]⟩, .int .i32 0, .int .i32 0, .string ⟨#[]⟩, .string ⟨#[]⟩, .string ⟨#[]⟩, .string ⟨#[]⟩, .string ⟨#[]⟩, .string ⟨#[]⟩, .string ⟨#[]⟩, .string ⟨#[]⟩, .int .i32 0, .string ⟨#[]⟩, .map none] (heap_alloc_new w2 _) size216 rfl (err_one _) ?_; have BN := Lib.hid (setRow_heap (w2.alloc (.cells #[.string ⟨#[]⟩, .string ⟨#[]⟩, .string ⟨#[]⟩, .string ⟨#[]⟩, .string ⟨#[]⟩, .string ⟨#[]⟩, .int .i32 0, .int .i32 0, .string ⟨#[]⟩, .string ⟨#[]⟩, .string ⟨#[]⟩, .string ⟨#[]⟩, .string ⟨#[]⟩, .string ⟨#[]⟩, .string ⟨#[]⟩, .string ⟨#[]⟩, .int .i32 0, .string ⟨#[]⟩, .map none] 216)) w2.heap.size _ (errCells (tOf ps)) 216 (0, 0) (heap_alloc_new w2 _)); have XN : Hid (Ext w2 ((w2.alloc (.cells #[.string ⟨#[]⟩, .string ⟨#[]⟩, .string ⟨#[]⟩, .string ⟨#[]⟩, .string ⟨#[]⟩, .string ⟨#[]⟩, .int .i32 0, .int .i32 0, .string ⟨#[]⟩, .string ⟨#[]⟩, .string ⟨#[]⟩, .string ⟨#[]⟩, .string ⟨#[]⟩, .string ⟨#[]⟩, .string ⟨#[]⟩, .string ⟨#[]⟩, .int .i32 0, .string ⟨#[]⟩, .map none] 216)).setRow w2.heap.size (errCells (tOf ps)))) := Lib.hid (((Ext.refl _).but.row _).ext (ext_alloc w2 _) (Nat.le_refl _)); have BM := Lib.hid ((XN.out.block _ (lt_of_block BB.out)).trans BB.out)) | (refine wpList_load_row rfl 216 (.tmp 23) rfl w2.heap.size rfl 216 (errCells (tOf ps)) (0, 0) _ BN.out Tryz.underlying216 rfl size216 ?_) | (refine wpList_store_row rfl 218 (.tmp 178) (.tmp 176) rfl bk (errCells (tOf ps)) rfl rfl 218 _ BM.out size218 rfl (err_one _) ?_))
  go_ret2
  have SS := setRow_heap _ _ _ (errCells (tOf ps)) _ _ BM.out
  have E2 := (((HX2.out.trans XN.out).but (b := bk)).row (errCells (tOf ps))).ext XW.out HBK.out
  exact ⟨rfl, E2, encNotice (tOf ps) bk _ SS (tOf_size HI.out) (tOf_dig HI.out) (ht.out.ext E2) R HR⟩
theorem eF48 (a b : ByteArray) (n : Int) (v4 v5 v6 v7 v8 v9 v10 v12 : Value) (ps : List Pr) (A11 : Option Addr) (c11 : Nat) (w : World) (HP : Hid (RdM 2 isPr w (.slice A11 ps.length c11) ps)) (HI : Hid (ErrIn ps)) (ht : Hid (Tab w)) (R : List Int) (HR : Hid (R = msgB 78 (flT (tOf ps) ++ [0]))) : Calls Tryz.prog 14 #[.agg #[.int .i64 48, .string a, .string b, .int .u32 n, v4, v5, v6, v7, v8, v9, v10, .slice A11 ps.length c11, v12]] w (Encs w R) :=
  enc14 217 315 _ _ _ _ _ _ _ _ _ _ _ _ _ w R me48 ce48 fun w' hx => made_dflt 217 315 218 #[.string ⟨#[]⟩, .string ⟨#[]⟩, .string ⟨#[]⟩, .string ⟨#[]⟩, .string ⟨#[]⟩, .string ⟨#[]⟩, .int .i32 0, .int .i32 0, .string ⟨#[]⟩, .string ⟨#[]⟩, .string ⟨#[]⟩, .string ⟨#[]⟩, .string ⟨#[]⟩, .string ⟨#[]⟩, .string ⟨#[]⟩, .string ⟨#[]⟩, .int .i32 0, .string ⟨#[]⟩, .map none] 48 n _ _ _ _ _ _ _ _ _ _ _ w' R (by decide) emp48 fun w1 bk hx1 hbk hblk => ans48 a b n v4 v5 v6 v7 v8 v9 v10 v12 ps A11 c11 w' w1 bk (Lib.hid (HP.out.ext hx (fun _ _ h => h))) HI (Lib.hid (ht.out.ext hx)) hx1 hbk hblk R HR
theorem eF18 (a b : ByteArray) (n : Int) (v4 v5 v6 v7 v8 v9 v10 v12 : Value) (ps : List Pr) (A11 : Option Addr) (c11 : Nat) (w : World) (HP : Hid (RdM 2 isPr w (.slice A11 ps.length c11) ps)) (hl : ps.length ≤ 20) (hm : ∀ y ∈ ps, plainP y.1 ∧ plainP y.2) (hsr : Srt ps) (hne : ps ≠ []) (hn : 0 ≤ n ∧ n < 4294967296) (R : List Int) (HR : Hid (R = msg0 (b32 n ++ ps.flatMap prB ++ [0]))) : Calls Tryz.prog 14 #[.agg #[.int .i64 18, .string a, .string b, .int .u32 n, v4, v5, v6, v7, v8, v9, v10, .slice A11 ps.length c11, v12]] w (Encs w R) :=
  enc14 149 191 _ _ _ _ _ _ _ _ _ _ _ _ _ w R me18 ce18 fun w' hx => made18 a b n v4 v5 v6 v7 v8 v9 v10 v12 ps A11 c11 w' (Lib.hid (HP.out.ext hx (fun _ _ h => h))) hl hm hsr hne hn R HR
/-- What a kind with pairs is as bytes: the head H, a prefix P, the pairs by g; in the package's order qs. -/
structure PairBy (kd : Int) (n : Int) (ps qs : List Pr) (H P : List Int) (g : Pr → List Int) : Prop where
  H : H.length = if kd = 18 then 4 else 5
  P : P.length = if kd = 18 then 4 else 0
  perm : qs.Perm ps
  srt : Srt ps
  len : ps.length ≤ 20
  txt : ∀ y ∈ ps, plainP y.1 ∧ plainP y.2 ∧ y.1.size ≠ 0
  one : kd ≠ 18 → ∀ y ∈ ps, y.1.size = 1
  g : g = if kd = 18 then prB else erB
theorem srt_pairs {single empty : Bool} {ps : List Pr} (h : pairsP single empty ps) : Srt ps := srt_of ps h.2.2
theorem err_in {ps : List Pr} (h : (∀ y ∈ ps, fldP y) ∧ pairsP true false ps) : ErrIn ps := by
  refine ⟨h.2.1, fun y hy => ?_, srt_pairs h.2⟩
  have h1 := h.2.2.1 y hy
  exact ⟨h.1 y hy, h1.1, h1.2.1, h1.2.2.2.1 rfl, h1.2.2.2.2 rfl⟩
/-- The two ways in which a message with pairs becomes bytes. -/
def PairEnc (kd : Int) (a b : ByteArray) (n mm : Int) (A5 A6 A7 A8 A9 A10 A11 A12 B7 B10 B11 : Option Addr) (c5 c6 c7 c8 c9 c10 c11 c12 d7 d10 d11 : Nat) (lf lr ty d : List Int) (vls : List (Bool × List Int)) (ws : List ByteArray) (ps : List Pr) (fs : List Sf) (w wx : World) : Prop :=
  ∃ (H P : List Int) (g : Pr → List Int) (qs : List Pr), PairBy kd n ps qs H P g ∧ Calls Tryz.prog 14 #[.agg #[.int .i64 kd, .string a, .string b, .int .u32 n, .int .u32 mm, .slice A5 lf.length c5, .slice A6 lr.length c6, .slice A7 ty.length c7, .slice A8 vls.length c8, .slice A9 d.length c9, .slice A10 ws.length c10, .slice A11 ps.length c11, .slice A12 fs.length c12]] w (Encs w (H ++ (P ++ qs.flatMap g ++ [0]))) ∧
    (∀ wy, Ext wx wy → Calls Tryz.prog 15 #[.agg #[.int .i64 kd, .string a, .string b, .int .u32 n, .slice A5 lf.length c5, .slice A6 lr.length c6, .slice A7 ty.length c7, .slice B7 vls.length d7, .slice A9 d.length c9, .slice A10 ws.length c10, .slice B10 ps.length d10, .slice B11 fs.length d11]] wy (Gave wy (H ++ (P ++ ps.flatMap g ++ [0])))) ∧
    (∀ wy, Ext wx wy → Calls Tryz.prog 16 #[.agg #[.int .i64 kd, .string a, .string b, .int .u32 n, .slice A5 lf.length c5, .slice A6 lr.length c6, .slice A7 ty.length c7, .slice B7 vls.length d7, .slice A9 d.length c9, .slice A10 ws.length c10, .slice B10 ps.length d10, .slice B11 fs.length d11]] wy (Gave wy (P ++ ps.flatMap g ++ [0])))
theorem erB_len {y : Pr} (h1 : y.1.size ≤ 200) (h2 : y.2.size ≤ 200) : (erB y).length ≤ 402 := by
  simp only [erB, txt, List.length_append, List.length_cons, List.length_nil, sby_length]; omega
theorem prB_len {y : Pr} (h1 : y.1.size ≤ 200) (h2 : y.2.size ≤ 200) : (prB y).length ≤ 402 := by
  simp only [prB, txt, List.length_append, List.length_cons, List.length_nil, sby_length]; omega
theorem numB01 : numB 0 1 = [0] := by decide
theorem pair18 (a b : ByteArray) (n mm : Int) (A5 A6 A7 A8 A9 A10 A11 A12 B7 B10 B11 : Option Addr) (c5 c6 c7 c8 c9 c10 c11 c12 d7 d10 d11 : Nat) (lf lr ty d : List Int) (vls : List (Bool × List Int)) (ws : List ByteArray) (ps : List Pr) (fs : List Sf) (w wx : World) (hp : RdM 2 isPr w (.slice A11 ps.length c11) ps) (hpx : RdM 2 isPr wx (.slice B10 ps.length d10) ps) (hn : 0 ≤ n ∧ n < 4294967296) (h0 : 0 < ps.length) (h : pairsP false true ps) : PairEnc 18 a b n mm A5 A6 A7 A8 A9 A10 A11 A12 B7 B10 B11 c5 c6 c7 c8 c9 c10 c11 c12 d7 d10 d11 lf lr ty d vls ws ps fs w wx := by
  have hm : ∀ y ∈ ps, plainP y.1 ∧ plainP y.2 := fun y hy => ⟨(h.2.1 y hy).1, (h.2.1 y hy).2.1⟩
  have hfl := flat_len prB 402 ps fun y hy => prB_len (hm y hy).1.1 (hm y hy).2.1
  have h20 := h.1
  have hbl : (numB n 4 ++ ps.flatMap prB ++ numB 0 1).length ≤ 100000 := by simp only [List.length_append, numB_len]; omega
  have hB : ∀ wy, Ext wx wy → Calls Tryz.prog 16 #[.agg #[.int .i64 18, .string a, .string b, .int .u32 n, .slice A5 lf.length c5, .slice A6 lr.length c6, .slice A7 ty.length c7, .slice B7 vls.length d7, .slice A9 d.length c9, .slice A10 ws.length c10, .slice B10 ps.length d10, .slice B11 fs.length d11]] wy (Gave wy (numB n 4 ++ ps.flatMap prB ++ numB 0 1)) := fun wy hy =>
    body18 a b n (.slice A5 lf.length c5) (.slice A6 lr.length c6) (.slice A7 ty.length c7) (.slice B7 vls.length d7) (.slice A9 d.length c9) (.slice A10 ws.length c10) (.slice B10 ps.length d10) (.slice B11 fs.length d11) wy hn ps B10 d10 rfl (hpx.ext hy fun _ _ h => h) (by omega) (fun y hy => ⟨by have := (hm y hy).1.1; omega, by have := (hm y hy).2.1; omega⟩) _ rfl
  refine ⟨b32 ((numB n 4 ++ ps.flatMap prB ++ numB 0 1).length + 4), numB n 4, prB, ps, ⟨b32_len _, numB_len _ _, List.Perm.refl _, srt_pairs h, h20, fun y hy => ⟨(hm y hy).1, (hm y hy).2, (h.2.1 y hy).2.2.1⟩, fun e => absurd rfl e, rfl⟩, ?_, fun wy hy => ?_, fun wy hy => ?_⟩
  · exact eF18 a b n (.int .u32 mm) (.slice A5 lf.length c5) (.slice A6 lr.length c6) (.slice A7 ty.length c7) (.slice A8 vls.length c8) (.slice A9 d.length c9) (.slice A10 ws.length c10) (.slice A12 fs.length c12) ps A11 c11 w (Lib.hid hp) h20 hm (srt_pairs h) (fun e => by rw [e] at h0; exact absurd h0 (by decide)) hn _ (Lib.hid (by unfold msg0; rw [numB4, numB01]))
  · have h1 := bytes_gen 18 a b n (.slice A5 lf.length c5) (.slice A6 lr.length c6) (.slice A7 ty.length c7) (.slice B7 vls.length d7) (.slice A9 d.length c9) (.slice A10 ws.length c10) (.slice B10 ps.length d10) (.slice B11 fs.length d11) wy 0 _ (by omega) (by decide) letter18 fun w' hx' => hB w' (hy.trans hx')
    rw [all_msg0] at h1
    unfold msg0 at h1
    rw [numB01] at h1 ⊢
    exact h1
  · have h1 := hB wy hy
    rwa [numB01] at h1
theorem pair47 (a b : ByteArray) (n mm : Int) (A5 A6 A7 A8 A9 A10 A11 A12 B7 B10 B11 : Option Addr) (c5 c6 c7 c8 c9 c10 c11 c12 d7 d10 d11 : Nat) (lf lr ty d : List Int) (vls : List (Bool × List Int)) (ws : List ByteArray) (ps : List Pr) (fs : List Sf) (w wx : World) (hp : RdM 2 isPr w (.slice A11 ps.length c11) ps) (hpx : RdM 2 isPr wx (.slice B10 ps.length d10) ps) (ht : Tab w) (h : (∀ y ∈ ps, fldP y) ∧ pairsP true false ps) : PairEnc 47 a b n mm A5 A6 A7 A8 A9 A10 A11 A12 B7 B10 B11 c5 c6 c7 c8 c9 c10 c11 c12 d7 d10 d11 lf lr ty d vls ws ps fs w wx := by
  have hI := err_in h
  have hfl := flat_len erB 402 ps fun y hy => erB_len (hI.2.1 y hy).2.1.1 (hI.2.1 y hy).2.2.1.1
  have h20 := hI.1
  have hpm := qs_perm (fun y hy => ⟨(hI.2.1 y hy).1.1, (hI.2.1 y hy).2.2.2.2⟩) hI.2.2
  have hbl : (ps.flatMap erB ++ numB 0 1).length ≤ 100000 := by simp only [List.length_append, numB_len]; omega
  have hB : ∀ wy, Ext wx wy → Calls Tryz.prog 16 #[.agg #[.int .i64 47, .string a, .string b, .int .u32 n, .slice A5 lf.length c5, .slice A6 lr.length c6, .slice A7 ty.length c7, .slice B7 vls.length d7, .slice A9 d.length c9, .slice A10 ws.length c10, .slice B10 ps.length d10, .slice B11 fs.length d11]] wy (Gave wy (ps.flatMap erB ++ numB 0 1)) := fun wy hy =>
    body47 a b n (.slice A5 lf.length c5) (.slice A6 lr.length c6) (.slice A7 ty.length c7) (.slice B7 vls.length d7) (.slice A9 d.length c9) (.slice A10 ws.length c10) (.slice B10 ps.length d10) (.slice B11 fs.length d11) wy ps B10 d10 rfl (hpx.ext hy fun _ _ h => h) (by omega) (fun y hy => ⟨by have := (hI.2.1 y hy).2.1.1; omega, by have := (hI.2.1 y hy).2.2.1.1; omega⟩) _ rfl
  refine ⟨69 :: b32 ((ps.flatMap erB ++ numB 0 1).length + 4), [], erB, qsOf (tOf ps), ⟨by rw [List.length_cons, b32_len]; rfl, rfl, hpm, hI.2.2, h20, fun y hy => ⟨(hI.2.1 y hy).2.1, (hI.2.1 y hy).2.2.1, by have := (hI.2.1 y hy).2.2.2.1; omega⟩, fun _ y hy => (hI.2.1 y hy).2.2.2.1, rfl⟩, ?_, fun wy hy => ?_, fun wy hy => ?_⟩
  · refine eF47 a b n (.int .u32 mm) (.slice A5 lf.length c5) (.slice A6 lr.length c6) (.slice A7 ty.length c7) (.slice A8 vls.length c8) (.slice A9 d.length c9) (.slice A10 ws.length c10) (.slice A12 fs.length c12) ps A11 c11 w (Lib.hid hp) (Lib.hid hI) (Lib.hid ht) _ (Lib.hid ?_)
    unfold msgB
    rw [flT_qs, List.nil_append, List.cons_append, numB01]
    simp only [List.length_append, flat_perm hpm]
  · have h1 := bytes_gen 47 a b n (.slice A5 lf.length c5) (.slice A6 lr.length c6) (.slice A7 ty.length c7) (.slice B7 vls.length d7) (.slice A9 d.length c9) (.slice A10 ws.length c10) (.slice B10 ps.length d10) (.slice B11 fs.length d11) wy 69 _ (by omega) (by decide) letter47 fun w' hx' => hB w' (hy.trans hx')
    rw [all_msg (by decide)] at h1
    unfold msgB at h1
    rw [numB01] at h1 ⊢
    rw [List.nil_append, List.cons_append]
    exact h1
  · have h1 := hB wy hy
    rw [numB01] at h1
    rw [List.nil_append]
    exact h1
theorem pair48 (a b : ByteArray) (n mm : Int) (A5 A6 A7 A8 A9 A10 A11 A12 B7 B10 B11 : Option Addr) (c5 c6 c7 c8 c9 c10 c11 c12 d7 d10 d11 : Nat) (lf lr ty d : List Int) (vls : List (Bool × List Int)) (ws : List ByteArray) (ps : List Pr) (fs : List Sf) (w wx : World) (hp : RdM 2 isPr w (.slice A11 ps.length c11) ps) (hpx : RdM 2 isPr wx (.slice B10 ps.length d10) ps) (ht : Tab w) (h : (∀ y ∈ ps, fldP y) ∧ pairsP true false ps) : PairEnc 48 a b n mm A5 A6 A7 A8 A9 A10 A11 A12 B7 B10 B11 c5 c6 c7 c8 c9 c10 c11 c12 d7 d10 d11 lf lr ty d vls ws ps fs w wx := by
  have hI := err_in h
  have hfl := flat_len erB 402 ps fun y hy => erB_len (hI.2.1 y hy).2.1.1 (hI.2.1 y hy).2.2.1.1
  have h20 := hI.1
  have hpm := qs_perm (fun y hy => ⟨(hI.2.1 y hy).1.1, (hI.2.1 y hy).2.2.2.2⟩) hI.2.2
  have hbl : (ps.flatMap erB ++ numB 0 1).length ≤ 100000 := by simp only [List.length_append, numB_len]; omega
  have hB : ∀ wy, Ext wx wy → Calls Tryz.prog 16 #[.agg #[.int .i64 48, .string a, .string b, .int .u32 n, .slice A5 lf.length c5, .slice A6 lr.length c6, .slice A7 ty.length c7, .slice B7 vls.length d7, .slice A9 d.length c9, .slice A10 ws.length c10, .slice B10 ps.length d10, .slice B11 fs.length d11]] wy (Gave wy (ps.flatMap erB ++ numB 0 1)) := fun wy hy =>
    body48 a b n (.slice A5 lf.length c5) (.slice A6 lr.length c6) (.slice A7 ty.length c7) (.slice B7 vls.length d7) (.slice A9 d.length c9) (.slice A10 ws.length c10) (.slice B10 ps.length d10) (.slice B11 fs.length d11) wy ps B10 d10 rfl (hpx.ext hy fun _ _ h => h) (by omega) (fun y hy => ⟨by have := (hI.2.1 y hy).2.1.1; omega, by have := (hI.2.1 y hy).2.2.1.1; omega⟩) _ rfl
  refine ⟨78 :: b32 ((ps.flatMap erB ++ numB 0 1).length + 4), [], erB, qsOf (tOf ps), ⟨by rw [List.length_cons, b32_len]; rfl, rfl, hpm, hI.2.2, h20, fun y hy => ⟨(hI.2.1 y hy).2.1, (hI.2.1 y hy).2.2.1, by have := (hI.2.1 y hy).2.2.2.1; omega⟩, fun _ y hy => (hI.2.1 y hy).2.2.2.1, rfl⟩, ?_, fun wy hy => ?_, fun wy hy => ?_⟩
  · refine eF48 a b n (.int .u32 mm) (.slice A5 lf.length c5) (.slice A6 lr.length c6) (.slice A7 ty.length c7) (.slice A8 vls.length c8) (.slice A9 d.length c9) (.slice A10 ws.length c10) (.slice A12 fs.length c12) ps A11 c11 w (Lib.hid hp) (Lib.hid hI) (Lib.hid ht) _ (Lib.hid ?_)
    unfold msgB
    rw [flT_qs, List.nil_append, List.cons_append, numB01]
    simp only [List.length_append, flat_perm hpm]
  · have h1 := bytes_gen 48 a b n (.slice A5 lf.length c5) (.slice A6 lr.length c6) (.slice A7 ty.length c7) (.slice B7 vls.length d7) (.slice A9 d.length c9) (.slice A10 ws.length c10) (.slice B10 ps.length d10) (.slice B11 fs.length d11) wy 78 _ (by omega) (by decide) letter48 fun w' hx' => hB w' (hy.trans hx')
    rw [all_msg (by decide)] at h1
    unfold msgB at h1
    rw [numB01] at h1 ⊢
    rw [List.nil_append, List.cons_append]
    exact h1
  · have h1 := hB wy hy
    rw [numB01] at h1
    rw [List.nil_append]
    exact h1
theorem pair_enc (kd : Int) (a b : ByteArray) (n mm : Int) (A5 A6 A7 A8 A9 A10 A11 A12 B7 B10 B11 : Option Addr) (c5 c6 c7 c8 c9 c10 c11 c12 d7 d10 d11 : Nat) (lf lr ty d : List Int) (vls : List (Bool × List Int)) (ws : List ByteArray) (ps : List Pr) (fs : List Sf) (w wx : World) (hst : turnedQ kd = true) (hp : RdM 2 isPr w (.slice A11 ps.length c11) ps) (hpx : RdM 2 isPr wx (.slice B10 ps.length d10) ps) (hn : 0 ≤ n ∧ n < 4294967296) (ht : Tab w) (hpr : properP kd a b n lf lr ty vls d ws ps fs) : PairEnc kd a b n mm A5 A6 A7 A8 A9 A10 A11 A12 B7 B10 B11 c5 c6 c7 c8 c9 c10 c11 c12 d7 d10 d11 lf lr ty d vls ws ps fs w wx := by
  have hk : kd = 18 ∨ kd = 47 ∨ kd = 48 := by
    unfold turnedQ at hst
    simp only [Bool.or_eq_true, beq_iff_eq] at hst
    omega
  rcases hk with rfl | rfl | rfl
  · have h1 := hpr.k18 rfl
    exact pair18 a b n mm A5 A6 A7 A8 A9 A10 A11 A12 B7 B10 B11 c5 c6 c7 c8 c9 c10 c11 c12 d7 d10 d11 lf lr ty d vls ws ps fs w wx hp hpx hn h1.2.1 h1.2.2
  · exact pair47 a b n mm A5 A6 A7 A8 A9 A10 A11 A12 B7 B10 B11 c5 c6 c7 c8 c9 c10 c11 c12 d7 d10 d11 lf lr ty d vls ws ps fs w wx hp hpx ht (hpr.k47 (.inl rfl))
  · exact pair48 a b n mm A5 A6 A7 A8 A9 A10 A11 A12 B7 B10 B11 c5 c6 c7 c8 c9 c10 c11 c12 d7 d10 d11 lf lr ty d vls ws ps fs w wx hp hpx ht (hpr.k47 (.inr rfl))
end Go.Proofs.YtdenjanihikolaaGreatDoor
