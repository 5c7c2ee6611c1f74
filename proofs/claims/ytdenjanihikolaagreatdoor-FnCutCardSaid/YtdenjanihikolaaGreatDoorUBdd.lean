/- Bodies of the messages of the reference, by contract. -/
import Derived.Test.YtdenjanihikolaaGreatDoorUWrc
namespace Go.Proofs.YtdenjanihikolaaGreatDoor
open Go.RowKit Og
set_option linter.unusedVariables false
set_option linter.unusedSimpArgs false

set_option maxRecDepth 100000 in
set_option maxHeartbeats 1000000 in
theorem body2 (a b : ByteArray) (n : Int) (vf vr vt vv vd vw vp vl : Value) (w : World) (hsa : a.size ≤ 1000) (hn : 0 ≤ n ∧ n < 4294967296) (R : List Int) (hE : numB n 1 ++ txt a = R) :
    Calls Tryz.prog 16 #[.agg #[.int .i64 2, .string a, .string b, .int .u32 n, vf, vr, vt, vv, vd, vw, vp, vl]] w (Gave w R) := by
  have hwn : wrap64 n = n := by unfold wrap64; omega
  have hx3 : True := trivial
  have hx1 : True := trivial
  have h0 := Wr.start1 w (.cells #[.int .i64 2, .string a, .string b, .int .u32 n, vf, vr, vt, vv, vd, vw, vp, vl] 37)
  have hc := h0.cell
  have HB := Lib.hid h0
  clear h0
  have HE := Lib.hid hE
  clear hE
  go_enter Tryz.func16, Tryz.ntmps16
  go_wp2_with (first | (go_at_call 36; refine (number_w 1 (by omega) _ HB.out (by first | omega | (simp only [List.length_append, List.length_nil, List.length_cons, txt, sby_length, numB_len]; omega))).mono ?_; rintro e w1 ⟨rfl, v1, hn⟩; clear hc; have hc := hn.cell; clear hx3; have hx3 := box_at hn.buf.bel 3 (.int .u32 n) rfl; clear hx1; have hx1 := box_at hn.buf.bel 1 (.string a) rfl; replace HB := Lib.hid hn; clear hn) | (go_at_call 38; refine (text_w _ HB.out (by first | omega | (simp only [List.length_append, List.length_nil, List.length_cons, txt, sby_length, numB_len]; omega))).mono ?_; rintro e w1 ⟨rfl, v1, hn⟩; clear hc; have hc := hn.cell; clear hx3; have hx3 := box_at hn.buf.bel 3 (.int .u32 n) rfl; clear hx1; have hx1 := box_at hn.buf.bel 1 (.string a) rfl; replace HB := Lib.hid hn; clear hn))
  go_ret
  exact gave_of HB.out (by have hz := HE.out; subst hz; first | done | (simp only [List.nil_append, List.append_assoc, List.append_nil]))

set_option maxRecDepth 100000 in
set_option maxHeartbeats 1000000 in
theorem body8 (a b : ByteArray) (n : Int) (vf vr vt vv vd vw vp vl : Value) (w : World)  (R : List Int) (hE : [] = R) :
    Calls Tryz.prog 16 #[.agg #[.int .i64 8, .string a, .string b, .int .u32 n, vf, vr, vt, vv, vd, vw, vp, vl]] w (Gave w R) := by
  have h0 := Wr.start1 w (.cells #[.int .i64 8, .string a, .string b, .int .u32 n, vf, vr, vt, vv, vd, vw, vp, vl] 37)
  have hc := h0.cell
  have HB := Lib.hid h0
  clear h0
  have HE := Lib.hid hE
  clear hE
  go_enter Tryz.func16, Tryz.ntmps16
  go_wp2
  go_ret
  exact gave_of HB.out (by have hz := HE.out; subst hz; first | done | (simp only [List.nil_append, List.append_assoc, List.append_nil]))

set_option maxRecDepth 100000 in
set_option maxHeartbeats 1000000 in
theorem body15 (a b : ByteArray) (n : Int) (vf vr vt vv vd vw vp vl : Value) (w : World) (hsa : a.size ≤ 1000) (A_d : Option Addr) (c_d : Nat) (d : List Int) (hvd : vd = .slice A_d d.length c_d) (hrd : RdB w (.slice A_d d.length c_d) d) (hld : d.length ≤ 3000) (R : List Int) (hE : txt a ++ numB (d.length : Int) 4 ++ d = R) :
    Calls Tryz.prog 16 #[.agg #[.int .i64 15, .string a, .string b, .int .u32 n, vf, vr, vt, vv, vd, vw, vp, vl]] w (Gave w R) := by
  subst hvd
  have HRd := Lib.hid (hrd.ext (ext_alloc w (.cells #[.int .i64 15, .string a, .string b, .int .u32 n, vf, vr, vt, vv, .slice A_d d.length c_d, vw, vp, vl] 37)))
  clear hrd
  have hx8 : True := trivial
  have hx1 : True := trivial
  have h0 := Wr.start1 w (.cells #[.int .i64 15, .string a, .string b, .int .u32 n, vf, vr, vt, vv, .slice A_d d.length c_d, vw, vp, vl] 37)
  have hc := h0.cell
  have HB := Lib.hid h0
  clear h0
  have HE := Lib.hid hE
  clear hE
  go_enter Tryz.func16, Tryz.ntmps16
  go_wp2_with (first | (go_at_call 36; refine (number_w 4 (by omega) _ HB.out (by first | omega | (simp only [List.length_append, List.length_nil, List.length_cons, txt, sby_length, numB_len]; omega))).mono ?_; rintro e w1 ⟨rfl, v1, hn⟩; clear hc; have hc := hn.cell; clear hx8; have hx8 := box_at hn.buf.bel 8 (.slice A_d d.length c_d) rfl; clear hx1; have hx1 := box_at hn.buf.bel 1 (.string a) rfl; replace HB := Lib.hid hn; clear hn) | (go_at_call 37; refine (bytes_w HB.out (HRd.out.ext HB.out.buf.bel) (by first | omega | (simp only [List.length_append, List.length_nil, List.length_cons, txt, sby_length, numB_len]; omega))).mono ?_; rintro e w1 ⟨rfl, v1, hn⟩; clear hc; have hc := hn.cell; clear hx8; have hx8 := box_at hn.buf.bel 8 (.slice A_d d.length c_d) rfl; clear hx1; have hx1 := box_at hn.buf.bel 1 (.string a) rfl; replace HB := Lib.hid hn; clear hn) | (go_at_call 38; refine (text_w _ HB.out (by first | omega | (simp only [List.length_append, List.length_nil, List.length_cons, txt, sby_length, numB_len]; omega))).mono ?_; rintro e w1 ⟨rfl, v1, hn⟩; clear hc; have hc := hn.cell; clear hx8; have hx8 := box_at hn.buf.bel 8 (.slice A_d d.length c_d) rfl; clear hx1; have hx1 := box_at hn.buf.bel 1 (.string a) rfl; replace HB := Lib.hid hn; clear hn))
  go_ret
  exact gave_of HB.out (by have hz := HE.out; subst hz; first | done | (simp only [List.nil_append, List.append_assoc, List.append_nil]))

set_option maxRecDepth 100000 in
set_option maxHeartbeats 1000000 in
theorem body31 (a b : ByteArray) (n : Int) (vf vr vt vv vd vw vp vl : Value) (w : World)  (R : List Int) (hE : numB 3 4 = R) :
    Calls Tryz.prog 16 #[.agg #[.int .i64 31, .string a, .string b, .int .u32 n, vf, vr, vt, vv, vd, vw, vp, vl]] w (Gave w R) := by
  have h0 := Wr.start1 w (.cells #[.int .i64 31, .string a, .string b, .int .u32 n, vf, vr, vt, vv, vd, vw, vp, vl] 37)
  have hc := h0.cell
  have HB := Lib.hid h0
  clear h0
  have HE := Lib.hid hE
  clear hE
  go_enter Tryz.func16, Tryz.ntmps16
  go_wp2_with (first | (go_at_call 36; refine (number_w 4 (by omega) _ HB.out (by first | omega | (simp only [List.length_append, List.length_nil, List.length_cons, txt, sby_length, numB_len]; omega))).mono ?_; rintro e w1 ⟨rfl, v1, hn⟩; clear hc; have hc := hn.cell; replace HB := Lib.hid hn; clear hn))
  go_ret
  exact gave_of HB.out (by have hz := HE.out; subst hz; first | done | (simp only [List.nil_append, List.append_assoc, List.append_nil]))

set_option maxRecDepth 100000 in
set_option maxHeartbeats 1000000 in
theorem body38 (a b : ByteArray) (n : Int) (vf vr vt vv vd vw vp vl : Value) (w : World) (hn : 0 ≤ n ∧ n < 4294967296) (A_d : Option Addr) (c_d : Nat) (d : List Int) (hvd : vd = .slice A_d d.length c_d) (hrd : RdB w (.slice A_d d.length c_d) d) (hld : d.length ≤ 3000) (R : List Int) (hE : numB n 4 ++ d = R) :
    Calls Tryz.prog 16 #[.agg #[.int .i64 38, .string a, .string b, .int .u32 n, vf, vr, vt, vv, vd, vw, vp, vl]] w (Gave w R) := by
  subst hvd
  have HRd := Lib.hid (hrd.ext (ext_alloc w (.cells #[.int .i64 38, .string a, .string b, .int .u32 n, vf, vr, vt, vv, .slice A_d d.length c_d, vw, vp, vl] 37)))
  clear hrd
  have hwn : wrap64 n = n := by unfold wrap64; omega
  have hx8 : True := trivial
  have hx3 : True := trivial
  have h0 := Wr.start1 w (.cells #[.int .i64 38, .string a, .string b, .int .u32 n, vf, vr, vt, vv, .slice A_d d.length c_d, vw, vp, vl] 37)
  have hc := h0.cell
  have HB := Lib.hid h0
  clear h0
  have HE := Lib.hid hE
  clear hE
  go_enter Tryz.func16, Tryz.ntmps16
  go_wp2_with (first | (go_at_call 36; refine (number_w 4 (by omega) _ HB.out (by first | omega | (simp only [List.length_append, List.length_nil, List.length_cons, txt, sby_length, numB_len]; omega))).mono ?_; rintro e w1 ⟨rfl, v1, hn⟩; clear hc; have hc := hn.cell; clear hx8; have hx8 := box_at hn.buf.bel 8 (.slice A_d d.length c_d) rfl; clear hx3; have hx3 := box_at hn.buf.bel 3 (.int .u32 n) rfl; replace HB := Lib.hid hn; clear hn) | (go_at_call 37; refine (bytes_w HB.out (HRd.out.ext HB.out.buf.bel) (by first | omega | (simp only [List.length_append, List.length_nil, List.length_cons, txt, sby_length, numB_len]; omega))).mono ?_; rintro e w1 ⟨rfl, v1, hn⟩; clear hc; have hc := hn.cell; clear hx8; have hx8 := box_at hn.buf.bel 8 (.slice A_d d.length c_d) rfl; clear hx3; have hx3 := box_at hn.buf.bel 3 (.int .u32 n) rfl; replace HB := Lib.hid hn; clear hn))
  go_ret
  exact gave_of HB.out (by have hz := HE.out; subst hz; first | done | (simp only [List.nil_append, List.append_assoc, List.append_nil]))

set_option maxRecDepth 100000 in
set_option maxHeartbeats 1000000 in
theorem body44 (a b : ByteArray) (n : Int) (vf vr vt vv vd vw vp vl : Value) (w : World) (hn : 0 ≤ n ∧ n < 4294967296) (lf : List Int) (hrf : RdI .i64 w vf lf) (hlf : lf.length ≤ 4294967296) (R : List Int) (hE : numB n 1 ++ (numB (lf.length : Int) 2 ++ lf.flatMap fun n => numB n 2) = R) :
    Calls Tryz.prog 16 #[.agg #[.int .i64 44, .string a, .string b, .int .u32 n, vf, vr, vt, vv, vd, vw, vp, vl]] w (Gave w R) := by
  have HRf := Lib.hid (hrf.ext (ext_alloc w (.cells #[.int .i64 44, .string a, .string b, .int .u32 n, vf, vr, vt, vv, vd, vw, vp, vl] 37)))
  clear hrf
  have hflf := flat_len (fun n => numB n 2) 2 lf fun y _ => Nat.le_of_eq (numB_len y 2)
  have hwn : wrap64 n = n := by unfold wrap64; omega
  have hx4 : True := trivial
  have hx3 : True := trivial
  have h0 := Wr.start1 w (.cells #[.int .i64 44, .string a, .string b, .int .u32 n, vf, vr, vt, vv, vd, vw, vp, vl] 37)
  have hc := h0.cell
  have HB := Lib.hid h0
  clear h0
  have HE := Lib.hid hE
  clear hE
  go_enter Tryz.func16, Tryz.ntmps16
  go_wp2_with (first | (go_at_call 36; refine (number_w 1 (by omega) _ HB.out (by first | omega | (simp only [List.length_append, List.length_nil, List.length_cons, txt, sby_length, numB_len]; omega))).mono ?_; rintro e w1 ⟨rfl, v1, hn⟩; clear hc; have hc := hn.cell; clear hx4; have hx4 := box_at hn.buf.bel 4 (vf) rfl; clear hx3; have hx3 := box_at hn.buf.bel 3 (.int .u32 n) rfl; replace HB := Lib.hid hn; clear hn) | (go_at_call 39; refine (shorts_w lf HB.out HRf.out (by first | omega | (simp only [List.length_append, List.length_nil, List.length_cons, txt, sby_length, numB_len]; omega))).mono ?_; rintro e w1 ⟨rfl, v1, hn⟩; clear hc; have hc := hn.cell; clear hx4; have hx4 := box_at hn.buf.bel 4 (vf) rfl; clear hx3; have hx3 := box_at hn.buf.bel 3 (.int .u32 n) rfl; replace HB := Lib.hid hn; clear hn; clear HRf))
  go_ret
  exact gave_of HB.out (by have hz := HE.out; subst hz; first | done | (simp only [List.nil_append, List.append_assoc, List.append_nil]))

set_option maxRecDepth 100000 in
set_option maxHeartbeats 1000000 in
theorem body53 (a b : ByteArray) (n : Int) (vf vr vt vv vd vw vp vl : Value) (w : World) (hsa : a.size ≤ 1000) (hsb : b.size ≤ 1000) (R : List Int) (hE : txt a ++ txt b = R) :
    Calls Tryz.prog 16 #[.agg #[.int .i64 53, .string a, .string b, .int .u32 n, vf, vr, vt, vv, vd, vw, vp, vl]] w (Gave w R) := by
  have hx1 : True := trivial
  have hx2 : True := trivial
  have h0 := Wr.start1 w (.cells #[.int .i64 53, .string a, .string b, .int .u32 n, vf, vr, vt, vv, vd, vw, vp, vl] 37)
  have hc := h0.cell
  have HB := Lib.hid h0
  clear h0
  have HE := Lib.hid hE
  clear hE
  go_enter Tryz.func16, Tryz.ntmps16
  go_wp2_with (first | (go_at_call 38; refine (text_w _ HB.out (by first | omega | (simp only [List.length_append, List.length_nil, List.length_cons, txt, sby_length, numB_len]; omega))).mono ?_; rintro e w1 ⟨rfl, v1, hn⟩; clear hc; have hc := hn.cell; clear hx1; have hx1 := box_at hn.buf.bel 1 (.string a) rfl; clear hx2; have hx2 := box_at hn.buf.bel 2 (.string b) rfl; replace HB := Lib.hid hn; clear hn))
  go_ret
  exact gave_of HB.out (by have hz := HE.out; subst hz; first | done | (simp only [List.nil_append, List.append_assoc, List.append_nil]))

end Go.Proofs.YtdenjanihikolaaGreatDoor

namespace Go.Proofs.YtdenjanihikolaaGreatDoor
open Go.RowKit Og
set_option linter.unusedVariables false
set_option linter.unusedSimpArgs false

set_option maxRecDepth 100000 in
set_option maxHeartbeats 1000000 in
theorem body3 (a b : ByteArray) (n : Int) (vf vr vt vv vd vw vp vl : Value) (w : World) (A_d : Option Addr) (c_d : Nat) (d : List Int) (hvd : vd = .slice A_d d.length c_d) (hrd : RdB w (.slice A_d d.length c_d) d) (hld : d.length ≤ 3000) (R : List Int) (hE : d = R) :
    Calls Tryz.prog 16 #[.agg #[.int .i64 3, .string a, .string b, .int .u32 n, vf, vr, vt, vv, vd, vw, vp, vl]] w (Gave w R) := by
  subst hvd
  have HRd := Lib.hid (hrd.ext (ext_alloc w (.cells #[.int .i64 3, .string a, .string b, .int .u32 n, vf, vr, vt, vv, .slice A_d d.length c_d, vw, vp, vl] 37)))
  clear hrd
  have hx8 : True := trivial
  have h0 := Wr.start1 w (.cells #[.int .i64 3, .string a, .string b, .int .u32 n, vf, vr, vt, vv, .slice A_d d.length c_d, vw, vp, vl] 37)
  have hc := h0.cell
  have HB := Lib.hid h0
  clear h0
  have HE := Lib.hid hE
  clear hE
  go_enter Tryz.func16, Tryz.ntmps16
  go_wp2_with (first | (go_at_call 37; refine (bytes_w HB.out (HRd.out.ext HB.out.buf.bel) (by first | omega | (simp only [List.length_append, List.length_nil, List.length_cons, txt, sby_length, numB_len]; omega))).mono ?_; rintro e w1 ⟨rfl, v1, hn⟩; clear hc; have hc := hn.cell; clear hx8; have hx8 := box_at hn.buf.bel 8 (.slice A_d d.length c_d) rfl; replace HB := Lib.hid hn; clear hn))
  go_ret
  exact gave_of HB.out (by have hz := HE.out; subst hz; first | done | (simp only [List.nil_append, List.append_assoc, List.append_nil]))

set_option maxRecDepth 100000 in
set_option maxHeartbeats 1000000 in
theorem body10 (a b : ByteArray) (n : Int) (vf vr vt vv vd vw vp vl : Value) (w : World)  (R : List Int) (hE : numB 80877104 4 = R) :
    Calls Tryz.prog 16 #[.agg #[.int .i64 10, .string a, .string b, .int .u32 n, vf, vr, vt, vv, vd, vw, vp, vl]] w (Gave w R) := by
  have h0 := Wr.start1 w (.cells #[.int .i64 10, .string a, .string b, .int .u32 n, vf, vr, vt, vv, vd, vw, vp, vl] 37)
  have hc := h0.cell
  have HB := Lib.hid h0
  clear h0
  have HE := Lib.hid hE
  clear hE
  go_enter Tryz.func16, Tryz.ntmps16
  go_wp2_with (first | (go_at_call 36; refine (number_w 4 (by omega) _ HB.out (by first | omega | (simp only [List.length_append, List.length_nil, List.length_cons, txt, sby_length, numB_len]; omega))).mono ?_; rintro e w1 ⟨rfl, v1, hn⟩; clear hc; have hc := hn.cell; replace HB := Lib.hid hn; clear hn))
  go_ret
  exact gave_of HB.out (by have hz := HE.out; subst hz; first | done | (simp only [List.nil_append, List.append_assoc, List.append_nil]))

set_option maxRecDepth 100000 in
set_option maxHeartbeats 1000000 in
theorem body16 (a b : ByteArray) (n : Int) (vf vr vt vv vd vw vp vl : Value) (w : World) (A_d : Option Addr) (c_d : Nat) (d : List Int) (hvd : vd = .slice A_d d.length c_d) (hrd : RdB w (.slice A_d d.length c_d) d) (hld : d.length ≤ 3000) (R : List Int) (hE : d = R) :
    Calls Tryz.prog 16 #[.agg #[.int .i64 16, .string a, .string b, .int .u32 n, vf, vr, vt, vv, vd, vw, vp, vl]] w (Gave w R) := by
  subst hvd
  have HRd := Lib.hid (hrd.ext (ext_alloc w (.cells #[.int .i64 16, .string a, .string b, .int .u32 n, vf, vr, vt, vv, .slice A_d d.length c_d, vw, vp, vl] 37)))
  clear hrd
  have hx8 : True := trivial
  have h0 := Wr.start1 w (.cells #[.int .i64 16, .string a, .string b, .int .u32 n, vf, vr, vt, vv, .slice A_d d.length c_d, vw, vp, vl] 37)
  have hc := h0.cell
  have HB := Lib.hid h0
  clear h0
  have HE := Lib.hid hE
  clear hE
  go_enter Tryz.func16, Tryz.ntmps16
  go_wp2_with (first | (go_at_call 37; refine (bytes_w HB.out (HRd.out.ext HB.out.buf.bel) (by first | omega | (simp only [List.length_append, List.length_nil, List.length_cons, txt, sby_length, numB_len]; omega))).mono ?_; rintro e w1 ⟨rfl, v1, hn⟩; clear hc; have hc := hn.cell; clear hx8; have hx8 := box_at hn.buf.bel 8 (.slice A_d d.length c_d) rfl; replace HB := Lib.hid hn; clear hn))
  go_ret
  exact gave_of HB.out (by have hz := HE.out; subst hz; first | done | (simp only [List.nil_append, List.append_assoc, List.append_nil]))

set_option maxRecDepth 100000 in
set_option maxHeartbeats 1000000 in
theorem body32 (a b : ByteArray) (n : Int) (vf vr vt vv vd vw vp vl : Value) (w : World) (A_d : Option Addr) (c_d : Nat) (d : List Int) (hvd : vd = .slice A_d d.length c_d) (hrd : RdB w (.slice A_d d.length c_d) d) (hld : d.length ≤ 3000) (R : List Int) (hE : numB 5 4 ++ d = R) :
    Calls Tryz.prog 16 #[.agg #[.int .i64 32, .string a, .string b, .int .u32 n, vf, vr, vt, vv, vd, vw, vp, vl]] w (Gave w R) := by
  subst hvd
  have HRd := Lib.hid (hrd.ext (ext_alloc w (.cells #[.int .i64 32, .string a, .string b, .int .u32 n, vf, vr, vt, vv, .slice A_d d.length c_d, vw, vp, vl] 37)))
  clear hrd
  have hx8 : True := trivial
  have h0 := Wr.start1 w (.cells #[.int .i64 32, .string a, .string b, .int .u32 n, vf, vr, vt, vv, .slice A_d d.length c_d, vw, vp, vl] 37)
  have hc := h0.cell
  have HB := Lib.hid h0
  clear h0
  have HE := Lib.hid hE
  clear hE
  go_enter Tryz.func16, Tryz.ntmps16
  go_wp2_with (first | (go_at_call 36; refine (number_w 4 (by omega) _ HB.out (by first | omega | (simp only [List.length_append, List.length_nil, List.length_cons, txt, sby_length, numB_len]; omega))).mono ?_; rintro e w1 ⟨rfl, v1, hn⟩; clear hc; have hc := hn.cell; clear hx8; have hx8 := box_at hn.buf.bel 8 (.slice A_d d.length c_d) rfl; replace HB := Lib.hid hn; clear hn) | (go_at_call 37; refine (bytes_w HB.out (HRd.out.ext HB.out.buf.bel) (by first | omega | (simp only [List.length_append, List.length_nil, List.length_cons, txt, sby_length, numB_len]; omega))).mono ?_; rintro e w1 ⟨rfl, v1, hn⟩; clear hc; have hc := hn.cell; clear hx8; have hx8 := box_at hn.buf.bel 8 (.slice A_d d.length c_d) rfl; replace HB := Lib.hid hn; clear hn))
  go_ret
  exact gave_of HB.out (by have hz := HE.out; subst hz; first | done | (simp only [List.nil_append, List.append_assoc, List.append_nil]))

set_option maxRecDepth 100000 in
set_option maxHeartbeats 1000000 in
theorem body39 (a b : ByteArray) (n : Int) (vf vr vt vv vd vw vp vl : Value) (w : World)  (R : List Int) (hE : [] = R) :
    Calls Tryz.prog 16 #[.agg #[.int .i64 39, .string a, .string b, .int .u32 n, vf, vr, vt, vv, vd, vw, vp, vl]] w (Gave w R) := by
  have h0 := Wr.start1 w (.cells #[.int .i64 39, .string a, .string b, .int .u32 n, vf, vr, vt, vv, vd, vw, vp, vl] 37)
  have hc := h0.cell
  have HB := Lib.hid h0
  clear h0
  have HE := Lib.hid hE
  clear hE
  go_enter Tryz.func16, Tryz.ntmps16
  go_wp2
  go_ret
  exact gave_of HB.out (by have hz := HE.out; subst hz; first | done | (simp only [List.nil_append, List.append_assoc, List.append_nil]))

set_option maxRecDepth 100000 in
set_option maxHeartbeats 1000000 in
theorem body45 (a b : ByteArray) (n : Int) (vf vr vt vv vd vw vp vl : Value) (w : World) (vls : List (Bool × List Int)) (hrv : RdM 2 isVal w vv vls) (hlv : vls.length ≤ 1000) (hmv : ∀ y ∈ vls, y.2.length ≤ 2000) (R : List Int) (hE : (numB (vls.length : Int) 2 ++ vls.flatMap fun x => valB x.1 x.2) = R) :
    Calls Tryz.prog 16 #[.agg #[.int .i64 45, .string a, .string b, .int .u32 n, vf, vr, vt, vv, vd, vw, vp, vl]] w (Gave w R) := by
  have hfv := flat_len (fun x : Bool × List Int => valB x.1 x.2) 2004 vls fun y hy => Nat.le_trans (valB_len y) (by have := hmv y hy; omega)
  have HRv := Lib.hid (hrv.ext (ext_alloc w (.cells #[.int .i64 45, .string a, .string b, .int .u32 n, vf, vr, vt, vv, vd, vw, vp, vl] 37)) (isVal.ext (ext_alloc w (.cells #[.int .i64 45, .string a, .string b, .int .u32 n, vf, vr, vt, vv, vd, vw, vp, vl] 37))))
  clear hrv
  have HMv := Lib.hid hmv
  clear hmv
  have hx7 : True := trivial
  have h0 := Wr.start1 w (.cells #[.int .i64 45, .string a, .string b, .int .u32 n, vf, vr, vt, vv, vd, vw, vp, vl] 37)
  have hc := h0.cell
  have HB := Lib.hid h0
  clear h0
  have HE := Lib.hid hE
  clear hE
  go_enter Tryz.func16, Tryz.ntmps16
  go_wp2_with (first | (go_at_call 40; refine (values_w vls HB.out HRv.out HMv.out (by first | omega | (simp only [List.length_append, List.length_nil, List.length_cons, txt, sby_length, numB_len]; omega))).mono ?_; rintro e w1 ⟨rfl, v1, hn⟩; clear hc; have hc := hn.cell; clear hx7; have hx7 := box_at hn.buf.bel 7 (vv) rfl; replace HB := Lib.hid hn; clear hn))
  go_ret
  exact gave_of HB.out (by have hz := HE.out; subst hz; first | done | (simp only [List.nil_append, List.append_assoc, List.append_nil]))

set_option maxRecDepth 100000 in
set_option maxHeartbeats 1000000 in
theorem body54 (a b : ByteArray) (n : Int) (vf vr vt vv vd vw vp vl : Value) (w : World)  (R : List Int) (hE : [] = R) :
    Calls Tryz.prog 16 #[.agg #[.int .i64 54, .string a, .string b, .int .u32 n, vf, vr, vt, vv, vd, vw, vp, vl]] w (Gave w R) := by
  have h0 := Wr.start1 w (.cells #[.int .i64 54, .string a, .string b, .int .u32 n, vf, vr, vt, vv, vd, vw, vp, vl] 37)
  have hc := h0.cell
  have HB := Lib.hid h0
  clear h0
  have HE := Lib.hid hE
  clear hE
  go_enter Tryz.func16, Tryz.ntmps16
  go_wp2
  go_ret
  exact gave_of HB.out (by have hz := HE.out; subst hz; first | done | (simp only [List.nil_append, List.append_assoc, List.append_nil]))

end Go.Proofs.YtdenjanihikolaaGreatDoor

