/- Bodies of the messages of the reference, by contract. -/
import Derived.Test.YtdenjanihikolaaGreatDoorBda
namespace Go.Proofs.YtdenjanihikolaaGreatDoor
open Go.RowKit Og
set_option linter.unusedVariables false
set_option linter.unusedSimpArgs false

set_option maxRecDepth 100000 in
set_option maxHeartbeats 1000000 in
theorem body4 (a b : ByteArray) (n : Int) (vf vr vt vv vd vw vp vl : Value) (w : World)  (R : List Int) (hE : [] = R) :
    Calls Tryz.prog 16 #[.agg #[.int .i64 4, .string a, .string b, .int .u32 n, vf, vr, vt, vv, vd, vw, vp, vl]] w (Gave w R) := by
  have h0 := Wr.start1 w (.cells #[.int .i64 4, .string a, .string b, .int .u32 n, vf, vr, vt, vv, vd, vw, vp, vl] 37)
  have hc := h0.cell
  have HB := Lib.hid h0
  clear h0
  have HE := Lib.hid hE
  clear hE
  go_enter Tryz.func16, Tryz.ntmps16
  go_wp2
  go_ret
  exact gave_of HB.out (by have hz := HE.out; subst hz; first | done | (simp only [List.nil_append, List.append_assoc, List.append_nil]))

set_option maxRecDepth 100000 in
set_option maxHeartbeats 1000000 in
theorem body11 (a b : ByteArray) (n : Int) (vf vr vt vv vd vw vp vl : Value) (w : World) (A_d : Option Addr) (c_d : Nat) (d : List Int) (hvd : vd = .slice A_d d.length c_d) (hrd : RdB w (.slice A_d d.length c_d) d) (hld : d.length ≤ 3000) (R : List Int) (hE : d = R) :
    Calls Tryz.prog 16 #[.agg #[.int .i64 11, .string a, .string b, .int .u32 n, vf, vr, vt, vv, vd, vw, vp, vl]] w (Gave w R) := by
  subst hvd
  have HRd := Lib.hid (hrd.ext (ext_alloc w (.cells #[.int .i64 11, .string a, .string b, .int .u32 n, vf, vr, vt, vv, .slice A_d d.length c_d, vw, vp, vl] 37)))
  clear hrd
  have hx8 : True := trivial
  have h0 := Wr.start1 w (.cells #[.int .i64 11, .string a, .string b, .int .u32 n, vf, vr, vt, vv, .slice A_d d.length c_d, vw, vp, vl] 37)
  have hc := h0.cell
  have HB := Lib.hid h0
  clear h0
  have HE := Lib.hid hE
  clear hE
  go_enter Tryz.func16, Tryz.ntmps16
  go_wp2_with (first | (go_at_call 37; refine (bytes_w HB.out (HRd.out.ext HB.out.buf.bel) (by first | omega | (simp only [List.length_append, List.length_nil, List.length_cons, txt, sby_length, numB_len]; omega))).mono ?_; rintro e w1 ⟨rfl, v1, hn⟩; clear hc; have hc := hn.cell; clear hx8; have hx8 := box_at hn.buf.bel 8 (.slice A_d d.length c_d) rfl; replace HB := Lib.hid hn; clear hn))
  go_ret
  exact gave_of HB.out (by have hz := HE.out; subst hz; first | done | (simp only [List.nil_append, List.append_assoc, List.append_nil]))

set_option maxRecDepth 100000 in
set_option maxHeartbeats 1000000 in
theorem body17 (a b : ByteArray) (n : Int) (vf vr vt vv vd vw vp vl : Value) (w : World)  (R : List Int) (hE : numB 80877103 4 = R) :
    Calls Tryz.prog 16 #[.agg #[.int .i64 17, .string a, .string b, .int .u32 n, vf, vr, vt, vv, vd, vw, vp, vl]] w (Gave w R) := by
  have h0 := Wr.start1 w (.cells #[.int .i64 17, .string a, .string b, .int .u32 n, vf, vr, vt, vv, vd, vw, vp, vl] 37)
  have hc := h0.cell
  have HB := Lib.hid h0
  clear h0
  have HE := Lib.hid hE
  clear hE
  go_enter Tryz.func16, Tryz.ntmps16
  go_wp2_with (first | (go_at_call 36; refine (number_w 4 (by omega) _ HB.out (by first | omega | (simp only [List.length_append, List.length_nil, List.length_cons, txt, sby_length, numB_len]; omega))).mono ?_; rintro e w1 ⟨rfl, v1, hn⟩; clear hc; have hc := hn.cell; replace HB := Lib.hid hn; clear hn))
  go_ret
  exact gave_of HB.out (by have hz := HE.out; subst hz; first | done | (simp only [List.nil_append, List.append_assoc, List.append_nil]))

set_option maxRecDepth 100000 in
set_option maxHeartbeats 1000000 in
theorem body33 (a b : ByteArray) (n : Int) (vf vr vt vv vd vw vp vl : Value) (w : World)  (R : List Int) (hE : numB 7 4 = R) :
    Calls Tryz.prog 16 #[.agg #[.int .i64 33, .string a, .string b, .int .u32 n, vf, vr, vt, vv, vd, vw, vp, vl]] w (Gave w R) := by
  have h0 := Wr.start1 w (.cells #[.int .i64 33, .string a, .string b, .int .u32 n, vf, vr, vt, vv, vd, vw, vp, vl] 37)
  have hc := h0.cell
  have HB := Lib.hid h0
  clear h0
  have HE := Lib.hid hE
  clear hE
  go_enter Tryz.func16, Tryz.ntmps16
  go_wp2_with (first | (go_at_call 36; refine (number_w 4 (by omega) _ HB.out (by first | omega | (simp only [List.length_append, List.length_nil, List.length_cons, txt, sby_length, numB_len]; omega))).mono ?_; rintro e w1 ⟨rfl, v1, hn⟩; clear hc; have hc := hn.cell; replace HB := Lib.hid hn; clear hn))
  go_ret
  exact gave_of HB.out (by have hz := HE.out; subst hz; first | done | (simp only [List.nil_append, List.append_assoc, List.append_nil]))

set_option maxRecDepth 100000 in
set_option maxHeartbeats 1000000 in
theorem body40 (a b : ByteArray) (n : Int) (vf vr vt vv vd vw vp vl : Value) (w : World)  (R : List Int) (hE : [] = R) :
    Calls Tryz.prog 16 #[.agg #[.int .i64 40, .string a, .string b, .int .u32 n, vf, vr, vt, vv, vd, vw, vp, vl]] w (Gave w R) := by
  have h0 := Wr.start1 w (.cells #[.int .i64 40, .string a, .string b, .int .u32 n, vf, vr, vt, vv, vd, vw, vp, vl] 37)
  have hc := h0.cell
  have HB := Lib.hid h0
  clear h0
  have HE := Lib.hid hE
  clear hE
  go_enter Tryz.func16, Tryz.ntmps16
  go_wp2
  go_ret
  exact gave_of HB.out (by have hz := HE.out; subst hz; first | done | (simp only [List.nil_append, List.append_assoc, List.append_nil]))

set_option maxRecDepth 100000 in
set_option maxHeartbeats 1000000 in
theorem body46 (a b : ByteArray) (n : Int) (vf vr vt vv vd vw vp vl : Value) (w : World)  (R : List Int) (hE : [] = R) :
    Calls Tryz.prog 16 #[.agg #[.int .i64 46, .string a, .string b, .int .u32 n, vf, vr, vt, vv, vd, vw, vp, vl]] w (Gave w R) := by
  have h0 := Wr.start1 w (.cells #[.int .i64 46, .string a, .string b, .int .u32 n, vf, vr, vt, vv, vd, vw, vp, vl] 37)
  have hc := h0.cell
  have HB := Lib.hid h0
  clear h0
  have HE := Lib.hid hE
  clear hE
  go_enter Tryz.func16, Tryz.ntmps16
  go_wp2
  go_ret
  exact gave_of HB.out (by have hz := HE.out; subst hz; first | done | (simp only [List.nil_append, List.append_assoc, List.append_nil]))

set_option maxRecDepth 100000 in
set_option maxHeartbeats 1000000 in
theorem body55 (a b : ByteArray) (n : Int) (vf vr vt vv vd vw vp vl : Value) (w : World)  (R : List Int) (hE : [] = R) :
    Calls Tryz.prog 16 #[.agg #[.int .i64 55, .string a, .string b, .int .u32 n, vf, vr, vt, vv, vd, vw, vp, vl]] w (Gave w R) := by
  have h0 := Wr.start1 w (.cells #[.int .i64 55, .string a, .string b, .int .u32 n, vf, vr, vt, vv, vd, vw, vp, vl] 37)
  have hc := h0.cell
  have HB := Lib.hid h0
  clear h0
  have HE := Lib.hid hE
  clear hE
  go_enter Tryz.func16, Tryz.ntmps16
  go_wp2
  go_ret
  exact gave_of HB.out (by have hz := HE.out; subst hz; first | done | (simp only [List.nil_append, List.append_assoc, List.append_nil]))

end Go.Proofs.YtdenjanihikolaaGreatDoor
