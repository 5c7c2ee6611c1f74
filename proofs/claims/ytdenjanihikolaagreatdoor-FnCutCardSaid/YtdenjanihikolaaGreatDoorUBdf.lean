/- Bodies of the messages of the reference, by contract. -/
import Derived.Test.YtdenjanihikolaaGreatDoorUWrc
namespace Go.Proofs.YtdenjanihikolaaGreatDoor
open Go.RowKit Og
set_option linter.unusedVariables false
set_option linter.unusedSimpArgs false

set_option maxRecDepth 100000 in
set_option maxHeartbeats 1000000 in
theorem body4 (a b : ByteArray) (n : Int) (vf vr vt vv vd vw vp vl : Value) (w : World)  (R : List Int) (hE : [] = R) :
    Calls Tryz.prog 16 #[.agg #[.int .i64 4, .string a, .string b, .int .u32 n, vf, vr, vt, vv, vd, vw, vp, vl]] w (Gave w R) := by
  have h0 := Wr.start1 w (.cells #[.int .i64 4, .string a, .string b, .int .u32 n, vf, vr, vt, vv, vd, vw, vp, vl] 37)
  have hc := h0.cell
  have HB := Lib.hid h0
  clear h0
  have HE := Lib.hid hE
  clear hE
  go_enter Tryz.func16, Tryz.ntmps16
  go_wp2
  go_ret
  exact gave_of HB.out (by have hz := HE.out; subst hz; first | done | (simp only [List.nil_append, List.append_assoc, List.append_nil]))

set_option maxRecDepth 100000 in
set_option maxHeartbeats 1000000 in
theorem body11 (a b : ByteArray) (n : Int) (vf vr vt vv vd vw vp vl : Value) (w : World) (A_d : Option Addr) (c_d : Nat) (d : List Int) (hvd : vd = .slice A_d d.length c_d) (hrd : RdB w (.slice A_d d.length c_d) d) (hld : d.length ≤ 3000) (R : List Int) (hE : d = R) :
    Calls Tryz.prog 16 #[.agg #[.int .i64 11, .string a, .string b, .int .u32 n, vf, vr, vt, vv, vd, vw, vp, vl]] w (Gave w R) := by
  subst hvd
  have HRd := Lib.hid (hrd.ext (ext_alloc w (.cells #[.int .i64 11, .string a, .string b, .int .u32 n, vf, vr, vt, vv, .slice A_d d.length c_d, vw, vp, vl] 37)))
  clear hrd
  have hx8 : True := trivial
  have h0 := Wr.start1 w (.cells #[.int .i64 11, .string a, .string b, .int .u32 n, vf, vr, vt, vv, .slice A_d d.length c_d, vw, vp, vl] 37)
  have hc := h0.cell
  have HB := Lib.hid h0
  clear h0
  have HE := Lib.hid hE
  clear hE
  go_enter Tryz.func16, Tryz.ntmps16
  go_wp2_with (first | (go_at_call 37; refine (bytes_w HB.out (HRd.out.ext HB.out.buf.bel) (by first | omega | (simp only [List.length_append, List.length_nil, List.length_cons, txt, sby_length, numB_len]; omega))).mono ?_; rintro e w1 ⟨rfl, v1, hn⟩; clear hc; have hc := hn.cell; clear hx8; have hx8 := box_at hn.buf.bel 8 (.slice A_d d.length c_d) rfl; replace HB := Lib.hid hn; clear hn))
  go_ret
  exact gave_of HB.out (by have hz := HE.out; subst hz; first | done | (simp only [List.nil_append, List.append_assoc, List.append_nil]))

set_option maxRecDepth 100000 in
set_option maxHeartbeats 1000000 in
theorem body17 (a b : ByteArray) (n : Int) (vf vr vt vv vd vw vp vl : Value) (w : World)  (R : List Int) (hE : numB 80877103 4 = R) :
    Calls Tryz.prog 16 #[.agg #[.int .i64 17, .string a, .string b, .int .u32 n, vf, vr, vt, vv, vd, vw, vp, vl]] w (Gave w R) := by
  have h0 := Wr.start1 w (.cells #[.int .i64 17, .string a, .string b, .int .u32 n, vf, vr, vt, vv, vd, vw, vp, vl] 37)
  have hc := h0.cell
  have HB := Lib.hid h0
  clear h0
  have HE := Lib.hid hE
  clear hE
  go_enter Tryz.func16, Tryz.ntmps16
  go_wp2_with (first | (go_at_call 36; refine (number_w 4 (by omega) _ HB.out (by first | omega | (simp only [List.length_append, List.length_nil, List.length_cons, txt, sby_length, numB_len]; omega))).mono ?_; rintro e w1 ⟨rfl, v1, hn⟩; clear hc; have hc := hn.cell; replace HB := Lib.hid hn; clear hn))
  go_ret
  exact gave_of HB.out (by have hz := HE.out; subst hz; first | done | (simp only [List.nil_append, List.append_assoc, List.append_nil]))

set_option maxRecDepth 100000 in
set_option maxHeartbeats 1000000 in
theorem body33 (a b : ByteArray) (n : Int) (vf vr vt vv vd vw vp vl : Value) (w : World)  (R : List Int) (hE : numB 7 4 = R) :
    Calls Tryz.prog 16 #[.agg #[.int .i64 33, .string a, .string b, .int .u32 n, vf, vr, vt, vv, vd, vw, vp, vl]] w (Gave w R) := by
  have h0 := Wr.start1 w (.cells #[.int .i64 33, .string a, .string b, .int .u32 n, vf, vr, vt, vv, vd, vw, vp, vl] 37)
  have hc := h0.cell
  have HB := Lib.hid h0
  clear h0
  have HE := Lib.hid hE
  clear hE
  go_enter Tryz.func16, Tryz.ntmps16
  go_wp2_with (first | (go_at_call 36; refine (number_w 4 (by omega) _ HB.out (by first | omega | (simp only [List.length_append, List.length_nil, List.length_cons, txt, sby_length, numB_len]; omega))).mono ?_; rintro e w1 ⟨rfl, v1, hn⟩; clear hc; have hc := hn.cell; replace HB := Lib.hid hn; clear hn))
  go_ret
  exact gave_of HB.out (by have hz := HE.out; subst hz; first | done | (simp only [List.nil_append, List.append_assoc, List.append_nil]))

set_option maxRecDepth 100000 in
set_option maxHeartbeats 1000000 in
theorem body40 (a b : ByteArray) (n : Int) (vf vr vt vv vd vw vp vl : Value) (w : World)  (R : List Int) (hE : [] = R) :
    Calls Tryz.prog 16 #[.agg #[.int .i64 40, .string a, .string b, .int .u32 n, vf, vr, vt, vv, vd, vw, vp, vl]] w (Gave w R) := by
  have h0 := Wr.start1 w (.cells #[.int .i64 40, .string a, .string b, .int .u32 n, vf, vr, vt, vv, vd, vw, vp, vl] 37)
  have hc := h0.cell
  have HB := Lib.hid h0
  clear h0
  have HE := Lib.hid hE
  clear hE
  go_enter Tryz.func16, Tryz.ntmps16
  go_wp2
  go_ret
  exact gave_of HB.out (by have hz := HE.out; subst hz; first | done | (simp only [List.nil_append, List.append_assoc, List.append_nil]))

set_option maxRecDepth 100000 in
set_option maxHeartbeats 1000000 in
theorem body46 (a b : ByteArray) (n : Int) (vf vr vt vv vd vw vp vl : Value) (w : World)  (R : List Int) (hE : [] = R) :
    Calls Tryz.prog 16 #[.agg #[.int .i64 46, .string a, .string b, .int .u32 n, vf, vr, vt, vv, vd, vw, vp, vl]] w (Gave w R) := by
  have h0 := Wr.start1 w (.cells #[.int .i64 46, .string a, .string b, .int .u32 n, vf, vr, vt, vv, vd, vw, vp, vl] 37)
  have hc := h0.cell
  have HB := Lib.hid h0
  clear h0
  have HE := Lib.hid hE
  clear hE
  go_enter Tryz.func16, Tryz.ntmps16
  go_wp2
  go_ret
  exact gave_of HB.out (by have hz := HE.out; subst hz; first | done | (simp only [List.nil_append, List.append_assoc, List.append_nil]))

set_option maxRecDepth 100000 in
set_option maxHeartbeats 1000000 in
theorem body55 (a b : ByteArray) (n : Int) (vf vr vt vv vd vw vp vl : Value) (w : World)  (R : List Int) (hE : [] = R) :
    Calls Tryz.prog 16 #[.agg #[.int .i64 55, .string a, .string b, .int .u32 n, vf, vr, vt, vv, vd, vw, vp, vl]] w (Gave w R) := by
  have h0 := Wr.start1 w (.cells #[.int .i64 55, .string a, .string b, .int .u32 n, vf, vr, vt, vv, vd, vw, vp, vl] 37)
  have hc := h0.cell
  have HB := Lib.hid h0
  clear h0
  have HE := Lib.hid hE
  clear hE
  go_enter Tryz.func16, Tryz.ntmps16
  go_wp2
  go_ret
  exact gave_of HB.out (by have hz := HE.out; subst hz; first | done | (simp only [List.nil_append, List.append_assoc, List.append_nil]))

end Go.Proofs.YtdenjanihikolaaGreatDoor

namespace Go.Proofs.YtdenjanihikolaaGreatDoor
open Go.RowKit Og
set_option linter.unusedVariables false
set_option linter.unusedSimpArgs false

set_option maxRecDepth 100000 in
set_option maxHeartbeats 1000000 in
theorem body5 (a b : ByteArray) (n : Int) (vf vr vt vv vd vw vp vl : Value) (w : World) (hsa : a.size ≤ 1000) (R : List Int) (hE : txt a = R) :
    Calls Tryz.prog 16 #[.agg #[.int .i64 5, .string a, .string b, .int .u32 n, vf, vr, vt, vv, vd, vw, vp, vl]] w (Gave w R) := by
  have hx1 : True := trivial
  have h0 := Wr.start1 w (.cells #[.int .i64 5, .string a, .string b, .int .u32 n, vf, vr, vt, vv, vd, vw, vp, vl] 37)
  have hc := h0.cell
  have HB := Lib.hid h0
  clear h0
  have HE := Lib.hid hE
  clear hE
  go_enter Tryz.func16, Tryz.ntmps16
  go_wp2_with (first | (go_at_call 38; refine (text_w _ HB.out (by first | omega | (simp only [List.length_append, List.length_nil, List.length_cons, txt, sby_length, numB_len]; omega))).mono ?_; rintro e w1 ⟨rfl, v1, hn⟩; clear hc; have hc := hn.cell; clear hx1; have hx1 := box_at hn.buf.bel 1 (.string a) rfl; replace HB := Lib.hid hn; clear hn))
  go_ret
  exact gave_of HB.out (by have hz := HE.out; subst hz; first | done | (simp only [List.nil_append, List.append_assoc, List.append_nil]))

set_option maxRecDepth 100000 in
set_option maxHeartbeats 1000000 in
theorem body12 (a b : ByteArray) (n : Int) (vf vr vt vv vd vw vp vl : Value) (w : World) (hsa : a.size ≤ 1000) (hsb : b.size ≤ 1000) (ty : List Int) (hrt : RdI .u32 w vt ty) (hlt : ty.length ≤ 4294967296) (hgt : ∀ y ∈ ty, 0 ≤ y ∧ y < 4294967296) (R : List Int) (hE : txt a ++ txt b ++ (numB (ty.length : Int) 2 ++ ty.flatMap fun n => numB n 4) = R) :
    Calls Tryz.prog 16 #[.agg #[.int .i64 12, .string a, .string b, .int .u32 n, vf, vr, vt, vv, vd, vw, vp, vl]] w (Gave w R) := by
  have HRt := Lib.hid (hrt.ext (ext_alloc w (.cells #[.int .i64 12, .string a, .string b, .int .u32 n, vf, vr, vt, vv, vd, vw, vp, vl] 37)))
  clear hrt
  have HGt := Lib.hid hgt
  clear hgt
  have hflt := flat_len (fun n => numB n 4) 4 ty fun y _ => Nat.le_of_eq (numB_len y 4)
  have hx1 : True := trivial
  have hx2 : True := trivial
  have hx6 : True := trivial
  have h0 := Wr.start1 w (.cells #[.int .i64 12, .string a, .string b, .int .u32 n, vf, vr, vt, vv, vd, vw, vp, vl] 37)
  have hc := h0.cell
  have HB := Lib.hid h0
  clear h0
  have HE := Lib.hid hE
  clear hE
  go_enter Tryz.func16, Tryz.ntmps16
  go_wp2_with (first | (go_at_call 38; refine (text_w _ HB.out (by first | omega | (simp only [List.length_append, List.length_nil, List.length_cons, txt, sby_length, numB_len]; omega))).mono ?_; rintro e w1 ⟨rfl, v1, hn⟩; clear hc; have hc := hn.cell; clear hx1; have hx1 := box_at hn.buf.bel 1 (.string a) rfl; clear hx2; have hx2 := box_at hn.buf.bel 2 (.string b) rfl; clear hx6; have hx6 := box_at hn.buf.bel 6 (vt) rfl; replace HB := Lib.hid hn; clear hn) | (go_at_call 41; refine (types_w ty HB.out HRt.out (by first | omega | (simp only [List.length_append, List.length_nil, List.length_cons, txt, sby_length, numB_len]; omega)) HGt.out).mono ?_; rintro e w1 ⟨rfl, v1, hn⟩; clear hc; have hc := hn.cell; clear hx1; have hx1 := box_at hn.buf.bel 1 (.string a) rfl; clear hx2; have hx2 := box_at hn.buf.bel 2 (.string b) rfl; clear hx6; have hx6 := box_at hn.buf.bel 6 (vt) rfl; replace HB := Lib.hid hn; clear hn))
  go_ret
  exact gave_of HB.out (by have hz := HE.out; subst hz; first | done | (simp only [List.nil_append, List.append_assoc, List.append_nil]))

set_option maxRecDepth 100000 in
set_option maxHeartbeats 1000000 in
theorem body19 (a b : ByteArray) (n : Int) (vf vr vt vv vd vw vp vl : Value) (w : World)  (R : List Int) (hE : [] = R) :
    Calls Tryz.prog 16 #[.agg #[.int .i64 19, .string a, .string b, .int .u32 n, vf, vr, vt, vv, vd, vw, vp, vl]] w (Gave w R) := by
  have h0 := Wr.start1 w (.cells #[.int .i64 19, .string a, .string b, .int .u32 n, vf, vr, vt, vv, vd, vw, vp, vl] 37)
  have hc := h0.cell
  have HB := Lib.hid h0
  clear h0
  have HE := Lib.hid hE
  clear hE
  go_enter Tryz.func16, Tryz.ntmps16
  go_wp2
  go_ret
  exact gave_of HB.out (by have hz := HE.out; subst hz; first | done | (simp only [List.nil_append, List.append_assoc, List.append_nil]))

set_option maxRecDepth 100000 in
set_option maxHeartbeats 1000000 in
theorem body34 (a b : ByteArray) (n : Int) (vf vr vt vv vd vw vp vl : Value) (w : World) (A_d : Option Addr) (c_d : Nat) (d : List Int) (hvd : vd = .slice A_d d.length c_d) (hrd : RdB w (.slice A_d d.length c_d) d) (hld : d.length ≤ 3000) (R : List Int) (hE : numB 8 4 ++ d = R) :
    Calls Tryz.prog 16 #[.agg #[.int .i64 34, .string a, .string b, .int .u32 n, vf, vr, vt, vv, vd, vw, vp, vl]] w (Gave w R) := by
  subst hvd
  have HRd := Lib.hid (hrd.ext (ext_alloc w (.cells #[.int .i64 34, .string a, .string b, .int .u32 n, vf, vr, vt, vv, .slice A_d d.length c_d, vw, vp, vl] 37)))
  clear hrd
  have hx8 : True := trivial
  have h0 := Wr.start1 w (.cells #[.int .i64 34, .string a, .string b, .int .u32 n, vf, vr, vt, vv, .slice A_d d.length c_d, vw, vp, vl] 37)
  have hc := h0.cell
  have HB := Lib.hid h0
  clear h0
  have HE := Lib.hid hE
  clear hE
  go_enter Tryz.func16, Tryz.ntmps16
  go_wp2_with (first | (go_at_call 36; refine (number_w 4 (by omega) _ HB.out (by first | omega | (simp only [List.length_append, List.length_nil, List.length_cons, txt, sby_length, numB_len]; omega))).mono ?_; rintro e w1 ⟨rfl, v1, hn⟩; clear hc; have hc := hn.cell; clear hx8; have hx8 := box_at hn.buf.bel 8 (.slice A_d d.length c_d) rfl; replace HB := Lib.hid hn; clear hn) | (go_at_call 37; refine (bytes_w HB.out (HRd.out.ext HB.out.buf.bel) (by first | omega | (simp only [List.length_append, List.length_nil, List.length_cons, txt, sby_length, numB_len]; omega))).mono ?_; rintro e w1 ⟨rfl, v1, hn⟩; clear hc; have hc := hn.cell; clear hx8; have hx8 := box_at hn.buf.bel 8 (.slice A_d d.length c_d) rfl; replace HB := Lib.hid hn; clear hn))
  go_ret
  exact gave_of HB.out (by have hz := HE.out; subst hz; first | done | (simp only [List.nil_append, List.append_assoc, List.append_nil]))

set_option maxRecDepth 100000 in
set_option maxHeartbeats 1000000 in
theorem body41 (a b : ByteArray) (n : Int) (vf vr vt vv vd vw vp vl : Value) (w : World) (hsa : a.size ≤ 1000) (R : List Int) (hE : txt a = R) :
    Calls Tryz.prog 16 #[.agg #[.int .i64 41, .string a, .string b, .int .u32 n, vf, vr, vt, vv, vd, vw, vp, vl]] w (Gave w R) := by
  have hx1 : True := trivial
  have h0 := Wr.start1 w (.cells #[.int .i64 41, .string a, .string b, .int .u32 n, vf, vr, vt, vv, vd, vw, vp, vl] 37)
  have hc := h0.cell
  have HB := Lib.hid h0
  clear h0
  have HE := Lib.hid hE
  clear hE
  go_enter Tryz.func16, Tryz.ntmps16
  go_wp2_with (first | (go_at_call 38; refine (text_w _ HB.out (by first | omega | (simp only [List.length_append, List.length_nil, List.length_cons, txt, sby_length, numB_len]; omega))).mono ?_; rintro e w1 ⟨rfl, v1, hn⟩; clear hc; have hc := hn.cell; clear hx1; have hx1 := box_at hn.buf.bel 1 (.string a) rfl; replace HB := Lib.hid hn; clear hn))
  go_ret
  exact gave_of HB.out (by have hz := HE.out; subst hz; first | done | (simp only [List.nil_append, List.append_assoc, List.append_nil]))

set_option maxRecDepth 100000 in
set_option maxHeartbeats 1000000 in
theorem body50 (a b : ByteArray) (n : Int) (vf vr vt vv vd vw vp vl : Value) (w : World)  (R : List Int) (hE : [] = R) :
    Calls Tryz.prog 16 #[.agg #[.int .i64 50, .string a, .string b, .int .u32 n, vf, vr, vt, vv, vd, vw, vp, vl]] w (Gave w R) := by
  have h0 := Wr.start1 w (.cells #[.int .i64 50, .string a, .string b, .int .u32 n, vf, vr, vt, vv, vd, vw, vp, vl] 37)
  have hc := h0.cell
  have HB := Lib.hid h0
  clear h0
  have HE := Lib.hid hE
  clear hE
  go_enter Tryz.func16, Tryz.ntmps16
  go_wp2
  go_ret
  exact gave_of HB.out (by have hz := HE.out; subst hz; first | done | (simp only [List.nil_append, List.append_assoc, List.append_nil]))

set_option maxRecDepth 100000 in
set_option maxHeartbeats 1000000 in
theorem body56 (a b : ByteArray) (n : Int) (vf vr vt vv vd vw vp vl : Value) (w : World) (hn : 0 ≤ n ∧ n < 4294967296) (R : List Int) (hE : numB n 1 = R) :
    Calls Tryz.prog 16 #[.agg #[.int .i64 56, .string a, .string b, .int .u32 n, vf, vr, vt, vv, vd, vw, vp, vl]] w (Gave w R) := by
  have hwn : wrap64 n = n := by unfold wrap64; omega
  have hx3 : True := trivial
  have h0 := Wr.start1 w (.cells #[.int .i64 56, .string a, .string b, .int .u32 n, vf, vr, vt, vv, vd, vw, vp, vl] 37)
  have hc := h0.cell
  have HB := Lib.hid h0
  clear h0
  have HE := Lib.hid hE
  clear hE
  go_enter Tryz.func16, Tryz.ntmps16
  go_wp2_with (first | (go_at_call 36; refine (number_w 1 (by omega) _ HB.out (by first | omega | (simp only [List.length_append, List.length_nil, List.length_cons, txt, sby_length, numB_len]; omega))).mono ?_; rintro e w1 ⟨rfl, v1, hn⟩; clear hc; have hc := hn.cell; clear hx3; have hx3 := box_at hn.buf.bel 3 (.int .u32 n) rfl; replace HB := Lib.hid hn; clear hn))
  go_ret
  exact gave_of HB.out (by have hz := HE.out; subst hz; first | done | (simp only [List.nil_append, List.append_assoc, List.append_nil]))

end Go.Proofs.YtdenjanihikolaaGreatDoor

