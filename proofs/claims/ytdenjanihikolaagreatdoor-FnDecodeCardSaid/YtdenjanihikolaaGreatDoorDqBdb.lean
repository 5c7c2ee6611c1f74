/- Bodies of the messages of the reference, by contract. -/
import Derived.Test.YtdenjanihikolaaGreatDoorDqA0
import Derived.Test.YtdenjanihikolaaGreatDoorDqWrd
namespace Go.Proofs.YtdenjanihikolaaGreatDoor
set_option linter.unusedVariables false
set_option linter.unusedSimpArgs false
set_option maxRecDepth 100000
open Go.RowKit Og
set_option maxHeartbeats 1000000 in
theorem body0 (a b:ByteArray)(n:Int)(vf vr vt vv vd vw vp vl:Value)(w:World)(hsa:a.size<=1000)(hsb:b.size<=1000)(lf:List Int)(hrf:RdI .i64 w vf lf)(hlf:lf.length<=4294967296)(lr:List Int)(hrr:RdI .i64 w vr lr)(hlr:lr.length<=4294967296)(vls:List (Bool×List Int))(hrv:RdM 2 isVal w vv vls)(hlv:vls.length<=1000)(hmv:∀y∈vls,y.2.length<=2000)(R:List Int)(hE:txt a++txt b++(numB (lf.length:Int) 2++lf.flatMap fun n=>numB n 2)++(numB (vls.length:Int) 2++vls.flatMap fun x=>valB x.1 x.2)++(numB (lr.length:Int) 2++lr.flatMap fun n=>numB n 2)=R):
 Calls Tryz.prog 16 #[.agg #[.int .i64 0,.string a,.string b,.int .u32 n,vf,vr,vt,vv,vd,vw,vp,vl]] w (Gave w R):=by
 have HRf:=zh (hrf.ext (ext_alloc w (.cells #[.int .i64 0,.string a,.string b,.int .u32 n,vf,vr,vt,vv,vd,vw,vp,vl] 37)))
 clear hrf
 have HRr:=zh (hrr.ext (ext_alloc w (.cells #[.int .i64 0,.string a,.string b,.int .u32 n,vf,vr,vt,vv,vd,vw,vp,vl] 37)))
 clear hrr
 have hfv:=flat_len (fun x:Bool×List Int=>valB x.1 x.2) 2004 vls fun y hy=>Nat.le_trans (valB_len y) (by have:=hmv y hy;omega)
 have HRv:=zh (hrv.ext (ext_alloc w (.cells #[.int .i64 0,.string a,.string b,.int .u32 n,vf,vr,vt,vv,vd,vw,vp,vl] 37)) (isVal.ext (ext_alloc w (.cells #[.int .i64 0,.string a,.string b,.int .u32 n,vf,vr,vt,vv,vd,vw,vp,vl] 37))))
 clear hrv
 have HMv:=zh hmv
 clear hmv
 have hflf:=flat_len (fun n=>numB n 2) 2 lf fun y _=>Nat.le_of_eq (numB_len y 2)
 have hflr:=flat_len (fun n=>numB n 2) 2 lr fun y _=>Nat.le_of_eq (numB_len y 2)
 have hx4:True:=trivial
 have hx5:True:=trivial
 have hx1:True:=trivial
 have hx2:True:=trivial
 have hx7:True:=trivial
 have h0:=Wr.start1 w (.cells #[.int .i64 0,.string a,.string b,.int .u32 n,vf,vr,vt,vv,vd,vw,vp,vl] 37)
 have hc:=h0.cell
 have HB:=zh h0
 clear h0
 have HE:=zh hE
 clear hE
 go_enter Tryz.func16,Tryz.ntmps16
 go_wp2_with (first|(go_at_call 38;refine(text_w _ HB.out (by first|omega|(simp only [List.length_append,List.length_nil,List.length_cons,txt,sby_length,numB_len];omega))).mono ?_;rintro e w1 ⟨rfl,v1,hn⟩;clear hc;have hc:=hn.cell;clear hx4;have hx4:=box_at hn.buf.bel 4 (vf) rfl;clear hx5;have hx5:=box_at hn.buf.bel 5 (vr) rfl;clear hx1;have hx1:=box_at hn.buf.bel 1 (.string a) rfl;clear hx2;have hx2:=box_at hn.buf.bel 2 (.string b) rfl;clear hx7;have hx7:=box_at hn.buf.bel 7 (vv) rfl;replace HB:=zh hn;clear hn)|(go_at_call 39;refine(shorts_w lf HB.out HRf.out (by first|omega|(simp only [List.length_append,List.length_nil,List.length_cons,txt,sby_length,numB_len];omega))).mono ?_;rintro e w1 ⟨rfl,v1,hn⟩;clear hc;have hc:=hn.cell;clear hx4;have hx4:=box_at hn.buf.bel 4 (vf) rfl;clear hx5;have hx5:=box_at hn.buf.bel 5 (vr) rfl;clear hx1;have hx1:=box_at hn.buf.bel 1 (.string a) rfl;clear hx2;have hx2:=box_at hn.buf.bel 2 (.string b) rfl;clear hx7;have hx7:=box_at hn.buf.bel 7 (vv) rfl;replace HB:=zh hn;clear hn;clear HRf)|(go_at_call 39;refine(shorts_w lr HB.out HRr.out (by first|omega|(simp only [List.length_append,List.length_nil,List.length_cons,txt,sby_length,numB_len];omega))).mono ?_;rintro e w1 ⟨rfl,v1,hn⟩;clear hc;have hc:=hn.cell;clear hx4;have hx4:=box_at hn.buf.bel 4 (vf) rfl;clear hx5;have hx5:=box_at hn.buf.bel 5 (vr) rfl;clear hx1;have hx1:=box_at hn.buf.bel 1 (.string a) rfl;clear hx2;have hx2:=box_at hn.buf.bel 2 (.string b) rfl;clear hx7;have hx7:=box_at hn.buf.bel 7 (vv) rfl;replace HB:=zh hn;clear hn;clear HRr)|(go_at_call 40;refine(values_w vls HB.out HRv.out HMv.out (by first|omega|(simp only [List.length_append,List.length_nil,List.length_cons,txt,sby_length,numB_len];omega))).mono ?_;rintro e w1 ⟨rfl,v1,hn⟩;clear hc;have hc:=hn.cell;clear hx4;have hx4:=box_at hn.buf.bel 4 (vf) rfl;clear hx5;have hx5:=box_at hn.buf.bel 5 (vr) rfl;clear hx1;have hx1:=box_at hn.buf.bel 1 (.string a) rfl;clear hx2;have hx2:=box_at hn.buf.bel 2 (.string b) rfl;clear hx7;have hx7:=box_at hn.buf.bel 7 (vv) rfl;replace HB:=zh hn;clear hn))
 go_ret
 exact gave_of HB.out (by have hz:=HE.out;subst hz;first|done|(simp only [List.nil_append,List.append_assoc,List.append_nil]))
set_option maxHeartbeats 1000000 in
theorem body6 (a b:ByteArray)(n:Int)(vf vr vt vv vd vw vp vl:Value)(w:World)(hsa:a.size<=1000)(hn:0<=n/\n < 4294967296)(R:List Int)(hE:numB n 1++txt a=R):
 Calls Tryz.prog 16 #[.agg #[.int .i64 6,.string a,.string b,.int .u32 n,vf,vr,vt,vv,vd,vw,vp,vl]] w (Gave w R):=by
 have hwn:wrap64 n=n:=by unfold wrap64;omega
 have hx3:True:=trivial
 have hx1:True:=trivial
 have h0:=Wr.start1 w (.cells #[.int .i64 6,.string a,.string b,.int .u32 n,vf,vr,vt,vv,vd,vw,vp,vl] 37)
 have hc:=h0.cell
 have HB:=zh h0
 clear h0
 have HE:=zh hE
 clear hE
 go_enter Tryz.func16,Tryz.ntmps16
 go_wp2_with (first|(go_at_call 36;refine(number_w 1 (by omega) _ HB.out (by first|omega|(simp only [List.length_append,List.length_nil,List.length_cons,txt,sby_length,numB_len];omega))).mono ?_;rintro e w1 ⟨rfl,v1,hn⟩;clear hc;have hc:=hn.cell;clear hx3;have hx3:=box_at hn.buf.bel 3 (.int .u32 n) rfl;clear hx1;have hx1:=box_at hn.buf.bel 1 (.string a) rfl;replace HB:=zh hn;clear hn)|(go_at_call 38;refine(text_w _ HB.out (by first|omega|(simp only [List.length_append,List.length_nil,List.length_cons,txt,sby_length,numB_len];omega))).mono ?_;rintro e w1 ⟨rfl,v1,hn⟩;clear hc;have hc:=hn.cell;clear hx3;have hx3:=box_at hn.buf.bel 3 (.int .u32 n) rfl;clear hx1;have hx1:=box_at hn.buf.bel 1 (.string a) rfl;replace HB:=zh hn;clear hn))
 go_ret
 exact gave_of HB.out (by have hz:=HE.out;subst hz;first|done|(simp only [List.nil_append,List.append_assoc,List.append_nil]))
set_option maxHeartbeats 1000000 in
theorem body13 (a b:ByteArray)(n:Int)(vf vr vt vv vd vw vp vl:Value)(w:World)(hsa:a.size<=1000)(R:List Int)(hE:txt a=R):
 Calls Tryz.prog 16 #[.agg #[.int .i64 13,.string a,.string b,.int .u32 n,vf,vr,vt,vv,vd,vw,vp,vl]] w (Gave w R):=by
 have hx1:True:=trivial
 have h0:=Wr.start1 w (.cells #[.int .i64 13,.string a,.string b,.int .u32 n,vf,vr,vt,vv,vd,vw,vp,vl] 37)
 have hc:=h0.cell
 have HB:=zh h0
 clear h0
 have HE:=zh hE
 clear hE
 go_enter Tryz.func16,Tryz.ntmps16
 go_wp2_with (first|(go_at_call 38;refine(text_w _ HB.out (by first|omega|(simp only [List.length_append,List.length_nil,List.length_cons,txt,sby_length,numB_len];omega))).mono ?_;rintro e w1 ⟨rfl,v1,hn⟩;clear hc;have hc:=hn.cell;clear hx1;have hx1:=box_at hn.buf.bel 1 (.string a) rfl;replace HB:=zh hn;clear hn))
 go_ret
 exact gave_of HB.out (by have hz:=HE.out;subst hz;first|done|(simp only [List.nil_append,List.append_assoc,List.append_nil]))
set_option maxHeartbeats 1000000 in
theorem body20 (a b:ByteArray)(n:Int)(vf vr vt vv vd vw vp vl:Value)(w:World)(R:List Int)(hE:[]=R):
 Calls Tryz.prog 16 #[.agg #[.int .i64 20,.string a,.string b,.int .u32 n,vf,vr,vt,vv,vd,vw,vp,vl]] w (Gave w R):=by
 have h0:=Wr.start1 w (.cells #[.int .i64 20,.string a,.string b,.int .u32 n,vf,vr,vt,vv,vd,vw,vp,vl] 37)
 have hc:=h0.cell
 have HB:=zh h0
 clear h0
 have HE:=zh hE
 clear hE
 go_enter Tryz.func16,Tryz.ntmps16
 go_wp2
 go_ret
 exact gave_of HB.out (by have hz:=HE.out;subst hz;first|done|(simp only [List.nil_append,List.append_assoc,List.append_nil]))
set_option maxHeartbeats 1000000 in
theorem body36 (a b:ByteArray)(n:Int)(vf vr vt vv vd vw vp vl:Value)(w:World)(A_d:Option Addr)(c_d:Nat)(d:List Int)(hvd:vd=.slice A_d d.length c_d)(hrd:RdB w (.slice A_d d.length c_d) d)(hld:d.length<=3000)(R:List Int)(hE:numB 11 4++d=R):
 Calls Tryz.prog 16 #[.agg #[.int .i64 36,.string a,.string b,.int .u32 n,vf,vr,vt,vv,vd,vw,vp,vl]] w (Gave w R):=by
 subst hvd
 have HRd:=zh (hrd.ext (ext_alloc w (.cells #[.int .i64 36,.string a,.string b,.int .u32 n,vf,vr,vt,vv,.slice A_d d.length c_d,vw,vp,vl] 37)))
 clear hrd
 have hx8:True:=trivial
 have h0:=Wr.start1 w (.cells #[.int .i64 36,.string a,.string b,.int .u32 n,vf,vr,vt,vv,.slice A_d d.length c_d,vw,vp,vl] 37)
 have hc:=h0.cell
 have HB:=zh h0
 clear h0
 have HE:=zh hE
 clear hE
 go_enter Tryz.func16,Tryz.ntmps16
 go_wp2_with (first|(go_at_call 36;refine(number_w 4 (by omega) _ HB.out (by first|omega|(simp only [List.length_append,List.length_nil,List.length_cons,txt,sby_length,numB_len];omega))).mono ?_;rintro e w1 ⟨rfl,v1,hn⟩;clear hc;have hc:=hn.cell;clear hx8;have hx8:=box_at hn.buf.bel 8 (.slice A_d d.length c_d) rfl;replace HB:=zh hn;clear hn)|(go_at_call 37;refine(bytes_w HB.out (HRd.out.ext HB.out.buf.bel) (by first|omega|(simp only [List.length_append,List.length_nil,List.length_cons,txt,sby_length,numB_len];omega))).mono ?_;rintro e w1 ⟨rfl,v1,hn⟩;clear hc;have hc:=hn.cell;clear hx8;have hx8:=box_at hn.buf.bel 8 (.slice A_d d.length c_d) rfl;replace HB:=zh hn;clear hn))
 go_ret
 exact gave_of HB.out (by have hz:=HE.out;subst hz;first|done|(simp only [List.nil_append,List.append_assoc,List.append_nil]))
set_option maxHeartbeats 1000000 in
theorem body42 (a b:ByteArray)(n:Int)(vf vr vt vv vd vw vp vl:Value)(w:World)(hn:0<=n/\n < 4294967296)(lf:List Int)(hrf:RdI .i64 w vf lf)(hlf:lf.length<=4294967296)(R:List Int)(hE:numB n 1++(numB (lf.length:Int) 2++lf.flatMap fun n=>numB n 2)=R):
 Calls Tryz.prog 16 #[.agg #[.int .i64 42,.string a,.string b,.int .u32 n,vf,vr,vt,vv,vd,vw,vp,vl]] w (Gave w R):=by
 have HRf:=zh (hrf.ext (ext_alloc w (.cells #[.int .i64 42,.string a,.string b,.int .u32 n,vf,vr,vt,vv,vd,vw,vp,vl] 37)))
 clear hrf
 have hflf:=flat_len (fun n=>numB n 2) 2 lf fun y _=>Nat.le_of_eq (numB_len y 2)
 have hwn:wrap64 n=n:=by unfold wrap64;omega
 have hx4:True:=trivial
 have hx3:True:=trivial
 have h0:=Wr.start1 w (.cells #[.int .i64 42,.string a,.string b,.int .u32 n,vf,vr,vt,vv,vd,vw,vp,vl] 37)
 have hc:=h0.cell
 have HB:=zh h0
 clear h0
 have HE:=zh hE
 clear hE
 go_enter Tryz.func16,Tryz.ntmps16
 go_wp2_with (first|(go_at_call 36;refine(number_w 1 (by omega) _ HB.out (by first|omega|(simp only [List.length_append,List.length_nil,List.length_cons,txt,sby_length,numB_len];omega))).mono ?_;rintro e w1 ⟨rfl,v1,hn⟩;clear hc;have hc:=hn.cell;clear hx4;have hx4:=box_at hn.buf.bel 4 (vf) rfl;clear hx3;have hx3:=box_at hn.buf.bel 3 (.int .u32 n) rfl;replace HB:=zh hn;clear hn)|(go_at_call 39;refine(shorts_w lf HB.out HRf.out (by first|omega|(simp only [List.length_append,List.length_nil,List.length_cons,txt,sby_length,numB_len];omega))).mono ?_;rintro e w1 ⟨rfl,v1,hn⟩;clear hc;have hc:=hn.cell;clear hx4;have hx4:=box_at hn.buf.bel 4 (vf) rfl;clear hx3;have hx3:=box_at hn.buf.bel 3 (.int .u32 n) rfl;replace HB:=zh hn;clear hn;clear HRf))
 go_ret
 exact gave_of HB.out (by have hz:=HE.out;subst hz;first|done|(simp only [List.nil_append,List.append_assoc,List.append_nil]))
set_option maxHeartbeats 1000000 in
theorem body51 (a b:ByteArray)(n:Int)(vf vr vt vv vd vw vp vl:Value)(w:World)(hsa:a.size<=1000)(hsb:b.size<=1000)(hn:0<=n/\n < 4294967296)(R:List Int)(hE:numB n 4++txt a++txt b=R):
 Calls Tryz.prog 16 #[.agg #[.int .i64 51,.string a,.string b,.int .u32 n,vf,vr,vt,vv,vd,vw,vp,vl]] w (Gave w R):=by
 have hwn:wrap64 n=n:=by unfold wrap64;omega
 have hx3:True:=trivial
 have hx1:True:=trivial
 have hx2:True:=trivial
 have h0:=Wr.start1 w (.cells #[.int .i64 51,.string a,.string b,.int .u32 n,vf,vr,vt,vv,vd,vw,vp,vl] 37)
 have hc:=h0.cell
 have HB:=zh h0
 clear h0
 have HE:=zh hE
 clear hE
 go_enter Tryz.func16,Tryz.ntmps16
 go_wp2_with (first|(go_at_call 36;refine(number_w 4 (by omega) _ HB.out (by first|omega|(simp only [List.length_append,List.length_nil,List.length_cons,txt,sby_length,numB_len];omega))).mono ?_;rintro e w1 ⟨rfl,v1,hn⟩;clear hc;have hc:=hn.cell;clear hx3;have hx3:=box_at hn.buf.bel 3 (.int .u32 n) rfl;clear hx1;have hx1:=box_at hn.buf.bel 1 (.string a) rfl;clear hx2;have hx2:=box_at hn.buf.bel 2 (.string b) rfl;replace HB:=zh hn;clear hn)|(go_at_call 38;refine(text_w _ HB.out (by first|omega|(simp only [List.length_append,List.length_nil,List.length_cons,txt,sby_length,numB_len];omega))).mono ?_;rintro e w1 ⟨rfl,v1,hn⟩;clear hc;have hc:=hn.cell;clear hx3;have hx3:=box_at hn.buf.bel 3 (.int .u32 n) rfl;clear hx1;have hx1:=box_at hn.buf.bel 1 (.string a) rfl;clear hx2;have hx2:=box_at hn.buf.bel 2 (.string b) rfl;replace HB:=zh hn;clear hn))
 go_ret
 exact gave_of HB.out (by have hz:=HE.out;subst hz;first|done|(simp only [List.nil_append,List.append_assoc,List.append_nil]))
set_option maxHeartbeats 1000000 in
theorem body1 (a b:ByteArray)(n:Int)(vf vr vt vv vd vw vp vl:Value)(w:World)(hn:0<=n/\n < 4294967296)(A_d:Option Addr)(c_d:Nat)(d:List Int)(hvd:vd=.slice A_d d.length c_d)(hrd:RdB w (.slice A_d d.length c_d) d)(hld:d.length<=3000)(R:List Int)(hE:numB 80877102 4++numB n 4++d=R):
 Calls Tryz.prog 16 #[.agg #[.int .i64 1,.string a,.string b,.int .u32 n,vf,vr,vt,vv,vd,vw,vp,vl]] w (Gave w R):=by
 subst hvd
 have HRd:=zh (hrd.ext (ext_alloc w (.cells #[.int .i64 1,.string a,.string b,.int .u32 n,vf,vr,vt,vv,.slice A_d d.length c_d,vw,vp,vl] 37)))
 clear hrd
 have hwn:wrap64 n=n:=by unfold wrap64;omega
 have hx8:True:=trivial
 have hx3:True:=trivial
 have h0:=Wr.start1 w (.cells #[.int .i64 1,.string a,.string b,.int .u32 n,vf,vr,vt,vv,.slice A_d d.length c_d,vw,vp,vl] 37)
 have hc:=h0.cell
 have HB:=zh h0
 clear h0
 have HE:=zh hE
 clear hE
 go_enter Tryz.func16,Tryz.ntmps16
 go_wp2_with (first|(go_at_call 36;refine(number_w 4 (by omega) _ HB.out (by first|omega|(simp only [List.length_append,List.length_nil,List.length_cons,txt,sby_length,numB_len];omega))).mono ?_;rintro e w1 ⟨rfl,v1,hn⟩;clear hc;have hc:=hn.cell;clear hx8;have hx8:=box_at hn.buf.bel 8 (.slice A_d d.length c_d) rfl;clear hx3;have hx3:=box_at hn.buf.bel 3 (.int .u32 n) rfl;replace HB:=zh hn;clear hn)|(go_at_call 37;refine(bytes_w HB.out (HRd.out.ext HB.out.buf.bel) (by first|omega|(simp only [List.length_append,List.length_nil,List.length_cons,txt,sby_length,numB_len];omega))).mono ?_;rintro e w1 ⟨rfl,v1,hn⟩;clear hc;have hc:=hn.cell;clear hx8;have hx8:=box_at hn.buf.bel 8 (.slice A_d d.length c_d) rfl;clear hx3;have hx3:=box_at hn.buf.bel 3 (.int .u32 n) rfl;replace HB:=zh hn;clear hn))
 go_ret
 exact gave_of HB.out (by have hz:=HE.out;subst hz;first|done|(simp only [List.nil_append,List.append_assoc,List.append_nil]))
set_option maxHeartbeats 1000000 in
theorem body7 (a b:ByteArray)(n:Int)(vf vr vt vv vd vw vp vl:Value)(w:World)(hsa:a.size<=1000)(hn:0<=n/\n < 4294967296)(R:List Int)(hE:txt a++numB n 4=R):
 Calls Tryz.prog 16 #[.agg #[.int .i64 7,.string a,.string b,.int .u32 n,vf,vr,vt,vv,vd,vw,vp,vl]] w (Gave w R):=by
 have hwn:wrap64 n=n:=by unfold wrap64;omega
 have hx3:True:=trivial
 have hx1:True:=trivial
 have h0:=Wr.start1 w (.cells #[.int .i64 7,.string a,.string b,.int .u32 n,vf,vr,vt,vv,vd,vw,vp,vl] 37)
 have hc:=h0.cell
 have HB:=zh h0
 clear h0
 have HE:=zh hE
 clear hE
 go_enter Tryz.func16,Tryz.ntmps16
 go_wp2_with (first|(go_at_call 36;refine(number_w 4 (by omega) _ HB.out (by first|omega|(simp only [List.length_append,List.length_nil,List.length_cons,txt,sby_length,numB_len];omega))).mono ?_;rintro e w1 ⟨rfl,v1,hn⟩;clear hc;have hc:=hn.cell;clear hx3;have hx3:=box_at hn.buf.bel 3 (.int .u32 n) rfl;clear hx1;have hx1:=box_at hn.buf.bel 1 (.string a) rfl;replace HB:=zh hn;clear hn)|(go_at_call 38;refine(text_w _ HB.out (by first|omega|(simp only [List.length_append,List.length_nil,List.length_cons,txt,sby_length,numB_len];omega))).mono ?_;rintro e w1 ⟨rfl,v1,hn⟩;clear hc;have hc:=hn.cell;clear hx3;have hx3:=box_at hn.buf.bel 3 (.int .u32 n) rfl;clear hx1;have hx1:=box_at hn.buf.bel 1 (.string a) rfl;replace HB:=zh hn;clear hn))
 go_ret
 exact gave_of HB.out (by have hz:=HE.out;subst hz;first|done|(simp only [List.nil_append,List.append_assoc,List.append_nil]))
set_option maxHeartbeats 1000000 in
theorem body14 (a b:ByteArray)(n:Int)(vf vr vt vv vd vw vp vl:Value)(w:World)(hsa:a.size<=1000)(R:List Int)(hE:txt a=R):
 Calls Tryz.prog 16 #[.agg #[.int .i64 14,.string a,.string b,.int .u32 n,vf,vr,vt,vv,vd,vw,vp,vl]] w (Gave w R):=by
 have hx1:True:=trivial
 have h0:=Wr.start1 w (.cells #[.int .i64 14,.string a,.string b,.int .u32 n,vf,vr,vt,vv,vd,vw,vp,vl] 37)
 have hc:=h0.cell
 have HB:=zh h0
 clear h0
 have HE:=zh hE
 clear hE
 go_enter Tryz.func16,Tryz.ntmps16
 go_wp2_with (first|(go_at_call 38;refine(text_w _ HB.out (by first|omega|(simp only [List.length_append,List.length_nil,List.length_cons,txt,sby_length,numB_len];omega))).mono ?_;rintro e w1 ⟨rfl,v1,hn⟩;clear hc;have hc:=hn.cell;clear hx1;have hx1:=box_at hn.buf.bel 1 (.string a) rfl;replace HB:=zh hn;clear hn))
 go_ret
 exact gave_of HB.out (by have hz:=HE.out;subst hz;first|done|(simp only [List.nil_append,List.append_assoc,List.append_nil]))
set_option maxHeartbeats 1000000 in
theorem body30 (a b:ByteArray)(n:Int)(vf vr vt vv vd vw vp vl:Value)(w:World)(R:List Int)(hE:numB 0 4=R):
 Calls Tryz.prog 16 #[.agg #[.int .i64 30,.string a,.string b,.int .u32 n,vf,vr,vt,vv,vd,vw,vp,vl]] w (Gave w R):=by
 have h0:=Wr.start1 w (.cells #[.int .i64 30,.string a,.string b,.int .u32 n,vf,vr,vt,vv,vd,vw,vp,vl] 37)
 have hc:=h0.cell
 have HB:=zh h0
 clear h0
 have HE:=zh hE
 clear hE
 go_enter Tryz.func16,Tryz.ntmps16
 go_wp2_with (first|(go_at_call 36;refine(number_w 4 (by omega) _ HB.out (by first|omega|(simp only [List.length_append,List.length_nil,List.length_cons,txt,sby_length,numB_len];omega))).mono ?_;rintro e w1 ⟨rfl,v1,hn⟩;clear hc;have hc:=hn.cell;replace HB:=zh hn;clear hn))
 go_ret
 exact gave_of HB.out (by have hz:=HE.out;subst hz;first|done|(simp only [List.nil_append,List.append_assoc,List.append_nil]))
set_option maxHeartbeats 1000000 in
theorem body37 (a b:ByteArray)(n:Int)(vf vr vt vv vd vw vp vl:Value)(w:World)(A_d:Option Addr)(c_d:Nat)(d:List Int)(hvd:vd=.slice A_d d.length c_d)(hrd:RdB w (.slice A_d d.length c_d) d)(hld:d.length<=3000)(R:List Int)(hE:numB 12 4++d=R):
 Calls Tryz.prog 16 #[.agg #[.int .i64 37,.string a,.string b,.int .u32 n,vf,vr,vt,vv,vd,vw,vp,vl]] w (Gave w R):=by
 subst hvd
 have HRd:=zh (hrd.ext (ext_alloc w (.cells #[.int .i64 37,.string a,.string b,.int .u32 n,vf,vr,vt,vv,.slice A_d d.length c_d,vw,vp,vl] 37)))
 clear hrd
 have hx8:True:=trivial
 have h0:=Wr.start1 w (.cells #[.int .i64 37,.string a,.string b,.int .u32 n,vf,vr,vt,vv,.slice A_d d.length c_d,vw,vp,vl] 37)
 have hc:=h0.cell
 have HB:=zh h0
 clear h0
 have HE:=zh hE
 clear hE
 go_enter Tryz.func16,Tryz.ntmps16
 go_wp2_with (first|(go_at_call 36;refine(number_w 4 (by omega) _ HB.out (by first|omega|(simp only [List.length_append,List.length_nil,List.length_cons,txt,sby_length,numB_len];omega))).mono ?_;rintro e w1 ⟨rfl,v1,hn⟩;clear hc;have hc:=hn.cell;clear hx8;have hx8:=box_at hn.buf.bel 8 (.slice A_d d.length c_d) rfl;replace HB:=zh hn;clear hn)|(go_at_call 37;refine(bytes_w HB.out (HRd.out.ext HB.out.buf.bel) (by first|omega|(simp only [List.length_append,List.length_nil,List.length_cons,txt,sby_length,numB_len];omega))).mono ?_;rintro e w1 ⟨rfl,v1,hn⟩;clear hc;have hc:=hn.cell;clear hx8;have hx8:=box_at hn.buf.bel 8 (.slice A_d d.length c_d) rfl;replace HB:=zh hn;clear hn))
 go_ret
 exact gave_of HB.out (by have hz:=HE.out;subst hz;first|done|(simp only [List.nil_append,List.append_assoc,List.append_nil]))
set_option maxHeartbeats 1000000 in
theorem body43 (a b:ByteArray)(n:Int)(vf vr vt vv vd vw vp vl:Value)(w:World)(hn:0<=n/\n < 4294967296)(lf:List Int)(hrf:RdI .i64 w vf lf)(hlf:lf.length<=4294967296)(R:List Int)(hE:numB n 1++(numB (lf.length:Int) 2++lf.flatMap fun n=>numB n 2)=R):
 Calls Tryz.prog 16 #[.agg #[.int .i64 43,.string a,.string b,.int .u32 n,vf,vr,vt,vv,vd,vw,vp,vl]] w (Gave w R):=by
 have HRf:=zh (hrf.ext (ext_alloc w (.cells #[.int .i64 43,.string a,.string b,.int .u32 n,vf,vr,vt,vv,vd,vw,vp,vl] 37)))
 clear hrf
 have hflf:=flat_len (fun n=>numB n 2) 2 lf fun y _=>Nat.le_of_eq (numB_len y 2)
 have hwn:wrap64 n=n:=by unfold wrap64;omega
 have hx4:True:=trivial
 have hx3:True:=trivial
 have h0:=Wr.start1 w (.cells #[.int .i64 43,.string a,.string b,.int .u32 n,vf,vr,vt,vv,vd,vw,vp,vl] 37)
 have hc:=h0.cell
 have HB:=zh h0
 clear h0
 have HE:=zh hE
 clear hE
 go_enter Tryz.func16,Tryz.ntmps16
 go_wp2_with (first|(go_at_call 36;refine(number_w 1 (by omega) _ HB.out (by first|omega|(simp only [List.length_append,List.length_nil,List.length_cons,txt,sby_length,numB_len];omega))).mono ?_;rintro e w1 ⟨rfl,v1,hn⟩;clear hc;have hc:=hn.cell;clear hx4;have hx4:=box_at hn.buf.bel 4 (vf) rfl;clear hx3;have hx3:=box_at hn.buf.bel 3 (.int .u32 n) rfl;replace HB:=zh hn;clear hn)|(go_at_call 39;refine(shorts_w lf HB.out HRf.out (by first|omega|(simp only [List.length_append,List.length_nil,List.length_cons,txt,sby_length,numB_len];omega))).mono ?_;rintro e w1 ⟨rfl,v1,hn⟩;clear hc;have hc:=hn.cell;clear hx4;have hx4:=box_at hn.buf.bel 4 (vf) rfl;clear hx3;have hx3:=box_at hn.buf.bel 3 (.int .u32 n) rfl;replace HB:=zh hn;clear hn;clear HRf))
 go_ret
 exact gave_of HB.out (by have hz:=HE.out;subst hz;first|done|(simp only [List.nil_append,List.append_assoc,List.append_nil]))
set_option maxHeartbeats 1000000 in
theorem body52 (a b:ByteArray)(n:Int)(vf vr vt vv vd vw vp vl:Value)(w:World)(ty:List Int)(hrt:RdI .u32 w vt ty)(hlt:ty.length<=4294967296)(hgt:∀y∈ty,0<=y/\y < 4294967296)(R:List Int)(hE:(numB (ty.length:Int) 2++ty.flatMap fun n=>numB n 4)=R):
 Calls Tryz.prog 16 #[.agg #[.int .i64 52,.string a,.string b,.int .u32 n,vf,vr,vt,vv,vd,vw,vp,vl]] w (Gave w R):=by
 have HRt:=zh (hrt.ext (ext_alloc w (.cells #[.int .i64 52,.string a,.string b,.int .u32 n,vf,vr,vt,vv,vd,vw,vp,vl] 37)))
 clear hrt
 have HGt:=zh hgt
 clear hgt
 have hflt:=flat_len (fun n=>numB n 4) 4 ty fun y _=>Nat.le_of_eq (numB_len y 4)
 have hx6:True:=trivial
 have h0:=Wr.start1 w (.cells #[.int .i64 52,.string a,.string b,.int .u32 n,vf,vr,vt,vv,vd,vw,vp,vl] 37)
 have hc:=h0.cell
 have HB:=zh h0
 clear h0
 have HE:=zh hE
 clear hE
 go_enter Tryz.func16,Tryz.ntmps16
 go_wp2_with (first|(go_at_call 41;refine(types_w ty HB.out HRt.out (by first|omega|(simp only [List.length_append,List.length_nil,List.length_cons,txt,sby_length,numB_len];omega)) HGt.out).mono ?_;rintro e w1 ⟨rfl,v1,hn⟩;clear hc;have hc:=hn.cell;clear hx6;have hx6:=box_at hn.buf.bel 6 (vt) rfl;replace HB:=zh hn;clear hn))
 go_ret
 exact gave_of HB.out (by have hz:=HE.out;subst hz;first|done|(simp only [List.nil_append,List.append_assoc,List.append_nil]))
set_option maxHeartbeats 1000000 in
theorem body2 (a b:ByteArray)(n:Int)(vf vr vt vv vd vw vp vl:Value)(w:World)(hsa:a.size<=1000)(hn:0<=n/\n < 4294967296)(R:List Int)(hE:numB n 1++txt a=R):
 Calls Tryz.prog 16 #[.agg #[.int .i64 2,.string a,.string b,.int .u32 n,vf,vr,vt,vv,vd,vw,vp,vl]] w (Gave w R):=by
 have hwn:wrap64 n=n:=by unfold wrap64;omega
 have hx3:True:=trivial
 have hx1:True:=trivial
 have h0:=Wr.start1 w (.cells #[.int .i64 2,.string a,.string b,.int .u32 n,vf,vr,vt,vv,vd,vw,vp,vl] 37)
 have hc:=h0.cell
 have HB:=zh h0
 clear h0
 have HE:=zh hE
 clear hE
 go_enter Tryz.func16,Tryz.ntmps16
 go_wp2_with (first|(go_at_call 36;refine(number_w 1 (by omega) _ HB.out (by first|omega|(simp only [List.length_append,List.length_nil,List.length_cons,txt,sby_length,numB_len];omega))).mono ?_;rintro e w1 ⟨rfl,v1,hn⟩;clear hc;have hc:=hn.cell;clear hx3;have hx3:=box_at hn.buf.bel 3 (.int .u32 n) rfl;clear hx1;have hx1:=box_at hn.buf.bel 1 (.string a) rfl;replace HB:=zh hn;clear hn)|(go_at_call 38;refine(text_w _ HB.out (by first|omega|(simp only [List.length_append,List.length_nil,List.length_cons,txt,sby_length,numB_len];omega))).mono ?_;rintro e w1 ⟨rfl,v1,hn⟩;clear hc;have hc:=hn.cell;clear hx3;have hx3:=box_at hn.buf.bel 3 (.int .u32 n) rfl;clear hx1;have hx1:=box_at hn.buf.bel 1 (.string a) rfl;replace HB:=zh hn;clear hn))
 go_ret
 exact gave_of HB.out (by have hz:=HE.out;subst hz;first|done|(simp only [List.nil_append,List.append_assoc,List.append_nil]))
set_option maxHeartbeats 1000000 in
theorem body8 (a b:ByteArray)(n:Int)(vf vr vt vv vd vw vp vl:Value)(w:World)(R:List Int)(hE:[]=R):
 Calls Tryz.prog 16 #[.agg #[.int .i64 8,.string a,.string b,.int .u32 n,vf,vr,vt,vv,vd,vw,vp,vl]] w (Gave w R):=by
 have h0:=Wr.start1 w (.cells #[.int .i64 8,.string a,.string b,.int .u32 n,vf,vr,vt,vv,vd,vw,vp,vl] 37)
 have hc:=h0.cell
 have HB:=zh h0
 clear h0
 have HE:=zh hE
 clear hE
 go_enter Tryz.func16,Tryz.ntmps16
 go_wp2
 go_ret
 exact gave_of HB.out (by have hz:=HE.out;subst hz;first|done|(simp only [List.nil_append,List.append_assoc,List.append_nil]))
set_option maxHeartbeats 1000000 in
theorem body15 (a b:ByteArray)(n:Int)(vf vr vt vv vd vw vp vl:Value)(w:World)(hsa:a.size<=1000)(A_d:Option Addr)(c_d:Nat)(d:List Int)(hvd:vd=.slice A_d d.length c_d)(hrd:RdB w (.slice A_d d.length c_d) d)(hld:d.length<=3000)(R:List Int)(hE:txt a++numB (d.length:Int) 4++d=R):
 Calls Tryz.prog 16 #[.agg #[.int .i64 15,.string a,.string b,.int .u32 n,vf,vr,vt,vv,vd,vw,vp,vl]] w (Gave w R):=by
 subst hvd
 have HRd:=zh (hrd.ext (ext_alloc w (.cells #[.int .i64 15,.string a,.string b,.int .u32 n,vf,vr,vt,vv,.slice A_d d.length c_d,vw,vp,vl] 37)))
 clear hrd
 have hx8:True:=trivial
 have hx1:True:=trivial
 have h0:=Wr.start1 w (.cells #[.int .i64 15,.string a,.string b,.int .u32 n,vf,vr,vt,vv,.slice A_d d.length c_d,vw,vp,vl] 37)
 have hc:=h0.cell
 have HB:=zh h0
 clear h0
 have HE:=zh hE
 clear hE
 go_enter Tryz.func16,Tryz.ntmps16
 go_wp2_with (first|(go_at_call 36;refine(number_w 4 (by omega) _ HB.out (by first|omega|(simp only [List.length_append,List.length_nil,List.length_cons,txt,sby_length,numB_len];omega))).mono ?_;rintro e w1 ⟨rfl,v1,hn⟩;clear hc;have hc:=hn.cell;clear hx8;have hx8:=box_at hn.buf.bel 8 (.slice A_d d.length c_d) rfl;clear hx1;have hx1:=box_at hn.buf.bel 1 (.string a) rfl;replace HB:=zh hn;clear hn)|(go_at_call 37;refine(bytes_w HB.out (HRd.out.ext HB.out.buf.bel) (by first|omega|(simp only [List.length_append,List.length_nil,List.length_cons,txt,sby_length,numB_len];omega))).mono ?_;rintro e w1 ⟨rfl,v1,hn⟩;clear hc;have hc:=hn.cell;clear hx8;have hx8:=box_at hn.buf.bel 8 (.slice A_d d.length c_d) rfl;clear hx1;have hx1:=box_at hn.buf.bel 1 (.string a) rfl;replace HB:=zh hn;clear hn)|(go_at_call 38;refine(text_w _ HB.out (by first|omega|(simp only [List.length_append,List.length_nil,List.length_cons,txt,sby_length,numB_len];omega))).mono ?_;rintro e w1 ⟨rfl,v1,hn⟩;clear hc;have hc:=hn.cell;clear hx8;have hx8:=box_at hn.buf.bel 8 (.slice A_d d.length c_d) rfl;clear hx1;have hx1:=box_at hn.buf.bel 1 (.string a) rfl;replace HB:=zh hn;clear hn))
 go_ret
 exact gave_of HB.out (by have hz:=HE.out;subst hz;first|done|(simp only [List.nil_append,List.append_assoc,List.append_nil]))
set_option maxHeartbeats 1000000 in
theorem body31 (a b:ByteArray)(n:Int)(vf vr vt vv vd vw vp vl:Value)(w:World)(R:List Int)(hE:numB 3 4=R):
 Calls Tryz.prog 16 #[.agg #[.int .i64 31,.string a,.string b,.int .u32 n,vf,vr,vt,vv,vd,vw,vp,vl]] w (Gave w R):=by
 have h0:=Wr.start1 w (.cells #[.int .i64 31,.string a,.string b,.int .u32 n,vf,vr,vt,vv,vd,vw,vp,vl] 37)
 have hc:=h0.cell
 have HB:=zh h0
 clear h0
 have HE:=zh hE
 clear hE
 go_enter Tryz.func16,Tryz.ntmps16
 go_wp2_with (first|(go_at_call 36;refine(number_w 4 (by omega) _ HB.out (by first|omega|(simp only [List.length_append,List.length_nil,List.length_cons,txt,sby_length,numB_len];omega))).mono ?_;rintro e w1 ⟨rfl,v1,hn⟩;clear hc;have hc:=hn.cell;replace HB:=zh hn;clear hn))
 go_ret
 exact gave_of HB.out (by have hz:=HE.out;subst hz;first|done|(simp only [List.nil_append,List.append_assoc,List.append_nil]))
set_option maxHeartbeats 1000000 in
theorem body38 (a b:ByteArray)(n:Int)(vf vr vt vv vd vw vp vl:Value)(w:World)(hn:0<=n/\n < 4294967296)(A_d:Option Addr)(c_d:Nat)(d:List Int)(hvd:vd=.slice A_d d.length c_d)(hrd:RdB w (.slice A_d d.length c_d) d)(hld:d.length<=3000)(R:List Int)(hE:numB n 4++d=R):
 Calls Tryz.prog 16 #[.agg #[.int .i64 38,.string a,.string b,.int .u32 n,vf,vr,vt,vv,vd,vw,vp,vl]] w (Gave w R):=by
 subst hvd
 have HRd:=zh (hrd.ext (ext_alloc w (.cells #[.int .i64 38,.string a,.string b,.int .u32 n,vf,vr,vt,vv,.slice A_d d.length c_d,vw,vp,vl] 37)))
 clear hrd
 have hwn:wrap64 n=n:=by unfold wrap64;omega
 have hx8:True:=trivial
 have hx3:True:=trivial
 have h0:=Wr.start1 w (.cells #[.int .i64 38,.string a,.string b,.int .u32 n,vf,vr,vt,vv,.slice A_d d.length c_d,vw,vp,vl] 37)
 have hc:=h0.cell
 have HB:=zh h0
 clear h0
 have HE:=zh hE
 clear hE
 go_enter Tryz.func16,Tryz.ntmps16
 go_wp2_with (first|(go_at_call 36;refine(number_w 4 (by omega) _ HB.out (by first|omega|(simp only [List.length_append,List.length_nil,List.length_cons,txt,sby_length,numB_len];omega))).mono ?_;rintro e w1 ⟨rfl,v1,hn⟩;clear hc;have hc:=hn.cell;clear hx8;have hx8:=box_at hn.buf.bel 8 (.slice A_d d.length c_d) rfl;clear hx3;have hx3:=box_at hn.buf.bel 3 (.int .u32 n) rfl;replace HB:=zh hn;clear hn)|(go_at_call 37;refine(bytes_w HB.out (HRd.out.ext HB.out.buf.bel) (by first|omega|(simp only [List.length_append,List.length_nil,List.length_cons,txt,sby_length,numB_len];omega))).mono ?_;rintro e w1 ⟨rfl,v1,hn⟩;clear hc;have hc:=hn.cell;clear hx8;have hx8:=box_at hn.buf.bel 8 (.slice A_d d.length c_d) rfl;clear hx3;have hx3:=box_at hn.buf.bel 3 (.int .u32 n) rfl;replace HB:=zh hn;clear hn))
 go_ret
 exact gave_of HB.out (by have hz:=HE.out;subst hz;first|done|(simp only [List.nil_append,List.append_assoc,List.append_nil]))
set_option maxHeartbeats 1000000 in
theorem body44 (a b:ByteArray)(n:Int)(vf vr vt vv vd vw vp vl:Value)(w:World)(hn:0<=n/\n < 4294967296)(lf:List Int)(hrf:RdI .i64 w vf lf)(hlf:lf.length<=4294967296)(R:List Int)(hE:numB n 1++(numB (lf.length:Int) 2++lf.flatMap fun n=>numB n 2)=R):
 Calls Tryz.prog 16 #[.agg #[.int .i64 44,.string a,.string b,.int .u32 n,vf,vr,vt,vv,vd,vw,vp,vl]] w (Gave w R):=by
 have HRf:=zh (hrf.ext (ext_alloc w (.cells #[.int .i64 44,.string a,.string b,.int .u32 n,vf,vr,vt,vv,vd,vw,vp,vl] 37)))
 clear hrf
 have hflf:=flat_len (fun n=>numB n 2) 2 lf fun y _=>Nat.le_of_eq (numB_len y 2)
 have hwn:wrap64 n=n:=by unfold wrap64;omega
 have hx4:True:=trivial
 have hx3:True:=trivial
 have h0:=Wr.start1 w (.cells #[.int .i64 44,.string a,.string b,.int .u32 n,vf,vr,vt,vv,vd,vw,vp,vl] 37)
 have hc:=h0.cell
 have HB:=zh h0
 clear h0
 have HE:=zh hE
 clear hE
 go_enter Tryz.func16,Tryz.ntmps16
 go_wp2_with (first|(go_at_call 36;refine(number_w 1 (by omega) _ HB.out (by first|omega|(simp only [List.length_append,List.length_nil,List.length_cons,txt,sby_length,numB_len];omega))).mono ?_;rintro e w1 ⟨rfl,v1,hn⟩;clear hc;have hc:=hn.cell;clear hx4;have hx4:=box_at hn.buf.bel 4 (vf) rfl;clear hx3;have hx3:=box_at hn.buf.bel 3 (.int .u32 n) rfl;replace HB:=zh hn;clear hn)|(go_at_call 39;refine(shorts_w lf HB.out HRf.out (by first|omega|(simp only [List.length_append,List.length_nil,List.length_cons,txt,sby_length,numB_len];omega))).mono ?_;rintro e w1 ⟨rfl,v1,hn⟩;clear hc;have hc:=hn.cell;clear hx4;have hx4:=box_at hn.buf.bel 4 (vf) rfl;clear hx3;have hx3:=box_at hn.buf.bel 3 (.int .u32 n) rfl;replace HB:=zh hn;clear hn;clear HRf))
 go_ret
 exact gave_of HB.out (by have hz:=HE.out;subst hz;first|done|(simp only [List.nil_append,List.append_assoc,List.append_nil]))
set_option maxHeartbeats 1000000 in
theorem body53 (a b:ByteArray)(n:Int)(vf vr vt vv vd vw vp vl:Value)(w:World)(hsa:a.size<=1000)(hsb:b.size<=1000)(R:List Int)(hE:txt a++txt b=R):
 Calls Tryz.prog 16 #[.agg #[.int .i64 53,.string a,.string b,.int .u32 n,vf,vr,vt,vv,vd,vw,vp,vl]] w (Gave w R):=by
 have hx1:True:=trivial
 have hx2:True:=trivial
 have h0:=Wr.start1 w (.cells #[.int .i64 53,.string a,.string b,.int .u32 n,vf,vr,vt,vv,vd,vw,vp,vl] 37)
 have hc:=h0.cell
 have HB:=zh h0
 clear h0
 have HE:=zh hE
 clear hE
 go_enter Tryz.func16,Tryz.ntmps16
 go_wp2_with (first|(go_at_call 38;refine(text_w _ HB.out (by first|omega|(simp only [List.length_append,List.length_nil,List.length_cons,txt,sby_length,numB_len];omega))).mono ?_;rintro e w1 ⟨rfl,v1,hn⟩;clear hc;have hc:=hn.cell;clear hx1;have hx1:=box_at hn.buf.bel 1 (.string a) rfl;clear hx2;have hx2:=box_at hn.buf.bel 2 (.string b) rfl;replace HB:=zh hn;clear hn))
 go_ret
 exact gave_of HB.out (by have hz:=HE.out;subst hz;first|done|(simp only [List.nil_append,List.append_assoc,List.append_nil]))
set_option maxHeartbeats 1000000 in
theorem body3 (a b:ByteArray)(n:Int)(vf vr vt vv vd vw vp vl:Value)(w:World)(A_d:Option Addr)(c_d:Nat)(d:List Int)(hvd:vd=.slice A_d d.length c_d)(hrd:RdB w (.slice A_d d.length c_d) d)(hld:d.length<=3000)(R:List Int)(hE:d=R):
 Calls Tryz.prog 16 #[.agg #[.int .i64 3,.string a,.string b,.int .u32 n,vf,vr,vt,vv,vd,vw,vp,vl]] w (Gave w R):=by
 subst hvd
 have HRd:=zh (hrd.ext (ext_alloc w (.cells #[.int .i64 3,.string a,.string b,.int .u32 n,vf,vr,vt,vv,.slice A_d d.length c_d,vw,vp,vl] 37)))
 clear hrd
 have hx8:True:=trivial
 have h0:=Wr.start1 w (.cells #[.int .i64 3,.string a,.string b,.int .u32 n,vf,vr,vt,vv,.slice A_d d.length c_d,vw,vp,vl] 37)
 have hc:=h0.cell
 have HB:=zh h0
 clear h0
 have HE:=zh hE
 clear hE
 go_enter Tryz.func16,Tryz.ntmps16
 go_wp2_with (first|(go_at_call 37;refine(bytes_w HB.out (HRd.out.ext HB.out.buf.bel) (by first|omega|(simp only [List.length_append,List.length_nil,List.length_cons,txt,sby_length,numB_len];omega))).mono ?_;rintro e w1 ⟨rfl,v1,hn⟩;clear hc;have hc:=hn.cell;clear hx8;have hx8:=box_at hn.buf.bel 8 (.slice A_d d.length c_d) rfl;replace HB:=zh hn;clear hn))
 go_ret
 exact gave_of HB.out (by have hz:=HE.out;subst hz;first|done|(simp only [List.nil_append,List.append_assoc,List.append_nil]))
set_option maxHeartbeats 1000000 in
theorem body10 (a b:ByteArray)(n:Int)(vf vr vt vv vd vw vp vl:Value)(w:World)(R:List Int)(hE:numB 80877104 4=R):
 Calls Tryz.prog 16 #[.agg #[.int .i64 10,.string a,.string b,.int .u32 n,vf,vr,vt,vv,vd,vw,vp,vl]] w (Gave w R):=by
 have h0:=Wr.start1 w (.cells #[.int .i64 10,.string a,.string b,.int .u32 n,vf,vr,vt,vv,vd,vw,vp,vl] 37)
 have hc:=h0.cell
 have HB:=zh h0
 clear h0
 have HE:=zh hE
 clear hE
 go_enter Tryz.func16,Tryz.ntmps16
 go_wp2_with (first|(go_at_call 36;refine(number_w 4 (by omega) _ HB.out (by first|omega|(simp only [List.length_append,List.length_nil,List.length_cons,txt,sby_length,numB_len];omega))).mono ?_;rintro e w1 ⟨rfl,v1,hn⟩;clear hc;have hc:=hn.cell;replace HB:=zh hn;clear hn))
 go_ret
 exact gave_of HB.out (by have hz:=HE.out;subst hz;first|done|(simp only [List.nil_append,List.append_assoc,List.append_nil]))
set_option maxHeartbeats 1000000 in
theorem body16 (a b:ByteArray)(n:Int)(vf vr vt vv vd vw vp vl:Value)(w:World)(A_d:Option Addr)(c_d:Nat)(d:List Int)(hvd:vd=.slice A_d d.length c_d)(hrd:RdB w (.slice A_d d.length c_d) d)(hld:d.length<=3000)(R:List Int)(hE:d=R):
 Calls Tryz.prog 16 #[.agg #[.int .i64 16,.string a,.string b,.int .u32 n,vf,vr,vt,vv,vd,vw,vp,vl]] w (Gave w R):=by
 subst hvd
 have HRd:=zh (hrd.ext (ext_alloc w (.cells #[.int .i64 16,.string a,.string b,.int .u32 n,vf,vr,vt,vv,.slice A_d d.length c_d,vw,vp,vl] 37)))
 clear hrd
 have hx8:True:=trivial
 have h0:=Wr.start1 w (.cells #[.int .i64 16,.string a,.string b,.int .u32 n,vf,vr,vt,vv,.slice A_d d.length c_d,vw,vp,vl] 37)
 have hc:=h0.cell
 have HB:=zh h0
 clear h0
 have HE:=zh hE
 clear hE
 go_enter Tryz.func16,Tryz.ntmps16
 go_wp2_with (first|(go_at_call 37;refine(bytes_w HB.out (HRd.out.ext HB.out.buf.bel) (by first|omega|(simp only [List.length_append,List.length_nil,List.length_cons,txt,sby_length,numB_len];omega))).mono ?_;rintro e w1 ⟨rfl,v1,hn⟩;clear hc;have hc:=hn.cell;clear hx8;have hx8:=box_at hn.buf.bel 8 (.slice A_d d.length c_d) rfl;replace HB:=zh hn;clear hn))
 go_ret
 exact gave_of HB.out (by have hz:=HE.out;subst hz;first|done|(simp only [List.nil_append,List.append_assoc,List.append_nil]))
set_option maxHeartbeats 1000000 in
theorem body32 (a b:ByteArray)(n:Int)(vf vr vt vv vd vw vp vl:Value)(w:World)(A_d:Option Addr)(c_d:Nat)(d:List Int)(hvd:vd=.slice A_d d.length c_d)(hrd:RdB w (.slice A_d d.length c_d) d)(hld:d.length<=3000)(R:List Int)(hE:numB 5 4++d=R):
 Calls Tryz.prog 16 #[.agg #[.int .i64 32,.string a,.string b,.int .u32 n,vf,vr,vt,vv,vd,vw,vp,vl]] w (Gave w R):=by
 subst hvd
 have HRd:=zh (hrd.ext (ext_alloc w (.cells #[.int .i64 32,.string a,.string b,.int .u32 n,vf,vr,vt,vv,.slice A_d d.length c_d,vw,vp,vl] 37)))
 clear hrd
 have hx8:True:=trivial
 have h0:=Wr.start1 w (.cells #[.int .i64 32,.string a,.string b,.int .u32 n,vf,vr,vt,vv,.slice A_d d.length c_d,vw,vp,vl] 37)
 have hc:=h0.cell
 have HB:=zh h0
 clear h0
 have HE:=zh hE
 clear hE
 go_enter Tryz.func16,Tryz.ntmps16
 go_wp2_with (first|(go_at_call 36;refine(number_w 4 (by omega) _ HB.out (by first|omega|(simp only [List.length_append,List.length_nil,List.length_cons,txt,sby_length,numB_len];omega))).mono ?_;rintro e w1 ⟨rfl,v1,hn⟩;clear hc;have hc:=hn.cell;clear hx8;have hx8:=box_at hn.buf.bel 8 (.slice A_d d.length c_d) rfl;replace HB:=zh hn;clear hn)|(go_at_call 37;refine(bytes_w HB.out (HRd.out.ext HB.out.buf.bel) (by first|omega|(simp only [List.length_append,List.length_nil,List.length_cons,txt,sby_length,numB_len];omega))).mono ?_;rintro e w1 ⟨rfl,v1,hn⟩;clear hc;have hc:=hn.cell;clear hx8;have hx8:=box_at hn.buf.bel 8 (.slice A_d d.length c_d) rfl;replace HB:=zh hn;clear hn))
 go_ret
 exact gave_of HB.out (by have hz:=HE.out;subst hz;first|done|(simp only [List.nil_append,List.append_assoc,List.append_nil]))
set_option maxHeartbeats 1000000 in
theorem body39 (a b:ByteArray)(n:Int)(vf vr vt vv vd vw vp vl:Value)(w:World)(R:List Int)(hE:[]=R):
 Calls Tryz.prog 16 #[.agg #[.int .i64 39,.string a,.string b,.int .u32 n,vf,vr,vt,vv,vd,vw,vp,vl]] w (Gave w R):=by
 have h0:=Wr.start1 w (.cells #[.int .i64 39,.string a,.string b,.int .u32 n,vf,vr,vt,vv,vd,vw,vp,vl] 37)
 have hc:=h0.cell
 have HB:=zh h0
 clear h0
 have HE:=zh hE
 clear hE
 go_enter Tryz.func16,Tryz.ntmps16
 go_wp2
 go_ret
 exact gave_of HB.out (by have hz:=HE.out;subst hz;first|done|(simp only [List.nil_append,List.append_assoc,List.append_nil]))
set_option maxHeartbeats 1000000 in
theorem body45 (a b:ByteArray)(n:Int)(vf vr vt vv vd vw vp vl:Value)(w:World)(vls:List (Bool×List Int))(hrv:RdM 2 isVal w vv vls)(hlv:vls.length<=1000)(hmv:∀y∈vls,y.2.length<=2000)(R:List Int)(hE:(numB (vls.length:Int) 2++vls.flatMap fun x=>valB x.1 x.2)=R):
 Calls Tryz.prog 16 #[.agg #[.int .i64 45,.string a,.string b,.int .u32 n,vf,vr,vt,vv,vd,vw,vp,vl]] w (Gave w R):=by
 have hfv:=flat_len (fun x:Bool×List Int=>valB x.1 x.2) 2004 vls fun y hy=>Nat.le_trans (valB_len y) (by have:=hmv y hy;omega)
 have HRv:=zh (hrv.ext (ext_alloc w (.cells #[.int .i64 45,.string a,.string b,.int .u32 n,vf,vr,vt,vv,vd,vw,vp,vl] 37)) (isVal.ext (ext_alloc w (.cells #[.int .i64 45,.string a,.string b,.int .u32 n,vf,vr,vt,vv,vd,vw,vp,vl] 37))))
 clear hrv
 have HMv:=zh hmv
 clear hmv
 have hx7:True:=trivial
 have h0:=Wr.start1 w (.cells #[.int .i64 45,.string a,.string b,.int .u32 n,vf,vr,vt,vv,vd,vw,vp,vl] 37)
 have hc:=h0.cell
 have HB:=zh h0
 clear h0
 have HE:=zh hE
 clear hE
 go_enter Tryz.func16,Tryz.ntmps16
 go_wp2_with (first|(go_at_call 40;refine(values_w vls HB.out HRv.out HMv.out (by first|omega|(simp only [List.length_append,List.length_nil,List.length_cons,txt,sby_length,numB_len];omega))).mono ?_;rintro e w1 ⟨rfl,v1,hn⟩;clear hc;have hc:=hn.cell;clear hx7;have hx7:=box_at hn.buf.bel 7 (vv) rfl;replace HB:=zh hn;clear hn))
 go_ret
 exact gave_of HB.out (by have hz:=HE.out;subst hz;first|done|(simp only [List.nil_append,List.append_assoc,List.append_nil]))
set_option maxHeartbeats 1000000 in
theorem body54 (a b:ByteArray)(n:Int)(vf vr vt vv vd vw vp vl:Value)(w:World)(R:List Int)(hE:[]=R):
 Calls Tryz.prog 16 #[.agg #[.int .i64 54,.string a,.string b,.int .u32 n,vf,vr,vt,vv,vd,vw,vp,vl]] w (Gave w R):=by
 have h0:=Wr.start1 w (.cells #[.int .i64 54,.string a,.string b,.int .u32 n,vf,vr,vt,vv,vd,vw,vp,vl] 37)
 have hc:=h0.cell
 have HB:=zh h0
 clear h0
 have HE:=zh hE
 clear hE
 go_enter Tryz.func16,Tryz.ntmps16
 go_wp2
 go_ret
 exact gave_of HB.out (by have hz:=HE.out;subst hz;first|done|(simp only [List.nil_append,List.append_assoc,List.append_nil]))
end Go.Proofs.YtdenjanihikolaaGreatDoor
