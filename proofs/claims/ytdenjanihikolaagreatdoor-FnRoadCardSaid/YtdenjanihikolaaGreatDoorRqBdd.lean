/- Bodies of the messages of the reference, with loops, by contract. -/
import Derived.Test.YtdenjanihikolaaGreatDoorRqA0
import Derived.Test.YtdenjanihikolaaGreatDoorRqA1
import Derived.Test.YtdenjanihikolaaGreatDoorRqWrd
import Derived.Test.YtdenjanihikolaaGreatDoorRqPpc
import Derived.Test.YtdenjanihikolaaGreatDoorRqTdc
import Derived.Test.YtdenjanihikolaaGreatDoorRqEncc
namespace Go.Proofs.YtdenjanihikolaaGreatDoor
set_option linter.unusedVariables false
set_option linter.unusedSimpArgs false
set_option maxRecDepth 100000
set_option maxHeartbeats 4000000
open Go.RowKit Og
theorem body2 (a b:ByteArray)(n:Int)(vf vr vt vv vd vw vp vl:Value)(w:World)(hsa:a.size<=1000)(hn:0<=n/\n < 4294967296)(R:List Int)(hE:numB n 1++txt a=R):
 Calls Tryz.prog 16 #[.agg #[.int .i64 2,.string a,.string b,.int .u32 n,vf,vr,vt,vv,vd,vw,vp,vl]] w (Gave w R):=by
 have hwn:wrap64 n=n:=by unfold wrap64;omega
 have hx3:True:=trivial
 have hx1:True:=trivial
 have h0:=Wr.start1 w (.cells #[.int .i64 2,.string a,.string b,.int .u32 n,vf,vr,vt,vv,vd,vw,vp,vl] 37)
 have hc:=h0.cell
 have HB:=zh h0
 clear h0
 have HE:=zh hE
 clear hE
 go_enter Tryz.func16,Tryz.ntmps16
 go_wp2_with (first|(go_at_call 36;refine(number_w 1 (by omega) _ HB.out ul2).mono ?_;rintro e w1 ⟨rfl,v1,hn⟩;clear hc;have hc:=hn.cell;clear hx3;have hx3:=box_at hn.buf.bel 3 (.int .u32 n) rfl;clear hx1;have hx1:=box_at hn.buf.bel 1 (.string a) rfl;replace HB:=zh hn;clear hn)|(go_at_call 38;refine(text_w _ HB.out ul2).mono ?_;rintro e w1 ⟨rfl,v1,hn⟩;clear hc;have hc:=hn.cell;clear hx3;have hx3:=box_at hn.buf.bel 3 (.int .u32 n) rfl;clear hx1;have hx1:=box_at hn.buf.bel 1 (.string a) rfl;replace HB:=zh hn;clear hn))
 go_ret
 exact gave_of HB.out ul5
theorem body8 (a b:ByteArray)(n:Int)(vf vr vt vv vd vw vp vl:Value)(w:World)(R:List Int)(hE:[]=R):
 Calls Tryz.prog 16 #[.agg #[.int .i64 8,.string a,.string b,.int .u32 n,vf,vr,vt,vv,vd,vw,vp,vl]] w (Gave w R):=by
 have h0:=Wr.start1 w (.cells #[.int .i64 8,.string a,.string b,.int .u32 n,vf,vr,vt,vv,vd,vw,vp,vl] 37)
 have hc:=h0.cell
 have HB:=zh h0
 clear h0
 have HE:=zh hE
 clear hE
 go_enter Tryz.func16,Tryz.ntmps16
 go_wp2
 go_ret
 exact gave_of HB.out ul5
theorem body15 (a b:ByteArray)(n:Int)(vf vr vt vv vd vw vp vl:Value)(w:World)(hsa:a.size<=1000)(A_d:Option Addr)(c_d:Nat)(d:List Int)(hvd:vd=.slice A_d d.length c_d)(hrd:RdB w (.slice A_d d.length c_d) d)(hld:d.length<=3000)(R:List Int)(hE:txt a++numB (d.length:Int) 4++d=R):
 Calls Tryz.prog 16 #[.agg #[.int .i64 15,.string a,.string b,.int .u32 n,vf,vr,vt,vv,vd,vw,vp,vl]] w (Gave w R):=by
 subst hvd
 have HRd:=zh (hrd.ext (ext_alloc w (.cells #[.int .i64 15,.string a,.string b,.int .u32 n,vf,vr,vt,vv,.slice A_d d.length c_d,vw,vp,vl] 37)))
 clear hrd
 have hx8:True:=trivial
 have hx1:True:=trivial
 have h0:=Wr.start1 w (.cells #[.int .i64 15,.string a,.string b,.int .u32 n,vf,vr,vt,vv,.slice A_d d.length c_d,vw,vp,vl] 37)
 have hc:=h0.cell
 have HB:=zh h0
 clear h0
 have HE:=zh hE
 clear hE
 go_enter Tryz.func16,Tryz.ntmps16
 go_wp2_with (first|(go_at_call 36;refine(number_w 4 (by omega) _ HB.out ul2).mono ?_;rintro e w1 ⟨rfl,v1,hn⟩;clear hc;have hc:=hn.cell;clear hx8;have hx8:=box_at hn.buf.bel 8 (.slice A_d d.length c_d) rfl;clear hx1;have hx1:=box_at hn.buf.bel 1 (.string a) rfl;replace HB:=zh hn;clear hn)|(go_at_call 37;refine(bytes_w HB.out (HRd.out.ext HB.out.buf.bel) ul2).mono ?_;rintro e w1 ⟨rfl,v1,hn⟩;clear hc;have hc:=hn.cell;clear hx8;have hx8:=box_at hn.buf.bel 8 (.slice A_d d.length c_d) rfl;clear hx1;have hx1:=box_at hn.buf.bel 1 (.string a) rfl;replace HB:=zh hn;clear hn)|(go_at_call 38;refine(text_w _ HB.out ul2).mono ?_;rintro e w1 ⟨rfl,v1,hn⟩;clear hc;have hc:=hn.cell;clear hx8;have hx8:=box_at hn.buf.bel 8 (.slice A_d d.length c_d) rfl;clear hx1;have hx1:=box_at hn.buf.bel 1 (.string a) rfl;replace HB:=zh hn;clear hn))
 go_ret
 exact gave_of HB.out ul5
theorem body31 (a b:ByteArray)(n:Int)(vf vr vt vv vd vw vp vl:Value)(w:World)(R:List Int)(hE:numB 3 4=R):
 Calls Tryz.prog 16 #[.agg #[.int .i64 31,.string a,.string b,.int .u32 n,vf,vr,vt,vv,vd,vw,vp,vl]] w (Gave w R):=by
 have h0:=Wr.start1 w (.cells #[.int .i64 31,.string a,.string b,.int .u32 n,vf,vr,vt,vv,vd,vw,vp,vl] 37)
 have hc:=h0.cell
 have HB:=zh h0
 clear h0
 have HE:=zh hE
 clear hE
 go_enter Tryz.func16,Tryz.ntmps16
 go_wp2_with (first|(go_at_call 36;refine(number_w 4 (by omega) _ HB.out ul2).mono ?_;rintro e w1 ⟨rfl,v1,hn⟩;clear hc;have hc:=hn.cell;replace HB:=zh hn;clear hn))
 go_ret
 exact gave_of HB.out ul5
theorem body38 (a b:ByteArray)(n:Int)(vf vr vt vv vd vw vp vl:Value)(w:World)(hn:0<=n/\n < 4294967296)(A_d:Option Addr)(c_d:Nat)(d:List Int)(hvd:vd=.slice A_d d.length c_d)(hrd:RdB w (.slice A_d d.length c_d) d)(hld:d.length<=3000)(R:List Int)(hE:numB n 4++d=R):
 Calls Tryz.prog 16 #[.agg #[.int .i64 38,.string a,.string b,.int .u32 n,vf,vr,vt,vv,vd,vw,vp,vl]] w (Gave w R):=by
 subst hvd
 have HRd:=zh (hrd.ext (ext_alloc w (.cells #[.int .i64 38,.string a,.string b,.int .u32 n,vf,vr,vt,vv,.slice A_d d.length c_d,vw,vp,vl] 37)))
 clear hrd
 have hwn:wrap64 n=n:=by unfold wrap64;omega
 have hx8:True:=trivial
 have hx3:True:=trivial
 have h0:=Wr.start1 w (.cells #[.int .i64 38,.string a,.string b,.int .u32 n,vf,vr,vt,vv,.slice A_d d.length c_d,vw,vp,vl] 37)
 have hc:=h0.cell
 have HB:=zh h0
 clear h0
 have HE:=zh hE
 clear hE
 go_enter Tryz.func16,Tryz.ntmps16
 go_wp2_with (first|(go_at_call 36;refine(number_w 4 (by omega) _ HB.out ul2).mono ?_;rintro e w1 ⟨rfl,v1,hn⟩;clear hc;have hc:=hn.cell;clear hx8;have hx8:=box_at hn.buf.bel 8 (.slice A_d d.length c_d) rfl;clear hx3;have hx3:=box_at hn.buf.bel 3 (.int .u32 n) rfl;replace HB:=zh hn;clear hn)|(go_at_call 37;refine(bytes_w HB.out (HRd.out.ext HB.out.buf.bel) ul2).mono ?_;rintro e w1 ⟨rfl,v1,hn⟩;clear hc;have hc:=hn.cell;clear hx8;have hx8:=box_at hn.buf.bel 8 (.slice A_d d.length c_d) rfl;clear hx3;have hx3:=box_at hn.buf.bel 3 (.int .u32 n) rfl;replace HB:=zh hn;clear hn))
 go_ret
 exact gave_of HB.out ul5
theorem body44 (a b:ByteArray)(n:Int)(vf vr vt vv vd vw vp vl:Value)(w:World)(hn:0<=n/\n < 4294967296)(lf:List Int)(hrf:RdI .i64 w vf lf)(hlf:lf.length<=4294967296)(R:List Int)(hE:numB n 1++(numB (lf.length:Int) 2++lf.flatMap fun n=>numB n 2)=R):
 Calls Tryz.prog 16 #[.agg #[.int .i64 44,.string a,.string b,.int .u32 n,vf,vr,vt,vv,vd,vw,vp,vl]] w (Gave w R):=by
 have HRf:=zh (hrf.ext (ext_alloc w (.cells #[.int .i64 44,.string a,.string b,.int .u32 n,vf,vr,vt,vv,vd,vw,vp,vl] 37)))
 clear hrf
 have hflf:=flat_len (fun n=>numB n 2) 2 lf fun y _=>Nat.le_of_eq (numB_len y 2)
 have hwn:wrap64 n=n:=by unfold wrap64;omega
 have hx4:True:=trivial
 have hx3:True:=trivial
 have h0:=Wr.start1 w (.cells #[.int .i64 44,.string a,.string b,.int .u32 n,vf,vr,vt,vv,vd,vw,vp,vl] 37)
 have hc:=h0.cell
 have HB:=zh h0
 clear h0
 have HE:=zh hE
 clear hE
 go_enter Tryz.func16,Tryz.ntmps16
 go_wp2_with (first|(go_at_call 36;refine(number_w 1 (by omega) _ HB.out ul2).mono ?_;rintro e w1 ⟨rfl,v1,hn⟩;clear hc;have hc:=hn.cell;clear hx4;have hx4:=box_at hn.buf.bel 4 (vf) rfl;clear hx3;have hx3:=box_at hn.buf.bel 3 (.int .u32 n) rfl;replace HB:=zh hn;clear hn)|(go_at_call 39;refine(shorts_w lf HB.out HRf.out ul2).mono ?_;rintro e w1 ⟨rfl,v1,hn⟩;clear hc;have hc:=hn.cell;clear hx4;have hx4:=box_at hn.buf.bel 4 (vf) rfl;clear hx3;have hx3:=box_at hn.buf.bel 3 (.int .u32 n) rfl;replace HB:=zh hn;clear hn;clear HRf))
 go_ret
 exact gave_of HB.out ul5
theorem body53 (a b:ByteArray)(n:Int)(vf vr vt vv vd vw vp vl:Value)(w:World)(hsa:a.size<=1000)(hsb:b.size<=1000)(R:List Int)(hE:txt a++txt b=R):
 Calls Tryz.prog 16 #[.agg #[.int .i64 53,.string a,.string b,.int .u32 n,vf,vr,vt,vv,vd,vw,vp,vl]] w (Gave w R):=by
 have hx1:True:=trivial
 have hx2:True:=trivial
 have h0:=Wr.start1 w (.cells #[.int .i64 53,.string a,.string b,.int .u32 n,vf,vr,vt,vv,vd,vw,vp,vl] 37)
 have hc:=h0.cell
 have HB:=zh h0
 clear h0
 have HE:=zh hE
 clear hE
 go_enter Tryz.func16,Tryz.ntmps16
 go_wp2_with (first|(go_at_call 38;refine(text_w _ HB.out ul2).mono ?_;rintro e w1 ⟨rfl,v1,hn⟩;clear hc;have hc:=hn.cell;clear hx1;have hx1:=box_at hn.buf.bel 1 (.string a) rfl;clear hx2;have hx2:=box_at hn.buf.bel 2 (.string b) rfl;replace HB:=zh hn;clear hn))
 go_ret
 exact gave_of HB.out ul5
theorem body3 (a b:ByteArray)(n:Int)(vf vr vt vv vd vw vp vl:Value)(w:World)(A_d:Option Addr)(c_d:Nat)(d:List Int)(hvd:vd=.slice A_d d.length c_d)(hrd:RdB w (.slice A_d d.length c_d) d)(hld:d.length<=3000)(R:List Int)(hE:d=R):
 Calls Tryz.prog 16 #[.agg #[.int .i64 3,.string a,.string b,.int .u32 n,vf,vr,vt,vv,vd,vw,vp,vl]] w (Gave w R):=by
 subst hvd
 have HRd:=zh (hrd.ext (ext_alloc w (.cells #[.int .i64 3,.string a,.string b,.int .u32 n,vf,vr,vt,vv,.slice A_d d.length c_d,vw,vp,vl] 37)))
 clear hrd
 have hx8:True:=trivial
 have h0:=Wr.start1 w (.cells #[.int .i64 3,.string a,.string b,.int .u32 n,vf,vr,vt,vv,.slice A_d d.length c_d,vw,vp,vl] 37)
 have hc:=h0.cell
 have HB:=zh h0
 clear h0
 have HE:=zh hE
 clear hE
 go_enter Tryz.func16,Tryz.ntmps16
 go_wp2_with (first|(go_at_call 37;refine(bytes_w HB.out (HRd.out.ext HB.out.buf.bel) ul2).mono ?_;rintro e w1 ⟨rfl,v1,hn⟩;clear hc;have hc:=hn.cell;clear hx8;have hx8:=box_at hn.buf.bel 8 (.slice A_d d.length c_d) rfl;replace HB:=zh hn;clear hn))
 go_ret
 exact gave_of HB.out ul5
theorem body10 (a b:ByteArray)(n:Int)(vf vr vt vv vd vw vp vl:Value)(w:World)(R:List Int)(hE:numB 80877104 4=R):
 Calls Tryz.prog 16 #[.agg #[.int .i64 10,.string a,.string b,.int .u32 n,vf,vr,vt,vv,vd,vw,vp,vl]] w (Gave w R):=by
 have h0:=Wr.start1 w (.cells #[.int .i64 10,.string a,.string b,.int .u32 n,vf,vr,vt,vv,vd,vw,vp,vl] 37)
 have hc:=h0.cell
 have HB:=zh h0
 clear h0
 have HE:=zh hE
 clear hE
 go_enter Tryz.func16,Tryz.ntmps16
 go_wp2_with (first|(go_at_call 36;refine(number_w 4 (by omega) _ HB.out ul2).mono ?_;rintro e w1 ⟨rfl,v1,hn⟩;clear hc;have hc:=hn.cell;replace HB:=zh hn;clear hn))
 go_ret
 exact gave_of HB.out ul5
theorem body16 (a b:ByteArray)(n:Int)(vf vr vt vv vd vw vp vl:Value)(w:World)(A_d:Option Addr)(c_d:Nat)(d:List Int)(hvd:vd=.slice A_d d.length c_d)(hrd:RdB w (.slice A_d d.length c_d) d)(hld:d.length<=3000)(R:List Int)(hE:d=R):
 Calls Tryz.prog 16 #[.agg #[.int .i64 16,.string a,.string b,.int .u32 n,vf,vr,vt,vv,vd,vw,vp,vl]] w (Gave w R):=by
 subst hvd
 have HRd:=zh (hrd.ext (ext_alloc w (.cells #[.int .i64 16,.string a,.string b,.int .u32 n,vf,vr,vt,vv,.slice A_d d.length c_d,vw,vp,vl] 37)))
 clear hrd
 have hx8:True:=trivial
 have h0:=Wr.start1 w (.cells #[.int .i64 16,.string a,.string b,.int .u32 n,vf,vr,vt,vv,.slice A_d d.length c_d,vw,vp,vl] 37)
 have hc:=h0.cell
 have HB:=zh h0
 clear h0
 have HE:=zh hE
 clear hE
 go_enter Tryz.func16,Tryz.ntmps16
 go_wp2_with (first|(go_at_call 37;refine(bytes_w HB.out (HRd.out.ext HB.out.buf.bel) ul2).mono ?_;rintro e w1 ⟨rfl,v1,hn⟩;clear hc;have hc:=hn.cell;clear hx8;have hx8:=box_at hn.buf.bel 8 (.slice A_d d.length c_d) rfl;replace HB:=zh hn;clear hn))
 go_ret
 exact gave_of HB.out ul5
theorem body32 (a b:ByteArray)(n:Int)(vf vr vt vv vd vw vp vl:Value)(w:World)(A_d:Option Addr)(c_d:Nat)(d:List Int)(hvd:vd=.slice A_d d.length c_d)(hrd:RdB w (.slice A_d d.length c_d) d)(hld:d.length<=3000)(R:List Int)(hE:numB 5 4++d=R):
 Calls Tryz.prog 16 #[.agg #[.int .i64 32,.string a,.string b,.int .u32 n,vf,vr,vt,vv,vd,vw,vp,vl]] w (Gave w R):=by
 subst hvd
 have HRd:=zh (hrd.ext (ext_alloc w (.cells #[.int .i64 32,.string a,.string b,.int .u32 n,vf,vr,vt,vv,.slice A_d d.length c_d,vw,vp,vl] 37)))
 clear hrd
 have hx8:True:=trivial
 have h0:=Wr.start1 w (.cells #[.int .i64 32,.string a,.string b,.int .u32 n,vf,vr,vt,vv,.slice A_d d.length c_d,vw,vp,vl] 37)
 have hc:=h0.cell
 have HB:=zh h0
 clear h0
 have HE:=zh hE
 clear hE
 go_enter Tryz.func16,Tryz.ntmps16
 go_wp2_with (first|(go_at_call 36;refine(number_w 4 (by omega) _ HB.out ul2).mono ?_;rintro e w1 ⟨rfl,v1,hn⟩;clear hc;have hc:=hn.cell;clear hx8;have hx8:=box_at hn.buf.bel 8 (.slice A_d d.length c_d) rfl;replace HB:=zh hn;clear hn)|(go_at_call 37;refine(bytes_w HB.out (HRd.out.ext HB.out.buf.bel) ul2).mono ?_;rintro e w1 ⟨rfl,v1,hn⟩;clear hc;have hc:=hn.cell;clear hx8;have hx8:=box_at hn.buf.bel 8 (.slice A_d d.length c_d) rfl;replace HB:=zh hn;clear hn))
 go_ret
 exact gave_of HB.out ul5
theorem body39 (a b:ByteArray)(n:Int)(vf vr vt vv vd vw vp vl:Value)(w:World)(R:List Int)(hE:[]=R):
 Calls Tryz.prog 16 #[.agg #[.int .i64 39,.string a,.string b,.int .u32 n,vf,vr,vt,vv,vd,vw,vp,vl]] w (Gave w R):=by
 have h0:=Wr.start1 w (.cells #[.int .i64 39,.string a,.string b,.int .u32 n,vf,vr,vt,vv,vd,vw,vp,vl] 37)
 have hc:=h0.cell
 have HB:=zh h0
 clear h0
 have HE:=zh hE
 clear hE
 go_enter Tryz.func16,Tryz.ntmps16
 go_wp2
 go_ret
 exact gave_of HB.out ul5
theorem body45 (a b:ByteArray)(n:Int)(vf vr vt vv vd vw vp vl:Value)(w:World)(vls:List (Bool×List Int))(hrv:RdM 2 isVal w vv vls)(hlv:vls.length<=1000)(hmv:∀y∈vls,y.2.length<=2000)(R:List Int)(hE:(numB (vls.length:Int) 2++vls.flatMap fun x=>valB x.1 x.2)=R):
 Calls Tryz.prog 16 #[.agg #[.int .i64 45,.string a,.string b,.int .u32 n,vf,vr,vt,vv,vd,vw,vp,vl]] w (Gave w R):=by
 have hfv:=flat_len (fun x:Bool×List Int=>valB x.1 x.2) 2004 vls fun y hy=>Nat.le_trans (valB_len y) (by have:=hmv y hy;omega)
 have HRv:=zh (hrv.ext (ext_alloc w (.cells #[.int .i64 45,.string a,.string b,.int .u32 n,vf,vr,vt,vv,vd,vw,vp,vl] 37)) (isVal.ext (ext_alloc w (.cells #[.int .i64 45,.string a,.string b,.int .u32 n,vf,vr,vt,vv,vd,vw,vp,vl] 37))))
 clear hrv
 have HMv:=zh hmv
 clear hmv
 have hx7:True:=trivial
 have h0:=Wr.start1 w (.cells #[.int .i64 45,.string a,.string b,.int .u32 n,vf,vr,vt,vv,vd,vw,vp,vl] 37)
 have hc:=h0.cell
 have HB:=zh h0
 clear h0
 have HE:=zh hE
 clear hE
 go_enter Tryz.func16,Tryz.ntmps16
 go_wp2_with (first|(go_at_call 40;refine(values_w vls HB.out HRv.out HMv.out ul2).mono ?_;rintro e w1 ⟨rfl,v1,hn⟩;clear hc;have hc:=hn.cell;clear hx7;have hx7:=box_at hn.buf.bel 7 (vv) rfl;replace HB:=zh hn;clear hn))
 go_ret
 exact gave_of HB.out ul5
theorem body54 (a b:ByteArray)(n:Int)(vf vr vt vv vd vw vp vl:Value)(w:World)(R:List Int)(hE:[]=R):
 Calls Tryz.prog 16 #[.agg #[.int .i64 54,.string a,.string b,.int .u32 n,vf,vr,vt,vv,vd,vw,vp,vl]] w (Gave w R):=by
 have h0:=Wr.start1 w (.cells #[.int .i64 54,.string a,.string b,.int .u32 n,vf,vr,vt,vv,vd,vw,vp,vl] 37)
 have hc:=h0.cell
 have HB:=zh h0
 clear h0
 have HE:=zh hE
 clear hE
 go_enter Tryz.func16,Tryz.ntmps16
 go_wp2
 go_ret
 exact gave_of HB.out ul5
theorem body4 (a b:ByteArray)(n:Int)(vf vr vt vv vd vw vp vl:Value)(w:World)(R:List Int)(hE:[]=R):
 Calls Tryz.prog 16 #[.agg #[.int .i64 4,.string a,.string b,.int .u32 n,vf,vr,vt,vv,vd,vw,vp,vl]] w (Gave w R):=by
 have h0:=Wr.start1 w (.cells #[.int .i64 4,.string a,.string b,.int .u32 n,vf,vr,vt,vv,vd,vw,vp,vl] 37)
 have hc:=h0.cell
 have HB:=zh h0
 clear h0
 have HE:=zh hE
 clear hE
 go_enter Tryz.func16,Tryz.ntmps16
 go_wp2
 go_ret
 exact gave_of HB.out ul5
theorem body11 (a b:ByteArray)(n:Int)(vf vr vt vv vd vw vp vl:Value)(w:World)(A_d:Option Addr)(c_d:Nat)(d:List Int)(hvd:vd=.slice A_d d.length c_d)(hrd:RdB w (.slice A_d d.length c_d) d)(hld:d.length<=3000)(R:List Int)(hE:d=R):
 Calls Tryz.prog 16 #[.agg #[.int .i64 11,.string a,.string b,.int .u32 n,vf,vr,vt,vv,vd,vw,vp,vl]] w (Gave w R):=by
 subst hvd
 have HRd:=zh (hrd.ext (ext_alloc w (.cells #[.int .i64 11,.string a,.string b,.int .u32 n,vf,vr,vt,vv,.slice A_d d.length c_d,vw,vp,vl] 37)))
 clear hrd
 have hx8:True:=trivial
 have h0:=Wr.start1 w (.cells #[.int .i64 11,.string a,.string b,.int .u32 n,vf,vr,vt,vv,.slice A_d d.length c_d,vw,vp,vl] 37)
 have hc:=h0.cell
 have HB:=zh h0
 clear h0
 have HE:=zh hE
 clear hE
 go_enter Tryz.func16,Tryz.ntmps16
 go_wp2_with (first|(go_at_call 37;refine(bytes_w HB.out (HRd.out.ext HB.out.buf.bel) ul2).mono ?_;rintro e w1 ⟨rfl,v1,hn⟩;clear hc;have hc:=hn.cell;clear hx8;have hx8:=box_at hn.buf.bel 8 (.slice A_d d.length c_d) rfl;replace HB:=zh hn;clear hn))
 go_ret
 exact gave_of HB.out ul5
theorem body17 (a b:ByteArray)(n:Int)(vf vr vt vv vd vw vp vl:Value)(w:World)(R:List Int)(hE:numB 80877103 4=R):
 Calls Tryz.prog 16 #[.agg #[.int .i64 17,.string a,.string b,.int .u32 n,vf,vr,vt,vv,vd,vw,vp,vl]] w (Gave w R):=by
 have h0:=Wr.start1 w (.cells #[.int .i64 17,.string a,.string b,.int .u32 n,vf,vr,vt,vv,vd,vw,vp,vl] 37)
 have hc:=h0.cell
 have HB:=zh h0
 clear h0
 have HE:=zh hE
 clear hE
 go_enter Tryz.func16,Tryz.ntmps16
 go_wp2_with (first|(go_at_call 36;refine(number_w 4 (by omega) _ HB.out ul2).mono ?_;rintro e w1 ⟨rfl,v1,hn⟩;clear hc;have hc:=hn.cell;replace HB:=zh hn;clear hn))
 go_ret
 exact gave_of HB.out ul5
theorem body33 (a b:ByteArray)(n:Int)(vf vr vt vv vd vw vp vl:Value)(w:World)(R:List Int)(hE:numB 7 4=R):
 Calls Tryz.prog 16 #[.agg #[.int .i64 33,.string a,.string b,.int .u32 n,vf,vr,vt,vv,vd,vw,vp,vl]] w (Gave w R):=by
 have h0:=Wr.start1 w (.cells #[.int .i64 33,.string a,.string b,.int .u32 n,vf,vr,vt,vv,vd,vw,vp,vl] 37)
 have hc:=h0.cell
 have HB:=zh h0
 clear h0
 have HE:=zh hE
 clear hE
 go_enter Tryz.func16,Tryz.ntmps16
 go_wp2_with (first|(go_at_call 36;refine(number_w 4 (by omega) _ HB.out ul2).mono ?_;rintro e w1 ⟨rfl,v1,hn⟩;clear hc;have hc:=hn.cell;replace HB:=zh hn;clear hn))
 go_ret
 exact gave_of HB.out ul5
theorem body40 (a b:ByteArray)(n:Int)(vf vr vt vv vd vw vp vl:Value)(w:World)(R:List Int)(hE:[]=R):
 Calls Tryz.prog 16 #[.agg #[.int .i64 40,.string a,.string b,.int .u32 n,vf,vr,vt,vv,vd,vw,vp,vl]] w (Gave w R):=by
 have h0:=Wr.start1 w (.cells #[.int .i64 40,.string a,.string b,.int .u32 n,vf,vr,vt,vv,vd,vw,vp,vl] 37)
 have hc:=h0.cell
 have HB:=zh h0
 clear h0
 have HE:=zh hE
 clear hE
 go_enter Tryz.func16,Tryz.ntmps16
 go_wp2
 go_ret
 exact gave_of HB.out ul5
theorem body46 (a b:ByteArray)(n:Int)(vf vr vt vv vd vw vp vl:Value)(w:World)(R:List Int)(hE:[]=R):
 Calls Tryz.prog 16 #[.agg #[.int .i64 46,.string a,.string b,.int .u32 n,vf,vr,vt,vv,vd,vw,vp,vl]] w (Gave w R):=by
 have h0:=Wr.start1 w (.cells #[.int .i64 46,.string a,.string b,.int .u32 n,vf,vr,vt,vv,vd,vw,vp,vl] 37)
 have hc:=h0.cell
 have HB:=zh h0
 clear h0
 have HE:=zh hE
 clear hE
 go_enter Tryz.func16,Tryz.ntmps16
 go_wp2
 go_ret
 exact gave_of HB.out ul5
theorem body55 (a b:ByteArray)(n:Int)(vf vr vt vv vd vw vp vl:Value)(w:World)(R:List Int)(hE:[]=R):
 Calls Tryz.prog 16 #[.agg #[.int .i64 55,.string a,.string b,.int .u32 n,vf,vr,vt,vv,vd,vw,vp,vl]] w (Gave w R):=by
 have h0:=Wr.start1 w (.cells #[.int .i64 55,.string a,.string b,.int .u32 n,vf,vr,vt,vv,vd,vw,vp,vl] 37)
 have hc:=h0.cell
 have HB:=zh h0
 clear h0
 have HE:=zh hE
 clear hE
 go_enter Tryz.func16,Tryz.ntmps16
 go_wp2
 go_ret
 exact gave_of HB.out ul5
theorem body5 (a b:ByteArray)(n:Int)(vf vr vt vv vd vw vp vl:Value)(w:World)(hsa:a.size<=1000)(R:List Int)(hE:txt a=R):
 Calls Tryz.prog 16 #[.agg #[.int .i64 5,.string a,.string b,.int .u32 n,vf,vr,vt,vv,vd,vw,vp,vl]] w (Gave w R):=by
 have hx1:True:=trivial
 have h0:=Wr.start1 w (.cells #[.int .i64 5,.string a,.string b,.int .u32 n,vf,vr,vt,vv,vd,vw,vp,vl] 37)
 have hc:=h0.cell
 have HB:=zh h0
 clear h0
 have HE:=zh hE
 clear hE
 go_enter Tryz.func16,Tryz.ntmps16
 go_wp2_with (first|(go_at_call 38;refine(text_w _ HB.out ul2).mono ?_;rintro e w1 ⟨rfl,v1,hn⟩;clear hc;have hc:=hn.cell;clear hx1;have hx1:=box_at hn.buf.bel 1 (.string a) rfl;replace HB:=zh hn;clear hn))
 go_ret
 exact gave_of HB.out ul5
theorem body12 (a b:ByteArray)(n:Int)(vf vr vt vv vd vw vp vl:Value)(w:World)(hsa:a.size<=1000)(hsb:b.size<=1000)(ty:List Int)(hrt:RdI .u32 w vt ty)(hlt:ty.length<=4294967296)(hgt:∀y∈ty,0<=y/\y < 4294967296)(R:List Int)(hE:txt a++txt b++(numB (ty.length:Int) 2++ty.flatMap fun n=>numB n 4)=R):
 Calls Tryz.prog 16 #[.agg #[.int .i64 12,.string a,.string b,.int .u32 n,vf,vr,vt,vv,vd,vw,vp,vl]] w (Gave w R):=by
 have HRt:=zh (hrt.ext (ext_alloc w (.cells #[.int .i64 12,.string a,.string b,.int .u32 n,vf,vr,vt,vv,vd,vw,vp,vl] 37)))
 clear hrt
 have HGt:=zh hgt
 clear hgt
 have hflt:=flat_len (fun n=>numB n 4) 4 ty fun y _=>Nat.le_of_eq (numB_len y 4)
 have hx1:True:=trivial
 have hx2:True:=trivial
 have hx6:True:=trivial
 have h0:=Wr.start1 w (.cells #[.int .i64 12,.string a,.string b,.int .u32 n,vf,vr,vt,vv,vd,vw,vp,vl] 37)
 have hc:=h0.cell
 have HB:=zh h0
 clear h0
 have HE:=zh hE
 clear hE
 go_enter Tryz.func16,Tryz.ntmps16
 go_wp2_with (first|(go_at_call 38;refine(text_w _ HB.out ul2).mono ?_;rintro e w1 ⟨rfl,v1,hn⟩;clear hc;have hc:=hn.cell;clear hx1;have hx1:=box_at hn.buf.bel 1 (.string a) rfl;clear hx2;have hx2:=box_at hn.buf.bel 2 (.string b) rfl;clear hx6;have hx6:=box_at hn.buf.bel 6 (vt) rfl;replace HB:=zh hn;clear hn)|(go_at_call 41;refine(types_w ty HB.out HRt.out ul2 HGt.out).mono ?_;rintro e w1 ⟨rfl,v1,hn⟩;clear hc;have hc:=hn.cell;clear hx1;have hx1:=box_at hn.buf.bel 1 (.string a) rfl;clear hx2;have hx2:=box_at hn.buf.bel 2 (.string b) rfl;clear hx6;have hx6:=box_at hn.buf.bel 6 (vt) rfl;replace HB:=zh hn;clear hn))
 go_ret
 exact gave_of HB.out ul5
theorem body19 (a b:ByteArray)(n:Int)(vf vr vt vv vd vw vp vl:Value)(w:World)(R:List Int)(hE:[]=R):
 Calls Tryz.prog 16 #[.agg #[.int .i64 19,.string a,.string b,.int .u32 n,vf,vr,vt,vv,vd,vw,vp,vl]] w (Gave w R):=by
 have h0:=Wr.start1 w (.cells #[.int .i64 19,.string a,.string b,.int .u32 n,vf,vr,vt,vv,vd,vw,vp,vl] 37)
 have hc:=h0.cell
 have HB:=zh h0
 clear h0
 have HE:=zh hE
 clear hE
 go_enter Tryz.func16,Tryz.ntmps16
 go_wp2
 go_ret
 exact gave_of HB.out ul5
theorem body34 (a b:ByteArray)(n:Int)(vf vr vt vv vd vw vp vl:Value)(w:World)(A_d:Option Addr)(c_d:Nat)(d:List Int)(hvd:vd=.slice A_d d.length c_d)(hrd:RdB w (.slice A_d d.length c_d) d)(hld:d.length<=3000)(R:List Int)(hE:numB 8 4++d=R):
 Calls Tryz.prog 16 #[.agg #[.int .i64 34,.string a,.string b,.int .u32 n,vf,vr,vt,vv,vd,vw,vp,vl]] w (Gave w R):=by
 subst hvd
 have HRd:=zh (hrd.ext (ext_alloc w (.cells #[.int .i64 34,.string a,.string b,.int .u32 n,vf,vr,vt,vv,.slice A_d d.length c_d,vw,vp,vl] 37)))
 clear hrd
 have hx8:True:=trivial
 have h0:=Wr.start1 w (.cells #[.int .i64 34,.string a,.string b,.int .u32 n,vf,vr,vt,vv,.slice A_d d.length c_d,vw,vp,vl] 37)
 have hc:=h0.cell
 have HB:=zh h0
 clear h0
 have HE:=zh hE
 clear hE
 go_enter Tryz.func16,Tryz.ntmps16
 go_wp2_with (first|(go_at_call 36;refine(number_w 4 (by omega) _ HB.out ul2).mono ?_;rintro e w1 ⟨rfl,v1,hn⟩;clear hc;have hc:=hn.cell;clear hx8;have hx8:=box_at hn.buf.bel 8 (.slice A_d d.length c_d) rfl;replace HB:=zh hn;clear hn)|(go_at_call 37;refine(bytes_w HB.out (HRd.out.ext HB.out.buf.bel) ul2).mono ?_;rintro e w1 ⟨rfl,v1,hn⟩;clear hc;have hc:=hn.cell;clear hx8;have hx8:=box_at hn.buf.bel 8 (.slice A_d d.length c_d) rfl;replace HB:=zh hn;clear hn))
 go_ret
 exact gave_of HB.out ul5
theorem body41 (a b:ByteArray)(n:Int)(vf vr vt vv vd vw vp vl:Value)(w:World)(hsa:a.size<=1000)(R:List Int)(hE:txt a=R):
 Calls Tryz.prog 16 #[.agg #[.int .i64 41,.string a,.string b,.int .u32 n,vf,vr,vt,vv,vd,vw,vp,vl]] w (Gave w R):=by
 have hx1:True:=trivial
 have h0:=Wr.start1 w (.cells #[.int .i64 41,.string a,.string b,.int .u32 n,vf,vr,vt,vv,vd,vw,vp,vl] 37)
 have hc:=h0.cell
 have HB:=zh h0
 clear h0
 have HE:=zh hE
 clear hE
 go_enter Tryz.func16,Tryz.ntmps16
 go_wp2_with (first|(go_at_call 38;refine(text_w _ HB.out ul2).mono ?_;rintro e w1 ⟨rfl,v1,hn⟩;clear hc;have hc:=hn.cell;clear hx1;have hx1:=box_at hn.buf.bel 1 (.string a) rfl;replace HB:=zh hn;clear hn))
 go_ret
 exact gave_of HB.out ul5
theorem body50 (a b:ByteArray)(n:Int)(vf vr vt vv vd vw vp vl:Value)(w:World)(R:List Int)(hE:[]=R):
 Calls Tryz.prog 16 #[.agg #[.int .i64 50,.string a,.string b,.int .u32 n,vf,vr,vt,vv,vd,vw,vp,vl]] w (Gave w R):=by
 have h0:=Wr.start1 w (.cells #[.int .i64 50,.string a,.string b,.int .u32 n,vf,vr,vt,vv,vd,vw,vp,vl] 37)
 have hc:=h0.cell
 have HB:=zh h0
 clear h0
 have HE:=zh hE
 clear hE
 go_enter Tryz.func16,Tryz.ntmps16
 go_wp2
 go_ret
 exact gave_of HB.out ul5
theorem body56 (a b:ByteArray)(n:Int)(vf vr vt vv vd vw vp vl:Value)(w:World)(hn:0<=n/\n < 4294967296)(R:List Int)(hE:numB n 1=R):
 Calls Tryz.prog 16 #[.agg #[.int .i64 56,.string a,.string b,.int .u32 n,vf,vr,vt,vv,vd,vw,vp,vl]] w (Gave w R):=by
 have hwn:wrap64 n=n:=by unfold wrap64;omega
 have hx3:True:=trivial
 have h0:=Wr.start1 w (.cells #[.int .i64 56,.string a,.string b,.int .u32 n,vf,vr,vt,vv,vd,vw,vp,vl] 37)
 have hc:=h0.cell
 have HB:=zh h0
 clear h0
 have HE:=zh hE
 clear hE
 go_enter Tryz.func16,Tryz.ntmps16
 go_wp2_with (first|(go_at_call 36;refine(number_w 1 (by omega) _ HB.out ul2).mono ?_;rintro e w1 ⟨rfl,v1,hn⟩;clear hc;have hc:=hn.cell;clear hx3;have hx3:=box_at hn.buf.bel 3 (.int .u32 n) rfl;replace HB:=zh hn;clear hn))
 go_ret
 exact gave_of HB.out ul5
open Go.RowKit
def turnedQ (kd:Int):Bool:=kd == 18 || kd == 47 || kd == 48
theorem conv_str (w:World)(s:ByteArray)(hs:s.size<=maxLen):∃W5 A5 c5,(convert 9 26 (.string s)).run Tryz.prog w=.ok (.slice A5 s.size c5) W5/\Ext w W5/\RdB W5 (.slice A5 s.size c5) (sby s):=⟨_,_,_,run_bytes s w,ext_bytes w s,RdB.str w s hs⟩
theorem body47 (a b:ByteArray)(n:Int)(vf vr vt vv vd vw vp vl:Value)(w:World)(ps:List (ByteArray×ByteArray))(A_l:Option Addr)(c_l:Nat)(hvl:vp=.slice A_l ps.length c_l)(hr:RdM 2 isPr w (.slice A_l ps.length c_l) ps)(hl:ps.length<=1000)(hm:∀y∈ps,y.1.size<=1000/\y.2.size<=1000)(R:List Int)(hE:(ps.flatMap erB++numB 0 1)=R):
 Calls Tryz.prog 16 #[.agg #[.int .i64 47,.string a,.string b,.int .u32 n,vf,vr,vt,vv,vd,vw,vp,vl]] w (Gave w R):=by
 subst hvl
 have HRl:=zh (hr.ext (ext_alloc w (.cells #[.int .i64 47,.string a,.string b,.int .u32 n,vf,vr,vt,vv,vd,vw,.slice A_l ps.length c_l,vl] 37)) (fun _ _ h=>h))
 clear hr
 have HM:=zh hm
 have HF:=zh (show∀y∈ps,(erB y).length<=2002 from fun y hy=>(by have:=hm y hy;simp only [prB,erB,txt,List.length_append,List.length_cons,List.length_nil,sby_length];omega))
 clear hm
 have hx10:True:=trivial
 have h0:=Wr.start1 w (.cells #[.int .i64 47,.string a,.string b,.int .u32 n,vf,vr,vt,vv,vd,vw,.slice A_l ps.length c_l,vl] 37)
 have hc:=h0.cell
 have HB:=zh h0
 clear h0
 have HE:=zh hE
 clear hE
 go_enter Tryz.func16,Tryz.ntmps16
 go_wp2
 obtain⟨PRE0,HB',HP0⟩:∃P,Hid (Wr (Lt (w.alloc (.cells #[.int .i64 47,.string a,.string b,.int .u32 n,vf,vr,vt,vv,vd,vw,.slice A_l ps.length c_l,vl] 37)).heap.size) (w.alloc (.cells #[.int .i64 47,.string a,.string b,.int .u32 n,vf,vr,vt,vv,vd,vw,.slice A_l ps.length c_l,vl] 37)) _ (w.heap.size+1+1) _ (P))/\Hid (P=[]):=⟨_,HB,zh rfl⟩
 clear HB
 have hpl0:PRE0.length<=4:=by rw [HP0.out];first|omega|(simp only [List.length_append,List.length_nil,List.length_cons,txt,sby_length,numB_len,sfB] <;> omega)
 go_loopw [280] (fun i wr=>∃k:Nat,k<=ps.length/\i=.int .i64 k/\∃v',Hid (Wr (Lt (w.alloc (.cells #[.int .i64 47,.string a,.string b,.int .u32 n,vf,vr,vt,vv,vd,vw,.slice A_l ps.length c_l,vl] 37)).heap.size) (w.alloc (.cells #[.int .i64 47,.string a,.string b,.int .u32 n,vf,vr,vt,vv,vd,vw,.slice A_l ps.length c_l,vl] 37)) wr (w.heap.size+1+1) v' (PRE0++(ps.take k).flatMap erB))) (fun i _=>ps.length - (intOf i).toNat)
 case atStart=>exact⟨0,Nat.zero_le _,rfl,_,by simpa using HB'⟩
 case round=>
  clear HB' hc hx10
  obtain⟨k,hk1,rfl,v2,HB⟩:=hrel
  by_cases hlt:k < ps.length
  ·have hfl:=flat_take_len erB 2002 k ps HF.out
   obtain⟨b1,o1,f,rfl,hcell,hv⟩:=HRl.out.at_ hlt
   have hxl:=HM.out _ (List.getElem_mem hlt)
   obtain⟨x,hx⟩:∃x,x=ps[k]:=⟨_,rfl⟩
   rw [<-hx]at hv hxl
   obtain⟨hf0,hf1⟩:=hv
   have hd0:=HB.out.buf.bel.cell (hcell 0 (by omega))
   rw [hf0,Nat.add_zero]at hd0
   have hd1:=HB.out.buf.bel.cell (hcell 1 (by omega))
   rw [hf1]at hd1
   have HX:=zh hx
   clear hx hcell hf0 hf1
   have HB0:=HB
   replace HB:=zh (HB0.out.box (.cells #[.string x.1,.string x.2] 48))
   have hb0:True:=trivial
   have hb1:True:=trivial
   obtain⟨W5,A5,c5,hcv,hx5,hr5⟩:=conv_str (wr.alloc (.cells #[.string x.1,.string x.2] 48)) x.1 (by unfold maxLen;omega)
   have HX5:=zh hx5
   have HR5:=zh hr5
   clear hx5 hr5
   go_wp2_with (first|(go_at_call 38;refine(text_w _ HB.out ul4).mono ?_;rintro e w1 ⟨rfl,v1,hn⟩;clear hb0;have hb0:=(hn.buf.boxed 0).trans (show _=some (.string x.1)from rfl);clear hb1;have hb1:=(hn.buf.boxed 1).trans (show _=some (.string x.2)from rfl);replace HB:=zh hn;clear hn)|(go_at_call 37;refine(bytes_w (HB.out.ext HX5.out) HR5.out ul4).mono ?_;rintro e w1 ⟨rfl,v1,hn⟩;clear hb0;have hb0:=(hn.buf.boxed 0).trans (show _=some (.string x.1)from rfl);clear hb1;have hb1:=(hn.buf.boxed 1).trans (show _=some (.string x.2)from rfl);replace HB:=zh hn;clear hn))
   replace HB:=zh (HB0.out.unbox HB.out)
   go_roundw
   case rel=>
    refine⟨k+1,by omega,by go_num,v1,?_⟩
    rw [take_flat _ ps k hlt,<-HX.out]
    have hz:=HB.out
    simp only [List.append_assoc,sfB,prB,erB]at hz⊢
    exact zh hz
   case measure=>simp [intOf];omega
  ·obtain rfl:k=ps.length:=by omega
   have hfl:=flat_len erB 2002 ps HF.out
   rw [List.take_length]at HB
   have hc:=HB.out.cell
   go_wp2_with (go_at_call 36;refine(number_w 1 (by omega) _ HB.out ul4).mono ?_;rintro e w1 ⟨rfl,v1,hn⟩;clear hc;have hc:=hn.cell;replace HB:=zh hn;clear hn)
   go_ret
   exact gave_of HB.out (by have hz:=HE.out;subst hz;rw [HP0.out];first|done|(simp only [List.nil_append,List.append_assoc,List.append_nil]))
theorem body48 (a b:ByteArray)(n:Int)(vf vr vt vv vd vw vp vl:Value)(w:World)(ps:List (ByteArray×ByteArray))(A_l:Option Addr)(c_l:Nat)(hvl:vp=.slice A_l ps.length c_l)(hr:RdM 2 isPr w (.slice A_l ps.length c_l) ps)(hl:ps.length<=1000)(hm:∀y∈ps,y.1.size<=1000/\y.2.size<=1000)(R:List Int)(hE:(ps.flatMap erB++numB 0 1)=R):
 Calls Tryz.prog 16 #[.agg #[.int .i64 48,.string a,.string b,.int .u32 n,vf,vr,vt,vv,vd,vw,vp,vl]] w (Gave w R):=by
 subst hvl
 have HRl:=zh (hr.ext (ext_alloc w (.cells #[.int .i64 48,.string a,.string b,.int .u32 n,vf,vr,vt,vv,vd,vw,.slice A_l ps.length c_l,vl] 37)) (fun _ _ h=>h))
 clear hr
 have HM:=zh hm
 have HF:=zh (show∀y∈ps,(erB y).length<=2002 from fun y hy=>(by have:=hm y hy;simp only [prB,erB,txt,List.length_append,List.length_cons,List.length_nil,sby_length];omega))
 clear hm
 have hx10:True:=trivial
 have h0:=Wr.start1 w (.cells #[.int .i64 48,.string a,.string b,.int .u32 n,vf,vr,vt,vv,vd,vw,.slice A_l ps.length c_l,vl] 37)
 have hc:=h0.cell
 have HB:=zh h0
 clear h0
 have HE:=zh hE
 clear hE
 go_enter Tryz.func16,Tryz.ntmps16
 go_wp2
 obtain⟨PRE0,HB',HP0⟩:∃P,Hid (Wr (Lt (w.alloc (.cells #[.int .i64 48,.string a,.string b,.int .u32 n,vf,vr,vt,vv,vd,vw,.slice A_l ps.length c_l,vl] 37)).heap.size) (w.alloc (.cells #[.int .i64 48,.string a,.string b,.int .u32 n,vf,vr,vt,vv,vd,vw,.slice A_l ps.length c_l,vl] 37)) _ (w.heap.size+1+1) _ (P))/\Hid (P=[]):=⟨_,HB,zh rfl⟩
 clear HB
 have hpl0:PRE0.length<=4:=by rw [HP0.out];first|omega|(simp only [List.length_append,List.length_nil,List.length_cons,txt,sby_length,numB_len,sfB] <;> omega)
 go_loopw [280] (fun i wr=>∃k:Nat,k<=ps.length/\i=.int .i64 k/\∃v',Hid (Wr (Lt (w.alloc (.cells #[.int .i64 48,.string a,.string b,.int .u32 n,vf,vr,vt,vv,vd,vw,.slice A_l ps.length c_l,vl] 37)).heap.size) (w.alloc (.cells #[.int .i64 48,.string a,.string b,.int .u32 n,vf,vr,vt,vv,vd,vw,.slice A_l ps.length c_l,vl] 37)) wr (w.heap.size+1+1) v' (PRE0++(ps.take k).flatMap erB))) (fun i _=>ps.length - (intOf i).toNat)
 case atStart=>exact⟨0,Nat.zero_le _,rfl,_,by simpa using HB'⟩
 case round=>
  clear HB' hc hx10
  obtain⟨k,hk1,rfl,v2,HB⟩:=hrel
  by_cases hlt:k < ps.length
  ·have hfl:=flat_take_len erB 2002 k ps HF.out
   obtain⟨b1,o1,f,rfl,hcell,hv⟩:=HRl.out.at_ hlt
   have hxl:=HM.out _ (List.getElem_mem hlt)
   obtain⟨x,hx⟩:∃x,x=ps[k]:=⟨_,rfl⟩
   rw [<-hx]at hv hxl
   obtain⟨hf0,hf1⟩:=hv
   have hd0:=HB.out.buf.bel.cell (hcell 0 (by omega))
   rw [hf0,Nat.add_zero]at hd0
   have hd1:=HB.out.buf.bel.cell (hcell 1 (by omega))
   rw [hf1]at hd1
   have HX:=zh hx
   clear hx hcell hf0 hf1
   have HB0:=HB
   replace HB:=zh (HB0.out.box (.cells #[.string x.1,.string x.2] 48))
   have hb0:True:=trivial
   have hb1:True:=trivial
   obtain⟨W5,A5,c5,hcv,hx5,hr5⟩:=conv_str (wr.alloc (.cells #[.string x.1,.string x.2] 48)) x.1 (by unfold maxLen;omega)
   have HX5:=zh hx5
   have HR5:=zh hr5
   clear hx5 hr5
   go_wp2_with (first|(go_at_call 38;refine(text_w _ HB.out ul4).mono ?_;rintro e w1 ⟨rfl,v1,hn⟩;clear hb0;have hb0:=(hn.buf.boxed 0).trans (show _=some (.string x.1)from rfl);clear hb1;have hb1:=(hn.buf.boxed 1).trans (show _=some (.string x.2)from rfl);replace HB:=zh hn;clear hn)|(go_at_call 37;refine(bytes_w (HB.out.ext HX5.out) HR5.out ul4).mono ?_;rintro e w1 ⟨rfl,v1,hn⟩;clear hb0;have hb0:=(hn.buf.boxed 0).trans (show _=some (.string x.1)from rfl);clear hb1;have hb1:=(hn.buf.boxed 1).trans (show _=some (.string x.2)from rfl);replace HB:=zh hn;clear hn))
   replace HB:=zh (HB0.out.unbox HB.out)
   go_roundw
   case rel=>
    refine⟨k+1,by omega,by go_num,v1,?_⟩
    rw [take_flat _ ps k hlt,<-HX.out]
    have hz:=HB.out
    simp only [List.append_assoc,sfB,prB,erB]at hz⊢
    exact zh hz
   case measure=>simp [intOf];omega
  ·obtain rfl:k=ps.length:=by omega
   have hfl:=flat_len erB 2002 ps HF.out
   rw [List.take_length]at HB
   have hc:=HB.out.cell
   go_wp2_with (go_at_call 36;refine(number_w 1 (by omega) _ HB.out ul4).mono ?_;rintro e w1 ⟨rfl,v1,hn⟩;clear hc;have hc:=hn.cell;replace HB:=zh hn;clear hn)
   go_ret
   exact gave_of HB.out (by have hz:=HE.out;subst hz;rw [HP0.out];first|done|(simp only [List.nil_append,List.append_assoc,List.append_nil]))
end Go.Proofs.YtdenjanihikolaaGreatDoor
