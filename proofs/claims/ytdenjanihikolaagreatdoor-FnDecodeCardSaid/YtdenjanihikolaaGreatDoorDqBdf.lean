/- Plain laws: what the package writes is what the reference writes. -/
import Derived.Test.YtdenjanihikolaaGreatDoorDqA0
import Derived.Test.YtdenjanihikolaaGreatDoorDqWrd
import Derived.Test.YtdenjanihikolaaGreatDoorDqTa
import Derived.Test.YtdenjanihikolaaGreatDoorDqPpc
import Derived.Test.YtdenjanihikolaaGreatDoorDqBdb
import Derived.Test.YtdenjanihikolaaGreatDoorDqMke
namespace Go.Proofs.YtdenjanihikolaaGreatDoor
set_option linter.unusedVariables false
set_option linter.unusedSimpArgs false
set_option maxRecDepth 100000
open Go.RowKit Og
set_option maxHeartbeats 1000000 in
theorem body4 (a b:ByteArray)(n:Int)(vf vr vt vv vd vw vp vl:Value)(w:World)(R:List Int)(hE:[]=R):
 Calls Tryz.prog 16 #[.agg #[.int .i64 4,.string a,.string b,.int .u32 n,vf,vr,vt,vv,vd,vw,vp,vl]] w (Gave w R):=by
 have h0:=Wr.start1 w (.cells #[.int .i64 4,.string a,.string b,.int .u32 n,vf,vr,vt,vv,vd,vw,vp,vl] 37)
 have hc:=h0.cell
 have HB:=zh h0
 clear h0
 have HE:=zh hE
 clear hE
 go_enter Tryz.func16,Tryz.ntmps16
 go_wp2
 go_ret
 exact gave_of HB.out (by have hz:=HE.out;subst hz;first|done|(simp only [List.nil_append,List.append_assoc,List.append_nil]))
set_option maxHeartbeats 1000000 in
theorem body11 (a b:ByteArray)(n:Int)(vf vr vt vv vd vw vp vl:Value)(w:World)(A_d:Option Addr)(c_d:Nat)(d:List Int)(hvd:vd=.slice A_d d.length c_d)(hrd:RdB w (.slice A_d d.length c_d) d)(hld:d.length<=3000)(R:List Int)(hE:d=R):
 Calls Tryz.prog 16 #[.agg #[.int .i64 11,.string a,.string b,.int .u32 n,vf,vr,vt,vv,vd,vw,vp,vl]] w (Gave w R):=by
 subst hvd
 have HRd:=zh (hrd.ext (ext_alloc w (.cells #[.int .i64 11,.string a,.string b,.int .u32 n,vf,vr,vt,vv,.slice A_d d.length c_d,vw,vp,vl] 37)))
 clear hrd
 have hx8:True:=trivial
 have h0:=Wr.start1 w (.cells #[.int .i64 11,.string a,.string b,.int .u32 n,vf,vr,vt,vv,.slice A_d d.length c_d,vw,vp,vl] 37)
 have hc:=h0.cell
 have HB:=zh h0
 clear h0
 have HE:=zh hE
 clear hE
 go_enter Tryz.func16,Tryz.ntmps16
 go_wp2_with (first|(go_at_call 37;refine(bytes_w HB.out (HRd.out.ext HB.out.buf.bel) (by first|omega|(simp only [List.length_append,List.length_nil,List.length_cons,txt,sby_length,numB_len];omega))).mono ?_;rintro e w1 ⟨rfl,v1,hn⟩;clear hc;have hc:=hn.cell;clear hx8;have hx8:=box_at hn.buf.bel 8 (.slice A_d d.length c_d) rfl;replace HB:=zh hn;clear hn))
 go_ret
 exact gave_of HB.out (by have hz:=HE.out;subst hz;first|done|(simp only [List.nil_append,List.append_assoc,List.append_nil]))
set_option maxHeartbeats 1000000 in
theorem body17 (a b:ByteArray)(n:Int)(vf vr vt vv vd vw vp vl:Value)(w:World)(R:List Int)(hE:numB 80877103 4=R):
 Calls Tryz.prog 16 #[.agg #[.int .i64 17,.string a,.string b,.int .u32 n,vf,vr,vt,vv,vd,vw,vp,vl]] w (Gave w R):=by
 have h0:=Wr.start1 w (.cells #[.int .i64 17,.string a,.string b,.int .u32 n,vf,vr,vt,vv,vd,vw,vp,vl] 37)
 have hc:=h0.cell
 have HB:=zh h0
 clear h0
 have HE:=zh hE
 clear hE
 go_enter Tryz.func16,Tryz.ntmps16
 go_wp2_with (first|(go_at_call 36;refine(number_w 4 (by omega) _ HB.out (by first|omega|(simp only [List.length_append,List.length_nil,List.length_cons,txt,sby_length,numB_len];omega))).mono ?_;rintro e w1 ⟨rfl,v1,hn⟩;clear hc;have hc:=hn.cell;replace HB:=zh hn;clear hn))
 go_ret
 exact gave_of HB.out (by have hz:=HE.out;subst hz;first|done|(simp only [List.nil_append,List.append_assoc,List.append_nil]))
set_option maxHeartbeats 1000000 in
theorem body33 (a b:ByteArray)(n:Int)(vf vr vt vv vd vw vp vl:Value)(w:World)(R:List Int)(hE:numB 7 4=R):
 Calls Tryz.prog 16 #[.agg #[.int .i64 33,.string a,.string b,.int .u32 n,vf,vr,vt,vv,vd,vw,vp,vl]] w (Gave w R):=by
 have h0:=Wr.start1 w (.cells #[.int .i64 33,.string a,.string b,.int .u32 n,vf,vr,vt,vv,vd,vw,vp,vl] 37)
 have hc:=h0.cell
 have HB:=zh h0
 clear h0
 have HE:=zh hE
 clear hE
 go_enter Tryz.func16,Tryz.ntmps16
 go_wp2_with (first|(go_at_call 36;refine(number_w 4 (by omega) _ HB.out (by first|omega|(simp only [List.length_append,List.length_nil,List.length_cons,txt,sby_length,numB_len];omega))).mono ?_;rintro e w1 ⟨rfl,v1,hn⟩;clear hc;have hc:=hn.cell;replace HB:=zh hn;clear hn))
 go_ret
 exact gave_of HB.out (by have hz:=HE.out;subst hz;first|done|(simp only [List.nil_append,List.append_assoc,List.append_nil]))
set_option maxHeartbeats 1000000 in
theorem body40 (a b:ByteArray)(n:Int)(vf vr vt vv vd vw vp vl:Value)(w:World)(R:List Int)(hE:[]=R):
 Calls Tryz.prog 16 #[.agg #[.int .i64 40,.string a,.string b,.int .u32 n,vf,vr,vt,vv,vd,vw,vp,vl]] w (Gave w R):=by
 have h0:=Wr.start1 w (.cells #[.int .i64 40,.string a,.string b,.int .u32 n,vf,vr,vt,vv,vd,vw,vp,vl] 37)
 have hc:=h0.cell
 have HB:=zh h0
 clear h0
 have HE:=zh hE
 clear hE
 go_enter Tryz.func16,Tryz.ntmps16
 go_wp2
 go_ret
 exact gave_of HB.out (by have hz:=HE.out;subst hz;first|done|(simp only [List.nil_append,List.append_assoc,List.append_nil]))
set_option maxHeartbeats 1000000 in
theorem body46 (a b:ByteArray)(n:Int)(vf vr vt vv vd vw vp vl:Value)(w:World)(R:List Int)(hE:[]=R):
 Calls Tryz.prog 16 #[.agg #[.int .i64 46,.string a,.string b,.int .u32 n,vf,vr,vt,vv,vd,vw,vp,vl]] w (Gave w R):=by
 have h0:=Wr.start1 w (.cells #[.int .i64 46,.string a,.string b,.int .u32 n,vf,vr,vt,vv,vd,vw,vp,vl] 37)
 have hc:=h0.cell
 have HB:=zh h0
 clear h0
 have HE:=zh hE
 clear hE
 go_enter Tryz.func16,Tryz.ntmps16
 go_wp2
 go_ret
 exact gave_of HB.out (by have hz:=HE.out;subst hz;first|done|(simp only [List.nil_append,List.append_assoc,List.append_nil]))
set_option maxHeartbeats 1000000 in
theorem body55 (a b:ByteArray)(n:Int)(vf vr vt vv vd vw vp vl:Value)(w:World)(R:List Int)(hE:[]=R):
 Calls Tryz.prog 16 #[.agg #[.int .i64 55,.string a,.string b,.int .u32 n,vf,vr,vt,vv,vd,vw,vp,vl]] w (Gave w R):=by
 have h0:=Wr.start1 w (.cells #[.int .i64 55,.string a,.string b,.int .u32 n,vf,vr,vt,vv,vd,vw,vp,vl] 37)
 have hc:=h0.cell
 have HB:=zh h0
 clear h0
 have HE:=zh hE
 clear hE
 go_enter Tryz.func16,Tryz.ntmps16
 go_wp2
 go_ret
 exact gave_of HB.out (by have hz:=HE.out;subst hz;first|done|(simp only [List.nil_append,List.append_assoc,List.append_nil]))
set_option maxHeartbeats 1000000 in
theorem body5 (a b:ByteArray)(n:Int)(vf vr vt vv vd vw vp vl:Value)(w:World)(hsa:a.size<=1000)(R:List Int)(hE:txt a=R):
 Calls Tryz.prog 16 #[.agg #[.int .i64 5,.string a,.string b,.int .u32 n,vf,vr,vt,vv,vd,vw,vp,vl]] w (Gave w R):=by
 have hx1:True:=trivial
 have h0:=Wr.start1 w (.cells #[.int .i64 5,.string a,.string b,.int .u32 n,vf,vr,vt,vv,vd,vw,vp,vl] 37)
 have hc:=h0.cell
 have HB:=zh h0
 clear h0
 have HE:=zh hE
 clear hE
 go_enter Tryz.func16,Tryz.ntmps16
 go_wp2_with (first|(go_at_call 38;refine(text_w _ HB.out (by first|omega|(simp only [List.length_append,List.length_nil,List.length_cons,txt,sby_length,numB_len];omega))).mono ?_;rintro e w1 ⟨rfl,v1,hn⟩;clear hc;have hc:=hn.cell;clear hx1;have hx1:=box_at hn.buf.bel 1 (.string a) rfl;replace HB:=zh hn;clear hn))
 go_ret
 exact gave_of HB.out (by have hz:=HE.out;subst hz;first|done|(simp only [List.nil_append,List.append_assoc,List.append_nil]))
set_option maxHeartbeats 1000000 in
theorem body12 (a b:ByteArray)(n:Int)(vf vr vt vv vd vw vp vl:Value)(w:World)(hsa:a.size<=1000)(hsb:b.size<=1000)(ty:List Int)(hrt:RdI .u32 w vt ty)(hlt:ty.length<=4294967296)(hgt:∀y∈ty,0<=y/\y < 4294967296)(R:List Int)(hE:txt a++txt b++(numB (ty.length:Int) 2++ty.flatMap fun n=>numB n 4)=R):
 Calls Tryz.prog 16 #[.agg #[.int .i64 12,.string a,.string b,.int .u32 n,vf,vr,vt,vv,vd,vw,vp,vl]] w (Gave w R):=by
 have HRt:=zh (hrt.ext (ext_alloc w (.cells #[.int .i64 12,.string a,.string b,.int .u32 n,vf,vr,vt,vv,vd,vw,vp,vl] 37)))
 clear hrt
 have HGt:=zh hgt
 clear hgt
 have hflt:=flat_len (fun n=>numB n 4) 4 ty fun y _=>Nat.le_of_eq (numB_len y 4)
 have hx1:True:=trivial
 have hx2:True:=trivial
 have hx6:True:=trivial
 have h0:=Wr.start1 w (.cells #[.int .i64 12,.string a,.string b,.int .u32 n,vf,vr,vt,vv,vd,vw,vp,vl] 37)
 have hc:=h0.cell
 have HB:=zh h0
 clear h0
 have HE:=zh hE
 clear hE
 go_enter Tryz.func16,Tryz.ntmps16
 go_wp2_with (first|(go_at_call 38;refine(text_w _ HB.out (by first|omega|(simp only [List.length_append,List.length_nil,List.length_cons,txt,sby_length,numB_len];omega))).mono ?_;rintro e w1 ⟨rfl,v1,hn⟩;clear hc;have hc:=hn.cell;clear hx1;have hx1:=box_at hn.buf.bel 1 (.string a) rfl;clear hx2;have hx2:=box_at hn.buf.bel 2 (.string b) rfl;clear hx6;have hx6:=box_at hn.buf.bel 6 (vt) rfl;replace HB:=zh hn;clear hn)|(go_at_call 41;refine(types_w ty HB.out HRt.out (by first|omega|(simp only [List.length_append,List.length_nil,List.length_cons,txt,sby_length,numB_len];omega)) HGt.out).mono ?_;rintro e w1 ⟨rfl,v1,hn⟩;clear hc;have hc:=hn.cell;clear hx1;have hx1:=box_at hn.buf.bel 1 (.string a) rfl;clear hx2;have hx2:=box_at hn.buf.bel 2 (.string b) rfl;clear hx6;have hx6:=box_at hn.buf.bel 6 (vt) rfl;replace HB:=zh hn;clear hn))
 go_ret
 exact gave_of HB.out (by have hz:=HE.out;subst hz;first|done|(simp only [List.nil_append,List.append_assoc,List.append_nil]))
set_option maxHeartbeats 1000000 in
theorem body19 (a b:ByteArray)(n:Int)(vf vr vt vv vd vw vp vl:Value)(w:World)(R:List Int)(hE:[]=R):
 Calls Tryz.prog 16 #[.agg #[.int .i64 19,.string a,.string b,.int .u32 n,vf,vr,vt,vv,vd,vw,vp,vl]] w (Gave w R):=by
 have h0:=Wr.start1 w (.cells #[.int .i64 19,.string a,.string b,.int .u32 n,vf,vr,vt,vv,vd,vw,vp,vl] 37)
 have hc:=h0.cell
 have HB:=zh h0
 clear h0
 have HE:=zh hE
 clear hE
 go_enter Tryz.func16,Tryz.ntmps16
 go_wp2
 go_ret
 exact gave_of HB.out (by have hz:=HE.out;subst hz;first|done|(simp only [List.nil_append,List.append_assoc,List.append_nil]))
set_option maxHeartbeats 1000000 in
theorem body34 (a b:ByteArray)(n:Int)(vf vr vt vv vd vw vp vl:Value)(w:World)(A_d:Option Addr)(c_d:Nat)(d:List Int)(hvd:vd=.slice A_d d.length c_d)(hrd:RdB w (.slice A_d d.length c_d) d)(hld:d.length<=3000)(R:List Int)(hE:numB 8 4++d=R):
 Calls Tryz.prog 16 #[.agg #[.int .i64 34,.string a,.string b,.int .u32 n,vf,vr,vt,vv,vd,vw,vp,vl]] w (Gave w R):=by
 subst hvd
 have HRd:=zh (hrd.ext (ext_alloc w (.cells #[.int .i64 34,.string a,.string b,.int .u32 n,vf,vr,vt,vv,.slice A_d d.length c_d,vw,vp,vl] 37)))
 clear hrd
 have hx8:True:=trivial
 have h0:=Wr.start1 w (.cells #[.int .i64 34,.string a,.string b,.int .u32 n,vf,vr,vt,vv,.slice A_d d.length c_d,vw,vp,vl] 37)
 have hc:=h0.cell
 have HB:=zh h0
 clear h0
 have HE:=zh hE
 clear hE
 go_enter Tryz.func16,Tryz.ntmps16
 go_wp2_with (first|(go_at_call 36;refine(number_w 4 (by omega) _ HB.out (by first|omega|(simp only [List.length_append,List.length_nil,List.length_cons,txt,sby_length,numB_len];omega))).mono ?_;rintro e w1 ⟨rfl,v1,hn⟩;clear hc;have hc:=hn.cell;clear hx8;have hx8:=box_at hn.buf.bel 8 (.slice A_d d.length c_d) rfl;replace HB:=zh hn;clear hn)|(go_at_call 37;refine(bytes_w HB.out (HRd.out.ext HB.out.buf.bel) (by first|omega|(simp only [List.length_append,List.length_nil,List.length_cons,txt,sby_length,numB_len];omega))).mono ?_;rintro e w1 ⟨rfl,v1,hn⟩;clear hc;have hc:=hn.cell;clear hx8;have hx8:=box_at hn.buf.bel 8 (.slice A_d d.length c_d) rfl;replace HB:=zh hn;clear hn))
 go_ret
 exact gave_of HB.out (by have hz:=HE.out;subst hz;first|done|(simp only [List.nil_append,List.append_assoc,List.append_nil]))
set_option maxHeartbeats 1000000 in
theorem body41 (a b:ByteArray)(n:Int)(vf vr vt vv vd vw vp vl:Value)(w:World)(hsa:a.size<=1000)(R:List Int)(hE:txt a=R):
 Calls Tryz.prog 16 #[.agg #[.int .i64 41,.string a,.string b,.int .u32 n,vf,vr,vt,vv,vd,vw,vp,vl]] w (Gave w R):=by
 have hx1:True:=trivial
 have h0:=Wr.start1 w (.cells #[.int .i64 41,.string a,.string b,.int .u32 n,vf,vr,vt,vv,vd,vw,vp,vl] 37)
 have hc:=h0.cell
 have HB:=zh h0
 clear h0
 have HE:=zh hE
 clear hE
 go_enter Tryz.func16,Tryz.ntmps16
 go_wp2_with (first|(go_at_call 38;refine(text_w _ HB.out (by first|omega|(simp only [List.length_append,List.length_nil,List.length_cons,txt,sby_length,numB_len];omega))).mono ?_;rintro e w1 ⟨rfl,v1,hn⟩;clear hc;have hc:=hn.cell;clear hx1;have hx1:=box_at hn.buf.bel 1 (.string a) rfl;replace HB:=zh hn;clear hn))
 go_ret
 exact gave_of HB.out (by have hz:=HE.out;subst hz;first|done|(simp only [List.nil_append,List.append_assoc,List.append_nil]))
set_option maxHeartbeats 1000000 in
theorem body50 (a b:ByteArray)(n:Int)(vf vr vt vv vd vw vp vl:Value)(w:World)(R:List Int)(hE:[]=R):
 Calls Tryz.prog 16 #[.agg #[.int .i64 50,.string a,.string b,.int .u32 n,vf,vr,vt,vv,vd,vw,vp,vl]] w (Gave w R):=by
 have h0:=Wr.start1 w (.cells #[.int .i64 50,.string a,.string b,.int .u32 n,vf,vr,vt,vv,vd,vw,vp,vl] 37)
 have hc:=h0.cell
 have HB:=zh h0
 clear h0
 have HE:=zh hE
 clear hE
 go_enter Tryz.func16,Tryz.ntmps16
 go_wp2
 go_ret
 exact gave_of HB.out (by have hz:=HE.out;subst hz;first|done|(simp only [List.nil_append,List.append_assoc,List.append_nil]))
set_option maxHeartbeats 1000000 in
theorem body56 (a b:ByteArray)(n:Int)(vf vr vt vv vd vw vp vl:Value)(w:World)(hn:0<=n/\n < 4294967296)(R:List Int)(hE:numB n 1=R):
 Calls Tryz.prog 16 #[.agg #[.int .i64 56,.string a,.string b,.int .u32 n,vf,vr,vt,vv,vd,vw,vp,vl]] w (Gave w R):=by
 have hwn:wrap64 n=n:=by unfold wrap64;omega
 have hx3:True:=trivial
 have h0:=Wr.start1 w (.cells #[.int .i64 56,.string a,.string b,.int .u32 n,vf,vr,vt,vv,vd,vw,vp,vl] 37)
 have hc:=h0.cell
 have HB:=zh h0
 clear h0
 have HE:=zh hE
 clear hE
 go_enter Tryz.func16,Tryz.ntmps16
 go_wp2_with (first|(go_at_call 36;refine(number_w 1 (by omega) _ HB.out (by first|omega|(simp only [List.length_append,List.length_nil,List.length_cons,txt,sby_length,numB_len];omega))).mono ?_;rintro e w1 ⟨rfl,v1,hn⟩;clear hc;have hc:=hn.cell;clear hx3;have hx3:=box_at hn.buf.bel 3 (.int .u32 n) rfl;replace HB:=zh hn;clear hn))
 go_ret
 exact gave_of HB.out (by have hz:=HE.out;subst hz;first|done|(simp only [List.nil_append,List.append_assoc,List.append_nil]))
open Go.RowKit
theorem md4 (b:Nat)(w:World):(method 480 154 (.pointer (some ⟨b,0,none⟩)) "Decode").run Tryz.prog w=.ok (214,.pointer (some ⟨b,0,none⟩)) w:=by kernel_rfl
theorem nd4 (b:Nat)(w:World):(nilAhead 480 154 (.pointer (some ⟨b,0,none⟩)) "Decode").run Tryz.prog w=.ok (some false) w:=by kernel_rfl
theorem cd4 (args:Array Value)(w:World):(callFunc 214 args).run Tryz.prog w=.ok (.enter 214 args) w:=by kernel_rfl
theorem md8 (b:Nat)(w:World):(method 480 157 (.pointer (some ⟨b,0,none⟩)) "Decode").run Tryz.prog w=.ok (216,.pointer (some ⟨b,0,none⟩)) w:=by kernel_rfl
theorem nd8 (b:Nat)(w:World):(nilAhead 480 157 (.pointer (some ⟨b,0,none⟩)) "Decode").run Tryz.prog w=.ok (some false) w:=by kernel_rfl
theorem cd8 (args:Array Value)(w:World):(callFunc 216 args).run Tryz.prog w=.ok (.enter 216 args) w:=by kernel_rfl
theorem md19 (b:Nat)(w:World):(method 480 163 (.pointer (some ⟨b,0,none⟩)) "Decode").run Tryz.prog w=.ok (225,.pointer (some ⟨b,0,none⟩)) w:=by kernel_rfl
theorem nd19 (b:Nat)(w:World):(nilAhead 480 163 (.pointer (some ⟨b,0,none⟩)) "Decode").run Tryz.prog w=.ok (some false) w:=by kernel_rfl
theorem cd19 (args:Array Value)(w:World):(callFunc 225 args).run Tryz.prog w=.ok (.enter 225 args) w:=by kernel_rfl
theorem md20 (b:Nat)(w:World):(method 480 165 (.pointer (some ⟨b,0,none⟩)) "Decode").run Tryz.prog w=.ok (228,.pointer (some ⟨b,0,none⟩)) w:=by kernel_rfl
theorem nd20 (b:Nat)(w:World):(nilAhead 480 165 (.pointer (some ⟨b,0,none⟩)) "Decode").run Tryz.prog w=.ok (some false) w:=by kernel_rfl
theorem cd20 (args:Array Value)(w:World):(callFunc 228 args).run Tryz.prog w=.ok (.enter 228 args) w:=by kernel_rfl
theorem md39 (b:Nat)(w:World):(method 480 173 (.pointer (some ⟨b,0,none⟩)) "Decode").run Tryz.prog w=.ok (241,.pointer (some ⟨b,0,none⟩)) w:=by kernel_rfl
theorem nd39 (b:Nat)(w:World):(nilAhead 480 173 (.pointer (some ⟨b,0,none⟩)) "Decode").run Tryz.prog w=.ok (some false) w:=by kernel_rfl
theorem cd39 (args:Array Value)(w:World):(callFunc 241 args).run Tryz.prog w=.ok (.enter 241 args) w:=by kernel_rfl
theorem md40 (b:Nat)(w:World):(method 480 175 (.pointer (some ⟨b,0,none⟩)) "Decode").run Tryz.prog w=.ok (244,.pointer (some ⟨b,0,none⟩)) w:=by kernel_rfl
theorem nd40 (b:Nat)(w:World):(nilAhead 480 175 (.pointer (some ⟨b,0,none⟩)) "Decode").run Tryz.prog w=.ok (some false) w:=by kernel_rfl
theorem cd40 (args:Array Value)(w:World):(callFunc 244 args).run Tryz.prog w=.ok (.enter 244 args) w:=by kernel_rfl
theorem md46 (b:Nat)(w:World):(method 480 177 (.pointer (some ⟨b,0,none⟩)) "Decode").run Tryz.prog w=.ok (247,.pointer (some ⟨b,0,none⟩)) w:=by kernel_rfl
theorem nd46 (b:Nat)(w:World):(nilAhead 480 177 (.pointer (some ⟨b,0,none⟩)) "Decode").run Tryz.prog w=.ok (some false) w:=by kernel_rfl
theorem cd46 (args:Array Value)(w:World):(callFunc 247 args).run Tryz.prog w=.ok (.enter 247 args) w:=by kernel_rfl
theorem md50 (b:Nat)(w:World):(method 480 179 (.pointer (some ⟨b,0,none⟩)) "Decode").run Tryz.prog w=.ok (250,.pointer (some ⟨b,0,none⟩)) w:=by kernel_rfl
theorem nd50 (b:Nat)(w:World):(nilAhead 480 179 (.pointer (some ⟨b,0,none⟩)) "Decode").run Tryz.prog w=.ok (some false) w:=by kernel_rfl
theorem cd50 (args:Array Value)(w:World):(callFunc 250 args).run Tryz.prog w=.ok (.enter 250 args) w:=by kernel_rfl
theorem md54 (b:Nat)(w:World):(method 480 181 (.pointer (some ⟨b,0,none⟩)) "Decode").run Tryz.prog w=.ok (253,.pointer (some ⟨b,0,none⟩)) w:=by kernel_rfl
theorem nd54 (b:Nat)(w:World):(nilAhead 480 181 (.pointer (some ⟨b,0,none⟩)) "Decode").run Tryz.prog w=.ok (some false) w:=by kernel_rfl
theorem cd54 (args:Array Value)(w:World):(callFunc 253 args).run Tryz.prog w=.ok (.enter 253 args) w:=by kernel_rfl
theorem md55 (b:Nat)(w:World):(method 480 183 (.pointer (some ⟨b,0,none⟩)) "Decode").run Tryz.prog w=.ok (256,.pointer (some ⟨b,0,none⟩)) w:=by kernel_rfl
theorem nd55 (b:Nat)(w:World):(nilAhead 480 183 (.pointer (some ⟨b,0,none⟩)) "Decode").run Tryz.prog w=.ok (some false) w:=by kernel_rfl
theorem cd55 (args:Array Value)(w:World):(callFunc 256 args).run Tryz.prog w=.ok (.enter 256 args) w:=by kernel_rfl
theorem md56 (b:Nat)(w:World):(method 480 230 (.pointer (some ⟨b,0,none⟩)) "Decode").run Tryz.prog w=.ok (329,.pointer (some ⟨b,0,none⟩)) w:=by kernel_rfl
theorem nd56 (b:Nat)(w:World):(nilAhead 480 230 (.pointer (some ⟨b,0,none⟩)) "Decode").run Tryz.prog w=.ok (some false) w:=by kernel_rfl
theorem cd56 (args:Array Value)(w:World):(callFunc 329 args).run Tryz.prog w=.ok (.enter 329 args) w:=by kernel_rfl
theorem md0 (b:Nat)(w:World):(method 480 101 (.pointer (some ⟨b,0,none⟩)) "Decode").run Tryz.prog w=.ok (133,.pointer (some ⟨b,0,none⟩)) w:=by kernel_rfl
theorem nd0 (b:Nat)(w:World):(nilAhead 480 101 (.pointer (some ⟨b,0,none⟩)) "Decode").run Tryz.prog w=.ok (some false) w:=by kernel_rfl
theorem cd0 (args:Array Value)(w:World):(callFunc 133 args).run Tryz.prog w=.ok (.enter 133 args) w:=by kernel_rfl
theorem md1 (b:Nat)(w:World):(method 480 108 (.pointer (some ⟨b,0,none⟩)) "Decode").run Tryz.prog w=.ok (147,.pointer (some ⟨b,0,none⟩)) w:=by kernel_rfl
theorem nd1 (b:Nat)(w:World):(nilAhead 480 108 (.pointer (some ⟨b,0,none⟩)) "Decode").run Tryz.prog w=.ok (some false) w:=by kernel_rfl
theorem cd1 (args:Array Value)(w:World):(callFunc 147 args).run Tryz.prog w=.ok (.enter 147 args) w:=by kernel_rfl
theorem md2 (b:Nat)(w:World):(method 480 111 (.pointer (some ⟨b,0,none⟩)) "Decode").run Tryz.prog w=.ok (150,.pointer (some ⟨b,0,none⟩)) w:=by kernel_rfl
theorem nd2 (b:Nat)(w:World):(nilAhead 480 111 (.pointer (some ⟨b,0,none⟩)) "Decode").run Tryz.prog w=.ok (some false) w:=by kernel_rfl
theorem cd2 (args:Array Value)(w:World):(callFunc 150 args).run Tryz.prog w=.ok (.enter 150 args) w:=by kernel_rfl
theorem md3 (b:Nat)(w:World):(method 480 116 (.pointer (some ⟨b,0,none⟩)) "Decode").run Tryz.prog w=.ok (157,.pointer (some ⟨b,0,none⟩)) w:=by kernel_rfl
theorem nd3 (b:Nat)(w:World):(nilAhead 480 116 (.pointer (some ⟨b,0,none⟩)) "Decode").run Tryz.prog w=.ok (some false) w:=by kernel_rfl
theorem cd3 (args:Array Value)(w:World):(callFunc 157 args).run Tryz.prog w=.ok (.enter 157 args) w:=by kernel_rfl
theorem md5 (b:Nat)(w:World):(method 480 119 (.pointer (some ⟨b,0,none⟩)) "Decode").run Tryz.prog w=.ok (159,.pointer (some ⟨b,0,none⟩)) w:=by kernel_rfl
theorem nd5 (b:Nat)(w:World):(nilAhead 480 119 (.pointer (some ⟨b,0,none⟩)) "Decode").run Tryz.prog w=.ok (some false) w:=by kernel_rfl
theorem cd5 (args:Array Value)(w:World):(callFunc 159 args).run Tryz.prog w=.ok (.enter 159 args) w:=by kernel_rfl
theorem md6 (b:Nat)(w:World):(method 480 114 (.pointer (some ⟨b,0,none⟩)) "Decode").run Tryz.prog w=.ok (153,.pointer (some ⟨b,0,none⟩)) w:=by kernel_rfl
theorem nd6 (b:Nat)(w:World):(nilAhead 480 114 (.pointer (some ⟨b,0,none⟩)) "Decode").run Tryz.prog w=.ok (some false) w:=by kernel_rfl
theorem cd6 (args:Array Value)(w:World):(callFunc 153 args).run Tryz.prog w=.ok (.enter 153 args) w:=by kernel_rfl
theorem md7 (b:Nat)(w:World):(method 480 122 (.pointer (some ⟨b,0,none⟩)) "Decode").run Tryz.prog w=.ok (162,.pointer (some ⟨b,0,none⟩)) w:=by kernel_rfl
theorem nd7 (b:Nat)(w:World):(nilAhead 480 122 (.pointer (some ⟨b,0,none⟩)) "Decode").run Tryz.prog w=.ok (some false) w:=by kernel_rfl
theorem cd7 (args:Array Value)(w:World):(callFunc 162 args).run Tryz.prog w=.ok (.enter 162 args) w:=by kernel_rfl
theorem md9 (b:Nat)(w:World):(method 480 125 (.pointer (some ⟨b,0,none⟩)) "Decode").run Tryz.prog w=.ok (169,.pointer (some ⟨b,0,none⟩)) w:=by kernel_rfl
theorem nd9 (b:Nat)(w:World):(nilAhead 480 125 (.pointer (some ⟨b,0,none⟩)) "Decode").run Tryz.prog w=.ok (some false) w:=by kernel_rfl
theorem cd9 (args:Array Value)(w:World):(callFunc 169 args).run Tryz.prog w=.ok (.enter 169 args) w:=by kernel_rfl
theorem md10 (b:Nat)(w:World):(method 480 159 (.pointer (some ⟨b,0,none⟩)) "Decode").run Tryz.prog w=.ok (219,.pointer (some ⟨b,0,none⟩)) w:=by kernel_rfl
theorem nd10 (b:Nat)(w:World):(nilAhead 480 159 (.pointer (some ⟨b,0,none⟩)) "Decode").run Tryz.prog w=.ok (some false) w:=by kernel_rfl
theorem cd10 (args:Array Value)(w:World):(callFunc 219 args).run Tryz.prog w=.ok (.enter 219 args) w:=by kernel_rfl
theorem md11 (b:Nat)(w:World):(method 480 132 (.pointer (some ⟨b,0,none⟩)) "Decode").run Tryz.prog w=.ok (172,.pointer (some ⟨b,0,none⟩)) w:=by kernel_rfl
theorem nd11 (b:Nat)(w:World):(nilAhead 480 132 (.pointer (some ⟨b,0,none⟩)) "Decode").run Tryz.prog w=.ok (some false) w:=by kernel_rfl
theorem cd11 (args:Array Value)(w:World):(callFunc 172 args).run Tryz.prog w=.ok (.enter 172 args) w:=by kernel_rfl
theorem md12 (b:Nat)(w:World):(method 480 134 (.pointer (some ⟨b,0,none⟩)) "Decode").run Tryz.prog w=.ok (175,.pointer (some ⟨b,0,none⟩)) w:=by kernel_rfl
theorem nd12 (b:Nat)(w:World):(nilAhead 480 134 (.pointer (some ⟨b,0,none⟩)) "Decode").run Tryz.prog w=.ok (some false) w:=by kernel_rfl
theorem cd12 (args:Array Value)(w:World):(callFunc 175 args).run Tryz.prog w=.ok (.enter 175 args) w:=by kernel_rfl
theorem md13 (b:Nat)(w:World):(method 480 138 (.pointer (some ⟨b,0,none⟩)) "Decode").run Tryz.prog w=.ok (178,.pointer (some ⟨b,0,none⟩)) w:=by kernel_rfl
theorem nd13 (b:Nat)(w:World):(nilAhead 480 138 (.pointer (some ⟨b,0,none⟩)) "Decode").run Tryz.prog w=.ok (some false) w:=by kernel_rfl
theorem cd13 (args:Array Value)(w:World):(callFunc 178 args).run Tryz.prog w=.ok (.enter 178 args) w:=by kernel_rfl
theorem md14 (b:Nat)(w:World):(method 480 141 (.pointer (some ⟨b,0,none⟩)) "Decode").run Tryz.prog w=.ok (181,.pointer (some ⟨b,0,none⟩)) w:=by kernel_rfl
theorem nd14 (b:Nat)(w:World):(nilAhead 480 141 (.pointer (some ⟨b,0,none⟩)) "Decode").run Tryz.prog w=.ok (some false) w:=by kernel_rfl
theorem cd14 (args:Array Value)(w:World):(callFunc 181 args).run Tryz.prog w=.ok (.enter 181 args) w:=by kernel_rfl
theorem md15 (b:Nat)(w:World):(method 480 144 (.pointer (some ⟨b,0,none⟩)) "Decode").run Tryz.prog w=.ok (184,.pointer (some ⟨b,0,none⟩)) w:=by kernel_rfl
theorem nd15 (b:Nat)(w:World):(nilAhead 480 144 (.pointer (some ⟨b,0,none⟩)) "Decode").run Tryz.prog w=.ok (some false) w:=by kernel_rfl
theorem cd15 (args:Array Value)(w:World):(callFunc 184 args).run Tryz.prog w=.ok (.enter 184 args) w:=by kernel_rfl
theorem md16 (b:Nat)(w:World):(method 480 147 (.pointer (some ⟨b,0,none⟩)) "Decode").run Tryz.prog w=.ok (187,.pointer (some ⟨b,0,none⟩)) w:=by kernel_rfl
theorem nd16 (b:Nat)(w:World):(nilAhead 480 147 (.pointer (some ⟨b,0,none⟩)) "Decode").run Tryz.prog w=.ok (some false) w:=by kernel_rfl
theorem cd16 (args:Array Value)(w:World):(callFunc 187 args).run Tryz.prog w=.ok (.enter 187 args) w:=by kernel_rfl
theorem md17 (b:Nat)(w:World):(method 480 161 (.pointer (some ⟨b,0,none⟩)) "Decode").run Tryz.prog w=.ok (222,.pointer (some ⟨b,0,none⟩)) w:=by kernel_rfl
theorem nd17 (b:Nat)(w:World):(nilAhead 480 161 (.pointer (some ⟨b,0,none⟩)) "Decode").run Tryz.prog w=.ok (some false) w:=by kernel_rfl
theorem cd17 (args:Array Value)(w:World):(callFunc 222 args).run Tryz.prog w=.ok (.enter 222 args) w:=by kernel_rfl
theorem md18 (b:Nat)(w:World):(method 480 149 (.pointer (some ⟨b,0,none⟩)) "Decode").run Tryz.prog w=.ok (190,.pointer (some ⟨b,0,none⟩)) w:=by kernel_rfl
theorem nd18 (b:Nat)(w:World):(nilAhead 480 149 (.pointer (some ⟨b,0,none⟩)) "Decode").run Tryz.prog w=.ok (some false) w:=by kernel_rfl
theorem cd18 (args:Array Value)(w:World):(callFunc 190 args).run Tryz.prog w=.ok (.enter 190 args) w:=by kernel_rfl
theorem md30 (b:Nat)(w:World):(method 480 167 (.pointer (some ⟨b,0,none⟩)) "Decode").run Tryz.prog w=.ok (232,.pointer (some ⟨b,0,none⟩)) w:=by kernel_rfl
theorem nd30 (b:Nat)(w:World):(nilAhead 480 167 (.pointer (some ⟨b,0,none⟩)) "Decode").run Tryz.prog w=.ok (some false) w:=by kernel_rfl
theorem cd30 (args:Array Value)(w:World):(callFunc 232 args).run Tryz.prog w=.ok (.enter 232 args) w:=by kernel_rfl
theorem md31 (b:Nat)(w:World):(method 480 169 (.pointer (some ⟨b,0,none⟩)) "Decode").run Tryz.prog w=.ok (235,.pointer (some ⟨b,0,none⟩)) w:=by kernel_rfl
theorem nd31 (b:Nat)(w:World):(nilAhead 480 169 (.pointer (some ⟨b,0,none⟩)) "Decode").run Tryz.prog w=.ok (some false) w:=by kernel_rfl
theorem cd31 (args:Array Value)(w:World):(callFunc 235 args).run Tryz.prog w=.ok (.enter 235 args) w:=by kernel_rfl
theorem md32 (b:Nat)(w:World):(method 480 185 (.pointer (some ⟨b,0,none⟩)) "Decode").run Tryz.prog w=.ok (259,.pointer (some ⟨b,0,none⟩)) w:=by kernel_rfl
theorem nd32 (b:Nat)(w:World):(nilAhead 480 185 (.pointer (some ⟨b,0,none⟩)) "Decode").run Tryz.prog w=.ok (some false) w:=by kernel_rfl
theorem cd32 (args:Array Value)(w:World):(callFunc 259 args).run Tryz.prog w=.ok (.enter 259 args) w:=by kernel_rfl
theorem md33 (b:Nat)(w:World):(method 480 171 (.pointer (some ⟨b,0,none⟩)) "Decode").run Tryz.prog w=.ok (238,.pointer (some ⟨b,0,none⟩)) w:=by kernel_rfl
theorem nd33 (b:Nat)(w:World):(nilAhead 480 171 (.pointer (some ⟨b,0,none⟩)) "Decode").run Tryz.prog w=.ok (some false) w:=by kernel_rfl
theorem cd33 (args:Array Value)(w:World):(callFunc 238 args).run Tryz.prog w=.ok (.enter 238 args) w:=by kernel_rfl
theorem md34 (b:Nat)(w:World):(method 480 189 (.pointer (some ⟨b,0,none⟩)) "Decode").run Tryz.prog w=.ok (262,.pointer (some ⟨b,0,none⟩)) w:=by kernel_rfl
theorem nd34 (b:Nat)(w:World):(nilAhead 480 189 (.pointer (some ⟨b,0,none⟩)) "Decode").run Tryz.prog w=.ok (some false) w:=by kernel_rfl
theorem cd34 (args:Array Value)(w:World):(callFunc 262 args).run Tryz.prog w=.ok (.enter 262 args) w:=by kernel_rfl
theorem md35 (b:Nat)(w:World):(method 480 191 (.pointer (some ⟨b,0,none⟩)) "Decode").run Tryz.prog w=.ok (265,.pointer (some ⟨b,0,none⟩)) w:=by kernel_rfl
theorem nd35 (b:Nat)(w:World):(nilAhead 480 191 (.pointer (some ⟨b,0,none⟩)) "Decode").run Tryz.prog w=.ok (some false) w:=by kernel_rfl
theorem cd35 (args:Array Value)(w:World):(callFunc 265 args).run Tryz.prog w=.ok (.enter 265 args) w:=by kernel_rfl
theorem md36 (b:Nat)(w:World):(method 480 194 (.pointer (some ⟨b,0,none⟩)) "Decode").run Tryz.prog w=.ok (268,.pointer (some ⟨b,0,none⟩)) w:=by kernel_rfl
theorem nd36 (b:Nat)(w:World):(nilAhead 480 194 (.pointer (some ⟨b,0,none⟩)) "Decode").run Tryz.prog w=.ok (some false) w:=by kernel_rfl
theorem cd36 (args:Array Value)(w:World):(callFunc 268 args).run Tryz.prog w=.ok (.enter 268 args) w:=by kernel_rfl
theorem md37 (b:Nat)(w:World):(method 480 196 (.pointer (some ⟨b,0,none⟩)) "Decode").run Tryz.prog w=.ok (271,.pointer (some ⟨b,0,none⟩)) w:=by kernel_rfl
theorem nd37 (b:Nat)(w:World):(nilAhead 480 196 (.pointer (some ⟨b,0,none⟩)) "Decode").run Tryz.prog w=.ok (some false) w:=by kernel_rfl
theorem cd37 (args:Array Value)(w:World):(callFunc 271 args).run Tryz.prog w=.ok (.enter 271 args) w:=by kernel_rfl
theorem md38 (b:Nat)(w:World):(method 480 198 (.pointer (some ⟨b,0,none⟩)) "Decode").run Tryz.prog w=.ok (274,.pointer (some ⟨b,0,none⟩)) w:=by kernel_rfl
theorem nd38 (b:Nat)(w:World):(nilAhead 480 198 (.pointer (some ⟨b,0,none⟩)) "Decode").run Tryz.prog w=.ok (some false) w:=by kernel_rfl
theorem cd38 (args:Array Value)(w:World):(callFunc 274 args).run Tryz.prog w=.ok (.enter 274 args) w:=by kernel_rfl
theorem md41 (b:Nat)(w:World):(method 480 200 (.pointer (some ⟨b,0,none⟩)) "Decode").run Tryz.prog w=.ok (277,.pointer (some ⟨b,0,none⟩)) w:=by kernel_rfl
theorem nd41 (b:Nat)(w:World):(nilAhead 480 200 (.pointer (some ⟨b,0,none⟩)) "Decode").run Tryz.prog w=.ok (some false) w:=by kernel_rfl
theorem cd41 (args:Array Value)(w:World):(callFunc 277 args).run Tryz.prog w=.ok (.enter 277 args) w:=by kernel_rfl
theorem md42 (b:Nat)(w:World):(method 480 203 (.pointer (some ⟨b,0,none⟩)) "Decode").run Tryz.prog w=.ok (280,.pointer (some ⟨b,0,none⟩)) w:=by kernel_rfl
theorem nd42 (b:Nat)(w:World):(nilAhead 480 203 (.pointer (some ⟨b,0,none⟩)) "Decode").run Tryz.prog w=.ok (some false) w:=by kernel_rfl
theorem cd42 (args:Array Value)(w:World):(callFunc 280 args).run Tryz.prog w=.ok (.enter 280 args) w:=by kernel_rfl
theorem md43 (b:Nat)(w:World):(method 480 206 (.pointer (some ⟨b,0,none⟩)) "Decode").run Tryz.prog w=.ok (283,.pointer (some ⟨b,0,none⟩)) w:=by kernel_rfl
theorem nd43 (b:Nat)(w:World):(nilAhead 480 206 (.pointer (some ⟨b,0,none⟩)) "Decode").run Tryz.prog w=.ok (some false) w:=by kernel_rfl
theorem cd43 (args:Array Value)(w:World):(callFunc 283 args).run Tryz.prog w=.ok (.enter 283 args) w:=by kernel_rfl
theorem md44 (b:Nat)(w:World):(method 480 208 (.pointer (some ⟨b,0,none⟩)) "Decode").run Tryz.prog w=.ok (286,.pointer (some ⟨b,0,none⟩)) w:=by kernel_rfl
theorem nd44 (b:Nat)(w:World):(nilAhead 480 208 (.pointer (some ⟨b,0,none⟩)) "Decode").run Tryz.prog w=.ok (some false) w:=by kernel_rfl
theorem cd44 (args:Array Value)(w:World):(callFunc 286 args).run Tryz.prog w=.ok (.enter 286 args) w:=by kernel_rfl
theorem md45 (b:Nat)(w:World):(method 480 210 (.pointer (some ⟨b,0,none⟩)) "Decode").run Tryz.prog w=.ok (289,.pointer (some ⟨b,0,none⟩)) w:=by kernel_rfl
theorem nd45 (b:Nat)(w:World):(nilAhead 480 210 (.pointer (some ⟨b,0,none⟩)) "Decode").run Tryz.prog w=.ok (some false) w:=by kernel_rfl
theorem cd45 (args:Array Value)(w:World):(callFunc 289 args).run Tryz.prog w=.ok (.enter 289 args) w:=by kernel_rfl
theorem md47 (b:Nat)(w:World):(method 480 213 (.pointer (some ⟨b,0,none⟩)) "Decode").run Tryz.prog w=.ok (292,.pointer (some ⟨b,0,none⟩)) w:=by kernel_rfl
theorem nd47 (b:Nat)(w:World):(nilAhead 480 213 (.pointer (some ⟨b,0,none⟩)) "Decode").run Tryz.prog w=.ok (some false) w:=by kernel_rfl
theorem cd47 (args:Array Value)(w:World):(callFunc 292 args).run Tryz.prog w=.ok (.enter 292 args) w:=by kernel_rfl
theorem md48 (b:Nat)(w:World):(method 480 217 (.pointer (some ⟨b,0,none⟩)) "Decode").run Tryz.prog w=.ok (314,.pointer (some ⟨b,0,none⟩)) w:=by kernel_rfl
theorem nd48 (b:Nat)(w:World):(nilAhead 480 217 (.pointer (some ⟨b,0,none⟩)) "Decode").run Tryz.prog w=.ok (some false) w:=by kernel_rfl
theorem cd48 (args:Array Value)(w:World):(callFunc 314 args).run Tryz.prog w=.ok (.enter 314 args) w:=by kernel_rfl
theorem md49 (b:Nat)(w:World):(method 480 219 (.pointer (some ⟨b,0,none⟩)) "Decode").run Tryz.prog w=.ok (317,.pointer (some ⟨b,0,none⟩)) w:=by kernel_rfl
theorem nd49 (b:Nat)(w:World):(nilAhead 480 219 (.pointer (some ⟨b,0,none⟩)) "Decode").run Tryz.prog w=.ok (some false) w:=by kernel_rfl
theorem cd49 (args:Array Value)(w:World):(callFunc 317 args).run Tryz.prog w=.ok (.enter 317 args) w:=by kernel_rfl
theorem md51 (b:Nat)(w:World):(method 480 222 (.pointer (some ⟨b,0,none⟩)) "Decode").run Tryz.prog w=.ok (320,.pointer (some ⟨b,0,none⟩)) w:=by kernel_rfl
theorem nd51 (b:Nat)(w:World):(nilAhead 480 222 (.pointer (some ⟨b,0,none⟩)) "Decode").run Tryz.prog w=.ok (some false) w:=by kernel_rfl
theorem cd51 (args:Array Value)(w:World):(callFunc 320 args).run Tryz.prog w=.ok (.enter 320 args) w:=by kernel_rfl
theorem md52 (b:Nat)(w:World):(method 480 225 (.pointer (some ⟨b,0,none⟩)) "Decode").run Tryz.prog w=.ok (323,.pointer (some ⟨b,0,none⟩)) w:=by kernel_rfl
theorem nd52 (b:Nat)(w:World):(nilAhead 480 225 (.pointer (some ⟨b,0,none⟩)) "Decode").run Tryz.prog w=.ok (some false) w:=by kernel_rfl
theorem cd52 (args:Array Value)(w:World):(callFunc 323 args).run Tryz.prog w=.ok (.enter 323 args) w:=by kernel_rfl
theorem md53 (b:Nat)(w:World):(method 480 228 (.pointer (some ⟨b,0,none⟩)) "Decode").run Tryz.prog w=.ok (326,.pointer (some ⟨b,0,none⟩)) w:=by kernel_rfl
theorem nd53 (b:Nat)(w:World):(nilAhead 480 228 (.pointer (some ⟨b,0,none⟩)) "Decode").run Tryz.prog w=.ok (some false) w:=by kernel_rfl
theorem cd53 (args:Array Value)(w:World):(callFunc 326 args).run Tryz.prog w=.ok (.enter 326 args) w:=by kernel_rfl
theorem md57 (b:Nat)(w:World):(method 480 233 (.pointer (some ⟨b,0,none⟩)) "Decode").run Tryz.prog w=.ok (332,.pointer (some ⟨b,0,none⟩)) w:=by kernel_rfl
theorem nd57 (b:Nat)(w:World):(nilAhead 480 233 (.pointer (some ⟨b,0,none⟩)) "Decode").run Tryz.prog w=.ok (some false) w:=by kernel_rfl
theorem cd57 (args:Array Value)(w:World):(callFunc 332 args).run Tryz.prog w=.ok (.enter 332 args) w:=by kernel_rfl
def turnedQ (kd:Int):Bool:=kd == 18 || kd == 47 || kd == 48
theorem turned12 (kd:Int)(w:World):Calls Tryz.prog 12 #[.int .i64 kd] w (fun e w'=>e=.returned (.bool (turnedQ kd))/\w'=w):=by
 by_cases h18:kd=18
 ·subst h18
  go_enter Tryz.func12,Tryz.ntmps12
  go_wp2
  go_ret
  exact⟨rfl,rfl⟩
 by_cases h47:kd=47
 ·subst h47
  go_enter Tryz.func12,Tryz.ntmps12
  go_wp2
  go_ret
  exact⟨rfl,rfl⟩
 by_cases h48:kd=48
 ·subst h48
  go_enter Tryz.func12,Tryz.ntmps12
  go_wp2
  go_ret
  exact⟨rfl,rfl⟩
 have e18:(kd == 18)=false:=beq_eq_false_iff_ne.2 h18
 have e47:(kd == 47)=false:=beq_eq_false_iff_ne.2 h47
 have e48:(kd == 48)=false:=beq_eq_false_iff_ne.2 h48
 have hs:turnedQ kd=false:=by unfold turnedQ;simp only [e18,e47,e48];rfl
 rw [hs]
 go_enter Tryz.func12,Tryz.ntmps12
 go_wp2
 go_ret
 exact⟨rfl,rfl⟩
theorem numB4 (n:Int):numB n 4=b32 n:=by
 unfold b32 be32
 simp only [numB,Int.pow_succ,Int.pow_zero]
 refine List.cons_eq_cons.2 ⟨by omega,List.cons_eq_cons.2 ⟨by omega,List.cons_eq_cons.2 ⟨by omega,List.cons_eq_cons.2 ⟨by omega,rfl⟩⟩⟩⟩
theorem valB_opt (x:Bool×List Int):valB x.1 x.2=optB (optV x):=by
 obtain⟨b,d⟩:=x
 cases b <;> simp [valB,optV,optB,numB4]
end Go.Proofs.YtdenjanihikolaaGreatDoor
