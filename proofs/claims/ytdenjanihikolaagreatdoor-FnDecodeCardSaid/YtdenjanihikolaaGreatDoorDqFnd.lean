/- A world in which the listed variables are laid; small facts on the program. -/
import Derived.Test.YtdenjanihikolaaGreatDoorDqA0
import Derived.Test.YtdenjanihikolaaGreatDoorDqA1
import Derived.Test.YtdenjanihikolaaGreatDoorDqDdx
import Derived.Test.YtdenjanihikolaaGreatDoorDqPpe
import Derived.Test.YtdenjanihikolaaGreatDoorDqMsf
import Derived.Test.YtdenjanihikolaaGreatDoorDqLtr
import Derived.Test.YtdenjanihikolaaGreatDoorDqDla
import Derived.Test.YtdenjanihikolaaGreatDoorDqPpc
import Derived.ProofKit
import Derived.ChangeVars
import Derived.LaidLaws
import Derived.Deep.DeepLaidRun
import Derived.Stop.Joined
import Derived.Test.YtdenjanihikolaaGreatDoorRows
namespace Go.Proofs.YtdenjanihikolaaGreatDoor
set_option linter.unusedVariables false
set_option linter.unusedSimpArgs false
set_option maxRecDepth 100000
open Go.RowKit Og
set_option maxHeartbeats 4000000 in
theorem decode6 (a b:ByteArray)(kd n mm:Int)(A5 A6 A7 A8 A9 A10 A11 A12:Option Addr)(c5 c6 c7 c8 c9 c10 c11 c12:Nat)(lf lr ty d:List Int)(vls:List (Bool×List Int))(ws:List ByteArray)(ps:List (ByteArray×ByteArray))(fs:List Sf)(w:World)
 (hm:MsgIn w (.agg #[.int .i64 kd,.string a,.string b,.int .u32 n,.int .u32 mm,.slice A5 lf.length c5,.slice A6 lr.length c6,.slice A7 ty.length c7,.slice A8 vls.length c8,.slice A9 d.length c9,.slice A10 ws.length c10,.slice A11 ps.length c11,.slice A12 fs.length c12]) a b kd n mm A5 A6 A7 A8 A9 A10 A11 A12 c5 c6 c7 c8 c9 c10 c11 c12 lf lr ty d vls ws ps fs) (htab:Tab w):
 Calls Tryz.prog 6 #[.agg #[.int .i64 kd,.string a,.string b,.int .u32 n,.int .u32 mm,.slice A5 lf.length c5,.slice A6 lr.length c6,.slice A7 ty.length c7,.slice A8 vls.length c8,.slice A9 d.length c9,.slice A10 ws.length c10,.slice A11 ps.length c11,.slice A12 fs.length c12]] w (fun e w'=>e=.returned (.bool true)/\Ext w w'):=by
 have HM:=zh hm
 have HTAB:=zh htab
 have H5:=zh hm.rf
 have H6:=zh hm.rr
 have HT:=zh hm.rt
 have HD:=zh hm.rd
 have H8:=zh hm.rv
 have H10:=zh hm.rw
 have H11:=zh hm.rp
 have H12:=zh hm.rl
 clear hm htab
 have hm0:True:=trivial
 have hm1:True:=trivial
 have hm2:True:=trivial
 have hm3:True:=trivial
 have hm4:True:=trivial
 have hm5:True:=trivial
 have hm6:True:=trivial
 have hm7:True:=trivial
 have hm8:True:=trivial
 have hm9:True:=trivial
 have hm10:True:=trivial
 have hm11:True:=trivial
 have hm12:True:=trivial
 by_cases hP:properP kd a b n lf lr ty vls d ws ps fs
 ·have HPP:=zh hP
  clear hP
  go_enter Tryz.func6,Tryz.ntmps6
  go_wp2_with (first|(go_at_call 9;refine(fit1 a b _ _ _ A5 A6 A7 A8 A9 A10 A11 A12 c5 c6 c7 c8 c9 c10 c11 c12 lf lr ty d vls ws ps fs _ (H8.out.ext (ext_alloc w _) (isVal.ext (ext_alloc w _))) (H10.out.ext (ext_alloc w _) (fun _ _ h=>h)) (H11.out.ext (ext_alloc w _) (fun _ _ h=>h)) (H12.out.ext (ext_alloc w _) (fun _ _ h=>h))).mono ?_;rintro e w1 ⟨bo,rfl,hbo,hbx⟩;have HE:=zh hbx;have HS:=zh hbo;clear hbo hbx;clear hm0 hm1 hm2 hm3 hm4 hm5 hm6 hm7 hm8 hm9 hm10 hm11 hm12;obtain⟨hm0,hm1,hm2,hm3,hm4,hm5,hm6,hm7,hm8,hm9,hm10,hm11,hm12⟩:=box13 HE.out;cases bo)|(go_at_call 10;refine msg10 a b kd n mm A5 A6 A7 A9 A10 A8 A11 A12 lf.length lr.length ty.length d.length ws.length c5 c6 c7 c9 c10 c8 c11 c12 vls ps fs _ (H8.out.ext ((ext_alloc w _).trans HE.out) (isVal.ext ((ext_alloc w _).trans HE.out))) (H11.out.ext ((ext_alloc w _).trans HE.out) (fun _ _ h=>h)) (H12.out.ext ((ext_alloc w _).trans HE.out) (fun _ _ h=>h)) (HS.out trivial).2.2.2.2.2.2.1.1 (HS.out trivial).2.2.2.2.2.2.2.2.1.1 (HS.out trivial).2.2.2.2.2.2.2.2.2.1 _ ?_;intro w2 B7 d7 B10 d10 B11 d11 hx2 hr7 hr10 hr11;have HE2:=zh (HE.out.trans hx2);have HR7:=zh hr7;have HR10:=zh hr10;have HR11:=zh hr11;clear hx2 hr7 hr10 hr11;clear hm0 hm1 hm2 hm3 hm4 hm5 hm6 hm7 hm8 hm9 hm10 hm11 hm12;obtain⟨hm0,hm1,hm2,hm3,hm4,hm5,hm6,hm7,hm8,hm9,hm10,hm11,hm12⟩:=box13 HE2.out;have HXC:Hid (Ext (w2.alloc (.cells #[.int .i64 kd,.string a,.string b,.int .u32 n,.slice A5 lf.length c5,.slice A6 lr.length c6,.slice A7 ty.length c7,.slice B7 vls.length d7,.slice A9 d.length c9,.slice A10 ws.length c10,.slice B10 ps.length d10,.slice B11 fs.length d11] 37)) (w2.alloc (.cells #[.int .i64 kd,.string a,.string b,.int .u32 n,.slice A5 lf.length c5,.slice A6 lr.length c6,.slice A7 ty.length c7,.slice B7 vls.length d7,.slice A9 d.length c9,.slice A10 ws.length c10,.slice B10 ps.length d10,.slice B11 fs.length d11] 37))):=zh zr;have HW:Hid (Ext w (w2.alloc (.cells #[.int .i64 kd,.string a,.string b,.int .u32 n,.slice A5 lf.length c5,.slice A6 lr.length c6,.slice A7 ty.length c7,.slice B7 vls.length d7,.slice A9 d.length c9,.slice A10 ws.length c10,.slice B10 ps.length d10,.slice B11 fs.length d11] 37))):=zh (((ext_alloc w _).trans HE2.out).alloc _);have HSP:Hid (SpIn (w2.alloc (.cells #[.int .i64 kd,.string a,.string b,.int .u32 n,.slice A5 lf.length c5,.slice A6 lr.length c6,.slice A7 ty.length c7,.slice B7 vls.length d7,.slice A9 d.length c9,.slice A10 ws.length c10,.slice B10 ps.length d10,.slice B11 fs.length d11] 37)) A5 A6 A7 B7 A9 A10 B10 B11 c5 c6 c7 d7 c9 c10 d10 d11 lf lr ty d vls ws ps fs):=zh ⟨H5.out.ext HW.out,H6.out.ext HW.out,HT.out.ext HW.out,HR7.out.ext (ext_alloc _ _) (isVal.ext (ext_alloc _ _)),HD.out.ext HW.out,H10.out.ext HW.out (fun _ _ h=>h),HR10.out.ext (ext_alloc _ _) (fun _ _ h=>h),HR11.out.ext (ext_alloc _ _) (fun _ _ h=>h)⟩)|(go_at_call 11;refine(proper11T a b kd n A5 A6 A7 B7 A9 A10 B10 B11 c5 c6 c7 d7 c9 c10 d10 d11 lf lr ty d vls ws ps fs _ (HSP.out.ext HXC.out).hf (HSP.out.ext HXC.out).hr (HSP.out.ext HXC.out).hv (HSP.out.ext HXC.out).hw (HSP.out.ext HXC.out).hp (HSP.out.ext HXC.out).hl (HS.out trivial).1 (HS.out trivial).2.1 (HS.out trivial).2.2.1 (HS.out trivial).2.2.2.1 (HS.out trivial).2.2.2.2.1 (HS.out trivial).2.2.2.2.2.2.1.1 (HS.out trivial).2.2.2.2.2.1 (HS.out trivial).2.2.2.2.2.2.2.1.1 (HS.out trivial).2.2.2.2.2.2.2.1.2 (HS.out trivial).2.2.2.2.2.2.2.2.1.1 (HS.out trivial).2.2.2.2.2.2.2.2.1.2 (HS.out trivial).2.2.2.2.2.2.2.2.2.1 (HS.out trivial).2.2.2.2.2.2.2.2.2.2 HPP.out).mono ?_;rintro e w3 ⟨rfl,hx3⟩;have HX0:=HXC;clear HXC;have HXC:=zh (HX0.out.trans hx3);clear HX0 hx3;have BX:=zh ((HXC.out.block _ (zl (heap_alloc_new w2 (.cells #[.int .i64 kd,.string a,.string b,.int .u32 n,.slice A5 lf.length c5,.slice A6 lr.length c6,.slice A7 ty.length c7,.slice B7 vls.length d7,.slice A9 d.length c9,.slice A10 ws.length c10,.slice B10 ps.length d10,.slice B11 fs.length d11] 37)))).trans (heap_alloc_new w2 (.cells #[.int .i64 kd,.string a,.string b,.int .u32 n,.slice A5 lf.length c5,.slice A6 lr.length c6,.slice A7 ty.length c7,.slice B7 vls.length d7,.slice A9 d.length c9,.slice A10 ws.length c10,.slice B10 ps.length d10,.slice B11 fs.length d11] 37)));(try clear hq0 hq1 hq2 hq3 hq4 hq5 hq6 hq7 hq8 hq9 hq10 hq11);obtain⟨hq0,hq1,hq2,hq3,hq4,hq5,hq6,hq7,hq8,hq9,hq10,hq11⟩:=slots12 BX.out)|(go_at_call 13;refine(works13 _).mono ?_;rintro e w5 ⟨rfl,hx5⟩;have HX5:=zh hx5;clear hx5)|(go_at_call 20;obtain⟨Bod,RB,R,hD⟩:=decs HPP.out HM.out.n HM.out.ty HM.out.d HM.out.vls HM.out.fs (HSP.out.ext HXC.out);refine(decodes20 hD (HTAB.out.ext (HW.out.trans HXC.out))).mono ?_;rintro e w3 ⟨rfl,hx3⟩;clear hD;have HX0:=HXC;clear HXC;have HXC:=zh (HX0.out.trans hx3);clear HX0 hx3;have BX:=zh ((HXC.out.block _ (zl (heap_alloc_new w2 (.cells #[.int .i64 kd,.string a,.string b,.int .u32 n,.slice A5 lf.length c5,.slice A6 lr.length c6,.slice A7 ty.length c7,.slice B7 vls.length d7,.slice A9 d.length c9,.slice A10 ws.length c10,.slice B10 ps.length d10,.slice B11 fs.length d11] 37)))).trans (heap_alloc_new w2 (.cells #[.int .i64 kd,.string a,.string b,.int .u32 n,.slice A5 lf.length c5,.slice A6 lr.length c6,.slice A7 ty.length c7,.slice B7 vls.length d7,.slice A9 d.length c9,.slice A10 ws.length c10,.slice B10 ps.length d10,.slice B11 fs.length d11] 37)));(try clear hq0 hq1 hq2 hq3 hq4 hq5 hq6 hq7 hq8 hq9 hq10 hq11);obtain⟨hq0,hq1,hq2,hq3,hq4,hq5,hq6,hq7,hq8,hq9,hq10,hq11⟩:=slots12 BX.out))
  all_goals first|(go_ret;exact⟨rfl,HW.out.trans (HXC.out.trans HX5.out)⟩)|(go_ret;exact⟨rfl,HW.out.trans HXC.out⟩)|(go_ret;exact⟨rfl,(ext_alloc w _).trans HE.out⟩)
 ·have HNP:=zh hP
  clear hP
  go_enter Tryz.func6,Tryz.ntmps6
  go_wp2_with (first|(go_at_call 9;refine(fit1 a b _ _ _ A5 A6 A7 A8 A9 A10 A11 A12 c5 c6 c7 c8 c9 c10 c11 c12 lf lr ty d vls ws ps fs _ (H8.out.ext (ext_alloc w _) (isVal.ext (ext_alloc w _))) (H10.out.ext (ext_alloc w _) (fun _ _ h=>h)) (H11.out.ext (ext_alloc w _) (fun _ _ h=>h)) (H12.out.ext (ext_alloc w _) (fun _ _ h=>h))).mono ?_;rintro e w1 ⟨bo,rfl,hbo,hbx⟩;have HE:=zh hbx;have HS:=zh hbo;clear hbo hbx;clear hm0 hm1 hm2 hm3 hm4 hm5 hm6 hm7 hm8 hm9 hm10 hm11 hm12;obtain⟨hm0,hm1,hm2,hm3,hm4,hm5,hm6,hm7,hm8,hm9,hm10,hm11,hm12⟩:=box13 HE.out;cases bo)|(go_at_call 10;refine msg10 a b kd n mm A5 A6 A7 A9 A10 A8 A11 A12 lf.length lr.length ty.length d.length ws.length c5 c6 c7 c9 c10 c8 c11 c12 vls ps fs _ (H8.out.ext ((ext_alloc w _).trans HE.out) (isVal.ext ((ext_alloc w _).trans HE.out))) (H11.out.ext ((ext_alloc w _).trans HE.out) (fun _ _ h=>h)) (H12.out.ext ((ext_alloc w _).trans HE.out) (fun _ _ h=>h)) (HS.out trivial).2.2.2.2.2.2.1.1 (HS.out trivial).2.2.2.2.2.2.2.2.1.1 (HS.out trivial).2.2.2.2.2.2.2.2.2.1 _ ?_;intro w2 B7 d7 B10 d10 B11 d11 hx2 hr7 hr10 hr11;have HE2:=zh (HE.out.trans hx2);have HR7:=zh hr7;have HR10:=zh hr10;have HR11:=zh hr11;clear hx2 hr7 hr10 hr11;clear hm0 hm1 hm2 hm3 hm4 hm5 hm6 hm7 hm8 hm9 hm10 hm11 hm12;obtain⟨hm0,hm1,hm2,hm3,hm4,hm5,hm6,hm7,hm8,hm9,hm10,hm11,hm12⟩:=box13 HE2.out;have HXC:Hid (Ext (w2.alloc (.cells #[.int .i64 kd,.string a,.string b,.int .u32 n,.slice A5 lf.length c5,.slice A6 lr.length c6,.slice A7 ty.length c7,.slice B7 vls.length d7,.slice A9 d.length c9,.slice A10 ws.length c10,.slice B10 ps.length d10,.slice B11 fs.length d11] 37)) (w2.alloc (.cells #[.int .i64 kd,.string a,.string b,.int .u32 n,.slice A5 lf.length c5,.slice A6 lr.length c6,.slice A7 ty.length c7,.slice B7 vls.length d7,.slice A9 d.length c9,.slice A10 ws.length c10,.slice B10 ps.length d10,.slice B11 fs.length d11] 37))):=zh zr;have HW:Hid (Ext w (w2.alloc (.cells #[.int .i64 kd,.string a,.string b,.int .u32 n,.slice A5 lf.length c5,.slice A6 lr.length c6,.slice A7 ty.length c7,.slice B7 vls.length d7,.slice A9 d.length c9,.slice A10 ws.length c10,.slice B10 ps.length d10,.slice B11 fs.length d11] 37))):=zh (((ext_alloc w _).trans HE2.out).alloc _);have HSP:Hid (SpIn (w2.alloc (.cells #[.int .i64 kd,.string a,.string b,.int .u32 n,.slice A5 lf.length c5,.slice A6 lr.length c6,.slice A7 ty.length c7,.slice B7 vls.length d7,.slice A9 d.length c9,.slice A10 ws.length c10,.slice B10 ps.length d10,.slice B11 fs.length d11] 37)) A5 A6 A7 B7 A9 A10 B10 B11 c5 c6 c7 d7 c9 c10 d10 d11 lf lr ty d vls ws ps fs):=zh ⟨H5.out.ext HW.out,H6.out.ext HW.out,HT.out.ext HW.out,HR7.out.ext (ext_alloc _ _) (isVal.ext (ext_alloc _ _)),HD.out.ext HW.out,H10.out.ext HW.out (fun _ _ h=>h),HR10.out.ext (ext_alloc _ _) (fun _ _ h=>h),HR11.out.ext (ext_alloc _ _) (fun _ _ h=>h)⟩)|(go_at_call 11;refine(proper11 a b kd n A5 A6 A7 B7 A9 A10 B10 B11 c5 c6 c7 d7 c9 c10 d10 d11 lf lr ty d vls ws ps fs _ (HSP.out.ext HXC.out).hf (HSP.out.ext HXC.out).hr (HSP.out.ext HXC.out).hv (HSP.out.ext HXC.out).hw (HSP.out.ext HXC.out).hp (HSP.out.ext HXC.out).hl (HS.out trivial).1 (HS.out trivial).2.1 (HS.out trivial).2.2.1 (HS.out trivial).2.2.2.1 (HS.out trivial).2.2.2.2.1 (HS.out trivial).2.2.2.2.2.2.1.1 (HS.out trivial).2.2.2.2.2.1 (HS.out trivial).2.2.2.2.2.2.2.1.1 (HS.out trivial).2.2.2.2.2.2.2.1.2 (HS.out trivial).2.2.2.2.2.2.2.2.1.1 (HS.out trivial).2.2.2.2.2.2.2.2.1.2 (HS.out trivial).2.2.2.2.2.2.2.2.2.1 (HS.out trivial).2.2.2.2.2.2.2.2.2.2).mono ?_;rintro e w3 ⟨bp,rfl,hbp,hx3⟩;obtain rfl:bp=false:=(by cases bp <;> first|rfl|exact absurd (hbp rfl) HNP.out);clear hbp;have HX0:=HXC;clear HXC;have HXC:=zh (HX0.out.trans hx3);clear HX0 hx3;have BX:=zh ((HXC.out.block _ (zl (heap_alloc_new w2 (.cells #[.int .i64 kd,.string a,.string b,.int .u32 n,.slice A5 lf.length c5,.slice A6 lr.length c6,.slice A7 ty.length c7,.slice B7 vls.length d7,.slice A9 d.length c9,.slice A10 ws.length c10,.slice B10 ps.length d10,.slice B11 fs.length d11] 37)))).trans (heap_alloc_new w2 (.cells #[.int .i64 kd,.string a,.string b,.int .u32 n,.slice A5 lf.length c5,.slice A6 lr.length c6,.slice A7 ty.length c7,.slice B7 vls.length d7,.slice A9 d.length c9,.slice A10 ws.length c10,.slice B10 ps.length d10,.slice B11 fs.length d11] 37)));(try clear hq0 hq1 hq2 hq3 hq4 hq5 hq6 hq7 hq8 hq9 hq10 hq11);obtain⟨hq0,hq1,hq2,hq3,hq4,hq5,hq6,hq7,hq8,hq9,hq10,hq11⟩:=slots12 BX.out)|(go_at_call 13;refine(works13 _).mono ?_;rintro e w5 ⟨rfl,hx5⟩;have HX5:=zh hx5;clear hx5))
  all_goals first|(go_ret;exact⟨rfl,HW.out.trans (HXC.out.trans HX5.out)⟩)|(go_ret;exact⟨rfl,HW.out.trans HXC.out⟩)|(go_ret;exact⟨rfl,(ext_alloc w _).trans HE.out⟩)
open Go Go.ChangeShapes Go.WideShapes Go.RowKit
theorem Tryz.own:ownKnob Tryz.prog.godebug=none:=by kernel_rfl
theorem Tryz.laidOut:laidOutB Tryz.prog=true:=by kernel_rfl
noncomputable def low:Nat:=(World.holding Tryz.prog default ⟨#[], #[],[]⟩).heap.size
noncomputable def laidWorld (os:Os):World:=
 let w0:=World.holding Tryz.prog os ⟨#[.cells #[.string ⟨#[105,110,118,97,108,105,100,32,115,121,110,116,97,120]⟩] 306,.cells #[.string ⟨#[118,97,108,117,101,32,111,117,116,32,111,102,32,114,97,110,103,101]⟩] 306], #[],[]⟩
 {w0 with heap:=(((((w0.heap.modify 0 fun
   | .cells _ t frozen=> .cells #[.iface 304 (.pointer (some ⟨low,0,none⟩))] t frozen
   | o=>o).modify 1 fun
   | .cells _ t frozen=> .cells #[.iface 304 (.pointer (some ⟨low+1,0,none⟩))] t frozen
   | o=>o).modify 2 fun
   | .cells _ t frozen=> .cells #[.int .u64 1,.int .u64 10,.int .u64 100,.int .u64 1000,.int .u64 10000,.int .u64 100000,.int .u64 1000000,.int .u64 10000000,.int .u64 100000000,.int .u64 1000000000,.int .u64 10000000000,.int .u64 100000000000,.int .u64 1000000000000,.int .u64 10000000000000,.int .u64 100000000000000,.int .u64 1000000000000000,.int .u64 10000000000000000,.int .u64 100000000000000000,.int .u64 1000000000000000000,.int .u64 10000000000000000000] t frozen
   | o=>o).modify 3 fun
   | .cells _ t frozen=> .cells #[.int .u8 0,.int .u8 1,.int .u8 28,.int .u8 2,.int .u8 29,.int .u8 14,.int .u8 24,.int .u8 3,.int .u8 30,.int .u8 22,.int .u8 20,.int .u8 15,.int .u8 25,.int .u8 17,.int .u8 4,.int .u8 8,.int .u8 31,.int .u8 27,.int .u8 13,.int .u8 23,.int .u8 21,.int .u8 19,.int .u8 16,.int .u8 7,.int .u8 26,.int .u8 12,.int .u8 18,.int .u8 6,.int .u8 11,.int .u8 5,.int .u8 10,.int .u8 9] t frozen
   | o=>o).modify 4 fun
   | .cells _ t frozen=> .cells #[.int .u8 0,.int .u8 1,.int .u8 56,.int .u8 2,.int .u8 57,.int .u8 49,.int .u8 28,.int .u8 3,.int .u8 61,.int .u8 58,.int .u8 42,.int .u8 50,.int .u8 38,.int .u8 29,.int .u8 17,.int .u8 4,.int .u8 62,.int .u8 47,.int .u8 59,.int .u8 36,.int .u8 45,.int .u8 43,.int .u8 51,.int .u8 22,.int .u8 53,.int .u8 39,.int .u8 33,.int .u8 30,.int .u8 24,.int .u8 18,.int .u8 12,.int .u8 5,.int .u8 63,.int .u8 55,.int .u8 48,.int .u8 27,.int .u8 60,.int .u8 41,.int .u8 37,.int .u8 16,.int .u8 46,.int .u8 35,.int .u8 44,.int .u8 21,.int .u8 52,.int .u8 32,.int .u8 23,.int .u8 11,.int .u8 54,.int .u8 26,.int .u8 40,.int .u8 15,.int .u8 34,.int .u8 20,.int .u8 31,.int .u8 10,.int .u8 25,.int .u8 14,.int .u8 19,.int .u8 9,.int .u8 13,.int .u8 8,.int .u8 7,.int .u8 6] t frozen
   | o=>o)}
abbrev laid5:List (String×DataW Unit):=[("math/bits.deBruijn32tab",Rows.laid_math_bits_deBruijn32tab),("math/bits.deBruijn64tab",Rows.laid_math_bits_deBruijn64tab),("internal/strconv.uint64pow10",Rows.laid_internal_strconv_uint64pow10),("strconv.ErrRange",Rows.laid_strconv_ErrRange),("strconv.ErrSyntax",Rows.laid_strconv_ErrSyntax)]
theorem laidWorld_met (os:Os)(args:Array Value):laidMet Tryz.prog laid5 ((laidWorld os).forCall (fun _ _=>0) ⟨#[],args,[]⟩).memory:=
 laidMet_of_run3 8 (by kernel_rfl) (by kernel_rfl) (by kernel_rfl)
end Go.Proofs.YtdenjanihikolaaGreatDoor
