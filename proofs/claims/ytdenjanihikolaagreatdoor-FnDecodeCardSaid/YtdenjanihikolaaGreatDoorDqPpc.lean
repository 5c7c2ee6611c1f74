/- Whether a message is proper, by contract. -/
import Derived.Test.YtdenjanihikolaaGreatDoorDqA0
import Derived.Test.YtdenjanihikolaaGreatDoorDqMke
import Derived.Test.YtdenjanihikolaaGreatDoorDqWrd
import Derived.Deep.Light
namespace Go.Proofs.YtdenjanihikolaaGreatDoor
set_option linter.unusedVariables false
set_option linter.unusedSimpArgs false
set_option maxRecDepth 100000
open Go.RowKit
/-- One letter of a field of an error. -/
def letP (x:ByteArray):Prop:=∃j,j < 18/\x.toList=((⟨#[83,86,67,77,68,72,80,112,113,87,115,116,99,100,110,70,76,82]⟩:ByteArray).extract j (j+1)).toList
/-- One field of an error that is proper. -/
def fldP (y:ByteArray×ByteArray):Prop:=letP y.1/\(y.1.toList=[80]∨y.1.toList=[112]∨y.1.toList=[76]->digP y.2)
set_option maxHeartbeats 1000000 in
theorem fields32 (l:List (ByteArray×ByteArray))(A_l:Option Addr)(c_l:Nat)(w:World)(hr:RdM 2 isPr w (.slice A_l l.length c_l) l)(hl:l.length<=2147483647)(hs:∀y∈l,y.1.size<=2147483647/\y.2.size<=2147483647):Calls Tryz.prog 32 #[.slice A_l l.length c_l] w (Said w ((∀y∈l,fldP y)/\pairsP true false l)):=by
 have HR:=zh hr
 clear hr
 go_enter Tryz.func32,Tryz.ntmps32
 go_wp2
 go_loopw [9] (fun i wr=>∃k:Nat,k<=l.length/\i=.int .i64 k/\Hid (Ext w wr)/\Hid (∀y∈l.take k,fldP y)) (fun i _=>l.length - (intOf i).toNat)
 case atStart=>exact⟨0,Nat.zero_le _,rfl,zh (Ext.refl _),zh (by simp)⟩
 case round=>
  obtain⟨k,hk1,rfl,HE,HY⟩:=hrel
  by_cases hlt:k < l.length
  ·obtain⟨b1,o1,f,rfl,hcell,hv⟩:=HR.out.at_ hlt
   have hsz:=hs _ (List.getElem_mem hlt)
   obtain⟨⟨x1,x2⟩,hx⟩:∃x,x=l[k]:=⟨_,rfl⟩
   rw [<-hx]at hv hsz
   have hf0:f 0=.string x1:=hv.1
   have hf1:f 1=.string x2:=hv.2
   replace hsz:x1.size<=2147483647/\x2.size<=2147483647:=hsz
   have hd0:=HE.out.cell (hcell 0 (by omega))
   rw [hf0,Nat.add_zero]at hd0
   have hd1:=HE.out.cell (hcell 1 (by omega))
   rw [hf1]at hd1
   have HX:=zh hx
   clear hx hcell hf0 hf1 hv
   go_wp2
   go_loopw [5,13] (fun b i wi=>∃q:Bool,∃j:Nat,j<=18/\b=.bool q/\i=.int .i64 j/\Hid (Ext (wr.alloc (.cells #[.string x1,.string x2] 48)) wi)/\Hid (q=true->letP x1)) (fun _ i _=>18 - (intOf i).toNat)
   case atStart=>exact⟨false,0,by omega,rfl,rfl,zh (Ext.refl _),zh (fun h=>by cases h)⟩
   case round=>
    obtain⟨q,j,hj,rfl,rfl,HI,HQ⟩:=hrel
    have hc0:=box_at HI.out 0 (.string x1) rfl
    have hc1:=box_at HI.out 1 (.string x2) rfl
    by_cases hj18:j < 18
    ·cases q
     ·go_wp2
      go_quiet (fail)
      go_wp2
      go_roundw
      case rel=>exact⟨_,j+1,by omega,rfl,by go_num,zh (HI.out.drewN nq),zh (fun h=>⟨j,hj18,by simpa using h⟩)⟩
      case measure=>simp only [intOf];omega
     ·go_wp2
      go_quiet (fail)
      go_wp2
      go_roundw
      case rel=>exact⟨true,j+1,by omega,rfl,by go_num,zh (HI.out.drewN nq),zh (fun _=>HQ.out (by first|trivial|rfl))⟩
      case measure=>simp only [intOf];omega
    ·obtain rfl:j=18:=by omega
     replace HE:=zh ((HE.out.alloc (.cells #[.string x1,.string x2] 48)).trans HI.out)
     cases q
     ·go_wp2
      go_ret
      exact⟨_,rfl,fun h=>by(cases h;done),HE.out⟩
     ·have HQ2:=zh (HQ.out (by first|trivial|rfl))
      by_cases hP:x1.toList=[80]∨x1.toList=[112]∨x1.toList=[76]
      ·have HP:=zh hP
       clear hP
       go_wp2_with (go_at_call 53;refine(digits53 x2 hsz.2 _).mono ?_;rintro e w1 ⟨bo,rfl,hbo,hbx⟩;have HE2:=HE;replace HE:=zh (HE2.out.trans hbx);have HBO:=zh hbo;clear hbo hbx;cases bo)
       all_goals first
        | (go_ret;exact⟨_,rfl,fun h=>by(cases h;done),HE.out⟩)
        | (go_roundw
           case rel=>
            refine⟨k+1,by omega,by go_num,HE,zh (all_take l k hlt HY.out ?_)⟩
            rw [<-HX.out]
            first|exact⟨HQ2.out,fun _=>HBO.out (by first|trivial|rfl)⟩|(exfalso;have:=HP.out;simp_all;done)
           case measure=>simp only [intOf];omega)
      ·have h1:(x1.toList == [80])=false:=beq_eq_false_iff_ne.2 fun h=>hP (.inl h)
       have h2:(x1.toList == [112])=false:=beq_eq_false_iff_ne.2 fun h=>hP (.inr (.inl h))
       have h3:(x1.toList == [76])=false:=beq_eq_false_iff_ne.2 fun h=>hP (.inr (.inr h))
       have HP:=zh hP
       clear hP
       go_wp2
       go_roundw
       case rel=>
        refine⟨k+1,by omega,by go_num,HE,zh (all_take l k hlt HY.out ?_)⟩
        rw [<-HX.out]
        exact⟨HQ2.out,fun h=>absurd h HP.out⟩
       case measure=>simp only [intOf];omega
  ·obtain rfl:k=l.length:=by omega
   go_wp2_with (go_at_call 31;refine(pairsS l _ _ _ (RdM.ext HR.out HE.out (fun _ _ h=>h)) hl hs).mono ?_;rintro e w1 ⟨bo,rfl,hbo,hbx⟩;have HBO:=zh hbo;have HE2:=HE;replace HE:=zh (HE2.out.trans hbx);clear hbo hbx)
   go_ret
   exact⟨_,rfl,fun h=>⟨by have:=HY.out;rwa [List.take_length]at this,HBO.out h⟩,HE.out⟩
theorem box12 {w w':World} {t:TypeId} {c0 c1 c2 c3 c4 c5 c6 c7 c8 c9 c10 c11:Value} (h:Ext (w.alloc (.cells #[c0,c1,c2,c3,c4,c5,c6,c7,c8,c9,c10,c11] t)) w'):w'.cell? ⟨w.heap.size,0,none⟩=some c0/\w'.cell? ⟨w.heap.size,1,none⟩=some c1/\w'.cell? ⟨w.heap.size,2,none⟩=some c2/\w'.cell? ⟨w.heap.size,3,none⟩=some c3/\w'.cell? ⟨w.heap.size,4,none⟩=some c4/\w'.cell? ⟨w.heap.size,5,none⟩=some c5/\w'.cell? ⟨w.heap.size,6,none⟩=some c6/\w'.cell? ⟨w.heap.size,7,none⟩=some c7/\w'.cell? ⟨w.heap.size,8,none⟩=some c8/\w'.cell? ⟨w.heap.size,9,none⟩=some c9/\w'.cell? ⟨w.heap.size,10,none⟩=some c10/\w'.cell? ⟨w.heap.size,11,none⟩=some c11:=
 ⟨box_at h 0 _ rfl,box_at h 1 _ rfl,box_at h 2 _ rfl,box_at h 3 _ rfl,box_at h 4 _ rfl,box_at h 5 _ rfl,box_at h 6 _ rfl,box_at h 7 _ rfl,box_at h 8 _ rfl,box_at h 9 _ rfl,box_at h 10 _ rfl,box_at h 11 _ rfl⟩
theorem box13 {w w':World} {t:TypeId} {c0 c1 c2 c3 c4 c5 c6 c7 c8 c9 c10 c11 c12:Value} (h:Ext (w.alloc (.cells #[c0,c1,c2,c3,c4,c5,c6,c7,c8,c9,c10,c11,c12] t)) w'):w'.cell? ⟨w.heap.size,0,none⟩=some c0/\w'.cell? ⟨w.heap.size,1,none⟩=some c1/\w'.cell? ⟨w.heap.size,2,none⟩=some c2/\w'.cell? ⟨w.heap.size,3,none⟩=some c3/\w'.cell? ⟨w.heap.size,4,none⟩=some c4/\w'.cell? ⟨w.heap.size,5,none⟩=some c5/\w'.cell? ⟨w.heap.size,6,none⟩=some c6/\w'.cell? ⟨w.heap.size,7,none⟩=some c7/\w'.cell? ⟨w.heap.size,8,none⟩=some c8/\w'.cell? ⟨w.heap.size,9,none⟩=some c9/\w'.cell? ⟨w.heap.size,10,none⟩=some c10/\w'.cell? ⟨w.heap.size,11,none⟩=some c11/\w'.cell? ⟨w.heap.size,12,none⟩=some c12:=
 ⟨box_at h 0 _ rfl,box_at h 1 _ rfl,box_at h 2 _ rfl,box_at h 3 _ rfl,box_at h 4 _ rfl,box_at h 5 _ rfl,box_at h 6 _ rfl,box_at h 7 _ rfl,box_at h 8 _ rfl,box_at h 9 _ rfl,box_at h 10 _ rfl,box_at h 11 _ rfl,box_at h 12 _ rfl⟩
theorem slots12 {w:World} {b:Nat} {t:TypeId} {c0 c1 c2 c3 c4 c5 c6 c7 c8 c9 c10 c11:Value} (h:w.heap[b]?=some (.cells #[c0,c1,c2,c3,c4,c5,c6,c7,c8,c9,c10,c11] t (0,0))):w.cell? ⟨b,0,none⟩=some c0/\w.cell? ⟨b,1,none⟩=some c1/\w.cell? ⟨b,2,none⟩=some c2/\w.cell? ⟨b,3,none⟩=some c3/\w.cell? ⟨b,4,none⟩=some c4/\w.cell? ⟨b,5,none⟩=some c5/\w.cell? ⟨b,6,none⟩=some c6/\w.cell? ⟨b,7,none⟩=some c7/\w.cell? ⟨b,8,none⟩=some c8/\w.cell? ⟨b,9,none⟩=some c9/\w.cell? ⟨b,10,none⟩=some c10/\w.cell? ⟨b,11,none⟩=some c11:=
 ⟨cell_slot h 0 _ rfl,cell_slot h 1 _ rfl,cell_slot h 2 _ rfl,cell_slot h 3 _ rfl,cell_slot h 4 _ rfl,cell_slot h 5 _ rfl,cell_slot h 6 _ rfl,cell_slot h 7 _ rfl,cell_slot h 8 _ rfl,cell_slot h 9 _ rfl,cell_slot h 10 _ rfl,cell_slot h 11 _ rfl⟩
def fmtP (l:List Int):Prop:=l.length<=20/\∀y∈l,y=0∨y=1
def colP (x:Sf):Prop:=plainP x.name/\0<=x.col/\x.col<=32767/\ -32768<=x.siz/\x.siz<=32767/\ -2147483648<=x.mdf/\x.mdf < 2147483648/\0<=x.fmt/\x.fmt<=1
/-- What a proper message keeps. -/
structure properP (kd:Int) (a b:ByteArray) (n:Int) (lf lr ty:List Int) (vls:List (Bool×List Int)) (d:List Int) (ws:List ByteArray) (ps:List (ByteArray×ByteArray)) (fs:List Sf):Prop where
 known:knownK kd
 pa:plainP a
 pb:plainP b
 data:d.length<=500
 types:ty.length<=20
 vals:vls.length<=20/\∀y∈vls,y.2.length<=200/\(y.1=true->y.2.length=0)
 cols:fs.length<=20/\∀y∈fs,colP y
 k0:kd=0->fmtP lf/\fmtP lr
 k1:kd=1∨kd=38∨kd=32->d.length=4
 k2:kd=2∨kd=6->n=83∨n=80
 k9:kd=9->fmtP lf/\fmtP lr/\lr.length=1
 k18:kd=18->n=196608/\0 < ps.length/\pairsP false true ps
 k35:kd=35->1<=ws.length/\ws.length<=5/\∀y∈ws,plainP y/\y.size≠0
 k42:kd=42∨kd=43∨kd=44->n<=1/\fmtP lf
 k47:kd=47∨kd=48->(∀y∈ps,fldP y)/\pairsP true false ps
 k49:kd=49->vls.length=1
 k56:kd=56->n=73∨n=84∨n=69
set_option maxHeartbeats 2000000 in
theorem proper11a (a b:ByteArray)(kd n:Int)(A4 A5 A6 A7 A8 A9 A10 A11:Option Addr)(c4 c5 c6 c7 c8 c9 c10 c11:Nat)(lf lr ty d:List Int)(vls:List (Bool×List Int))(ws:List ByteArray)(ps:List (ByteArray×ByteArray))(fs:List Sf)(w:World)(hkd:kd≠35)
 (h4:RdI .i64 w (.slice A4 lf.length c4) lf) (h5:RdI .i64 w (.slice A5 lr.length c5) lr) (h7:RdM 2 isVal w (.slice A7 vls.length c7) vls) (h9:Rd1 isStr w (.slice A9 ws.length c9) ws) (h10:RdM 2 isPr w (.slice A10 ps.length c10) ps) (h11:RdM 7 isSf w (.slice A11 fs.length c11) fs)
 (sa:a.size<=2147483647) (sb:b.size<=2147483647) (s4:lf.length<=2147483647) (s5:lr.length<=2147483647) (s6:ty.length<=2147483647) (s7:vls.length<=2147483647) (s8:d.length<=2147483647) (s9:ws.length<=2147483647) (s9':∀y∈ws,y.size<=2147483647) (s10:ps.length<=2147483647) (s10':∀y∈ps,y.1.size<=2147483647/\y.2.size<=2147483647) (s11:fs.length<=2147483647) (s11':∀y∈fs,y.name.size<=2147483647):
 Calls Tryz.prog 11 #[.agg #[.int .i64 kd,.string a,.string b,.int .u32 n,.slice A4 lf.length c4,.slice A5 lr.length c5,.slice A6 ty.length c6,.slice A7 vls.length c7,.slice A8 d.length c8,.slice A9 ws.length c9,.slice A10 ps.length c10,.slice A11 fs.length c11]] w (Said w (properP kd a b n lf lr ty vls d ws ps fs)):=by
 have H4:=zh (h4.ext (ext_alloc w (.cells #[.int .i64 kd,.string a,.string b,.int .u32 n,.slice A4 lf.length c4,.slice A5 lr.length c5,.slice A6 ty.length c6,.slice A7 vls.length c7,.slice A8 d.length c8,.slice A9 ws.length c9,.slice A10 ps.length c10,.slice A11 fs.length c11] 37)))
 have H5:=zh (h5.ext (ext_alloc w (.cells #[.int .i64 kd,.string a,.string b,.int .u32 n,.slice A4 lf.length c4,.slice A5 lr.length c5,.slice A6 ty.length c6,.slice A7 vls.length c7,.slice A8 d.length c8,.slice A9 ws.length c9,.slice A10 ps.length c10,.slice A11 fs.length c11] 37)))
 have H7:=zh (h7.ext (ext_alloc w (.cells #[.int .i64 kd,.string a,.string b,.int .u32 n,.slice A4 lf.length c4,.slice A5 lr.length c5,.slice A6 ty.length c6,.slice A7 vls.length c7,.slice A8 d.length c8,.slice A9 ws.length c9,.slice A10 ps.length c10,.slice A11 fs.length c11] 37)) (isVal.ext (ext_alloc w (.cells #[.int .i64 kd,.string a,.string b,.int .u32 n,.slice A4 lf.length c4,.slice A5 lr.length c5,.slice A6 ty.length c6,.slice A7 vls.length c7,.slice A8 d.length c8,.slice A9 ws.length c9,.slice A10 ps.length c10,.slice A11 fs.length c11] 37))))
 have H9:=zh (h9.ext (ext_alloc w (.cells #[.int .i64 kd,.string a,.string b,.int .u32 n,.slice A4 lf.length c4,.slice A5 lr.length c5,.slice A6 ty.length c6,.slice A7 vls.length c7,.slice A8 d.length c8,.slice A9 ws.length c9,.slice A10 ps.length c10,.slice A11 fs.length c11] 37)) (fun _ _ h=>h))
 have H10:=zh (h10.ext (ext_alloc w (.cells #[.int .i64 kd,.string a,.string b,.int .u32 n,.slice A4 lf.length c4,.slice A5 lr.length c5,.slice A6 ty.length c6,.slice A7 vls.length c7,.slice A8 d.length c8,.slice A9 ws.length c9,.slice A10 ps.length c10,.slice A11 fs.length c11] 37)) (fun _ _ h=>h))
 have H11:=zh (h11.ext (ext_alloc w (.cells #[.int .i64 kd,.string a,.string b,.int .u32 n,.slice A4 lf.length c4,.slice A5 lr.length c5,.slice A6 ty.length c6,.slice A7 vls.length c7,.slice A8 d.length c8,.slice A9 ws.length c9,.slice A10 ps.length c10,.slice A11 fs.length c11] 37)) (fun _ _ h=>h))
 have S9:=zh s9'
 have S10:=zh s10'
 have S11:=zh s11'
 clear h4 h5 h7 h9 h10 h11 s9' s10' s11'
 have HE:=zh (Ext.refl (w.alloc (.cells #[.int .i64 kd,.string a,.string b,.int .u32 n,.slice A4 lf.length c4,.slice A5 lr.length c5,.slice A6 ty.length c6,.slice A7 vls.length c7,.slice A8 d.length c8,.slice A9 ws.length c9,.slice A10 ps.length c10,.slice A11 fs.length c11] 37)))
 have hx0:True:=trivial
 have hx1:True:=trivial
 have hx2:True:=trivial
 have hx3:True:=trivial
 have hx4:True:=trivial
 have hx5:True:=trivial
 have hx6:True:=trivial
 have hx7:True:=trivial
 have hx8:True:=trivial
 have hx9:True:=trivial
 have hx10:True:=trivial
 have hx11:True:=trivial
 have Hpa:∀(q:Bool),plainQ a=q->∀w,Calls Tryz.prog 27 #[.string a] w (fun e w'=>e=.returned (.bool q)/\w'=w):=fun q hq w=>by rw [<-hq];exact plain27 a sa w
 have Hpb:∀(q:Bool),plainQ b=q->∀w,Calls Tryz.prog 27 #[.string b] w (fun e w'=>e=.returned (.bool q)/\w'=w):=fun q hq w=>by rw [<-hq];exact plain27 b sb w
 cases hpa:plainQ a
 ·go_enter Tryz.func11,Tryz.ntmps11
  go_wp2_with (first|(go_at_call 26;refine(known26 kd _).mono ?_;rintro e w1 ⟨bo,rfl,hbo,hbx⟩;have HE2:=HE;replace HE:=zh (HE2.out.trans hbx);clear HE2;have HK:=zh hbo;clear hbo hbx;clear hx0 hx1 hx2 hx3 hx4 hx5 hx6 hx7 hx8 hx9 hx10 hx11;obtain⟨hx0,hx1,hx2,hx3,hx4,hx5,hx6,hx7,hx8,hx9,hx10,hx11⟩:=box12 HE.out;cases bo)|(go_at_call_of 27 a;refine(Hpa _ hpa _).mono ?_;rintro e w1 ⟨rfl,rfl⟩)|(go_at_call_of 27 b;refine(Hpb _ hpb _).mono ?_;rintro e w1 ⟨rfl,rfl⟩)|(go_at_call 28;refine(values28 vls A7 c7 20 _ (H7.out.ext HE.out (isVal.ext HE.out)) s7).mono ?_;rintro e w1 ⟨bo,rfl,hbo,hbx⟩;have HE2:=HE;replace HE:=zh (HE2.out.trans hbx);clear HE2;have HV:=zh hbo;clear hbo hbx;clear hx0 hx1 hx2 hx3 hx4 hx5 hx6 hx7 hx8 hx9 hx10 hx11;obtain⟨hx0,hx1,hx2,hx3,hx4,hx5,hx6,hx7,hx8,hx9,hx10,hx11⟩:=box12 HE.out;cases bo)|(go_at_call 29;refine(columns29 fs A11 c11 _ (H11.out.ext HE.out (fun _ _ h=>h)) s11 S11.out).mono ?_;rintro e w1 ⟨bo,rfl,hbo,hbx⟩;have HE2:=HE;replace HE:=zh (HE2.out.trans hbx);clear HE2;have HC:=zh hbo;clear hbo hbx;clear hx0 hx1 hx2 hx3 hx4 hx5 hx6 hx7 hx8 hx9 hx10 hx11;obtain⟨hx0,hx1,hx2,hx3,hx4,hx5,hx6,hx7,hx8,hx9,hx10,hx11⟩:=box12 HE.out;cases bo)|(go_at_call_of 30 A4;refine(formats30 lf A4 c4 _ (H4.out.ext HE.out) s4).mono ?_;rintro e w1 ⟨bo,rfl,hbo,hbx⟩;have HE2:=HE;replace HE:=zh (HE2.out.trans hbx);clear HE2;have HF:=zh hbo;clear hbo hbx;clear hx0 hx1 hx2 hx3 hx4 hx5 hx6 hx7 hx8 hx9 hx10 hx11;obtain⟨hx0,hx1,hx2,hx3,hx4,hx5,hx6,hx7,hx8,hx9,hx10,hx11⟩:=box12 HE.out;cases bo)|(go_at_call_of 30 A5;refine(formats30 lr A5 c5 _ (H5.out.ext HE.out) s5).mono ?_;rintro e w1 ⟨bo,rfl,hbo,hbx⟩;have HE2:=HE;replace HE:=zh (HE2.out.trans hbx);clear HE2;have HR:=zh hbo;clear hbo hbx;clear hx0 hx1 hx2 hx3 hx4 hx5 hx6 hx7 hx8 hx9 hx10 hx11;obtain⟨hx0,hx1,hx2,hx3,hx4,hx5,hx6,hx7,hx8,hx9,hx10,hx11⟩:=box12 HE.out;cases bo)|(go_at_call 31;refine(pairsM ps A10 c10 _ (H10.out.ext HE.out (fun _ _ h=>h)) s10 S10.out).mono ?_;rintro e w1 ⟨bo,rfl,hbo,hbx⟩;have HE2:=HE;replace HE:=zh (HE2.out.trans hbx);clear HE2;have HP:=zh hbo;clear hbo hbx;clear hx0 hx1 hx2 hx3 hx4 hx5 hx6 hx7 hx8 hx9 hx10 hx11;obtain⟨hx0,hx1,hx2,hx3,hx4,hx5,hx6,hx7,hx8,hx9,hx10,hx11⟩:=box12 HE.out;cases bo)|(go_at_call 32;refine(fields32 ps A10 c10 _ (H10.out.ext HE.out (fun _ _ h=>h)) s10 S10.out).mono ?_;rintro e w1 ⟨bo,rfl,hbo,hbx⟩;have HE2:=HE;replace HE:=zh (HE2.out.trans hbx);clear HE2;have HP:=zh hbo;clear hbo hbx;clear hx0 hx1 hx2 hx3 hx4 hx5 hx6 hx7 hx8 hx9 hx10 hx11;obtain⟨hx0,hx1,hx2,hx3,hx4,hx5,hx6,hx7,hx8,hx9,hx10,hx11⟩:=box12 HE.out;cases bo))
  all_goals(go_ret;refine⟨_,rfl,?_,(ext_alloc w _).trans HE.out⟩;intro h;cases h;done)
 cases hpb:plainQ b
 ·go_enter Tryz.func11,Tryz.ntmps11
  go_wp2_with (first|(go_at_call 26;refine(known26 kd _).mono ?_;rintro e w1 ⟨bo,rfl,hbo,hbx⟩;have HE2:=HE;replace HE:=zh (HE2.out.trans hbx);clear HE2;have HK:=zh hbo;clear hbo hbx;clear hx0 hx1 hx2 hx3 hx4 hx5 hx6 hx7 hx8 hx9 hx10 hx11;obtain⟨hx0,hx1,hx2,hx3,hx4,hx5,hx6,hx7,hx8,hx9,hx10,hx11⟩:=box12 HE.out;cases bo)|(go_at_call_of 27 a;refine(Hpa _ hpa _).mono ?_;rintro e w1 ⟨rfl,rfl⟩)|(go_at_call_of 27 b;refine(Hpb _ hpb _).mono ?_;rintro e w1 ⟨rfl,rfl⟩)|(go_at_call 28;refine(values28 vls A7 c7 20 _ (H7.out.ext HE.out (isVal.ext HE.out)) s7).mono ?_;rintro e w1 ⟨bo,rfl,hbo,hbx⟩;have HE2:=HE;replace HE:=zh (HE2.out.trans hbx);clear HE2;have HV:=zh hbo;clear hbo hbx;clear hx0 hx1 hx2 hx3 hx4 hx5 hx6 hx7 hx8 hx9 hx10 hx11;obtain⟨hx0,hx1,hx2,hx3,hx4,hx5,hx6,hx7,hx8,hx9,hx10,hx11⟩:=box12 HE.out;cases bo)|(go_at_call 29;refine(columns29 fs A11 c11 _ (H11.out.ext HE.out (fun _ _ h=>h)) s11 S11.out).mono ?_;rintro e w1 ⟨bo,rfl,hbo,hbx⟩;have HE2:=HE;replace HE:=zh (HE2.out.trans hbx);clear HE2;have HC:=zh hbo;clear hbo hbx;clear hx0 hx1 hx2 hx3 hx4 hx5 hx6 hx7 hx8 hx9 hx10 hx11;obtain⟨hx0,hx1,hx2,hx3,hx4,hx5,hx6,hx7,hx8,hx9,hx10,hx11⟩:=box12 HE.out;cases bo)|(go_at_call_of 30 A4;refine(formats30 lf A4 c4 _ (H4.out.ext HE.out) s4).mono ?_;rintro e w1 ⟨bo,rfl,hbo,hbx⟩;have HE2:=HE;replace HE:=zh (HE2.out.trans hbx);clear HE2;have HF:=zh hbo;clear hbo hbx;clear hx0 hx1 hx2 hx3 hx4 hx5 hx6 hx7 hx8 hx9 hx10 hx11;obtain⟨hx0,hx1,hx2,hx3,hx4,hx5,hx6,hx7,hx8,hx9,hx10,hx11⟩:=box12 HE.out;cases bo)|(go_at_call_of 30 A5;refine(formats30 lr A5 c5 _ (H5.out.ext HE.out) s5).mono ?_;rintro e w1 ⟨bo,rfl,hbo,hbx⟩;have HE2:=HE;replace HE:=zh (HE2.out.trans hbx);clear HE2;have HR:=zh hbo;clear hbo hbx;clear hx0 hx1 hx2 hx3 hx4 hx5 hx6 hx7 hx8 hx9 hx10 hx11;obtain⟨hx0,hx1,hx2,hx3,hx4,hx5,hx6,hx7,hx8,hx9,hx10,hx11⟩:=box12 HE.out;cases bo)|(go_at_call 31;refine(pairsM ps A10 c10 _ (H10.out.ext HE.out (fun _ _ h=>h)) s10 S10.out).mono ?_;rintro e w1 ⟨bo,rfl,hbo,hbx⟩;have HE2:=HE;replace HE:=zh (HE2.out.trans hbx);clear HE2;have HP:=zh hbo;clear hbo hbx;clear hx0 hx1 hx2 hx3 hx4 hx5 hx6 hx7 hx8 hx9 hx10 hx11;obtain⟨hx0,hx1,hx2,hx3,hx4,hx5,hx6,hx7,hx8,hx9,hx10,hx11⟩:=box12 HE.out;cases bo)|(go_at_call 32;refine(fields32 ps A10 c10 _ (H10.out.ext HE.out (fun _ _ h=>h)) s10 S10.out).mono ?_;rintro e w1 ⟨bo,rfl,hbo,hbx⟩;have HE2:=HE;replace HE:=zh (HE2.out.trans hbx);clear HE2;have HP:=zh hbo;clear hbo hbx;clear hx0 hx1 hx2 hx3 hx4 hx5 hx6 hx7 hx8 hx9 hx10 hx11;obtain⟨hx0,hx1,hx2,hx3,hx4,hx5,hx6,hx7,hx8,hx9,hx10,hx11⟩:=box12 HE.out;cases bo))
  all_goals(go_ret;refine⟨_,rfl,?_,(ext_alloc w _).trans HE.out⟩;intro h;cases h;done)
 go_enter Tryz.func11,Tryz.ntmps11
 go_wp2_with (first|(go_at_call 26;refine(known26 kd _).mono ?_;rintro e w1 ⟨bo,rfl,hbo,hbx⟩;have HE2:=HE;replace HE:=zh (HE2.out.trans hbx);clear HE2;have HK:=zh hbo;clear hbo hbx;clear hx0 hx1 hx2 hx3 hx4 hx5 hx6 hx7 hx8 hx9 hx10 hx11;obtain⟨hx0,hx1,hx2,hx3,hx4,hx5,hx6,hx7,hx8,hx9,hx10,hx11⟩:=box12 HE.out;cases bo)|(go_at_call_of 27 a;refine(Hpa _ hpa _).mono ?_;rintro e w1 ⟨rfl,rfl⟩)|(go_at_call_of 27 b;refine(Hpb _ hpb _).mono ?_;rintro e w1 ⟨rfl,rfl⟩)|(go_at_call 28;refine(values28 vls A7 c7 20 _ (H7.out.ext HE.out (isVal.ext HE.out)) s7).mono ?_;rintro e w1 ⟨bo,rfl,hbo,hbx⟩;have HE2:=HE;replace HE:=zh (HE2.out.trans hbx);clear HE2;have HV:=zh hbo;clear hbo hbx;clear hx0 hx1 hx2 hx3 hx4 hx5 hx6 hx7 hx8 hx9 hx10 hx11;obtain⟨hx0,hx1,hx2,hx3,hx4,hx5,hx6,hx7,hx8,hx9,hx10,hx11⟩:=box12 HE.out;cases bo)|(go_at_call 29;refine(columns29 fs A11 c11 _ (H11.out.ext HE.out (fun _ _ h=>h)) s11 S11.out).mono ?_;rintro e w1 ⟨bo,rfl,hbo,hbx⟩;have HE2:=HE;replace HE:=zh (HE2.out.trans hbx);clear HE2;have HC:=zh hbo;clear hbo hbx;clear hx0 hx1 hx2 hx3 hx4 hx5 hx6 hx7 hx8 hx9 hx10 hx11;obtain⟨hx0,hx1,hx2,hx3,hx4,hx5,hx6,hx7,hx8,hx9,hx10,hx11⟩:=box12 HE.out;cases bo)|(go_at_call_of 30 A4;refine(formats30 lf A4 c4 _ (H4.out.ext HE.out) s4).mono ?_;rintro e w1 ⟨bo,rfl,hbo,hbx⟩;have HE2:=HE;replace HE:=zh (HE2.out.trans hbx);clear HE2;have HF:=zh hbo;clear hbo hbx;clear hx0 hx1 hx2 hx3 hx4 hx5 hx6 hx7 hx8 hx9 hx10 hx11;obtain⟨hx0,hx1,hx2,hx3,hx4,hx5,hx6,hx7,hx8,hx9,hx10,hx11⟩:=box12 HE.out;cases bo)|(go_at_call_of 30 A5;refine(formats30 lr A5 c5 _ (H5.out.ext HE.out) s5).mono ?_;rintro e w1 ⟨bo,rfl,hbo,hbx⟩;have HE2:=HE;replace HE:=zh (HE2.out.trans hbx);clear HE2;have HR:=zh hbo;clear hbo hbx;clear hx0 hx1 hx2 hx3 hx4 hx5 hx6 hx7 hx8 hx9 hx10 hx11;obtain⟨hx0,hx1,hx2,hx3,hx4,hx5,hx6,hx7,hx8,hx9,hx10,hx11⟩:=box12 HE.out;cases bo)|(go_at_call 31;refine(pairsM ps A10 c10 _ (H10.out.ext HE.out (fun _ _ h=>h)) s10 S10.out).mono ?_;rintro e w1 ⟨bo,rfl,hbo,hbx⟩;have HE2:=HE;replace HE:=zh (HE2.out.trans hbx);clear HE2;have HP:=zh hbo;clear hbo hbx;clear hx0 hx1 hx2 hx3 hx4 hx5 hx6 hx7 hx8 hx9 hx10 hx11;obtain⟨hx0,hx1,hx2,hx3,hx4,hx5,hx6,hx7,hx8,hx9,hx10,hx11⟩:=box12 HE.out;cases bo)|(go_at_call 32;refine(fields32 ps A10 c10 _ (H10.out.ext HE.out (fun _ _ h=>h)) s10 S10.out).mono ?_;rintro e w1 ⟨bo,rfl,hbo,hbx⟩;have HE2:=HE;replace HE:=zh (HE2.out.trans hbx);clear HE2;have HP:=zh hbo;clear hbo hbx;clear hx0 hx1 hx2 hx3 hx4 hx5 hx6 hx7 hx8 hx9 hx10 hx11;obtain⟨hx0,hx1,hx2,hx3,hx4,hx5,hx6,hx7,hx8,hx9,hx10,hx11⟩:=box12 HE.out;cases bo))
 all_goals first
  | (go_ret;refine⟨_,rfl,?_,(ext_alloc w _).trans HE.out⟩;intro h;cases h;done)
  | (go_ret
     refine⟨_,rfl,?_,(ext_alloc w _).trans HE.out⟩
     intro hres
     go_light
     try simp only [beq_iff_eq,beq_eq_false_iff_ne,ne_eq,Bool.or_eq_true,Bool.and_eq_true,decide_eq_true_eq]at *
     refine⟨HK.out trivial,plainQ_of hpa,plainQ_of hpb,by omega,by omega,⟨by have:=(HV.out trivial).1;omega,(HV.out trivial).2⟩,HC.out trivial,?_,?_,?_,?_,?_,?_,?_,?_,?_,?_⟩
     all_goals intro hk
     all_goals first
      | (exfalso;omega)
      | exact⟨HF.out trivial,HR.out trivial⟩
      | exact HP.out trivial
      | exact⟨by omega,HF.out trivial⟩
      | exact⟨HF.out trivial,HR.out trivial,by omega⟩
      | exact⟨by omega,by omega,HP.out trivial⟩
      | (simp at hres;omega)
      | omega)
set_option maxHeartbeats 2000000 in
theorem proper11b (a b:ByteArray)(n:Int)(A4 A5 A6 A7 A8 A9 A10 A11:Option Addr)(c4 c5 c6 c7 c8 c9 c10 c11:Nat)(lf lr ty d:List Int)(vls:List (Bool×List Int))(ws:List ByteArray)(ps:List (ByteArray×ByteArray))(fs:List Sf)(w:World)
 (h4:RdI .i64 w (.slice A4 lf.length c4) lf) (h5:RdI .i64 w (.slice A5 lr.length c5) lr) (h7:RdM 2 isVal w (.slice A7 vls.length c7) vls) (h9:Rd1 isStr w (.slice A9 ws.length c9) ws) (h10:RdM 2 isPr w (.slice A10 ps.length c10) ps) (h11:RdM 7 isSf w (.slice A11 fs.length c11) fs)
 (sa:a.size<=2147483647) (sb:b.size<=2147483647) (s4:lf.length<=2147483647) (s5:lr.length<=2147483647) (s6:ty.length<=2147483647) (s7:vls.length<=2147483647) (s8:d.length<=2147483647) (s9:ws.length<=2147483647) (s9':∀y∈ws,y.size<=2147483647) (s10:ps.length<=2147483647) (s10':∀y∈ps,y.1.size<=2147483647/\y.2.size<=2147483647) (s11:fs.length<=2147483647) (s11':∀y∈fs,y.name.size<=2147483647):
 Calls Tryz.prog 11 #[.agg #[.int .i64 35,.string a,.string b,.int .u32 n,.slice A4 lf.length c4,.slice A5 lr.length c5,.slice A6 ty.length c6,.slice A7 vls.length c7,.slice A8 d.length c8,.slice A9 ws.length c9,.slice A10 ps.length c10,.slice A11 fs.length c11]] w (Said w (properP 35 a b n lf lr ty vls d ws ps fs)):=by
 have H4:=zh (h4.ext (ext_alloc w (.cells #[.int .i64 35,.string a,.string b,.int .u32 n,.slice A4 lf.length c4,.slice A5 lr.length c5,.slice A6 ty.length c6,.slice A7 vls.length c7,.slice A8 d.length c8,.slice A9 ws.length c9,.slice A10 ps.length c10,.slice A11 fs.length c11] 37)))
 have H5:=zh (h5.ext (ext_alloc w (.cells #[.int .i64 35,.string a,.string b,.int .u32 n,.slice A4 lf.length c4,.slice A5 lr.length c5,.slice A6 ty.length c6,.slice A7 vls.length c7,.slice A8 d.length c8,.slice A9 ws.length c9,.slice A10 ps.length c10,.slice A11 fs.length c11] 37)))
 have H7:=zh (h7.ext (ext_alloc w (.cells #[.int .i64 35,.string a,.string b,.int .u32 n,.slice A4 lf.length c4,.slice A5 lr.length c5,.slice A6 ty.length c6,.slice A7 vls.length c7,.slice A8 d.length c8,.slice A9 ws.length c9,.slice A10 ps.length c10,.slice A11 fs.length c11] 37)) (isVal.ext (ext_alloc w (.cells #[.int .i64 35,.string a,.string b,.int .u32 n,.slice A4 lf.length c4,.slice A5 lr.length c5,.slice A6 ty.length c6,.slice A7 vls.length c7,.slice A8 d.length c8,.slice A9 ws.length c9,.slice A10 ps.length c10,.slice A11 fs.length c11] 37))))
 have H9:=zh (h9.ext (ext_alloc w (.cells #[.int .i64 35,.string a,.string b,.int .u32 n,.slice A4 lf.length c4,.slice A5 lr.length c5,.slice A6 ty.length c6,.slice A7 vls.length c7,.slice A8 d.length c8,.slice A9 ws.length c9,.slice A10 ps.length c10,.slice A11 fs.length c11] 37)) (fun _ _ h=>h))
 have H10:=zh (h10.ext (ext_alloc w (.cells #[.int .i64 35,.string a,.string b,.int .u32 n,.slice A4 lf.length c4,.slice A5 lr.length c5,.slice A6 ty.length c6,.slice A7 vls.length c7,.slice A8 d.length c8,.slice A9 ws.length c9,.slice A10 ps.length c10,.slice A11 fs.length c11] 37)) (fun _ _ h=>h))
 have H11:=zh (h11.ext (ext_alloc w (.cells #[.int .i64 35,.string a,.string b,.int .u32 n,.slice A4 lf.length c4,.slice A5 lr.length c5,.slice A6 ty.length c6,.slice A7 vls.length c7,.slice A8 d.length c8,.slice A9 ws.length c9,.slice A10 ps.length c10,.slice A11 fs.length c11] 37)) (fun _ _ h=>h))
 have S9:=zh s9'
 have S10:=zh s10'
 have S11:=zh s11'
 clear h4 h5 h7 h9 h10 h11 s9' s10' s11'
 have HE:=zh (Ext.refl (w.alloc (.cells #[.int .i64 35,.string a,.string b,.int .u32 n,.slice A4 lf.length c4,.slice A5 lr.length c5,.slice A6 ty.length c6,.slice A7 vls.length c7,.slice A8 d.length c8,.slice A9 ws.length c9,.slice A10 ps.length c10,.slice A11 fs.length c11] 37)))
 have hx0:True:=trivial
 have hx1:True:=trivial
 have hx2:True:=trivial
 have hx3:True:=trivial
 have hx4:True:=trivial
 have hx5:True:=trivial
 have hx6:True:=trivial
 have hx7:True:=trivial
 have hx8:True:=trivial
 have hx9:True:=trivial
 have hx10:True:=trivial
 have hx11:True:=trivial
 have Hpa:∀(q:Bool),plainQ a=q->∀w,Calls Tryz.prog 27 #[.string a] w (fun e w'=>e=.returned (.bool q)/\w'=w):=fun q hq w=>by rw [<-hq];exact plain27 a sa w
 have Hpb:∀(q:Bool),plainQ b=q->∀w,Calls Tryz.prog 27 #[.string b] w (fun e w'=>e=.returned (.bool q)/\w'=w):=fun q hq w=>by rw [<-hq];exact plain27 b sb w
 cases hpa:plainQ a
 ·go_enter Tryz.func11,Tryz.ntmps11
  go_wp2_with (first|(go_at_call 26;refine(known26 35 _).mono ?_;rintro e w1 ⟨bo,rfl,hbo,hbx⟩;have HE2:=HE;replace HE:=zh (HE2.out.trans hbx);clear HE2;have HK:=zh hbo;clear hbo hbx;clear hx0 hx1 hx2 hx3 hx4 hx5 hx6 hx7 hx8 hx9 hx10 hx11;obtain⟨hx0,hx1,hx2,hx3,hx4,hx5,hx6,hx7,hx8,hx9,hx10,hx11⟩:=box12 HE.out;cases bo)|(go_at_call_of 27 a;refine(Hpa _ hpa _).mono ?_;rintro e w1 ⟨rfl,rfl⟩)|(go_at_call_of 27 b;refine(Hpb _ hpb _).mono ?_;rintro e w1 ⟨rfl,rfl⟩)|(go_at_call 28;refine(values28 vls A7 c7 20 _ (H7.out.ext HE.out (isVal.ext HE.out)) s7).mono ?_;rintro e w1 ⟨bo,rfl,hbo,hbx⟩;have HE2:=HE;replace HE:=zh (HE2.out.trans hbx);clear HE2;have HV:=zh hbo;clear hbo hbx;clear hx0 hx1 hx2 hx3 hx4 hx5 hx6 hx7 hx8 hx9 hx10 hx11;obtain⟨hx0,hx1,hx2,hx3,hx4,hx5,hx6,hx7,hx8,hx9,hx10,hx11⟩:=box12 HE.out;cases bo)|(go_at_call 29;refine(columns29 fs A11 c11 _ (H11.out.ext HE.out (fun _ _ h=>h)) s11 S11.out).mono ?_;rintro e w1 ⟨bo,rfl,hbo,hbx⟩;have HE2:=HE;replace HE:=zh (HE2.out.trans hbx);clear HE2;have HC:=zh hbo;clear hbo hbx;clear hx0 hx1 hx2 hx3 hx4 hx5 hx6 hx7 hx8 hx9 hx10 hx11;obtain⟨hx0,hx1,hx2,hx3,hx4,hx5,hx6,hx7,hx8,hx9,hx10,hx11⟩:=box12 HE.out;cases bo)|(go_at_call_of 30 A4;refine(formats30 lf A4 c4 _ (H4.out.ext HE.out) s4).mono ?_;rintro e w1 ⟨bo,rfl,hbo,hbx⟩;have HE2:=HE;replace HE:=zh (HE2.out.trans hbx);clear HE2;have HF:=zh hbo;clear hbo hbx;clear hx0 hx1 hx2 hx3 hx4 hx5 hx6 hx7 hx8 hx9 hx10 hx11;obtain⟨hx0,hx1,hx2,hx3,hx4,hx5,hx6,hx7,hx8,hx9,hx10,hx11⟩:=box12 HE.out;cases bo)|(go_at_call_of 30 A5;refine(formats30 lr A5 c5 _ (H5.out.ext HE.out) s5).mono ?_;rintro e w1 ⟨bo,rfl,hbo,hbx⟩;have HE2:=HE;replace HE:=zh (HE2.out.trans hbx);clear HE2;have HR:=zh hbo;clear hbo hbx;clear hx0 hx1 hx2 hx3 hx4 hx5 hx6 hx7 hx8 hx9 hx10 hx11;obtain⟨hx0,hx1,hx2,hx3,hx4,hx5,hx6,hx7,hx8,hx9,hx10,hx11⟩:=box12 HE.out;cases bo)|(go_at_call 31;refine(pairsM ps A10 c10 _ (H10.out.ext HE.out (fun _ _ h=>h)) s10 S10.out).mono ?_;rintro e w1 ⟨bo,rfl,hbo,hbx⟩;have HE2:=HE;replace HE:=zh (HE2.out.trans hbx);clear HE2;have HP:=zh hbo;clear hbo hbx;clear hx0 hx1 hx2 hx3 hx4 hx5 hx6 hx7 hx8 hx9 hx10 hx11;obtain⟨hx0,hx1,hx2,hx3,hx4,hx5,hx6,hx7,hx8,hx9,hx10,hx11⟩:=box12 HE.out;cases bo)|(go_at_call 32;refine(fields32 ps A10 c10 _ (H10.out.ext HE.out (fun _ _ h=>h)) s10 S10.out).mono ?_;rintro e w1 ⟨bo,rfl,hbo,hbx⟩;have HE2:=HE;replace HE:=zh (HE2.out.trans hbx);clear HE2;have HP:=zh hbo;clear hbo hbx;clear hx0 hx1 hx2 hx3 hx4 hx5 hx6 hx7 hx8 hx9 hx10 hx11;obtain⟨hx0,hx1,hx2,hx3,hx4,hx5,hx6,hx7,hx8,hx9,hx10,hx11⟩:=box12 HE.out;cases bo))
  all_goals(go_ret;refine⟨_,rfl,?_,(ext_alloc w _).trans HE.out⟩;intro h;cases h;done)
 cases hpb:plainQ b
 ·go_enter Tryz.func11,Tryz.ntmps11
  go_wp2_with (first|(go_at_call 26;refine(known26 35 _).mono ?_;rintro e w1 ⟨bo,rfl,hbo,hbx⟩;have HE2:=HE;replace HE:=zh (HE2.out.trans hbx);clear HE2;have HK:=zh hbo;clear hbo hbx;clear hx0 hx1 hx2 hx3 hx4 hx5 hx6 hx7 hx8 hx9 hx10 hx11;obtain⟨hx0,hx1,hx2,hx3,hx4,hx5,hx6,hx7,hx8,hx9,hx10,hx11⟩:=box12 HE.out;cases bo)|(go_at_call_of 27 a;refine(Hpa _ hpa _).mono ?_;rintro e w1 ⟨rfl,rfl⟩)|(go_at_call_of 27 b;refine(Hpb _ hpb _).mono ?_;rintro e w1 ⟨rfl,rfl⟩)|(go_at_call 28;refine(values28 vls A7 c7 20 _ (H7.out.ext HE.out (isVal.ext HE.out)) s7).mono ?_;rintro e w1 ⟨bo,rfl,hbo,hbx⟩;have HE2:=HE;replace HE:=zh (HE2.out.trans hbx);clear HE2;have HV:=zh hbo;clear hbo hbx;clear hx0 hx1 hx2 hx3 hx4 hx5 hx6 hx7 hx8 hx9 hx10 hx11;obtain⟨hx0,hx1,hx2,hx3,hx4,hx5,hx6,hx7,hx8,hx9,hx10,hx11⟩:=box12 HE.out;cases bo)|(go_at_call 29;refine(columns29 fs A11 c11 _ (H11.out.ext HE.out (fun _ _ h=>h)) s11 S11.out).mono ?_;rintro e w1 ⟨bo,rfl,hbo,hbx⟩;have HE2:=HE;replace HE:=zh (HE2.out.trans hbx);clear HE2;have HC:=zh hbo;clear hbo hbx;clear hx0 hx1 hx2 hx3 hx4 hx5 hx6 hx7 hx8 hx9 hx10 hx11;obtain⟨hx0,hx1,hx2,hx3,hx4,hx5,hx6,hx7,hx8,hx9,hx10,hx11⟩:=box12 HE.out;cases bo)|(go_at_call_of 30 A4;refine(formats30 lf A4 c4 _ (H4.out.ext HE.out) s4).mono ?_;rintro e w1 ⟨bo,rfl,hbo,hbx⟩;have HE2:=HE;replace HE:=zh (HE2.out.trans hbx);clear HE2;have HF:=zh hbo;clear hbo hbx;clear hx0 hx1 hx2 hx3 hx4 hx5 hx6 hx7 hx8 hx9 hx10 hx11;obtain⟨hx0,hx1,hx2,hx3,hx4,hx5,hx6,hx7,hx8,hx9,hx10,hx11⟩:=box12 HE.out;cases bo)|(go_at_call_of 30 A5;refine(formats30 lr A5 c5 _ (H5.out.ext HE.out) s5).mono ?_;rintro e w1 ⟨bo,rfl,hbo,hbx⟩;have HE2:=HE;replace HE:=zh (HE2.out.trans hbx);clear HE2;have HR:=zh hbo;clear hbo hbx;clear hx0 hx1 hx2 hx3 hx4 hx5 hx6 hx7 hx8 hx9 hx10 hx11;obtain⟨hx0,hx1,hx2,hx3,hx4,hx5,hx6,hx7,hx8,hx9,hx10,hx11⟩:=box12 HE.out;cases bo)|(go_at_call 31;refine(pairsM ps A10 c10 _ (H10.out.ext HE.out (fun _ _ h=>h)) s10 S10.out).mono ?_;rintro e w1 ⟨bo,rfl,hbo,hbx⟩;have HE2:=HE;replace HE:=zh (HE2.out.trans hbx);clear HE2;have HP:=zh hbo;clear hbo hbx;clear hx0 hx1 hx2 hx3 hx4 hx5 hx6 hx7 hx8 hx9 hx10 hx11;obtain⟨hx0,hx1,hx2,hx3,hx4,hx5,hx6,hx7,hx8,hx9,hx10,hx11⟩:=box12 HE.out;cases bo)|(go_at_call 32;refine(fields32 ps A10 c10 _ (H10.out.ext HE.out (fun _ _ h=>h)) s10 S10.out).mono ?_;rintro e w1 ⟨bo,rfl,hbo,hbx⟩;have HE2:=HE;replace HE:=zh (HE2.out.trans hbx);clear HE2;have HP:=zh hbo;clear hbo hbx;clear hx0 hx1 hx2 hx3 hx4 hx5 hx6 hx7 hx8 hx9 hx10 hx11;obtain⟨hx0,hx1,hx2,hx3,hx4,hx5,hx6,hx7,hx8,hx9,hx10,hx11⟩:=box12 HE.out;cases bo))
  all_goals(go_ret;refine⟨_,rfl,?_,(ext_alloc w _).trans HE.out⟩;intro h;cases h;done)
 go_enter Tryz.func11,Tryz.ntmps11
 go_wp2_with (first|(go_at_call 26;refine(known26 35 _).mono ?_;rintro e w1 ⟨bo,rfl,hbo,hbx⟩;have HE2:=HE;replace HE:=zh (HE2.out.trans hbx);clear HE2;have HK:=zh hbo;clear hbo hbx;clear hx0 hx1 hx2 hx3 hx4 hx5 hx6 hx7 hx8 hx9 hx10 hx11;obtain⟨hx0,hx1,hx2,hx3,hx4,hx5,hx6,hx7,hx8,hx9,hx10,hx11⟩:=box12 HE.out;cases bo)|(go_at_call_of 27 a;refine(Hpa _ hpa _).mono ?_;rintro e w1 ⟨rfl,rfl⟩)|(go_at_call_of 27 b;refine(Hpb _ hpb _).mono ?_;rintro e w1 ⟨rfl,rfl⟩)|(go_at_call 28;refine(values28 vls A7 c7 20 _ (H7.out.ext HE.out (isVal.ext HE.out)) s7).mono ?_;rintro e w1 ⟨bo,rfl,hbo,hbx⟩;have HE2:=HE;replace HE:=zh (HE2.out.trans hbx);clear HE2;have HV:=zh hbo;clear hbo hbx;clear hx0 hx1 hx2 hx3 hx4 hx5 hx6 hx7 hx8 hx9 hx10 hx11;obtain⟨hx0,hx1,hx2,hx3,hx4,hx5,hx6,hx7,hx8,hx9,hx10,hx11⟩:=box12 HE.out;cases bo)|(go_at_call 29;refine(columns29 fs A11 c11 _ (H11.out.ext HE.out (fun _ _ h=>h)) s11 S11.out).mono ?_;rintro e w1 ⟨bo,rfl,hbo,hbx⟩;have HE2:=HE;replace HE:=zh (HE2.out.trans hbx);clear HE2;have HC:=zh hbo;clear hbo hbx;clear hx0 hx1 hx2 hx3 hx4 hx5 hx6 hx7 hx8 hx9 hx10 hx11;obtain⟨hx0,hx1,hx2,hx3,hx4,hx5,hx6,hx7,hx8,hx9,hx10,hx11⟩:=box12 HE.out;cases bo)|(go_at_call_of 30 A4;refine(formats30 lf A4 c4 _ (H4.out.ext HE.out) s4).mono ?_;rintro e w1 ⟨bo,rfl,hbo,hbx⟩;have HE2:=HE;replace HE:=zh (HE2.out.trans hbx);clear HE2;have HF:=zh hbo;clear hbo hbx;clear hx0 hx1 hx2 hx3 hx4 hx5 hx6 hx7 hx8 hx9 hx10 hx11;obtain⟨hx0,hx1,hx2,hx3,hx4,hx5,hx6,hx7,hx8,hx9,hx10,hx11⟩:=box12 HE.out;cases bo)|(go_at_call_of 30 A5;refine(formats30 lr A5 c5 _ (H5.out.ext HE.out) s5).mono ?_;rintro e w1 ⟨bo,rfl,hbo,hbx⟩;have HE2:=HE;replace HE:=zh (HE2.out.trans hbx);clear HE2;have HR:=zh hbo;clear hbo hbx;clear hx0 hx1 hx2 hx3 hx4 hx5 hx6 hx7 hx8 hx9 hx10 hx11;obtain⟨hx0,hx1,hx2,hx3,hx4,hx5,hx6,hx7,hx8,hx9,hx10,hx11⟩:=box12 HE.out;cases bo)|(go_at_call 31;refine(pairsM ps A10 c10 _ (H10.out.ext HE.out (fun _ _ h=>h)) s10 S10.out).mono ?_;rintro e w1 ⟨bo,rfl,hbo,hbx⟩;have HE2:=HE;replace HE:=zh (HE2.out.trans hbx);clear HE2;have HP:=zh hbo;clear hbo hbx;clear hx0 hx1 hx2 hx3 hx4 hx5 hx6 hx7 hx8 hx9 hx10 hx11;obtain⟨hx0,hx1,hx2,hx3,hx4,hx5,hx6,hx7,hx8,hx9,hx10,hx11⟩:=box12 HE.out;cases bo)|(go_at_call 32;refine(fields32 ps A10 c10 _ (H10.out.ext HE.out (fun _ _ h=>h)) s10 S10.out).mono ?_;rintro e w1 ⟨bo,rfl,hbo,hbx⟩;have HE2:=HE;replace HE:=zh (HE2.out.trans hbx);clear HE2;have HP:=zh hbo;clear hbo hbx;clear hx0 hx1 hx2 hx3 hx4 hx5 hx6 hx7 hx8 hx9 hx10 hx11;obtain⟨hx0,hx1,hx2,hx3,hx4,hx5,hx6,hx7,hx8,hx9,hx10,hx11⟩:=box12 HE.out;cases bo))
 all_goals first
  | (go_ret;refine⟨_,rfl,?_,(ext_alloc w _).trans HE.out⟩;intro h;cases h;done)
  | skip
 go_loopw [120] (fun i wr=>∃k:Nat,k<=ws.length/\i=.int .i64 k/\Hid (Ext (w.alloc (.cells #[.int .i64 35,.string a,.string b,.int .u32 n,.slice A4 lf.length c4,.slice A5 lr.length c5,.slice A6 ty.length c6,.slice A7 vls.length c7,.slice A8 d.length c8,.slice A9 ws.length c9,.slice A10 ps.length c10,.slice A11 fs.length c11] 37)) wr)/\Hid (∀y∈ws.take k,plainP y/\y.size≠0)) (fun i _=>ws.length - (intOf i).toNat)
 case atStart=>exact⟨0,Nat.zero_le _,rfl,HE,zh (by simp)⟩
 case round=>
  obtain⟨k,hk1,rfl,HE2,HY⟩:=hrel
  clear hx0 hx1 hx2 hx3 hx4 hx5 hx6 hx7 hx8 hx9 hx10 hx11
  obtain⟨hx0,hx1,hx2,hx3,hx4,hx5,hx6,hx7,hx8,hx9,hx10,hx11⟩:=box12 HE2.out
  by_cases hlt:k < ws.length
  ·obtain⟨b1,o1,u,rfl,hcell,hu⟩:=H9.out.at_ hlt
   replace hcell:=HE2.out.cell hcell
   have hsz:=S9.out _ (List.getElem_mem hlt)
   obtain⟨x,hx⟩:∃x,x=ws[k]:=⟨_,rfl⟩
   rw [<-hx]at hu hsz
   rw [show u=.string x from hu]at hcell
   have HX:=zh hx
   clear hx hu
   have Hpx:∀(q:Bool),plainQ x=q->∀w,Calls Tryz.prog 27 #[.string x] w (fun e w'=>e=.returned (.bool q)/\w'=w):=fun q hq w=>by rw [<-hq];exact plain27 x hsz w
   cases hpx:plainQ x
   ·go_wp2_with (go_at_call 27;refine(Hpx _ hpx _).mono ?_;rintro e w1 ⟨rfl,rfl⟩)
    go_ret
    exact⟨_,rfl,fun h=>by(cases h;done),(ext_alloc w _).trans HE2.out⟩
   ·cases e3:x.toList.isEmpty
    ·go_wp2_with (go_at_call 27;refine(Hpx _ hpx _).mono ?_;rintro e w1 ⟨rfl,rfl⟩)
     go_roundw
     case rel=>
      refine⟨k+1,by omega,by go_num,HE2,zh (all_take ws k hlt HY.out ?_)⟩
      rw [<-HX.out]
      exact⟨plainQ_of hpx,size_ne e3⟩
     case measure=>simp only [intOf];omega
    ·go_wp2_with (go_at_call 27;refine(Hpx _ hpx _).mono ?_;rintro e w1 ⟨rfl,rfl⟩)
     go_ret
     exact⟨_,rfl,fun h=>by(cases h;done),(ext_alloc w _).trans HE2.out⟩
  ·obtain rfl:k=ws.length:=by omega
   have HY2:Hid (∀y∈ws,plainP y/\y.size≠0):=zh (by have:=HY.out;rwa [List.take_length]at this)
   go_wp2
   all_goals go_ret
   all_goals refine⟨_,rfl,?_,(ext_alloc w _).trans HE2.out⟩
   all_goals intro hres
   all_goals first
    | (cases hres;done)
    | (go_light
       try simp only [beq_iff_eq,beq_eq_false_iff_ne,ne_eq,Bool.or_eq_true,Bool.and_eq_true,decide_eq_true_eq]at *
       refine⟨HK.out trivial,plainQ_of hpa,plainQ_of hpb,by omega,by omega,⟨by have:=(HV.out trivial).1;omega,(HV.out trivial).2⟩,HC.out trivial,?_,?_,?_,?_,?_,?_,?_,?_,?_,?_⟩
       all_goals intro hk
       all_goals first
        | (exfalso;omega)
        | exact⟨by omega,by omega,HY2.out⟩)
theorem proper11 (a b:ByteArray)(kd n:Int)(A4 A5 A6 A7 A8 A9 A10 A11:Option Addr)(c4 c5 c6 c7 c8 c9 c10 c11:Nat)(lf lr ty d:List Int)(vls:List (Bool×List Int))(ws:List ByteArray)(ps:List (ByteArray×ByteArray))(fs:List Sf)(w:World)
 (h4:RdI .i64 w (.slice A4 lf.length c4) lf) (h5:RdI .i64 w (.slice A5 lr.length c5) lr) (h7:RdM 2 isVal w (.slice A7 vls.length c7) vls) (h9:Rd1 isStr w (.slice A9 ws.length c9) ws) (h10:RdM 2 isPr w (.slice A10 ps.length c10) ps) (h11:RdM 7 isSf w (.slice A11 fs.length c11) fs)
 (sa:a.size<=2147483647) (sb:b.size<=2147483647) (s4:lf.length<=2147483647) (s5:lr.length<=2147483647) (s6:ty.length<=2147483647) (s7:vls.length<=2147483647) (s8:d.length<=2147483647) (s9:ws.length<=2147483647) (s9':∀y∈ws,y.size<=2147483647) (s10:ps.length<=2147483647) (s10':∀y∈ps,y.1.size<=2147483647/\y.2.size<=2147483647) (s11:fs.length<=2147483647) (s11':∀y∈fs,y.name.size<=2147483647):
 Calls Tryz.prog 11 #[.agg #[.int .i64 kd,.string a,.string b,.int .u32 n,.slice A4 lf.length c4,.slice A5 lr.length c5,.slice A6 ty.length c6,.slice A7 vls.length c7,.slice A8 d.length c8,.slice A9 ws.length c9,.slice A10 ps.length c10,.slice A11 fs.length c11]] w (Said w (properP kd a b n lf lr ty vls d ws ps fs)):=by
 by_cases h:kd=35
 ·subst h
  exact proper11b a b n A4 A5 A6 A7 A8 A9 A10 A11 c4 c5 c6 c7 c8 c9 c10 c11 lf lr ty d vls ws ps fs w h4 h5 h7 h9 h10 h11 sa sb s4 s5 s6 s7 s8 s9 s9' s10 s10' s11 s11'
 ·exact proper11a a b kd n A4 A5 A6 A7 A8 A9 A10 A11 c4 c5 c6 c7 c8 c9 c10 c11 lf lr ty d vls ws ps fs w h h4 h5 h7 h9 h10 h11 sa sb s4 s5 s6 s7 s8 s9 s9' s10 s10' s11 s11'
end Go.Proofs.YtdenjanihikolaaGreatDoor
