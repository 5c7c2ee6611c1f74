/- bytes.IndexByte at the byte 0, by contract. -/
import Derived.Test.YtdenjanihikolaaGreatDoorRqA0
import Derived.Test.YtdenjanihikolaaGreatDoorRqA1
import Derived.Test.YtdenjanihikolaaGreatDoorRqSms
import Derived.Test.YtdenjanihikolaaGreatDoorRqWrd
import Derived.Deep.Light
import Derived.Test.YtdenjanihikolaaGreatDoorRqTda
import Derived.Lib.BytesEntry
import Derived.WalkKit
namespace Go.Proofs.YtdenjanihikolaaGreatDoor
set_option linter.unusedVariables false
set_option linter.unusedSimpArgs false
set_option maxRecDepth 100000
set_option maxHeartbeats 4000000
open Go.RowKit
def letP (x:ByteArray):Prop:=∃j,j < 18/\x.toList=((⟨#[83,86,67,77,68,72,80,112,113,87,115,116,99,100,110,70,76,82]⟩:ByteArray).extract j (j+1)).toList
def fldP (y:ByteArray×ByteArray):Prop:=letP y.1/\(y.1.toList=[80]∨y.1.toList=[112]∨y.1.toList=[76]->digP y.2)
theorem fields32 (l:List (ByteArray×ByteArray))(A_l:Option Addr)(c_l:Nat)(w:World)(hr:RdM 2 isPr w (.slice A_l l.length c_l) l)(hl:l.length<=2147483647)(hs:∀y∈l,y.1.size<=2147483647/\y.2.size<=2147483647):Calls Tryz.prog 32 #[.slice A_l l.length c_l] w (Said w ((∀y∈l,fldP y)/\pairsP true false l)):=by
 have HR:=zh hr
 clear hr
 go_enter Tryz.func32,Tryz.ntmps32
 go_wp2
 go_loopw [9] (fun i wr=>∃k:Nat,k<=l.length/\i=.int .i64 k/\Hid (Ext w wr)/\Hid (∀y∈l.take k,fldP y)) (fun i _=>l.length - (intOf i).toNat)
 case atStart=>exact⟨0,Nat.zero_le _,rfl,zh zr,zh (by simp)⟩
 case round=>
  obtain⟨k,hk1,rfl,HE,HY⟩:=hrel
  by_cases hlt:k < l.length
  ·obtain⟨b1,o1,f,rfl,hcell,hv⟩:=HR.out.at_ hlt
   have hsz:=hs _ (List.getElem_mem hlt)
   obtain⟨⟨x1,x2⟩,hx⟩:∃x,x=l[k]:=⟨_,rfl⟩
   rw [<-hx]at hv hsz
   have hf0:f 0=.string x1:=hv.1
   have hf1:f 1=.string x2:=hv.2
   replace hsz:x1.size<=2147483647/\x2.size<=2147483647:=hsz
   have hd0:=HE.out.cell (hcell 0 (by omega))
   rw [hf0,Nat.add_zero]at hd0
   have hd1:=HE.out.cell (hcell 1 (by omega))
   rw [hf1]at hd1
   have HX:=zh hx
   clear hx hcell hf0 hf1 hv
   go_wp2
   go_loopw [5,13] (fun b i wi=>∃q:Bool,∃j:Nat,j<=18/\b=.bool q/\i=.int .i64 j/\Hid (Ext (wr.alloc (.cells #[.string x1,.string x2] 48)) wi)/\Hid (q=true->letP x1)) (fun _ i _=>18 - (intOf i).toNat)
   case atStart=>exact⟨false,0,by omega,rfl,rfl,zh zr,zh (fun h=>by cases h)⟩
   case round=>
    obtain⟨q,j,hj,rfl,rfl,HI,HQ⟩:=hrel
    have hc0:=box_at HI.out 0 (.string x1) rfl
    have hc1:=box_at HI.out 1 (.string x2) rfl
    by_cases hj18:j < 18
    ·cases q
     ·go_wp2
      go_quiet (fail)
      go_wp2
      go_roundw
      case rel=>exact⟨_,j+1,by omega,rfl,by go_num,zh (HI.out.drewN nq),zh (fun h=>⟨j,hj18,by simpa using h⟩)⟩
      case measure=>simp only [intOf];omega
     ·go_wp2
      go_quiet (fail)
      go_wp2
      go_roundw
      case rel=>exact⟨true,j+1,by omega,rfl,by go_num,zh (HI.out.drewN nq),zh (fun _=>HQ.out (by first|trivial|rfl))⟩
      case measure=>simp only [intOf];omega
    ·obtain rfl:j=18:=by omega
     replace HE:=zh ((HE.out.alloc (.cells #[.string x1,.string x2] 48)).trans HI.out)
     cases q
     ·go_wp2
      go_ret
      exact⟨_,rfl,fun h=>by(cases h;done),HE.out⟩
     ·have HQ2:=zh (HQ.out (by first|trivial|rfl))
      by_cases hP:x1.toList=[80]∨x1.toList=[112]∨x1.toList=[76]
      ·have HP:=zh hP
       clear hP
       go_wp2_with (go_at_call 53;refine(digits53 x2 hsz.2 _).mono ?_;rintro e w1 ⟨bo,rfl,hbo,hbx⟩;have HE2:=HE;replace HE:=zh (HE2.out.trans hbx);have HBO:=zh hbo;clear hbo hbx;cases bo)
       all_goals first
        | (go_ret;exact⟨_,rfl,fun h=>by(cases h;done),HE.out⟩)
        | (go_roundw
           case rel=>
            refine⟨k+1,by omega,by go_num,HE,zh (all_take l k hlt HY.out ?_)⟩
            rw [<-HX.out]
            first|exact⟨HQ2.out,fun _=>HBO.out (by first|trivial|rfl)⟩|(exfalso;have:=HP.out;simp_all;done)
           case measure=>simp only [intOf];omega)
      ·have h1:(x1.toList == [80])=false:=beq_eq_false_iff_ne.2 fun h=>hP (.inl h)
       have h2:(x1.toList == [112])=false:=beq_eq_false_iff_ne.2 fun h=>hP (.inr (.inl h))
       have h3:(x1.toList == [76])=false:=beq_eq_false_iff_ne.2 fun h=>hP (.inr (.inr h))
       have HP:=zh hP
       clear hP
       go_wp2
       go_roundw
       case rel=>
        refine⟨k+1,by omega,by go_num,HE,zh (all_take l k hlt HY.out ?_)⟩
        rw [<-HX.out]
        exact⟨HQ2.out,fun h=>absurd h HP.out⟩
       case measure=>simp only [intOf];omega
  ·obtain rfl:k=l.length:=by omega
   go_wp2_with (go_at_call 31;refine(pairsS l _ _ _ (RdM.ext HR.out HE.out (fun _ _ h=>h)) hl hs).mono ?_;rintro e w1 ⟨bo,rfl,hbo,hbx⟩;have HBO:=zh hbo;have HE2:=HE;replace HE:=zh (HE2.out.trans hbx);clear hbo hbx)
   go_ret
   exact⟨_,rfl,fun h=>⟨by have:=HY.out;rwa [List.take_length]at this,HBO.out h⟩,HE.out⟩
theorem box12 {w w':World} {t:TypeId} {c0 c1 c2 c3 c4 c5 c6 c7 c8 c9 c10 c11:Value} (h:Ext (w.alloc (.cells #[c0,c1,c2,c3,c4,c5,c6,c7,c8,c9,c10,c11] t)) w'):w'.cell? ⟨w.heap.size,0,none⟩=some c0/\w'.cell? ⟨w.heap.size,1,none⟩=some c1/\w'.cell? ⟨w.heap.size,2,none⟩=some c2/\w'.cell? ⟨w.heap.size,3,none⟩=some c3/\w'.cell? ⟨w.heap.size,4,none⟩=some c4/\w'.cell? ⟨w.heap.size,5,none⟩=some c5/\w'.cell? ⟨w.heap.size,6,none⟩=some c6/\w'.cell? ⟨w.heap.size,7,none⟩=some c7/\w'.cell? ⟨w.heap.size,8,none⟩=some c8/\w'.cell? ⟨w.heap.size,9,none⟩=some c9/\w'.cell? ⟨w.heap.size,10,none⟩=some c10/\w'.cell? ⟨w.heap.size,11,none⟩=some c11:=
 ⟨box_at h 0 _ rfl,box_at h 1 _ rfl,box_at h 2 _ rfl,box_at h 3 _ rfl,box_at h 4 _ rfl,box_at h 5 _ rfl,box_at h 6 _ rfl,box_at h 7 _ rfl,box_at h 8 _ rfl,box_at h 9 _ rfl,box_at h 10 _ rfl,box_at h 11 _ rfl⟩
theorem box13 {w w':World} {t:TypeId} {c0 c1 c2 c3 c4 c5 c6 c7 c8 c9 c10 c11 c12:Value} (h:Ext (w.alloc (.cells #[c0,c1,c2,c3,c4,c5,c6,c7,c8,c9,c10,c11,c12] t)) w'):w'.cell? ⟨w.heap.size,0,none⟩=some c0/\w'.cell? ⟨w.heap.size,1,none⟩=some c1/\w'.cell? ⟨w.heap.size,2,none⟩=some c2/\w'.cell? ⟨w.heap.size,3,none⟩=some c3/\w'.cell? ⟨w.heap.size,4,none⟩=some c4/\w'.cell? ⟨w.heap.size,5,none⟩=some c5/\w'.cell? ⟨w.heap.size,6,none⟩=some c6/\w'.cell? ⟨w.heap.size,7,none⟩=some c7/\w'.cell? ⟨w.heap.size,8,none⟩=some c8/\w'.cell? ⟨w.heap.size,9,none⟩=some c9/\w'.cell? ⟨w.heap.size,10,none⟩=some c10/\w'.cell? ⟨w.heap.size,11,none⟩=some c11/\w'.cell? ⟨w.heap.size,12,none⟩=some c12:=
 ⟨box_at h 0 _ rfl,box_at h 1 _ rfl,box_at h 2 _ rfl,box_at h 3 _ rfl,box_at h 4 _ rfl,box_at h 5 _ rfl,box_at h 6 _ rfl,box_at h 7 _ rfl,box_at h 8 _ rfl,box_at h 9 _ rfl,box_at h 10 _ rfl,box_at h 11 _ rfl,box_at h 12 _ rfl⟩
theorem slots12 {w:World} {b:Nat} {t:TypeId} {c0 c1 c2 c3 c4 c5 c6 c7 c8 c9 c10 c11:Value} (h:w.heap[b]?=some (.cells #[c0,c1,c2,c3,c4,c5,c6,c7,c8,c9,c10,c11] t (0,0))):w.cell? ⟨b,0,none⟩=some c0/\w.cell? ⟨b,1,none⟩=some c1/\w.cell? ⟨b,2,none⟩=some c2/\w.cell? ⟨b,3,none⟩=some c3/\w.cell? ⟨b,4,none⟩=some c4/\w.cell? ⟨b,5,none⟩=some c5/\w.cell? ⟨b,6,none⟩=some c6/\w.cell? ⟨b,7,none⟩=some c7/\w.cell? ⟨b,8,none⟩=some c8/\w.cell? ⟨b,9,none⟩=some c9/\w.cell? ⟨b,10,none⟩=some c10/\w.cell? ⟨b,11,none⟩=some c11:=
 ⟨zc h 0 _ rfl,zc h 1 _ rfl,zc h 2 _ rfl,zc h 3 _ rfl,zc h 4 _ rfl,zc h 5 _ rfl,zc h 6 _ rfl,zc h 7 _ rfl,zc h 8 _ rfl,zc h 9 _ rfl,zc h 10 _ rfl,zc h 11 _ rfl⟩
def fmtP (l:List Int):Prop:=l.length<=20/\∀y∈l,y=0∨y=1
def colP (x:Sf):Prop:=plainP x.name/\0<=x.col/\x.col<=32767/\ -32768<=x.siz/\x.siz<=32767/\ -2147483648<=x.mdf/\x.mdf < 2147483648/\0<=x.fmt/\x.fmt<=1
structure properP (kd:Int) (a b:ByteArray) (n:Int) (lf lr ty:List Int) (vls:List (Bool×List Int)) (d:List Int) (ws:List ByteArray) (ps:List (ByteArray×ByteArray)) (fs:List Sf):Prop where
 known:knownK kd
 pa:plainP a
 pb:plainP b
 data:d.length<=500
 types:ty.length<=20
 vals:vls.length<=20/\∀y∈vls,y.2.length<=200/\(y.1=true->y.2.length=0)
 cols:fs.length<=20/\∀y∈fs,colP y
 k0:kd=0->fmtP lf/\fmtP lr
 k1:kd=1∨kd=38∨kd=32->d.length=4
 k2:kd=2∨kd=6->n=83∨n=80
 k9:kd=9->fmtP lf/\fmtP lr/\lr.length=1
 k18:kd=18->n=196608/\0 < ps.length/\pairsP false true ps
 k35:kd=35->1<=ws.length/\ws.length<=5/\∀y∈ws,plainP y/\y.size≠0
 k42:kd=42∨kd=43∨kd=44->n<=1/\fmtP lf
 k47:kd=47∨kd=48->(∀y∈ps,fldP y)/\pairsP true false ps
 k49:kd=49->vls.length=1
 k56:kd=56->n=73∨n=84∨n=69
theorem proper11a (a b:ByteArray)(kd n:Int)(A4 A5 A6 A7 A8 A9 A10 A11:Option Addr)(c4 c5 c6 c7 c8 c9 c10 c11:Nat)(lf lr ty d:List Int)(vls:List (Bool×List Int))(ws:List ByteArray)(ps:List (ByteArray×ByteArray))(fs:List Sf)(w:World)(hkd:kd≠35)
 (h4:RdI .i64 w (.slice A4 lf.length c4) lf) (h5:RdI .i64 w (.slice A5 lr.length c5) lr) (h7:RdM 2 isVal w (.slice A7 vls.length c7) vls) (h9:Rd1 isStr w (.slice A9 ws.length c9) ws) (h10:RdM 2 isPr w (.slice A10 ps.length c10) ps) (h11:RdM 7 isSf w (.slice A11 fs.length c11) fs)
 (sa:a.size<=2147483647) (sb:b.size<=2147483647) (s4:lf.length<=2147483647) (s5:lr.length<=2147483647) (s6:ty.length<=2147483647) (s7:vls.length<=2147483647) (s8:d.length<=2147483647) (s9:ws.length<=2147483647) (s9':∀y∈ws,y.size<=2147483647) (s10:ps.length<=2147483647) (s10':∀y∈ps,y.1.size<=2147483647/\y.2.size<=2147483647) (s11:fs.length<=2147483647) (s11':∀y∈fs,y.name.size<=2147483647):
 Calls Tryz.prog 11 #[.agg #[.int .i64 kd,.string a,.string b,.int .u32 n,.slice A4 lf.length c4,.slice A5 lr.length c5,.slice A6 ty.length c6,.slice A7 vls.length c7,.slice A8 d.length c8,.slice A9 ws.length c9,.slice A10 ps.length c10,.slice A11 fs.length c11]] w (Said w (properP kd a b n lf lr ty vls d ws ps fs)):=by
 have hxa:=ext_alloc w (.cells #[.int .i64 kd,.string a,.string b,.int .u32 n,.slice A4 lf.length c4,.slice A5 lr.length c5,.slice A6 ty.length c6,.slice A7 vls.length c7,.slice A8 d.length c8,.slice A9 ws.length c9,.slice A10 ps.length c10,.slice A11 fs.length c11] 37)
 have H4:=zh (h4.ext hxa)
 have H5:=zh (h5.ext hxa)
 have H7:=zh (h7.ext hxa (isVal.ext hxa))
 have H9:=zh (h9.ext hxa (fun _ _ h=>h))
 have H10:=zh (h10.ext hxa (fun _ _ h=>h))
 have H11:=zh (h11.ext hxa (fun _ _ h=>h))
 have S9:=zh s9'
 have S10:=zh s10'
 have S11:=zh s11'
 clear h4 h5 h7 h9 h10 h11 s9' s10' s11' hxa
 have HE:=zh (Ext.refl (w.alloc (.cells #[.int .i64 kd,.string a,.string b,.int .u32 n,.slice A4 lf.length c4,.slice A5 lr.length c5,.slice A6 ty.length c6,.slice A7 vls.length c7,.slice A8 d.length c8,.slice A9 ws.length c9,.slice A10 ps.length c10,.slice A11 fs.length c11] 37)))
 have hx0:True:=trivial
 have hx1:True:=trivial
 have hx2:True:=trivial
 have hx3:True:=trivial
 have hx4:True:=trivial
 have hx5:True:=trivial
 have hx6:True:=trivial
 have hx7:True:=trivial
 have hx8:True:=trivial
 have hx9:True:=trivial
 have hx10:True:=trivial
 have hx11:True:=trivial
 have Hpa:∀(q:Bool),plainQ a=q->∀w,Calls Tryz.prog 27 #[.string a] w (fun e w'=>e=.returned (.bool q)/\w'=w):=fun q hq w=>by rw [<-hq];exact plain27 a sa w
 have Hpb:∀(q:Bool),plainQ b=q->∀w,Calls Tryz.prog 27 #[.string b] w (fun e w'=>e=.returned (.bool q)/\w'=w):=fun q hq w=>by rw [<-hq];exact plain27 b sb w
 cases hpa:plainQ a <;> cases hpb:plainQ b
 all_goals
  go_enter Tryz.func11,Tryz.ntmps11
  go_wp2_with (first|(go_at_call 26;refine(known26 kd _).mono ?_;rintro e w1 ⟨bo,rfl,hbo,hbx⟩;have HE2:=HE;replace HE:=zh (HE2.out.trans hbx);clear HE2;have HK:=zh hbo;clear hbo hbx;clear hx0 hx1 hx2 hx3 hx4 hx5 hx6 hx7 hx8 hx9 hx10 hx11;obtain⟨hx0,hx1,hx2,hx3,hx4,hx5,hx6,hx7,hx8,hx9,hx10,hx11⟩:=box12 HE.out;cases bo)|(go_at_call_of 27 a;refine(Hpa _ hpa _).mono ?_;rintro e w1 ⟨rfl,rfl⟩)|(go_at_call_of 27 b;refine(Hpb _ hpb _).mono ?_;rintro e w1 ⟨rfl,rfl⟩)|(go_at_call 28;refine(values28 vls A7 c7 20 _ (H7.out.ext HE.out (isVal.ext HE.out)) s7).mono ?_;rintro e w1 ⟨bo,rfl,hbo,hbx⟩;have HE2:=HE;replace HE:=zh (HE2.out.trans hbx);clear HE2;have HV:=zh hbo;clear hbo hbx;clear hx0 hx1 hx2 hx3 hx4 hx5 hx6 hx7 hx8 hx9 hx10 hx11;obtain⟨hx0,hx1,hx2,hx3,hx4,hx5,hx6,hx7,hx8,hx9,hx10,hx11⟩:=box12 HE.out;cases bo)|(go_at_call 29;refine(columns29 fs A11 c11 _ (H11.out.ext HE.out (fun _ _ h=>h)) s11 S11.out).mono ?_;rintro e w1 ⟨bo,rfl,hbo,hbx⟩;have HE2:=HE;replace HE:=zh (HE2.out.trans hbx);clear HE2;have HC:=zh hbo;clear hbo hbx;clear hx0 hx1 hx2 hx3 hx4 hx5 hx6 hx7 hx8 hx9 hx10 hx11;obtain⟨hx0,hx1,hx2,hx3,hx4,hx5,hx6,hx7,hx8,hx9,hx10,hx11⟩:=box12 HE.out;cases bo)|(go_at_call_of 30 A4;refine(formats30 lf A4 c4 _ (H4.out.ext HE.out) s4).mono ?_;rintro e w1 ⟨bo,rfl,hbo,hbx⟩;have HE2:=HE;replace HE:=zh (HE2.out.trans hbx);clear HE2;have HF:=zh hbo;clear hbo hbx;clear hx0 hx1 hx2 hx3 hx4 hx5 hx6 hx7 hx8 hx9 hx10 hx11;obtain⟨hx0,hx1,hx2,hx3,hx4,hx5,hx6,hx7,hx8,hx9,hx10,hx11⟩:=box12 HE.out;cases bo)|(go_at_call_of 30 A5;refine(formats30 lr A5 c5 _ (H5.out.ext HE.out) s5).mono ?_;rintro e w1 ⟨bo,rfl,hbo,hbx⟩;have HE2:=HE;replace HE:=zh (HE2.out.trans hbx);clear HE2;have HR:=zh hbo;clear hbo hbx;clear hx0 hx1 hx2 hx3 hx4 hx5 hx6 hx7 hx8 hx9 hx10 hx11;obtain⟨hx0,hx1,hx2,hx3,hx4,hx5,hx6,hx7,hx8,hx9,hx10,hx11⟩:=box12 HE.out;cases bo)|(go_at_call 31;refine(pairsM ps A10 c10 _ (H10.out.ext HE.out (fun _ _ h=>h)) s10 S10.out).mono ?_;rintro e w1 ⟨bo,rfl,hbo,hbx⟩;have HE2:=HE;replace HE:=zh (HE2.out.trans hbx);clear HE2;have HP:=zh hbo;clear hbo hbx;clear hx0 hx1 hx2 hx3 hx4 hx5 hx6 hx7 hx8 hx9 hx10 hx11;obtain⟨hx0,hx1,hx2,hx3,hx4,hx5,hx6,hx7,hx8,hx9,hx10,hx11⟩:=box12 HE.out;cases bo)|(go_at_call 32;refine(fields32 ps A10 c10 _ (H10.out.ext HE.out (fun _ _ h=>h)) s10 S10.out).mono ?_;rintro e w1 ⟨bo,rfl,hbo,hbx⟩;have HE2:=HE;replace HE:=zh (HE2.out.trans hbx);clear HE2;have HP:=zh hbo;clear hbo hbx;clear hx0 hx1 hx2 hx3 hx4 hx5 hx6 hx7 hx8 hx9 hx10 hx11;obtain⟨hx0,hx1,hx2,hx3,hx4,hx5,hx6,hx7,hx8,hx9,hx10,hx11⟩:=box12 HE.out;cases bo))
 all_goals first
  | (go_ret;refine⟨_,rfl,?_,(ext_alloc w _).trans HE.out⟩;intro h;cases h;done)
  | (go_ret
     refine⟨_,rfl,?_,(ext_alloc w _).trans HE.out⟩
     intro hres
     go_light
     try simp only [beq_iff_eq,beq_eq_false_iff_ne,ne_eq,Bool.or_eq_true,Bool.and_eq_true,decide_eq_true_eq]at *
     refine⟨HK.out trivial,plainQ_of hpa,plainQ_of hpb,by omega,by omega,⟨by have:=(HV.out trivial).1;omega,(HV.out trivial).2⟩,HC.out trivial,?_,?_,?_,?_,?_,?_,?_,?_,?_,?_⟩
     all_goals intro hk
     all_goals first
      | (exfalso;omega)
      | exact⟨HF.out trivial,HR.out trivial⟩
      | exact HP.out trivial
      | exact⟨by omega,HF.out trivial⟩
      | exact⟨HF.out trivial,HR.out trivial,by omega⟩
      | exact⟨by omega,by omega,HP.out trivial⟩
      | (simp at hres;omega)
      | omega)
theorem proper11b (a b:ByteArray)(n:Int)(A4 A5 A6 A7 A8 A9 A10 A11:Option Addr)(c4 c5 c6 c7 c8 c9 c10 c11:Nat)(lf lr ty d:List Int)(vls:List (Bool×List Int))(ws:List ByteArray)(ps:List (ByteArray×ByteArray))(fs:List Sf)(w:World)
 (h4:RdI .i64 w (.slice A4 lf.length c4) lf) (h5:RdI .i64 w (.slice A5 lr.length c5) lr) (h7:RdM 2 isVal w (.slice A7 vls.length c7) vls) (h9:Rd1 isStr w (.slice A9 ws.length c9) ws) (h10:RdM 2 isPr w (.slice A10 ps.length c10) ps) (h11:RdM 7 isSf w (.slice A11 fs.length c11) fs)
 (sa:a.size<=2147483647) (sb:b.size<=2147483647) (s4:lf.length<=2147483647) (s5:lr.length<=2147483647) (s6:ty.length<=2147483647) (s7:vls.length<=2147483647) (s8:d.length<=2147483647) (s9:ws.length<=2147483647) (s9':∀y∈ws,y.size<=2147483647) (s10:ps.length<=2147483647) (s10':∀y∈ps,y.1.size<=2147483647/\y.2.size<=2147483647) (s11:fs.length<=2147483647) (s11':∀y∈fs,y.name.size<=2147483647):
 Calls Tryz.prog 11 #[.agg #[.int .i64 35,.string a,.string b,.int .u32 n,.slice A4 lf.length c4,.slice A5 lr.length c5,.slice A6 ty.length c6,.slice A7 vls.length c7,.slice A8 d.length c8,.slice A9 ws.length c9,.slice A10 ps.length c10,.slice A11 fs.length c11]] w (Said w (properP 35 a b n lf lr ty vls d ws ps fs)):=by
 have hxa:=ext_alloc w (.cells #[.int .i64 35,.string a,.string b,.int .u32 n,.slice A4 lf.length c4,.slice A5 lr.length c5,.slice A6 ty.length c6,.slice A7 vls.length c7,.slice A8 d.length c8,.slice A9 ws.length c9,.slice A10 ps.length c10,.slice A11 fs.length c11] 37)
 have H4:=zh (h4.ext hxa)
 have H5:=zh (h5.ext hxa)
 have H7:=zh (h7.ext hxa (isVal.ext hxa))
 have H9:=zh (h9.ext hxa (fun _ _ h=>h))
 have H10:=zh (h10.ext hxa (fun _ _ h=>h))
 have H11:=zh (h11.ext hxa (fun _ _ h=>h))
 have S9:=zh s9'
 have S10:=zh s10'
 have S11:=zh s11'
 clear h4 h5 h7 h9 h10 h11 s9' s10' s11' hxa
 have HE:=zh (Ext.refl (w.alloc (.cells #[.int .i64 35,.string a,.string b,.int .u32 n,.slice A4 lf.length c4,.slice A5 lr.length c5,.slice A6 ty.length c6,.slice A7 vls.length c7,.slice A8 d.length c8,.slice A9 ws.length c9,.slice A10 ps.length c10,.slice A11 fs.length c11] 37)))
 have hx0:True:=trivial
 have hx1:True:=trivial
 have hx2:True:=trivial
 have hx3:True:=trivial
 have hx4:True:=trivial
 have hx5:True:=trivial
 have hx6:True:=trivial
 have hx7:True:=trivial
 have hx8:True:=trivial
 have hx9:True:=trivial
 have hx10:True:=trivial
 have hx11:True:=trivial
 have Hpa:∀(q:Bool),plainQ a=q->∀w,Calls Tryz.prog 27 #[.string a] w (fun e w'=>e=.returned (.bool q)/\w'=w):=fun q hq w=>by rw [<-hq];exact plain27 a sa w
 have Hpb:∀(q:Bool),plainQ b=q->∀w,Calls Tryz.prog 27 #[.string b] w (fun e w'=>e=.returned (.bool q)/\w'=w):=fun q hq w=>by rw [<-hq];exact plain27 b sb w
 cases hpa:plainQ a <;> cases hpb:plainQ b
 all_goals
  go_enter Tryz.func11,Tryz.ntmps11
  go_wp2_with (first|(go_at_call 26;refine(known26 35 _).mono ?_;rintro e w1 ⟨bo,rfl,hbo,hbx⟩;have HE2:=HE;replace HE:=zh (HE2.out.trans hbx);clear HE2;have HK:=zh hbo;clear hbo hbx;clear hx0 hx1 hx2 hx3 hx4 hx5 hx6 hx7 hx8 hx9 hx10 hx11;obtain⟨hx0,hx1,hx2,hx3,hx4,hx5,hx6,hx7,hx8,hx9,hx10,hx11⟩:=box12 HE.out;cases bo)|(go_at_call_of 27 a;refine(Hpa _ hpa _).mono ?_;rintro e w1 ⟨rfl,rfl⟩)|(go_at_call_of 27 b;refine(Hpb _ hpb _).mono ?_;rintro e w1 ⟨rfl,rfl⟩)|(go_at_call 28;refine(values28 vls A7 c7 20 _ (H7.out.ext HE.out (isVal.ext HE.out)) s7).mono ?_;rintro e w1 ⟨bo,rfl,hbo,hbx⟩;have HE2:=HE;replace HE:=zh (HE2.out.trans hbx);clear HE2;have HV:=zh hbo;clear hbo hbx;clear hx0 hx1 hx2 hx3 hx4 hx5 hx6 hx7 hx8 hx9 hx10 hx11;obtain⟨hx0,hx1,hx2,hx3,hx4,hx5,hx6,hx7,hx8,hx9,hx10,hx11⟩:=box12 HE.out;cases bo)|(go_at_call 29;refine(columns29 fs A11 c11 _ (H11.out.ext HE.out (fun _ _ h=>h)) s11 S11.out).mono ?_;rintro e w1 ⟨bo,rfl,hbo,hbx⟩;have HE2:=HE;replace HE:=zh (HE2.out.trans hbx);clear HE2;have HC:=zh hbo;clear hbo hbx;clear hx0 hx1 hx2 hx3 hx4 hx5 hx6 hx7 hx8 hx9 hx10 hx11;obtain⟨hx0,hx1,hx2,hx3,hx4,hx5,hx6,hx7,hx8,hx9,hx10,hx11⟩:=box12 HE.out;cases bo)|(go_at_call_of 30 A4;refine(formats30 lf A4 c4 _ (H4.out.ext HE.out) s4).mono ?_;rintro e w1 ⟨bo,rfl,hbo,hbx⟩;have HE2:=HE;replace HE:=zh (HE2.out.trans hbx);clear HE2;have HF:=zh hbo;clear hbo hbx;clear hx0 hx1 hx2 hx3 hx4 hx5 hx6 hx7 hx8 hx9 hx10 hx11;obtain⟨hx0,hx1,hx2,hx3,hx4,hx5,hx6,hx7,hx8,hx9,hx10,hx11⟩:=box12 HE.out;cases bo)|(go_at_call_of 30 A5;refine(formats30 lr A5 c5 _ (H5.out.ext HE.out) s5).mono ?_;rintro e w1 ⟨bo,rfl,hbo,hbx⟩;have HE2:=HE;replace HE:=zh (HE2.out.trans hbx);clear HE2;have HR:=zh hbo;clear hbo hbx;clear hx0 hx1 hx2 hx3 hx4 hx5 hx6 hx7 hx8 hx9 hx10 hx11;obtain⟨hx0,hx1,hx2,hx3,hx4,hx5,hx6,hx7,hx8,hx9,hx10,hx11⟩:=box12 HE.out;cases bo)|(go_at_call 31;refine(pairsM ps A10 c10 _ (H10.out.ext HE.out (fun _ _ h=>h)) s10 S10.out).mono ?_;rintro e w1 ⟨bo,rfl,hbo,hbx⟩;have HE2:=HE;replace HE:=zh (HE2.out.trans hbx);clear HE2;have HP:=zh hbo;clear hbo hbx;clear hx0 hx1 hx2 hx3 hx4 hx5 hx6 hx7 hx8 hx9 hx10 hx11;obtain⟨hx0,hx1,hx2,hx3,hx4,hx5,hx6,hx7,hx8,hx9,hx10,hx11⟩:=box12 HE.out;cases bo)|(go_at_call 32;refine(fields32 ps A10 c10 _ (H10.out.ext HE.out (fun _ _ h=>h)) s10 S10.out).mono ?_;rintro e w1 ⟨bo,rfl,hbo,hbx⟩;have HE2:=HE;replace HE:=zh (HE2.out.trans hbx);clear HE2;have HP:=zh hbo;clear hbo hbx;clear hx0 hx1 hx2 hx3 hx4 hx5 hx6 hx7 hx8 hx9 hx10 hx11;obtain⟨hx0,hx1,hx2,hx3,hx4,hx5,hx6,hx7,hx8,hx9,hx10,hx11⟩:=box12 HE.out;cases bo))
 all_goals first
  | (go_ret;refine⟨_,rfl,?_,(ext_alloc w _).trans HE.out⟩;intro h;cases h;done)
  | skip
 go_loopw [120] (fun i wr=>∃k:Nat,k<=ws.length/\i=.int .i64 k/\Hid (Ext (w.alloc (.cells #[.int .i64 35,.string a,.string b,.int .u32 n,.slice A4 lf.length c4,.slice A5 lr.length c5,.slice A6 ty.length c6,.slice A7 vls.length c7,.slice A8 d.length c8,.slice A9 ws.length c9,.slice A10 ps.length c10,.slice A11 fs.length c11] 37)) wr)/\Hid (∀y∈ws.take k,plainP y/\y.size≠0)) (fun i _=>ws.length - (intOf i).toNat)
 case atStart=>exact⟨0,Nat.zero_le _,rfl,HE,zh (by simp)⟩
 case round=>
  obtain⟨k,hk1,rfl,HE2,HY⟩:=hrel
  clear hx0 hx1 hx2 hx3 hx4 hx5 hx6 hx7 hx8 hx9 hx10 hx11
  obtain⟨hx0,hx1,hx2,hx3,hx4,hx5,hx6,hx7,hx8,hx9,hx10,hx11⟩:=box12 HE2.out
  by_cases hlt:k < ws.length
  ·obtain⟨b1,o1,u,rfl,hcell,hu⟩:=H9.out.at_ hlt
   replace hcell:=HE2.out.cell hcell
   have hsz:=S9.out _ (List.getElem_mem hlt)
   obtain⟨x,hx⟩:∃x,x=ws[k]:=⟨_,rfl⟩
   rw [<-hx]at hu hsz
   rw [show u=.string x from hu]at hcell
   have HX:=zh hx
   clear hx hu
   have Hpx:∀(q:Bool),plainQ x=q->∀w,Calls Tryz.prog 27 #[.string x] w (fun e w'=>e=.returned (.bool q)/\w'=w):=fun q hq w=>by rw [<-hq];exact plain27 x hsz w
   cases hpx:plainQ x
   ·go_wp2_with (go_at_call 27;refine(Hpx _ hpx _).mono ?_;rintro e w1 ⟨rfl,rfl⟩)
    go_ret
    exact⟨_,rfl,fun h=>by(cases h;done),(ext_alloc w _).trans HE2.out⟩
   ·cases e3:x.toList.isEmpty
    ·go_wp2_with (go_at_call 27;refine(Hpx _ hpx _).mono ?_;rintro e w1 ⟨rfl,rfl⟩)
     go_roundw
     case rel=>
      refine⟨k+1,by omega,by go_num,HE2,zh (all_take ws k hlt HY.out ?_)⟩
      rw [<-HX.out]
      exact⟨plainQ_of hpx,size_ne e3⟩
     case measure=>simp only [intOf];omega
    ·go_wp2_with (go_at_call 27;refine(Hpx _ hpx _).mono ?_;rintro e w1 ⟨rfl,rfl⟩)
     go_ret
     exact⟨_,rfl,fun h=>by(cases h;done),(ext_alloc w _).trans HE2.out⟩
  ·obtain rfl:k=ws.length:=by omega
   have HY2:Hid (∀y∈ws,plainP y/\y.size≠0):=zh (by have:=HY.out;rwa [List.take_length]at this)
   go_wp2
   all_goals go_ret
   all_goals refine⟨_,rfl,?_,(ext_alloc w _).trans HE2.out⟩
   all_goals intro hres
   all_goals first
    | (cases hres;done)
    | (go_light
       try simp only [beq_iff_eq,beq_eq_false_iff_ne,ne_eq,Bool.or_eq_true,Bool.and_eq_true,decide_eq_true_eq]at *
       refine⟨HK.out trivial,plainQ_of hpa,plainQ_of hpb,by omega,by omega,⟨by have:=(HV.out trivial).1;omega,(HV.out trivial).2⟩,HC.out trivial,?_,?_,?_,?_,?_,?_,?_,?_,?_,?_⟩
       all_goals intro hk
       all_goals first
        | (exfalso;omega)
        | exact⟨by omega,by omega,HY2.out⟩)
theorem proper11 (a b:ByteArray)(kd n:Int)(A4 A5 A6 A7 A8 A9 A10 A11:Option Addr)(c4 c5 c6 c7 c8 c9 c10 c11:Nat)(lf lr ty d:List Int)(vls:List (Bool×List Int))(ws:List ByteArray)(ps:List (ByteArray×ByteArray))(fs:List Sf)(w:World)
 (h4:RdI .i64 w (.slice A4 lf.length c4) lf) (h5:RdI .i64 w (.slice A5 lr.length c5) lr) (h7:RdM 2 isVal w (.slice A7 vls.length c7) vls) (h9:Rd1 isStr w (.slice A9 ws.length c9) ws) (h10:RdM 2 isPr w (.slice A10 ps.length c10) ps) (h11:RdM 7 isSf w (.slice A11 fs.length c11) fs)
 (sa:a.size<=2147483647) (sb:b.size<=2147483647) (s4:lf.length<=2147483647) (s5:lr.length<=2147483647) (s6:ty.length<=2147483647) (s7:vls.length<=2147483647) (s8:d.length<=2147483647) (s9:ws.length<=2147483647) (s9':∀y∈ws,y.size<=2147483647) (s10:ps.length<=2147483647) (s10':∀y∈ps,y.1.size<=2147483647/\y.2.size<=2147483647) (s11:fs.length<=2147483647) (s11':∀y∈fs,y.name.size<=2147483647):
 Calls Tryz.prog 11 #[.agg #[.int .i64 kd,.string a,.string b,.int .u32 n,.slice A4 lf.length c4,.slice A5 lr.length c5,.slice A6 ty.length c6,.slice A7 vls.length c7,.slice A8 d.length c8,.slice A9 ws.length c9,.slice A10 ps.length c10,.slice A11 fs.length c11]] w (Said w (properP kd a b n lf lr ty vls d ws ps fs)):=by
 by_cases h:kd=35
 ·subst h
  exact proper11b a b n A4 A5 A6 A7 A8 A9 A10 A11 c4 c5 c6 c7 c8 c9 c10 c11 lf lr ty d vls ws ps fs w h4 h5 h7 h9 h10 h11 sa sb s4 s5 s6 s7 s8 s9 s9' s10 s10' s11 s11'
 ·exact proper11a a b kd n A4 A5 A6 A7 A8 A9 A10 A11 c4 c5 c6 c7 c8 c9 c10 c11 lf lr ty d vls ws ps fs w h h4 h5 h7 h9 h10 h11 sa sb s4 s5 s6 s7 s8 s9 s9' s10 s10' s11 s11'
theorem sby_mem {s:ByteArray} {y:Int} (h:y∈sby s):∃k,∃hk:k < s.size,y=(s[k].toNat:Int):=by
 unfold sby at h
 obtain⟨b,hb,rfl⟩:=List.mem_map.1 h
 obtain⟨k,hk,he⟩:=List.mem_iff_getElem.1 hb
 have hk':k < s.size:=by
  have:s.data.toList.length=s.size:=by rw [Array.length_toList];rfl
  omega
 refine⟨k,hk',?_⟩
 rw [<-he]
 rfl
theorem plain_ne {s:ByteArray} (h:plainP s):∀y∈sby s,y≠0:=by
 intro y hy
 obtain⟨k,hk,rfl⟩:=sby_mem hy
 exact h.2 k hk
def Byte (y:Int):Prop:=0<=y/\y < 256
theorem sby_byte (s:ByteArray):∀y∈sby s,Byte y:=by
 intro y hy
 obtain⟨k,hk,rfl⟩:=sby_mem hy
 have:=s[k].toNat_lt
 exact⟨by omega,by omega⟩
open Go.RowKit Og
theorem RdB.head {w:World} {A:Option Addr} {n c:Nat} {x:Int} {r:List Int} (h:RdB w (.slice A n c) (x :: r)):∃b o,A=some ⟨b,o,none⟩/\w.cell? ⟨b,o,none⟩=some (.int .u8 x):=by
 obtain⟨A',c',hv,_,_,h3⟩:=h
 obtain⟨rfl,_,_⟩:A=A'/\_:=by simpa using hv
 obtain⟨b,o,hA,hc⟩:=h3 (by simp)
 exact⟨b,o,hA,by simpa using hc 0 (by simp)⟩
def GaveP (bk:Nat) (w1:World) (bb:Nat) (w:World) (B R:List Int) (k:Int):Ending->World->Prop:=fun e w'=>∃A c,e=.returned (.slice A k.toNat c)/\RdN bk w1 (.slice A k.toNat c) B/\Cur bk w1 bb w' R/\ExtBut bb w w'
theorem cur_piece {bk bb:Nat} {w1 w:World} {B R:List Int} (h:Cur bk w1 bb w (B++R))(k:Int)(hk:(B.length:Int)=k):
 Calls Tryz.prog 168 #[.pointer (some ⟨bb,0,none⟩),.int .i64 k] w (GaveP bk w1 bb w B R k):=by
 subst hk
 refine(cur_next h B.length (by simp)).mono ?_
 rintro e w' ⟨A,c,rfl,h1,h2,h3⟩
 rw [List.take_left]at h1
 rw [List.drop_left]at h2
 exact⟨A,c,rfl,h1,h2,h3⟩
theorem rd16n (n:Int)(hn:0<=n/\n < 65536)(A:Option Addr)(m c:Nat)(r:List Int)(w:World)(h:RdB w (.slice A m c) (numB n 2++r)):
 Calls Tryz.prog 137 #[.slice A m c] w (fun e w'=>e=.returned (.int .u16 n)/\Ext w w'):=by
 have e:numB n 2++r=n / 256 % 256 :: n % 256 :: r:=by simp [numB]
 rw [e]at h
 refine(rd16 A m c _ _ r w h ⟨by omega,by omega⟩ ⟨by omega,by omega⟩).mono ?_
 rintro e w' ⟨rfl,hx⟩
 exact⟨by congr 2;omega,hx⟩
theorem rd32n (n:Int)(hn:0<=n/\n < 4294967296)(A:Option Addr)(m c:Nat)(r:List Int)(w:World)(h:RdB w (.slice A m c) (numB n 4++r)):
 Calls Tryz.prog 138 #[.slice A m c] w (fun e w'=>e=.returned (.int .u32 n)/\Ext w w'):=by
 have e:numB n 4++r=n / 16777216 % 256 :: n / 65536 % 256 :: n / 256 % 256 :: n % 256 :: r:=by simp [numB]
 rw [e]at h
 refine(rd32 A m c _ _ _ _ r w h ⟨by omega,by omega⟩ ⟨by omega,by omega⟩ ⟨by omega,by omega⟩ ⟨by omega,by omega⟩).mono ?_
 rintro e w' ⟨rfl,hx⟩
 exact⟨by congr 2;omega,hx⟩
theorem numB_mod4 (n:Int):numB n 4=numB (n % 4294967296) 4:=by
 simp only [numB]
 simp only [List.cons.injEq,and_true]
 refine⟨by omega,by omega,by omega,by omega⟩
theorem numB_mod2 (n:Int):numB n 2=numB (n % 65536) 2:=by
 simp only [numB]
 simp only [List.cons.injEq,and_true]
 refine⟨by omega,by omega⟩
theorem nums_len2:∀l:List Int,(l.flatMap fun n=>numB n 2).length=l.length * 2
 | []=>rfl
 | x :: l=>by rw [List.flatMap_cons,List.length_append,numB_len,nums_len2 l,List.length_cons];omega
structure Own (bb:Nat) (w1 w:World) (e size:Nat) (v:Value) (n:Nat) (xs:List Value):Prop where
 own:w.ownsRow 0 e size v n xs
 off:∀g,v.ownBlock=some g->w1.heap.size<=g/\g≠bb
theorem Own.row {bb:Nat} {w1 w:World} {e size:Nat} {v:Value} {n:Nat} {xs:List Value} (h:Own bb w1 w e size v n xs):Row e size (But w v) w w v n xs:=
 ⟨h.own,fun g hg hk=>hk.2 hg,fun _ _=>rfl,fun k hk=>hk.1,rfl,rfl,rfl⟩
theorem Own.step {bb:Nat} {w1 w w':World} {e size:Nat} {v v':Value} {n m:Nat} {xs ys:List Value} (h:Own bb w1 w e size v n xs)(hr:Row e size (But w v) w w' v' m ys)(hbb:bb < w.heap.size)(hw:w1.heap.size<=w.heap.size):Own bb w1 w' e size v' m ys:=by
 refine⟨hr.own,fun g hg=>?_⟩
 have h1:=hr.off g hg
 by_cases hlt:g < w.heap.size
 ·by_cases ho:v.ownBlock=some g
  ·exact h.off g ho
  ·exact absurd ⟨hlt,ho⟩ h1
 ·exact⟨by omega,by omega⟩
theorem Own.keep {bb:Nat} {w1 w w':World} {e size:Nat} {v:Value} {n:Nat} {xs:List Value} (h:Own bb w1 w e size v n xs)(hx:∀g,w1.heap.size<=g->g≠bb->g < w.heap.size->w'.heap[g]?=w.heap[g]?):Own bb w1 w' e size v n xs:=
 ⟨own_keep h.own fun g hg=>hx g (h.off g hg).1 (h.off g hg).2 (h.own.lt g hg).2,h.off⟩
theorem Own.ext {bb:Nat} {w1 w w':World} {e size:Nat} {v:Value} {n:Nat} {xs:List Value} (h:Own bb w1 w e size v n xs)(hx:Ext w w'):Own bb w1 w' e size v n xs:=
 h.keep fun g _ _ hg=>hx.block g hg
theorem Cur.row {bk bb:Nat} {w1 w w':World} {R:List Int} {e size:Nat} {v v':Value} {n m:Nat} {xs ys:List Value} (hc:Cur bk w1 bb w R)(ho:Own bb w1 w e size v n xs)(hr:Row e size (But w v) w w' v' m ys):Cur bk w1 bb w' R:=by
 obtain⟨A,c,hb,hrd⟩:=hc.blk
 have hlt:=zl hb
 have hbb:But w v bb:=⟨hlt,fun e=>(ho.off bb e).2 rfl⟩
 have hs:=hc.lo
 have h2:=hr.lt bb hbb
 refine⟨⟨hr.os.trans hc.bel.os,hr.tape.trans hc.bel.tape,hr.output.trans hc.bel.output,by omega,fun k hk hne=>?_⟩,hc.lo,hc.hi,A,c,(hr.kept bb hbb).trans hb,hrd⟩
 have hk':But w v k:=⟨Nat.lt_of_lt_of_le hk hc.bel.size,fun e=>by have:=(ho.off k e).1;omega⟩
 exact(hr.kept k hk').trans (hc.bel.block k hk hne)
structure PJ (b bb:Nat) (w1 W0:World) (v:Value) (n:Nat) (xs:List Value) (B R:List Int) (x:Int) (s1 s2:Value) (L:Nat->Bool) (vs:Nat->Value) (w:World):Prop where
 A:L 6=false->Ext W0 w
 B1:L 6=true->Cur b w1 bb w R
 B2:L 6=true->vs 6=.slice (slA (vs 6)) 4 (slC (vs 6))/\RdN b w1 (.slice (slA (vs 6)) 4 (slC (vs 6))) B
 C:L 9=false->Own bb w1 w 22 1 v n xs
 D:L 8=true->L 9=false->vs 8=.slice (some ⟨slB (vs 8),0,none⟩) 1 1/\w.heap[slB (vs 8)]?=some (.cells #[.int .u32 x] 22 (0,0))
 E:L 9=true->Own bb w1 w 22 1 (vs 9) (n+1) (xs++ [.int .u32 x])
 F:L 12=false->w.heap[b]?=some (.cells #[s1,s2,v] 137 (0,0))
 G:L 12=true->w.heap[b]?=some (.cells #[s1,s2,vs 9] 137 (0,0))
 M1:L 7=true->L 6=true
 M2:L 8=true->L 7=true
 M3:L 9=true->L 8=true
 M4:L 12=true->L 9=true
variable {b bb : Nat} {w1 W0 w w2 : World} {v : Value} {n : Nat} {xs : List Value} {B R : List Int} {x : Int} {s1 s2 : Value} {L : Nat → Bool} {vs : Nat → Value}
theorem PJ.start (h:Cur b w1 bb W0 (B++R))(ho:Own bb w1 W0 22 1 v n xs)(hb:W0.heap[b]?=some (.cells #[s1,s2,v] 137 (0,0))):PJ b bb w1 W0 v n xs B R x s1 s2 (fun _=>false) vs W0.drew:=
 ⟨fun _=>(Ext.refl W0).drew,nofun,nofun,fun _=>ho.ext (Ext.refl W0).drew,nofun,nofun,fun _=>hb,nofun,nofun,nofun,nofun,nofun⟩
theorem PJ.keep (h:PJ b bb w1 W0 v n xs B R x s1 s2 L vs w)(i:Nat)(u:Value)(h6:6≠i)(h7:7≠i)(h8:8≠i)(h9:9≠i)(h12:12≠i):PJ b bb w1 W0 v n xs B R x s1 s2 (updB L i) (upd vs i u) w:=by
 obtain⟨A,B1,B2,C,D,E,F,G,M1,M2,M3,M4⟩:=h
 constructor <;> simp only [updB,upd,h6,h7,h8,h9,h12,if_false,beq_eq_false_iff_ne.2,Bool.or_false,ne_eq,not_false_eq_true] <;> assumption
theorem PJ.lows (h:PJ b bb w1 W0 v n xs B R x s1 s2 L vs w):(L 6=false->L 7=false)/\(L 7=false->L 8=false)/\(L 8=false->L 9=false)/\(L 9=false->L 12=false):=by
 refine⟨fun e=>?_,fun e=>?_,fun e=>?_,fun e=>?_⟩
 ·cases e2:L 7 with
  | false=>rfl
  | true=>rw [h.M1 e2]at e;cases e
 ·cases e2:L 8 with
  | false=>rfl
  | true=>rw [h.M2 e2]at e;cases e
 ·cases e2:L 9 with
  | false=>rfl
  | true=>rw [h.M3 e2]at e;cases e
 ·cases e2:L 12 with
  | false=>rfl
  | true=>rw [h.M4 e2]at e;cases e
theorem PJ.step6 (h:PJ b bb w1 W0 v n xs B R x s1 s2 L vs w)(e6:L 6=false)(hlt:b < w1.heap.size)(hlo:w1.heap.size<=bb)(A':Option Addr)(c':Nat)(hr:RdN b w1 (.slice A' 4 c') B)(hc:Cur b w1 bb w2 R)(hx:ExtBut bb w w2):PJ b bb w1 W0 v n xs B R x s1 s2 (updB L 6) (upd vs 6 (.slice A' 4 c')) w2:=by
 have e7:=h.lows.1 e6
 have e8:=h.lows.2.1 e7
 have e9:=h.lows.2.2.1 e8
 have e12:=h.lows.2.2.2 e9
 have hF:=h.F e12
 constructor <;> simp only [updB,upd,e7,e8,e9,e12,Nat.reduceEqDiff,if_false,if_true,Nat.reduceBEq,Bool.or_false,Bool.or_true,Bool.false_eq_true,Bool.true_eq_false,false_implies,true_implies]
 ·exact hc
 ·exact⟨rfl,hr⟩
 ·exact(h.C e9).keep fun g _ hne hg=>hx.block g hg hne
 ·exact(hx.block b (zl hF) (by omega)).trans hF
theorem PJ.step7 (h:PJ b bb w1 W0 v n xs B R x s1 s2 L vs w)(e6:L 6=true)(e8:L 8=false)(hx:Ext w w2)(u:Value):PJ b bb w1 W0 v n xs B R x s1 s2 (updB L 7) (upd vs 7 u) w2:=by
 have e9:=h.lows.2.2.1 e8
 have e12:=h.lows.2.2.2 e9
 have hF:=h.F e12
 have hB:=h.B1 e6
 have hB2:=h.B2 e6
 constructor <;> simp only [updB,upd,e6,e8,e9,e12,Nat.reduceEqDiff,if_false,if_true,Nat.reduceBEq,Bool.or_false,Bool.or_true,Bool.false_eq_true,Bool.true_eq_false,false_implies,true_implies]
 ·exact hB.ext hx
 ·exact hB2
 ·exact(h.C e9).ext hx
 ·exact(hx.block b (zl hF)).trans hF
theorem PJ.step8 (h:PJ b bb w1 W0 v n xs B R x s1 s2 L vs w)(e7:L 7=true)(e9:L 9=false):PJ b bb w1 W0 v n xs B R x s1 s2 (updB L 8) (upd vs 8 (.slice (some ⟨w.heap.size,0,none⟩) 1 1)) (w.alloc (.cells #[.int .u32 x] 22)):=by
 have e6:=h.M1 e7
 have e12:=h.lows.2.2.2 e9
 have hF:=h.F e12
 have hB:=h.B1 e6
 have hB2:=h.B2 e6
 have hx:=ext_alloc w (.cells #[.int .u32 x] 22)
 constructor <;> simp only [updB,upd,e6,e7,e9,e12,Nat.reduceEqDiff,if_false,if_true,Nat.reduceBEq,Bool.or_false,Bool.or_true,Bool.false_eq_true,Bool.true_eq_false,false_implies,true_implies]
 ·exact hB.ext hx
 ·exact hB2
 ·exact(h.C e9).ext hx
 ·exact⟨rfl,heap_alloc_new _ _⟩
 ·exact(hx.block b (zl hF)).trans hF
theorem PJ.step9 (h:PJ b bb w1 W0 v n xs B R x s1 s2 L vs w)(e8:L 8=true)(e9:L 9=false)(v2:Value)(hr:Row 22 1 (But w v) w w2 v2 (n+1) (xs++ [.int .u32 x])):PJ b bb w1 W0 v n xs B R x s1 s2 (updB L 9) (upd vs 9 v2) w2:=by
 have e7:=h.M2 e8
 have e6:=h.M1 e7
 have e12:=h.lows.2.2.2 e9
 have hF:=h.F e12
 have hB:=h.B1 e6
 have hB2:=h.B2 e6
 have hC:=h.C e9
 have hbb:bb < w.heap.size:=by
  obtain⟨A,c,hb,_⟩:=hB.blk
  exact zl hb
 have hbn:But w v b:=⟨zl hF,fun e=>by have:=(hC.off b e).1;have:=hB.hi;omega⟩
 constructor <;> simp only [updB,upd,e6,e7,e8,e12,Nat.reduceEqDiff,if_false,if_true,Nat.reduceBEq,Bool.or_false,Bool.or_true,Bool.false_eq_true,Bool.true_eq_false,false_implies,true_implies]
 ·exact hB.row hC hr
 ·exact hB2
 ·exact hC.step hr hbb hB.bel.size
 ·exact(hr.kept b hbn).trans hF
theorem PJ.step12 (h:PJ b bb w1 W0 v n xs B R x s1 s2 L vs w)(e9:L 9=true)(e12:L 12=false)(u z:Value)(hz:vs 9=z):PJ b bb w1 W0 v n xs B R x s1 s2 (updB L 12) (upd vs 12 u) (w.setCell ⟨b,2,none⟩ z):=by
 subst hz
 have e8:=h.M3 e9
 have e7:=h.M2 e8
 have e6:=h.M1 e7
 have hF:=h.F e12
 have hB:=h.B1 e6
 have hB2:=h.B2 e6
 have hE:=h.E e9
 have hoth:∀k,k≠b->(w.setCell ⟨b,2,none⟩ (vs 9)).heap[k]?=w.heap[k]?:=fun k hk=>heap_setCell_other w ⟨b,2,none⟩ k _ hk
 constructor <;> simp only [updB,upd,e6,e7,e8,e9,Nat.reduceEqDiff,if_false,if_true,Nat.reduceBEq,Bool.or_false,Bool.or_true,Bool.false_eq_true,Bool.true_eq_false,false_implies,true_implies]
 ·exact hB.but ((Ext.refl w).but.set 2 _)
 ·exact hB2
 ·exact hE.keep fun g hg _ _=>hoth g (by have:=hB.hi;omega)
 ·exact slot_setCell hF
theorem upb {bb b:Nat} {w w':World} {o:Obj} (hx:ExtBut bb w w')(hb:b < bb)(h:w.heap[b]?=some o):w'.heap[b]?=some o:=(hx.block b (zl h) (Nat.ne_of_lt hb)).trans h
theorem upbe {bb b:Nat} {w w':World} {o:Obj} (hx:Ext w w')(hb:b < bb)(h:w.heap[b]?=some o):w'.heap[b]?=some o:=(hx.block b (zl h)).trans h
theorem upb1 {bb b j:Nat} {w w':World} {u:Value} {cs:Array Value} {t:TypeId} (hx:ExtBut bb (w.setCell ⟨b,j,none⟩ u) w')(hb:b < bb)(h:w.heap[b]?=some (.cells cs t (0,0))):w'.heap[b]?=some (.cells (cs.setIfInBounds j u) t (0,0)):=upb hx hb (slot_setCell h)
theorem upbe1 {bb b j:Nat} {w w':World} {u:Value} {cs:Array Value} {t:TypeId} (hx:Ext (w.setCell ⟨b,j,none⟩ u) w')(hb:b < bb)(h:w.heap[b]?=some (.cells cs t (0,0))):w'.heap[b]?=some (.cells (cs.setIfInBounds j u) t (0,0)):=upbe hx hb (slot_setCell h)
theorem upbe3 {bb b j1 j2 j3:Nat} {w w':World} {u1 u2 u3:Value} {cs:Array Value} {t:TypeId} (hx:Ext (((w.setCell ⟨b,j1,none⟩ u1).setCell ⟨b,j2,none⟩ u2).setCell ⟨b,j3,none⟩ u3) w')(hb:b < bb)(h:w.heap[b]?=some (.cells cs t (0,0))):w'.heap[b]?=some (.cells (((cs.setIfInBounds j1 u1).setIfInBounds j2 u2).setIfInBounds j3 u3) t (0,0)):=upbe hx hb (slot_setCell (slot_setCell (slot_setCell h)))
theorem cur_newb {bk bb:Nat} {w1 w:World} {v:Value} {xs:List Int} (h:RdN bk w1 v xs)(hb:bk < w1.heap.size)(hx:ExtBut bk w1 w)(hbb:w.heap.size=bb):
 Calls Tryz.prog 165 #[v] w (fun e w'=>e=.returned (.pointer (some ⟨bb,0,none⟩))/\Cur bk w1 bb w' xs/\Ext w w'):=by
 subst hbb
 exact cur_new h hb hx
theorem sl_from (A:Option Addr)(N c p:Nat)(i:Int)(hi:i=(p:Int))(hp:p<=N)(hN:N<=c)(hc:c<=maxLen):∃A' c',(∀w:World,(Instr.slice 26 (.slice A N c) (some (.int .i64 i)) none none).run Tryz.prog w=.ok (.slice A' (N - p) c') w)/\∀(b:Nat) (w:World) (xs:List Int),RdN b w (.slice A N c) xs->RdN b w (.slice A' (N - p) c') (xs.drop p):=by
 subst hi
 have h1:∀w:World,(Instr.slice 26 (.slice A N c) (some (.int .i64 (p:Int))) none none).run Tryz.prog w=.ok (.slice (if c=p then A else A.map (·.add p)) (N - p) (c - p)) w:=by
  intro w
  rw [run_slice_l (P:=Tryz.prog) w 26 A N c Tryz.underlying26 .i64 p (by omega) (by omega)]
  have hs:(sizeOf (Tryz.prog.elem 26)).run Tryz.prog w=.ok 1 w:=by
   obtain⟨i0,hi,hz0,hz1,hz2⟩:=info_parts info5
   simp [sizeOf,typeInfo,show Tryz.prog.elem 26=5 from by kernel_rfl,hi,hz1]
  rw [hs]
  simp [Result.andThen,sliced]
 by_cases e:c=p
 ·refine⟨A,c - p,fun w=>by rw [h1 w,if_pos e],fun b w xs h=>?_⟩
  obtain⟨h2,_,_⟩:=h.1.parts
  exact RdN.none A (N - p) (c - p) _ (List.drop_eq_nil_of_le (by omega)) (by omega) (by omega)
 ·refine⟨A.map (·.add p),c - p,fun w=>by rw [h1 w,if_neg e],fun b w xs h=>h.drop p hp⟩
def mkW (w:World):World:=w.alloc (.cells (madeCells #[.slice none 0 0] 32) 26)
def slN:Value->Nat
 | .slice _ n _=>n
 | _=>0
theorem byte_ne {y:Int} (h0:0 < y)(h:y < 256):(UInt8.ofNat y.toNat == (0:Int).toNat.toUInt8)=false:=by
 refine beq_eq_false_iff_ne.2 fun e=>?_
 have:=congrArg UInt8.toNat e
 simp [UInt8.toNat_ofNat']at this
 omega
theorem index_none:∀(s:List Int),(∀y∈s,0 < y/\y < 256)->Lib.indexByte (Lib.bytesOf s) (0:Int).toNat.toUInt8= -1
 | [],_=>rfl
 | y :: s,h=>by
   have h1:=h y (by simp)
   have h2:=index_none s fun z hz=>h z (by simp [hz])
   show Lib.indexByte (UInt8.ofNat y.toNat :: Lib.bytesOf s) _= -1
   unfold Lib.indexByte
   rw [byte_ne h1.1 h1.2,h2]
   rfl
theorem index_found:∀(s r:List Int),(∀y∈s,0 < y/\y < 256)->Lib.indexByte (Lib.bytesOf (s++0 :: r)) (0:Int).toNat.toUInt8=s.length
 | [],r,_=>rfl
 | y :: s,r,h=>by
   have h1:=h y (by simp)
   have h2:=index_found s r fun z hz=>h z (by simp [hz])
   show Lib.indexByte (UInt8.ofNat y.toNat :: Lib.bytesOf (s++0 :: r)) _=_
   unfold Lib.indexByte
   rw [byte_ne h1.1 h1.2,h2]
   have h3:(((s.length:Nat):Int) == -1)=false:=beq_eq_false_iff_ne.2 (by omega)
   rw [h3]
   simp
section
variable {P : Program} (w : World)
theorem run_indexEmpty (a:Addr)(c:Nat)(cv:Int):
 (Extern.BytealgIndexByte.indexByte #[.slice (some a) 0 c,.int .u8 cv]).run P w=.ok (.int .i64 (-1)) w:=by
 have hl:=Lib.run_loadBytesX (P:=P) w [] a .empty (fun j x hj=>by simp at hj)
 have hs:=Lib.run_indexByteString (P:=P) ⟨#[]⟩ cv w
 change Sem.run P (do
  let b <-Extern.Bytes.bytesOf (.slice (some a) 0 c)
  let c <-Extern.Bytes.asByte (.int .u8 cv)
  match (List.range b.size).find? fun i=>b[i]! == c with
  | some i=>pure (goInt i)
  | none=>pure (goInt (-1))) w=_
 change Sem.run P (do
  let b <-Extern.Bytes.bytesOf (.string ⟨#[]⟩)
  let c <-Extern.Bytes.asByte (.int .u8 cv)
  match (List.range b.size).find? fun i=>b[i]! == c with
  | some i=>pure (goInt i)
  | none=>pure (goInt (-1))) w=_ at hs
 have he:(ByteArray.empty++(⟨(Lib.bytesOf []).toArray⟩:ByteArray))=⟨#[]⟩:=rfl
 simp only [List.length_nil]at hl
 simp only [Extern.Bytes.bytesOf,Sem.run_bind,Sem.run_pure,Result.andThen]at hs⊢
 rw [hl]
 exact hs
end
theorem idx136 (A:Option Addr)(n c:Nat)(xs:List Int)(w:World)(h:RdB w (.slice A n c) xs)(z:Int)(hz:Lib.indexByte (Lib.bytesOf xs) (0:Int).toNat.toUInt8=z):
 Calls Tryz.prog 136 #[.slice A n c,.int .u8 0] w (fun e w'=>e=.returned (.int .i64 z)/\w'=w):=by
 have hr:(Extern.BytealgIndexByte.indexByte #[.slice A n c,.int .u8 0]).run Tryz.prog w=.ok (.int .i64 z) w:=by
  obtain⟨rfl,_,_⟩:=h.parts
  obtain⟨A',c',hv,_,_,h3⟩:=h
  obtain⟨rfl,rfl⟩:A=A'/\c=c':=by simpa using hv
  by_cases hn:0 < xs.length
  ·obtain⟨b,o,rfl,hc⟩:=h3 hn
   rw [Lib.run_indexByteSlice w b o xs.length c xs rfl hc 0,hz]
  ·have hx:xs=[]:=List.eq_nil_of_length_eq_zero (by omega)
   subst hx
   have hz1:z= -1:=by rw [<-hz];rfl
   subst hz1
   cases A with
   | none=>exact Lib.run_indexByteNil w 0 c 0
   | some a=>exact run_indexEmpty w a c 0
 clear h hz
 go_enter Tryz.func136,Tryz.ntmps136
 go_wp2
 rw [run_callFunc_extern Tryz.func144 (by kernel_rfl) (by kernel_rfl) (by kernel_rfl) (e:=Extern.BytealgIndexByte.indexByte) (by kernel_rfl),hr]
 simp only [Result.andThen]
 rw [Oper.upon_value]
 go_wp2
 go_ret
 exact⟨rfl,rfl⟩
theorem idx_found (A:Option Addr)(n c:Nat)(s r:List Int)(w:World)(h:RdB w (.slice A n c) (s++0 :: r))(hs:∀y∈s,0 < y/\y < 256):
 Calls Tryz.prog 136 #[.slice A n c,.int .u8 0] w (fun e w'=>e=.returned (.int .i64 s.length)/\w'=w):=idx136 A n c _ w h _ (index_found s r hs)
theorem plain_pos {s:ByteArray} (h:plainP s):∀y∈sby s,0 < y/\y < 256:=by
 intro y hy
 have h1:=plain_ne h y hy
 have h2:=sby_byte s y hy
 unfold Byte at h2
 omega
end Go.Proofs.YtdenjanihikolaaGreatDoor
