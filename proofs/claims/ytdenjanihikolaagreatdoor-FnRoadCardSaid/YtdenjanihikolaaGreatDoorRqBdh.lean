/- Bodies of the messages of the reference, with loops, by contract. -/
import Derived.Test.YtdenjanihikolaaGreatDoorRqA0
import Derived.Test.YtdenjanihikolaaGreatDoorRqA1
import Derived.Test.YtdenjanihikolaaGreatDoorRqWrd
namespace Go.Proofs.YtdenjanihikolaaGreatDoor
set_option linter.unusedVariables false
set_option linter.unusedSimpArgs false
set_option maxRecDepth 100000
set_option maxHeartbeats 4000000
open Go.RowKit Og
theorem body9 (a b:ByteArray)(n:Int)(vf vr vt vv vd vw vp vl:Value)(w:World)(hn:0<=n/\n < 4294967296)(lf:List Int)(hrf:RdI .i64 w vf lf)(hlf:lf.length<=4294967296)(vls:List (Bool×List Int))(hrv:RdM 2 isVal w vv vls)(hlv:vls.length<=1000)(hmv:∀y∈vls,y.2.length<=2000)(lr:List Int)(A_l:Option Addr)(c_l:Nat)(hvl:vr=.slice A_l lr.length c_l)(hr:RdI .i64 w (.slice A_l lr.length c_l) lr)(hl:lr.length<=4294967296)(R:List Int)(hE:(numB n 4++(numB (lf.length:Int) 2++lf.flatMap fun n=>numB n 2)++(numB (vls.length:Int) 2++vls.flatMap fun x=>valB x.1 x.2)++lr.flatMap fun n=>numB n 2)=R):
 Calls Tryz.prog 16 #[.agg #[.int .i64 9,.string a,.string b,.int .u32 n,vf,vr,vt,vv,vd,vw,vp,vl]] w (Gave w R):=by
 subst hvl
 have hwn:wrap64 n=n:=by unfold wrap64;omega
 have HRf:=zh (hrf.ext (ext_alloc w (.cells #[.int .i64 9,.string a,.string b,.int .u32 n,vf,.slice A_l lr.length c_l,vt,vv,vd,vw,vp,vl] 37)))
 clear hrf
 have hflf:=flat_len (fun n=>numB n 2) 2 lf fun y _=>Nat.le_of_eq (numB_len y 2)
 have hfv:=flat_len (fun x:Bool×List Int=>valB x.1 x.2) 2004 vls fun y hy=>Nat.le_trans (valB_len y) (by have:=hmv y hy;omega)
 have HRv:=zh (hrv.ext (ext_alloc w (.cells #[.int .i64 9,.string a,.string b,.int .u32 n,vf,.slice A_l lr.length c_l,vt,vv,vd,vw,vp,vl] 37)) (isVal.ext (ext_alloc w (.cells #[.int .i64 9,.string a,.string b,.int .u32 n,vf,.slice A_l lr.length c_l,vt,vv,vd,vw,vp,vl] 37))))
 clear hrv
 have HMv:=zh hmv
 clear hmv
 have HRl:=zh (hr.ext (ext_alloc w (.cells #[.int .i64 9,.string a,.string b,.int .u32 n,vf,.slice A_l lr.length c_l,vt,vv,vd,vw,vp,vl] 37)))
 clear hr
 have HF:=zh (show∀y∈lr,((fun n=>numB n 2) y).length<=2 from fun y _=>Nat.le_of_eq (numB_len y 2))
 have hx3:True:=trivial
 have hx4:True:=trivial
 have hx5:True:=trivial
 have hx7:True:=trivial
 have h0:=Wr.start1 w (.cells #[.int .i64 9,.string a,.string b,.int .u32 n,vf,.slice A_l lr.length c_l,vt,vv,vd,vw,vp,vl] 37)
 have hc:=h0.cell
 have HB:=zh h0
 clear h0
 have HE:=zh hE
 clear hE
 go_enter Tryz.func16,Tryz.ntmps16
 go_wp2_with (first|(go_at_call 36;refine(number_w 4 (by omega) _ HB.out ul4).mono ?_;rintro e w1 ⟨rfl,v1,hn⟩;clear hc;have hc:=hn.cell;clear hx3;have hx3:=box_at hn.buf.bel 3 (.int .u32 n) rfl;clear hx4;have hx4:=box_at hn.buf.bel 4 (vf) rfl;clear hx5;have hx5:=box_at hn.buf.bel 5 (.slice A_l lr.length c_l) rfl;clear hx7;have hx7:=box_at hn.buf.bel 7 (vv) rfl;replace HB:=zh hn;clear hn)|(go_at_call 39;refine(shorts_w lf HB.out HRf.out ul4).mono ?_;rintro e w1 ⟨rfl,v1,hn⟩;clear hc;have hc:=hn.cell;clear hx3;have hx3:=box_at hn.buf.bel 3 (.int .u32 n) rfl;clear hx4;have hx4:=box_at hn.buf.bel 4 (vf) rfl;clear hx5;have hx5:=box_at hn.buf.bel 5 (.slice A_l lr.length c_l) rfl;clear hx7;have hx7:=box_at hn.buf.bel 7 (vv) rfl;replace HB:=zh hn;clear hn;clear HRf)|(go_at_call 40;refine(values_w vls HB.out HRv.out HMv.out ul4).mono ?_;rintro e w1 ⟨rfl,v1,hn⟩;clear hc;have hc:=hn.cell;clear hx3;have hx3:=box_at hn.buf.bel 3 (.int .u32 n) rfl;clear hx4;have hx4:=box_at hn.buf.bel 4 (vf) rfl;clear hx5;have hx5:=box_at hn.buf.bel 5 (.slice A_l lr.length c_l) rfl;clear hx7;have hx7:=box_at hn.buf.bel 7 (vv) rfl;replace HB:=zh hn;clear hn))
 obtain⟨PRE0,HB',HP0⟩:∃P,Hid (Wr (Lt (w.alloc (.cells #[.int .i64 9,.string a,.string b,.int .u32 n,vf,.slice A_l lr.length c_l,vt,vv,vd,vw,vp,vl] 37)).heap.size) (w.alloc (.cells #[.int .i64 9,.string a,.string b,.int .u32 n,vf,.slice A_l lr.length c_l,vt,vv,vd,vw,vp,vl] 37)) _ (w.heap.size+1+1) _ (P))/\Hid (P=numB n 4++(numB (lf.length:Int) 2++lf.flatMap fun n=>numB n 2)++(numB (vls.length:Int) 2++vls.flatMap fun x=>valB x.1 x.2)):=⟨_,HB,zh rfl⟩
 clear HB
 have hpl0:PRE0.length<=8603000000:=by rw [HP0.out];first|omega|(simp only [List.length_append,List.length_nil,List.length_cons,txt,sby_length,numB_len,sfB] <;> omega)
 go_loopw [113] (fun i wr=>∃k:Nat,k<=lr.length/\i=.int .i64 k/\∃v',Hid (Wr (Lt (w.alloc (.cells #[.int .i64 9,.string a,.string b,.int .u32 n,vf,.slice A_l lr.length c_l,vt,vv,vd,vw,vp,vl] 37)).heap.size) (w.alloc (.cells #[.int .i64 9,.string a,.string b,.int .u32 n,vf,.slice A_l lr.length c_l,vt,vv,vd,vw,vp,vl] 37)) wr (w.heap.size+1+1) v' (PRE0++(lr.take k).flatMap (fun n=>numB n 2)))) (fun i _=>lr.length - (intOf i).toNat)
 case atStart=>exact⟨0,Nat.zero_le _,rfl,_,by simpa using HB'⟩
 case round=>
  clear HB' hc hx3 hx4 hx5 hx7
  obtain⟨k,hk1,rfl,v2,HB⟩:=hrel
  by_cases hlt:k < lr.length
  ·have hfl:=flat_take_len (fun n=>numB n 2) 2 k lr HF.out
   obtain⟨b1,o1,rfl,hcell⟩:=(HRl.out.ext HB.out.buf.bel).at_ hlt
   rw [getD_at hlt]at hcell
   obtain⟨x,hx⟩:∃x,x=lr[k]:=⟨_,rfl⟩
   rw [<-hx]at hcell
   have HX:=zh hx
   clear hx
   go_wp2_with (go_at_call 36;refine(number_w 2 (by omega) _ HB.out ul4).mono ?_;rintro e w1 ⟨rfl,v1,hn⟩;replace HB:=zh hn;clear hn)
   go_roundw
   case rel=>
    refine⟨k+1,by omega,by go_num,v1,?_⟩
    rw [take_flat _ lr k hlt,<-HX.out]
    have hz:=HB.out
    simp only [List.append_assoc,sfB,prB,erB]at hz⊢
    exact zh hz
   case measure=>simp [intOf];omega
  ·obtain rfl:k=lr.length:=by omega
   have hfl:=flat_len (fun n=>numB n 2) 2 lr HF.out
   rw [List.take_length]at HB
   have hc:=HB.out.cell
   go_wp2
   go_ret
   exact gave_of HB.out (by have hz:=HE.out;subst hz;rw [HP0.out];first|done|(simp only [List.nil_append,List.append_assoc,List.append_nil]))
theorem body35 (a b:ByteArray)(n:Int)(vf vr vt vv vd vw vp vl:Value)(w:World)(ws:List ByteArray)(A_l:Option Addr)(c_l:Nat)(hvl:vw=.slice A_l ws.length c_l)(hr:Rd1 isStr w (.slice A_l ws.length c_l) ws)(hl:ws.length<=1000)(hm:∀y∈ws,y.size<=1000)(R:List Int)(hE:(numB 10 4++ws.flatMap txt++numB 0 1)=R):
 Calls Tryz.prog 16 #[.agg #[.int .i64 35,.string a,.string b,.int .u32 n,vf,vr,vt,vv,vd,vw,vp,vl]] w (Gave w R):=by
 subst hvl
 have HRl:=zh (hr.ext (ext_alloc w (.cells #[.int .i64 35,.string a,.string b,.int .u32 n,vf,vr,vt,vv,vd,.slice A_l ws.length c_l,vp,vl] 37)) (fun _ _ h=>h))
 clear hr
 have HM:=zh hm
 have HF:=zh (show∀y∈ws,(txt y).length<=1001 from fun y hy=>(by have:=hm y hy;simp only [txt,List.length_append,List.length_cons,List.length_nil,sby_length];omega))
 clear hm
 have hx9:True:=trivial
 have h0:=Wr.start1 w (.cells #[.int .i64 35,.string a,.string b,.int .u32 n,vf,vr,vt,vv,vd,.slice A_l ws.length c_l,vp,vl] 37)
 have hc:=h0.cell
 have HB:=zh h0
 clear h0
 have HE:=zh hE
 clear hE
 go_enter Tryz.func16,Tryz.ntmps16
 go_wp2_with (first|(go_at_call 36;refine(number_w 4 (by omega) _ HB.out ul4).mono ?_;rintro e w1 ⟨rfl,v1,hn⟩;clear hc;have hc:=hn.cell;clear hx9;have hx9:=box_at hn.buf.bel 9 (.slice A_l ws.length c_l) rfl;replace HB:=zh hn;clear hn))
 obtain⟨PRE0,HB',HP0⟩:∃P,Hid (Wr (Lt (w.alloc (.cells #[.int .i64 35,.string a,.string b,.int .u32 n,vf,vr,vt,vv,vd,.slice A_l ws.length c_l,vp,vl] 37)).heap.size) (w.alloc (.cells #[.int .i64 35,.string a,.string b,.int .u32 n,vf,vr,vt,vv,vd,.slice A_l ws.length c_l,vp,vl] 37)) _ (w.heap.size+1+1) _ (P))/\Hid (P=numB 10 4):=⟨_,HB,zh rfl⟩
 clear HB
 have hpl0:PRE0.length<=4:=by rw [HP0.out];first|omega|(simp only [List.length_append,List.length_nil,List.length_cons,txt,sby_length,numB_len,sfB] <;> omega)
 go_loopw [218] (fun i wr=>∃k:Nat,k<=ws.length/\i=.int .i64 k/\∃v',Hid (Wr (Lt (w.alloc (.cells #[.int .i64 35,.string a,.string b,.int .u32 n,vf,vr,vt,vv,vd,.slice A_l ws.length c_l,vp,vl] 37)).heap.size) (w.alloc (.cells #[.int .i64 35,.string a,.string b,.int .u32 n,vf,vr,vt,vv,vd,.slice A_l ws.length c_l,vp,vl] 37)) wr (w.heap.size+1+1) v' (PRE0++(ws.take k).flatMap txt))) (fun i _=>ws.length - (intOf i).toNat)
 case atStart=>exact⟨0,Nat.zero_le _,rfl,_,by simpa using HB'⟩
 case round=>
  clear HB' hc hx9
  obtain⟨k,hk1,rfl,v2,HB⟩:=hrel
  by_cases hlt:k < ws.length
  ·have hfl:=flat_take_len txt 1001 k ws HF.out
   obtain⟨b1,o1,u,rfl,hcell,hu⟩:=HRl.out.at_ hlt
   replace hcell:=HB.out.buf.bel.cell hcell
   have hxl:=HM.out _ (List.getElem_mem hlt)
   obtain⟨x,hx⟩:∃x,x=ws[k]:=⟨_,rfl⟩
   rw [<-hx]at hu hxl
   rw [show u=.string x from hu]at hcell
   have HX:=zh hx
   clear hx hu
   go_wp2_with (go_at_call 38;refine(text_w _ HB.out ul4).mono ?_;rintro e w1 ⟨rfl,v1,hn⟩;replace HB:=zh hn;clear hn)
   go_roundw
   case rel=>
    refine⟨k+1,by omega,by go_num,v1,?_⟩
    rw [take_flat _ ws k hlt,<-HX.out]
    have hz:=HB.out
    simp only [List.append_assoc,sfB,prB,erB]at hz⊢
    exact zh hz
   case measure=>simp [intOf];omega
  ·obtain rfl:k=ws.length:=by omega
   have hfl:=flat_len txt 1001 ws HF.out
   rw [List.take_length]at HB
   have hc:=HB.out.cell
   go_wp2_with (go_at_call 36;refine(number_w 1 (by omega) _ HB.out ul4).mono ?_;rintro e w1 ⟨rfl,v1,hn⟩;clear hc;have hc:=hn.cell;replace HB:=zh hn;clear hn)
   go_ret
   exact gave_of HB.out (by have hz:=HE.out;subst hz;rw [HP0.out];first|done|(simp only [List.nil_append,List.append_assoc,List.append_nil]))
theorem body49 (a b:ByteArray)(n:Int)(vf vr vt vv vd vw vp vl:Value)(w:World)(vls:List (Bool×List Int))(A_l:Option Addr)(c_l:Nat)(hvl:vv=.slice A_l vls.length c_l)(hr:RdM 2 isVal w (.slice A_l vls.length c_l) vls)(hl:vls.length<=1000)(hm:∀y∈vls,y.2.length<=2000)(R:List Int)(hE:(vls.flatMap fun x=>valB x.1 x.2)=R):
 Calls Tryz.prog 16 #[.agg #[.int .i64 49,.string a,.string b,.int .u32 n,vf,vr,vt,vv,vd,vw,vp,vl]] w (Gave w R):=by
 subst hvl
 have HRl:=zh (hr.ext (ext_alloc w (.cells #[.int .i64 49,.string a,.string b,.int .u32 n,vf,vr,vt,.slice A_l vls.length c_l,vd,vw,vp,vl] 37)) (isVal.ext (ext_alloc w (.cells #[.int .i64 49,.string a,.string b,.int .u32 n,vf,vr,vt,.slice A_l vls.length c_l,vd,vw,vp,vl] 37))))
 clear hr
 have HM:=zh hm
 have HF:=zh (show∀y∈vls,((fun x:Bool×List Int=>valB x.1 x.2) y).length<=2004 from fun y hy=>Nat.le_trans (valB_len y) (by have:=hm y hy;omega))
 clear hm
 have hx7:True:=trivial
 have h0:=Wr.start1 w (.cells #[.int .i64 49,.string a,.string b,.int .u32 n,vf,vr,vt,.slice A_l vls.length c_l,vd,vw,vp,vl] 37)
 have hc:=h0.cell
 have HB:=zh h0
 clear h0
 have HE:=zh hE
 clear hE
 go_enter Tryz.func16,Tryz.ntmps16
 go_wp2
 obtain⟨PRE0,HB',HP0⟩:∃P,Hid (Wr (Lt (w.alloc (.cells #[.int .i64 49,.string a,.string b,.int .u32 n,vf,vr,vt,.slice A_l vls.length c_l,vd,vw,vp,vl] 37)).heap.size) (w.alloc (.cells #[.int .i64 49,.string a,.string b,.int .u32 n,vf,vr,vt,.slice A_l vls.length c_l,vd,vw,vp,vl] 37)) _ (w.heap.size+1+1) _ (P))/\Hid (P=[]):=⟨_,HB,zh rfl⟩
 clear HB
 have hpl0:PRE0.length<=0:=by rw [HP0.out];first|omega|(simp only [List.length_append,List.length_nil,List.length_cons,txt,sby_length,numB_len,sfB] <;> omega)
 go_loopw [301] (fun i wr=>∃k:Nat,k<=vls.length/\i=.int .i64 k/\∃v',Hid (Wr (Lt (w.alloc (.cells #[.int .i64 49,.string a,.string b,.int .u32 n,vf,vr,vt,.slice A_l vls.length c_l,vd,vw,vp,vl] 37)).heap.size) (w.alloc (.cells #[.int .i64 49,.string a,.string b,.int .u32 n,vf,vr,vt,.slice A_l vls.length c_l,vd,vw,vp,vl] 37)) wr (w.heap.size+1+1) v' (PRE0++(vls.take k).flatMap (fun x:Bool×List Int=>valB x.1 x.2)))) (fun i _=>vls.length - (intOf i).toNat)
 case atStart=>exact⟨0,Nat.zero_le _,rfl,_,by simpa using HB'⟩
 case round=>
  clear HB' hc hx7
  obtain⟨k,hk1,rfl,v2,HB⟩:=hrel
  by_cases hlt:k < vls.length
  ·have hfl:=flat_take_len (fun x:Bool×List Int=>valB x.1 x.2) 2004 k vls HF.out
   obtain⟨b1,o1,f,rfl,hcell,hv⟩:=HRl.out.at_ hlt
   have hxl:=HM.out _ (List.getElem_mem hlt)
   obtain⟨x,hx⟩:∃x,x=vls[k]:=⟨_,rfl⟩
   rw [<-hx]at hv hxl
   obtain⟨hf0,A1,c1,hf1,hrd⟩:=hv
   have HD:=zh hrd
   have hd0:=HB.out.buf.bel.cell (hcell 0 (by omega))
   rw [hf0,Nat.add_zero]at hd0
   have hd1:=HB.out.buf.bel.cell (hcell 1 (by omega))
   rw [hf1]at hd1
   have HX:=zh hx
   clear hx hcell hf0 hf1 hrd
   go_wp2_with (go_at_call 42;refine(value_w x.1 A1 c1 x.2 (HB.out.ext (ext_alloc _ _)) HD.out ul4).mono ?_;rintro e w1 ⟨rfl,v1,hn⟩;replace HB:=zh hn;clear hn)
   go_roundw
   case rel=>
    refine⟨k+1,by omega,by go_num,v1,?_⟩
    rw [take_flat _ vls k hlt,<-HX.out]
    have hz:=HB.out
    simp only [List.append_assoc,sfB,prB,erB]at hz⊢
    exact zh hz
   case measure=>simp [intOf];omega
  ·obtain rfl:k=vls.length:=by omega
   have hfl:=flat_len (fun x:Bool×List Int=>valB x.1 x.2) 2004 vls HF.out
   rw [List.take_length]at HB
   have hc:=HB.out.cell
   go_wp2
   go_ret
   exact gave_of HB.out (by have hz:=HE.out;subst hz;rw [HP0.out];first|done|(simp only [List.nil_append,List.append_assoc,List.append_nil]))
theorem body57 (a b:ByteArray)(n:Int)(vf vr vt vv vd vw vp vl:Value)(w:World)(fs:List Sf)(A_l:Option Addr)(c_l:Nat)(hvl:vl=.slice A_l fs.length c_l)(hr:RdM 7 isSf w (.slice A_l fs.length c_l) fs)(hl:fs.length<=1000)(hm:∀y∈fs,y.name.size<=1000/\0<=y.tab/\y.tab < 4294967296/\0<=y.typ/\y.typ < 4294967296)(R:List Int)(hE:(numB (fs.length:Int) 2++fs.flatMap sfB)=R):
 Calls Tryz.prog 16 #[.agg #[.int .i64 57,.string a,.string b,.int .u32 n,vf,vr,vt,vv,vd,vw,vp,vl]] w (Gave w R):=by
 subst hvl
 have HRl:=zh (hr.ext (ext_alloc w (.cells #[.int .i64 57,.string a,.string b,.int .u32 n,vf,vr,vt,vv,vd,vw,vp,.slice A_l fs.length c_l] 37)) (fun _ _ h=>h))
 clear hr
 have HM:=zh hm
 have HF:=zh (show∀y∈fs,(sfB y).length<=1021 from fun y hy=>(by have:=(hm y hy).1;simp only [sfB,txt,List.length_append,List.length_cons,List.length_nil,sby_length,numB_len];omega))
 clear hm
 have hx11:True:=trivial
 have h0:=Wr.start1 w (.cells #[.int .i64 57,.string a,.string b,.int .u32 n,vf,vr,vt,vv,vd,vw,vp,.slice A_l fs.length c_l] 37)
 have hc:=h0.cell
 have HB:=zh h0
 clear h0
 have HE:=zh hE
 clear hE
 go_enter Tryz.func16,Tryz.ntmps16
 go_wp2_with (first|(go_at_call 36;refine(number_w 2 (by omega) _ HB.out ul4).mono ?_;rintro e w1 ⟨rfl,v1,hn⟩;clear hc;have hc:=hn.cell;clear hx11;have hx11:=box_at hn.buf.bel 11 (.slice A_l fs.length c_l) rfl;replace HB:=zh hn;clear hn))
 obtain⟨PRE0,HB',HP0⟩:∃P,Hid (Wr (Lt (w.alloc (.cells #[.int .i64 57,.string a,.string b,.int .u32 n,vf,vr,vt,vv,vd,vw,vp,.slice A_l fs.length c_l] 37)).heap.size) (w.alloc (.cells #[.int .i64 57,.string a,.string b,.int .u32 n,vf,vr,vt,vv,vd,vw,vp,.slice A_l fs.length c_l] 37)) _ (w.heap.size+1+1) _ (P))/\Hid (P=numB (fs.length:Int) 2):=⟨_,HB,zh rfl⟩
 clear HB
 have hpl0:PRE0.length<=2:=by rw [HP0.out];first|omega|(simp only [List.length_append,List.length_nil,List.length_cons,txt,sby_length,numB_len,sfB] <;> omega)
 go_loopw [357] (fun i wr=>∃k:Nat,k<=fs.length/\i=.int .i64 k/\∃v',Hid (Wr (Lt (w.alloc (.cells #[.int .i64 57,.string a,.string b,.int .u32 n,vf,vr,vt,vv,vd,vw,vp,.slice A_l fs.length c_l] 37)).heap.size) (w.alloc (.cells #[.int .i64 57,.string a,.string b,.int .u32 n,vf,vr,vt,vv,vd,vw,vp,.slice A_l fs.length c_l] 37)) wr (w.heap.size+1+1) v' (PRE0++(fs.take k).flatMap sfB))) (fun i _=>fs.length - (intOf i).toNat)
 case atStart=>exact⟨0,Nat.zero_le _,rfl,_,by simpa using HB'⟩
 case round=>
  clear HB' hc hx11
  obtain⟨k,hk1,rfl,v2,HB⟩:=hrel
  by_cases hlt:k < fs.length
  ·have hfl:=flat_take_len sfB 1021 k fs HF.out
   obtain⟨b1,o1,f,rfl,hcell,hv⟩:=HRl.out.at_ hlt
   have hxl:=HM.out _ (List.getElem_mem hlt)
   obtain⟨x,hx⟩:∃x,x=fs[k]:=⟨_,rfl⟩
   rw [<-hx]at hv hxl
   obtain⟨hf0,hf1,hf2,hf3,hf4,hf5,hf6⟩:=hv
   have hw1:wrap64 x.tab=x.tab:=by unfold wrap64;omega
   have hw2:wrap64 x.typ=x.typ:=by unfold wrap64;omega
   have hd0:=HB.out.buf.bel.cell (hcell 0 (by omega))
   rw [hf0,Nat.add_zero]at hd0
   have hd1:=HB.out.buf.bel.cell (hcell 1 (by omega))
   rw [hf1]at hd1
   have hd2:=HB.out.buf.bel.cell (hcell 2 (by omega))
   rw [hf2]at hd2
   have hd3:=HB.out.buf.bel.cell (hcell 3 (by omega))
   rw [hf3]at hd3
   have hd4:=HB.out.buf.bel.cell (hcell 4 (by omega))
   rw [hf4]at hd4
   have hd5:=HB.out.buf.bel.cell (hcell 5 (by omega))
   rw [hf5]at hd5
   have hd6:=HB.out.buf.bel.cell (hcell 6 (by omega))
   rw [hf6]at hd6
   have HX:=zh hx
   clear hx hcell hf0 hf1 hf2 hf3 hf4 hf5 hf6
   have HB0:=HB
   replace HB:=zh (HB0.out.box (.cells #[.string x.name,.int .u32 x.tab,.int .i64 x.col,.int .u32 x.typ,.int .i64 x.siz,.int .i64 x.mdf,.int .i64 x.fmt] 63))
   have hb0:True:=trivial
   have hb1:True:=trivial
   have hb2:True:=trivial
   have hb3:True:=trivial
   have hb4:True:=trivial
   have hb5:True:=trivial
   have hb6:True:=trivial
   go_wp2_with (first|(go_at_call 38;refine(text_w _ HB.out ul4).mono ?_;rintro e w1 ⟨rfl,v1,hn⟩;clear hb0;have hb0:=(hn.buf.boxed 0).trans (show _=some (.string x.name)from rfl);clear hb1;have hb1:=(hn.buf.boxed 1).trans (show _=some (.int .u32 x.tab)from rfl);clear hb2;have hb2:=(hn.buf.boxed 2).trans (show _=some (.int .i64 x.col)from rfl);clear hb3;have hb3:=(hn.buf.boxed 3).trans (show _=some (.int .u32 x.typ)from rfl);clear hb4;have hb4:=(hn.buf.boxed 4).trans (show _=some (.int .i64 x.siz)from rfl);clear hb5;have hb5:=(hn.buf.boxed 5).trans (show _=some (.int .i64 x.mdf)from rfl);clear hb6;have hb6:=(hn.buf.boxed 6).trans (show _=some (.int .i64 x.fmt)from rfl);replace HB:=zh hn;clear hn)|(go_at_call 36;(first|refine(number_v _ 4 (by decide) (by omega) _ HB.out ul4).mono ?_|refine(number_v _ 2 (by decide) (by omega) _ HB.out ul4).mono ?_);rintro e w1 ⟨rfl,v1,hn⟩;clear hb0;have hb0:=(hn.buf.boxed 0).trans (show _=some (.string x.name)from rfl);clear hb1;have hb1:=(hn.buf.boxed 1).trans (show _=some (.int .u32 x.tab)from rfl);clear hb2;have hb2:=(hn.buf.boxed 2).trans (show _=some (.int .i64 x.col)from rfl);clear hb3;have hb3:=(hn.buf.boxed 3).trans (show _=some (.int .u32 x.typ)from rfl);clear hb4;have hb4:=(hn.buf.boxed 4).trans (show _=some (.int .i64 x.siz)from rfl);clear hb5;have hb5:=(hn.buf.boxed 5).trans (show _=some (.int .i64 x.mdf)from rfl);clear hb6;have hb6:=(hn.buf.boxed 6).trans (show _=some (.int .i64 x.fmt)from rfl);replace HB:=zh hn;clear hn))
   replace HB:=zh (HB0.out.unbox HB.out)
   go_roundw
   case rel=>
    refine⟨k+1,by omega,by go_num,v1,?_⟩
    rw [take_flat _ fs k hlt,<-HX.out]
    have hz:=HB.out
    simp only [List.append_assoc,sfB,prB,erB]at hz⊢
    exact zh hz
   case measure=>simp [intOf];omega
  ·obtain rfl:k=fs.length:=by omega
   have hfl:=flat_len sfB 1021 fs HF.out
   rw [List.take_length]at HB
   have hc:=HB.out.cell
   go_wp2
   go_ret
   exact gave_of HB.out (by have hz:=HE.out;subst hz;rw [HP0.out];first|done|(simp only [List.nil_append,List.append_assoc,List.append_nil]))
theorem body18 (a b:ByteArray)(n:Int)(vf vr vt vv vd vw vp vl:Value)(w:World)(hn:0<=n/\n < 4294967296)(ps:List (ByteArray×ByteArray))(A_l:Option Addr)(c_l:Nat)(hvl:vp=.slice A_l ps.length c_l)(hr:RdM 2 isPr w (.slice A_l ps.length c_l) ps)(hl:ps.length<=1000)(hm:∀y∈ps,y.1.size<=1000/\y.2.size<=1000)(R:List Int)(hE:(numB n 4++ps.flatMap prB++numB 0 1)=R):
 Calls Tryz.prog 16 #[.agg #[.int .i64 18,.string a,.string b,.int .u32 n,vf,vr,vt,vv,vd,vw,vp,vl]] w (Gave w R):=by
 subst hvl
 have hwn:wrap64 n=n:=by unfold wrap64;omega
 have HRl:=zh (hr.ext (ext_alloc w (.cells #[.int .i64 18,.string a,.string b,.int .u32 n,vf,vr,vt,vv,vd,vw,.slice A_l ps.length c_l,vl] 37)) (fun _ _ h=>h))
 clear hr
 have HM:=zh hm
 have HF:=zh (show∀y∈ps,(prB y).length<=2002 from fun y hy=>(by have:=hm y hy;simp only [prB,erB,txt,List.length_append,List.length_cons,List.length_nil,sby_length];omega))
 clear hm
 have hx10:True:=trivial
 have hx3:True:=trivial
 have h0:=Wr.start1 w (.cells #[.int .i64 18,.string a,.string b,.int .u32 n,vf,vr,vt,vv,vd,vw,.slice A_l ps.length c_l,vl] 37)
 have hc:=h0.cell
 have HB:=zh h0
 clear h0
 have HE:=zh hE
 clear hE
 go_enter Tryz.func16,Tryz.ntmps16
 go_wp2_with (first|(go_at_call 36;refine(number_w 4 (by omega) _ HB.out ul4).mono ?_;rintro e w1 ⟨rfl,v1,hn⟩;clear hc;have hc:=hn.cell;clear hx10;have hx10:=box_at hn.buf.bel 10 (.slice A_l ps.length c_l) rfl;clear hx3;have hx3:=box_at hn.buf.bel 3 (.int .u32 n) rfl;replace HB:=zh hn;clear hn))
 obtain⟨PRE0,HB',HP0⟩:∃P,Hid (Wr (Lt (w.alloc (.cells #[.int .i64 18,.string a,.string b,.int .u32 n,vf,vr,vt,vv,vd,vw,.slice A_l ps.length c_l,vl] 37)).heap.size) (w.alloc (.cells #[.int .i64 18,.string a,.string b,.int .u32 n,vf,vr,vt,vv,vd,vw,.slice A_l ps.length c_l,vl] 37)) _ (w.heap.size+1+1) _ (P))/\Hid (P=numB n 4):=⟨_,HB,zh rfl⟩
 clear HB
 have hpl0:PRE0.length<=4:=by rw [HP0.out];first|omega|(simp only [List.length_append,List.length_nil,List.length_cons,txt,sby_length,numB_len,sfB] <;> omega)
 go_loopw [168] (fun i wr=>∃k:Nat,k<=ps.length/\i=.int .i64 k/\∃v',Hid (Wr (Lt (w.alloc (.cells #[.int .i64 18,.string a,.string b,.int .u32 n,vf,vr,vt,vv,vd,vw,.slice A_l ps.length c_l,vl] 37)).heap.size) (w.alloc (.cells #[.int .i64 18,.string a,.string b,.int .u32 n,vf,vr,vt,vv,vd,vw,.slice A_l ps.length c_l,vl] 37)) wr (w.heap.size+1+1) v' (PRE0++(ps.take k).flatMap prB))) (fun i _=>ps.length - (intOf i).toNat)
 case atStart=>exact⟨0,Nat.zero_le _,rfl,_,by simpa using HB'⟩
 case round=>
  clear HB' hc hx10 hx3
  obtain⟨k,hk1,rfl,v2,HB⟩:=hrel
  by_cases hlt:k < ps.length
  ·have hfl:=flat_take_len prB 2002 k ps HF.out
   obtain⟨b1,o1,f,rfl,hcell,hv⟩:=HRl.out.at_ hlt
   have hxl:=HM.out _ (List.getElem_mem hlt)
   obtain⟨x,hx⟩:∃x,x=ps[k]:=⟨_,rfl⟩
   rw [<-hx]at hv hxl
   obtain⟨hf0,hf1⟩:=hv
   have hd0:=HB.out.buf.bel.cell (hcell 0 (by omega))
   rw [hf0,Nat.add_zero]at hd0
   have hd1:=HB.out.buf.bel.cell (hcell 1 (by omega))
   rw [hf1]at hd1
   have HX:=zh hx
   clear hx hcell hf0 hf1
   have HB0:=HB
   replace HB:=zh (HB0.out.box (.cells #[.string x.1,.string x.2] 48))
   have hb0:True:=trivial
   have hb1:True:=trivial
   go_wp2_with (first|(go_at_call 38;refine(text_w _ HB.out ul4).mono ?_;rintro e w1 ⟨rfl,v1,hn⟩;clear hb0;have hb0:=(hn.buf.boxed 0).trans (show _=some (.string x.1)from rfl);clear hb1;have hb1:=(hn.buf.boxed 1).trans (show _=some (.string x.2)from rfl);replace HB:=zh hn;clear hn))
   replace HB:=zh (HB0.out.unbox HB.out)
   go_roundw
   case rel=>
    refine⟨k+1,by omega,by go_num,v1,?_⟩
    rw [take_flat _ ps k hlt,<-HX.out]
    have hz:=HB.out
    simp only [List.append_assoc,sfB,prB,erB]at hz⊢
    exact zh hz
   case measure=>simp [intOf];omega
  ·obtain rfl:k=ps.length:=by omega
   have hfl:=flat_len prB 2002 ps HF.out
   rw [List.take_length]at HB
   have hc:=HB.out.cell
   go_wp2_with (go_at_call 36;refine(number_w 1 (by omega) _ HB.out ul4).mono ?_;rintro e w1 ⟨rfl,v1,hn⟩;clear hc;have hc:=hn.cell;replace HB:=zh hn;clear hn)
   go_ret
   exact gave_of HB.out (by have hz:=HE.out;subst hz;rw [HP0.out];first|done|(simp only [List.nil_append,List.append_assoc,List.append_nil]))
end Go.Proofs.YtdenjanihikolaaGreatDoor
