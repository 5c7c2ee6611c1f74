/- Decode on a strict prefix of a body: kinds without a loop. -/
import Derived.Test.YtdenjanihikolaaGreatDoorDqA0
import Derived.Test.YtdenjanihikolaaGreatDoorDqWrd
import Derived.Test.YtdenjanihikolaaGreatDoorDqLtr
import Derived.Test.YtdenjanihikolaaGreatDoorDqMke
import Derived.Test.YtdenjanihikolaaGreatDoorDqBase
import Derived.Laws.IdiomCopy
import Derived.Test.YtdenjanihikolaaGreatDoorDqTa
import Derived.Lib.EndianBits
import Derived.Deep.QuietTactic
import Derived.Deep.Light
import Derived.Test.YtdenjanihikolaaGreatDoorDqPpc
namespace Go.Proofs.YtdenjanihikolaaGreatDoor
set_option linter.unusedVariables false
set_option linter.unusedSimpArgs false
set_option maxRecDepth 100000
open Go.RowKit Og
set_option maxHeartbeats 1000000 in
theorem body57 (a b:ByteArray)(n:Int)(vf vr vt vv vd vw vp vl:Value)(w:World)(fs:List Sf)(A_l:Option Addr)(c_l:Nat)(hvl:vl=.slice A_l fs.length c_l)(hr:RdM 7 isSf w (.slice A_l fs.length c_l) fs)(hl:fs.length<=1000)(hm:∀y∈fs,y.name.size<=1000/\0<=y.tab/\y.tab < 4294967296/\0<=y.typ/\y.typ < 4294967296)(R:List Int)(hE:(numB (fs.length:Int) 2++fs.flatMap sfB)=R):
 Calls Tryz.prog 16 #[.agg #[.int .i64 57,.string a,.string b,.int .u32 n,vf,vr,vt,vv,vd,vw,vp,vl]] w (Gave w R):=by
 subst hvl
 have HRl:=zh (hr.ext (ext_alloc w (.cells #[.int .i64 57,.string a,.string b,.int .u32 n,vf,vr,vt,vv,vd,vw,vp,.slice A_l fs.length c_l] 37)) (fun _ _ h=>h))
 clear hr
 have HM:=zh hm
 have HF:=zh (show∀y∈fs,(sfB y).length<=1021 from fun y hy=>(by have:=(hm y hy).1;simp only [sfB,txt,List.length_append,List.length_cons,List.length_nil,sby_length,numB_len];omega))
 clear hm
 have hx11:True:=trivial
 have h0:=Wr.start1 w (.cells #[.int .i64 57,.string a,.string b,.int .u32 n,vf,vr,vt,vv,vd,vw,vp,.slice A_l fs.length c_l] 37)
 have hc:=h0.cell
 have HB:=zh h0
 clear h0
 have HE:=zh hE
 clear hE
 go_enter Tryz.func16,Tryz.ntmps16
 go_wp2_with (first|(go_at_call 36;refine(number_w 2 (by omega) _ HB.out (by first|omega|(simp only [List.length_append,List.length_nil,List.length_cons,txt,sby_length,numB_len,sfB] <;> omega))).mono ?_;rintro e w1 ⟨rfl,v1,hn⟩;clear hc;have hc:=hn.cell;clear hx11;have hx11:=box_at hn.buf.bel 11 (.slice A_l fs.length c_l) rfl;replace HB:=zh hn;clear hn))
 obtain⟨PRE0,HB',HP0⟩:∃P,Hid (Wr (Lt (w.alloc (.cells #[.int .i64 57,.string a,.string b,.int .u32 n,vf,vr,vt,vv,vd,vw,vp,.slice A_l fs.length c_l] 37)).heap.size) (w.alloc (.cells #[.int .i64 57,.string a,.string b,.int .u32 n,vf,vr,vt,vv,vd,vw,vp,.slice A_l fs.length c_l] 37)) _ (w.heap.size+1+1) _ (P))/\Hid (P=numB (fs.length:Int) 2):=⟨_,HB,zh rfl⟩
 clear HB
 have hpl0:PRE0.length<=2:=by rw [HP0.out];first|omega|(simp only [List.length_append,List.length_nil,List.length_cons,txt,sby_length,numB_len,sfB] <;> omega)
 go_loopw [357] (fun i wr=>∃k:Nat,k<=fs.length/\i=.int .i64 k/\∃v',Hid (Wr (Lt (w.alloc (.cells #[.int .i64 57,.string a,.string b,.int .u32 n,vf,vr,vt,vv,vd,vw,vp,.slice A_l fs.length c_l] 37)).heap.size) (w.alloc (.cells #[.int .i64 57,.string a,.string b,.int .u32 n,vf,vr,vt,vv,vd,vw,vp,.slice A_l fs.length c_l] 37)) wr (w.heap.size+1+1) v' (PRE0++(fs.take k).flatMap sfB))) (fun i _=>fs.length - (intOf i).toNat)
 case atStart=>exact⟨0,Nat.zero_le _,rfl,_,by simpa using HB'⟩
 case round=>
  clear HB' hc hx11
  obtain⟨k,hk1,rfl,v2,HB⟩:=hrel
  by_cases hlt:k < fs.length
  ·have hfl:=flat_take_len sfB 1021 k fs HF.out
   obtain⟨b1,o1,f,rfl,hcell,hv⟩:=HRl.out.at_ hlt
   have hxl:=HM.out _ (List.getElem_mem hlt)
   obtain⟨x,hx⟩:∃x,x=fs[k]:=⟨_,rfl⟩
   rw [<-hx]at hv hxl
   obtain⟨hf0,hf1,hf2,hf3,hf4,hf5,hf6⟩:=hv
   have hw1:wrap64 x.tab=x.tab:=by unfold wrap64;omega
   have hw2:wrap64 x.typ=x.typ:=by unfold wrap64;omega
   have hd0:=HB.out.buf.bel.cell (hcell 0 (by omega))
   rw [hf0,Nat.add_zero]at hd0
   have hd1:=HB.out.buf.bel.cell (hcell 1 (by omega))
   rw [hf1]at hd1
   have hd2:=HB.out.buf.bel.cell (hcell 2 (by omega))
   rw [hf2]at hd2
   have hd3:=HB.out.buf.bel.cell (hcell 3 (by omega))
   rw [hf3]at hd3
   have hd4:=HB.out.buf.bel.cell (hcell 4 (by omega))
   rw [hf4]at hd4
   have hd5:=HB.out.buf.bel.cell (hcell 5 (by omega))
   rw [hf5]at hd5
   have hd6:=HB.out.buf.bel.cell (hcell 6 (by omega))
   rw [hf6]at hd6
   have HX:=zh hx
   clear hx hcell hf0 hf1 hf2 hf3 hf4 hf5 hf6
   have HB0:=HB
   replace HB:=zh (HB0.out.box (.cells #[.string x.name,.int .u32 x.tab,.int .i64 x.col,.int .u32 x.typ,.int .i64 x.siz,.int .i64 x.mdf,.int .i64 x.fmt] 63))
   have hb0:True:=trivial
   have hb1:True:=trivial
   have hb2:True:=trivial
   have hb3:True:=trivial
   have hb4:True:=trivial
   have hb5:True:=trivial
   have hb6:True:=trivial
   go_wp2_with (first|(go_at_call 38;refine(text_w _ HB.out (by first|omega|(simp only [List.length_append,List.length_nil,List.length_cons,txt,sby_length,numB_len,sfB] <;> omega))).mono ?_;rintro e w1 ⟨rfl,v1,hn⟩;clear hb0;have hb0:=(hn.buf.boxed 0).trans (show _=some (.string x.name)from rfl);clear hb1;have hb1:=(hn.buf.boxed 1).trans (show _=some (.int .u32 x.tab)from rfl);clear hb2;have hb2:=(hn.buf.boxed 2).trans (show _=some (.int .i64 x.col)from rfl);clear hb3;have hb3:=(hn.buf.boxed 3).trans (show _=some (.int .u32 x.typ)from rfl);clear hb4;have hb4:=(hn.buf.boxed 4).trans (show _=some (.int .i64 x.siz)from rfl);clear hb5;have hb5:=(hn.buf.boxed 5).trans (show _=some (.int .i64 x.mdf)from rfl);clear hb6;have hb6:=(hn.buf.boxed 6).trans (show _=some (.int .i64 x.fmt)from rfl);replace HB:=zh hn;clear hn)|(go_at_call 36;(first|refine(number_v _ 4 (by decide) (by omega) _ HB.out (by first|omega|(simp only [List.length_append,List.length_nil,List.length_cons,txt,sby_length,numB_len,sfB] <;> omega))).mono ?_|refine(number_v _ 2 (by decide) (by omega) _ HB.out (by first|omega|(simp only [List.length_append,List.length_nil,List.length_cons,txt,sby_length,numB_len,sfB] <;> omega))).mono ?_);rintro e w1 ⟨rfl,v1,hn⟩;clear hb0;have hb0:=(hn.buf.boxed 0).trans (show _=some (.string x.name)from rfl);clear hb1;have hb1:=(hn.buf.boxed 1).trans (show _=some (.int .u32 x.tab)from rfl);clear hb2;have hb2:=(hn.buf.boxed 2).trans (show _=some (.int .i64 x.col)from rfl);clear hb3;have hb3:=(hn.buf.boxed 3).trans (show _=some (.int .u32 x.typ)from rfl);clear hb4;have hb4:=(hn.buf.boxed 4).trans (show _=some (.int .i64 x.siz)from rfl);clear hb5;have hb5:=(hn.buf.boxed 5).trans (show _=some (.int .i64 x.mdf)from rfl);clear hb6;have hb6:=(hn.buf.boxed 6).trans (show _=some (.int .i64 x.fmt)from rfl);replace HB:=zh hn;clear hn))
   replace HB:=zh (HB0.out.unbox HB.out)
   go_roundw
   case rel=>
    refine⟨k+1,by omega,by go_num,v1,?_⟩
    rw [take_flat _ fs k hlt,<-HX.out]
    have hz:=HB.out
    simp only [List.append_assoc,sfB,prB,erB]at hz⊢
    exact zh hz
   case measure=>simp [intOf];omega
  ·obtain rfl:k=fs.length:=by omega
   have hfl:=flat_len sfB 1021 fs HF.out
   rw [List.take_length]at HB
   have hc:=HB.out.cell
   go_wp2
   go_ret
   exact gave_of HB.out (by have hz:=HE.out;subst hz;rw [HP0.out];first|done|(simp only [List.nil_append,List.append_assoc,List.append_nil]))
open Go.RowKit
theorem small01 {l:List Int} (h:∀y∈l,y=0∨y=1):∀y∈l,0<=y/\y < 32768:=fun y hy=>by
 rcases h y hy with rfl|rfl <;> omega
theorem info249:(Tryz.prog.info? 249).map (fun i=>(i.zero,i.size,i.bytes))=some (some (.agg #[.slice none 0 0,.int .u32 0,.int .u16 0,.int .u32 0,.int .i16 0,.int .i32 0,.int .i16 0]),7,48):=by kernel_rfl
def toFd (x:Sf):Fd:=⟨sby x.name,x.tab,x.col,x.typ,x.siz,x.mdf,x.fmt⟩
def slB (u:Value):Nat:=match slA u with|some a=>a.block|none=>0
theorem sfs_len (l:List Sf)(h:∀y∈l,y.name.size<=200)(hl:l.length<=20):(numB (l.length:Int) 2++l.flatMap sfB).length<=100000000000:=by
 have h1:=flat_len sfB 221 l fun x hx=>by
  have:=h x hx
  simp only [sfB,txt,List.length_append,List.length_cons,List.length_nil,sby_length,numB_len]
  omega
 simp only [List.length_append,numB_len]
 omega
set_option maxHeartbeats 1000000 in
theorem body18 (a b:ByteArray)(n:Int)(vf vr vt vv vd vw vp vl:Value)(w:World)(hn:0<=n/\n < 4294967296)(ps:List (ByteArray×ByteArray))(A_l:Option Addr)(c_l:Nat)(hvl:vp=.slice A_l ps.length c_l)(hr:RdM 2 isPr w (.slice A_l ps.length c_l) ps)(hl:ps.length<=1000)(hm:∀y∈ps,y.1.size<=1000/\y.2.size<=1000)(R:List Int)(hE:(numB n 4++ps.flatMap prB++numB 0 1)=R):
 Calls Tryz.prog 16 #[.agg #[.int .i64 18,.string a,.string b,.int .u32 n,vf,vr,vt,vv,vd,vw,vp,vl]] w (Gave w R):=by
 subst hvl
 have hwn:wrap64 n=n:=by unfold wrap64;omega
 have HRl:=zh (hr.ext (ext_alloc w (.cells #[.int .i64 18,.string a,.string b,.int .u32 n,vf,vr,vt,vv,vd,vw,.slice A_l ps.length c_l,vl] 37)) (fun _ _ h=>h))
 clear hr
 have HM:=zh hm
 have HF:=zh (show∀y∈ps,(prB y).length<=2002 from fun y hy=>(by have:=hm y hy;simp only [prB,erB,txt,List.length_append,List.length_cons,List.length_nil,sby_length];omega))
 clear hm
 have hx10:True:=trivial
 have hx3:True:=trivial
 have h0:=Wr.start1 w (.cells #[.int .i64 18,.string a,.string b,.int .u32 n,vf,vr,vt,vv,vd,vw,.slice A_l ps.length c_l,vl] 37)
 have hc:=h0.cell
 have HB:=zh h0
 clear h0
 have HE:=zh hE
 clear hE
 go_enter Tryz.func16,Tryz.ntmps16
 go_wp2_with (first|(go_at_call 36;refine(number_w 4 (by omega) _ HB.out (by first|omega|(simp only [List.length_append,List.length_nil,List.length_cons,txt,sby_length,numB_len,sfB] <;> omega))).mono ?_;rintro e w1 ⟨rfl,v1,hn⟩;clear hc;have hc:=hn.cell;clear hx10;have hx10:=box_at hn.buf.bel 10 (.slice A_l ps.length c_l) rfl;clear hx3;have hx3:=box_at hn.buf.bel 3 (.int .u32 n) rfl;replace HB:=zh hn;clear hn))
 obtain⟨PRE0,HB',HP0⟩:∃P,Hid (Wr (Lt (w.alloc (.cells #[.int .i64 18,.string a,.string b,.int .u32 n,vf,vr,vt,vv,vd,vw,.slice A_l ps.length c_l,vl] 37)).heap.size) (w.alloc (.cells #[.int .i64 18,.string a,.string b,.int .u32 n,vf,vr,vt,vv,vd,vw,.slice A_l ps.length c_l,vl] 37)) _ (w.heap.size+1+1) _ (P))/\Hid (P=numB n 4):=⟨_,HB,zh rfl⟩
 clear HB
 have hpl0:PRE0.length<=4:=by rw [HP0.out];first|omega|(simp only [List.length_append,List.length_nil,List.length_cons,txt,sby_length,numB_len,sfB] <;> omega)
 go_loopw [168] (fun i wr=>∃k:Nat,k<=ps.length/\i=.int .i64 k/\∃v',Hid (Wr (Lt (w.alloc (.cells #[.int .i64 18,.string a,.string b,.int .u32 n,vf,vr,vt,vv,vd,vw,.slice A_l ps.length c_l,vl] 37)).heap.size) (w.alloc (.cells #[.int .i64 18,.string a,.string b,.int .u32 n,vf,vr,vt,vv,vd,vw,.slice A_l ps.length c_l,vl] 37)) wr (w.heap.size+1+1) v' (PRE0++(ps.take k).flatMap prB))) (fun i _=>ps.length - (intOf i).toNat)
 case atStart=>exact⟨0,Nat.zero_le _,rfl,_,by simpa using HB'⟩
 case round=>
  clear HB' hc hx10 hx3
  obtain⟨k,hk1,rfl,v2,HB⟩:=hrel
  by_cases hlt:k < ps.length
  ·have hfl:=flat_take_len prB 2002 k ps HF.out
   obtain⟨b1,o1,f,rfl,hcell,hv⟩:=HRl.out.at_ hlt
   have hxl:=HM.out _ (List.getElem_mem hlt)
   obtain⟨x,hx⟩:∃x,x=ps[k]:=⟨_,rfl⟩
   rw [<-hx]at hv hxl
   obtain⟨hf0,hf1⟩:=hv
   have hd0:=HB.out.buf.bel.cell (hcell 0 (by omega))
   rw [hf0,Nat.add_zero]at hd0
   have hd1:=HB.out.buf.bel.cell (hcell 1 (by omega))
   rw [hf1]at hd1
   have HX:=zh hx
   clear hx hcell hf0 hf1
   have HB0:=HB
   replace HB:=zh (HB0.out.box (.cells #[.string x.1,.string x.2] 48))
   have hb0:True:=trivial
   have hb1:True:=trivial
   go_wp2_with (first|(go_at_call 38;refine(text_w _ HB.out (by first|omega|(simp only [List.length_append,List.length_nil,List.length_cons,txt,sby_length,numB_len,sfB] <;> omega))).mono ?_;rintro e w1 ⟨rfl,v1,hn⟩;clear hb0;have hb0:=(hn.buf.boxed 0).trans (show _=some (.string x.1)from rfl);clear hb1;have hb1:=(hn.buf.boxed 1).trans (show _=some (.string x.2)from rfl);replace HB:=zh hn;clear hn))
   replace HB:=zh (HB0.out.unbox HB.out)
   go_roundw
   case rel=>
    refine⟨k+1,by omega,by go_num,v1,?_⟩
    rw [take_flat _ ps k hlt,<-HX.out]
    have hz:=HB.out
    simp only [List.append_assoc,sfB,prB,erB]at hz⊢
    exact zh hz
   case measure=>simp [intOf];omega
  ·obtain rfl:k=ps.length:=by omega
   have hfl:=flat_len prB 2002 ps HF.out
   rw [List.take_length]at HB
   have hc:=HB.out.cell
   go_wp2_with (go_at_call 36;refine(number_w 1 (by omega) _ HB.out (by first|omega|(simp only [List.length_append,List.length_nil,List.length_cons,txt,sby_length,numB_len,sfB] <;> omega))).mono ?_;rintro e w1 ⟨rfl,v1,hn⟩;clear hc;have hc:=hn.cell;replace HB:=zh hn;clear hn)
   go_ret
   exact gave_of HB.out (by have hz:=HE.out;subst hz;rw [HP0.out];first|done|(simp only [List.nil_append,List.append_assoc,List.append_nil]))
theorem conv_str (w:World)(s:ByteArray)(hs:s.size<=maxLen):∃W5 A5 c5,(convert 9 26 (.string s)).run Tryz.prog w=.ok (.slice A5 s.size c5) W5/\Ext w W5/\RdB W5 (.slice A5 s.size c5) (sby s):=⟨_,_,_,run_bytes s w,ext_bytes w s,RdB.str w s hs⟩
set_option maxHeartbeats 1000000 in
theorem body47 (a b:ByteArray)(n:Int)(vf vr vt vv vd vw vp vl:Value)(w:World)(ps:List (ByteArray×ByteArray))(A_l:Option Addr)(c_l:Nat)(hvl:vp=.slice A_l ps.length c_l)(hr:RdM 2 isPr w (.slice A_l ps.length c_l) ps)(hl:ps.length<=1000)(hm:∀y∈ps,y.1.size<=1000/\y.2.size<=1000)(R:List Int)(hE:(ps.flatMap erB++numB 0 1)=R):
 Calls Tryz.prog 16 #[.agg #[.int .i64 47,.string a,.string b,.int .u32 n,vf,vr,vt,vv,vd,vw,vp,vl]] w (Gave w R):=by
 subst hvl
 have HRl:=zh (hr.ext (ext_alloc w (.cells #[.int .i64 47,.string a,.string b,.int .u32 n,vf,vr,vt,vv,vd,vw,.slice A_l ps.length c_l,vl] 37)) (fun _ _ h=>h))
 clear hr
 have HM:=zh hm
 have HF:=zh (show∀y∈ps,(erB y).length<=2002 from fun y hy=>(by have:=hm y hy;simp only [prB,erB,txt,List.length_append,List.length_cons,List.length_nil,sby_length];omega))
 clear hm
 have hx10:True:=trivial
 have h0:=Wr.start1 w (.cells #[.int .i64 47,.string a,.string b,.int .u32 n,vf,vr,vt,vv,vd,vw,.slice A_l ps.length c_l,vl] 37)
 have hc:=h0.cell
 have HB:=zh h0
 clear h0
 have HE:=zh hE
 clear hE
 go_enter Tryz.func16,Tryz.ntmps16
 go_wp2
 obtain⟨PRE0,HB',HP0⟩:∃P,Hid (Wr (Lt (w.alloc (.cells #[.int .i64 47,.string a,.string b,.int .u32 n,vf,vr,vt,vv,vd,vw,.slice A_l ps.length c_l,vl] 37)).heap.size) (w.alloc (.cells #[.int .i64 47,.string a,.string b,.int .u32 n,vf,vr,vt,vv,vd,vw,.slice A_l ps.length c_l,vl] 37)) _ (w.heap.size+1+1) _ (P))/\Hid (P=[]):=⟨_,HB,zh rfl⟩
 clear HB
 have hpl0:PRE0.length<=4:=by rw [HP0.out];first|omega|(simp only [List.length_append,List.length_nil,List.length_cons,txt,sby_length,numB_len,sfB] <;> omega)
 go_loopw [280] (fun i wr=>∃k:Nat,k<=ps.length/\i=.int .i64 k/\∃v',Hid (Wr (Lt (w.alloc (.cells #[.int .i64 47,.string a,.string b,.int .u32 n,vf,vr,vt,vv,vd,vw,.slice A_l ps.length c_l,vl] 37)).heap.size) (w.alloc (.cells #[.int .i64 47,.string a,.string b,.int .u32 n,vf,vr,vt,vv,vd,vw,.slice A_l ps.length c_l,vl] 37)) wr (w.heap.size+1+1) v' (PRE0++(ps.take k).flatMap erB))) (fun i _=>ps.length - (intOf i).toNat)
 case atStart=>exact⟨0,Nat.zero_le _,rfl,_,by simpa using HB'⟩
 case round=>
  clear HB' hc hx10
  obtain⟨k,hk1,rfl,v2,HB⟩:=hrel
  by_cases hlt:k < ps.length
  ·have hfl:=flat_take_len erB 2002 k ps HF.out
   obtain⟨b1,o1,f,rfl,hcell,hv⟩:=HRl.out.at_ hlt
   have hxl:=HM.out _ (List.getElem_mem hlt)
   obtain⟨x,hx⟩:∃x,x=ps[k]:=⟨_,rfl⟩
   rw [<-hx]at hv hxl
   obtain⟨hf0,hf1⟩:=hv
   have hd0:=HB.out.buf.bel.cell (hcell 0 (by omega))
   rw [hf0,Nat.add_zero]at hd0
   have hd1:=HB.out.buf.bel.cell (hcell 1 (by omega))
   rw [hf1]at hd1
   have HX:=zh hx
   clear hx hcell hf0 hf1
   have HB0:=HB
   replace HB:=zh (HB0.out.box (.cells #[.string x.1,.string x.2] 48))
   have hb0:True:=trivial
   have hb1:True:=trivial
   obtain⟨W5,A5,c5,hcv,hx5,hr5⟩:=conv_str (wr.alloc (.cells #[.string x.1,.string x.2] 48)) x.1 (by unfold maxLen;omega)
   have HX5:=zh hx5
   have HR5:=zh hr5
   clear hx5 hr5
   go_wp2_with (first|(go_at_call 38;refine(text_w _ HB.out (by first|omega|(simp only [List.length_append,List.length_nil,List.length_cons,txt,sby_length,numB_len,sfB] <;> omega))).mono ?_;rintro e w1 ⟨rfl,v1,hn⟩;clear hb0;have hb0:=(hn.buf.boxed 0).trans (show _=some (.string x.1)from rfl);clear hb1;have hb1:=(hn.buf.boxed 1).trans (show _=some (.string x.2)from rfl);replace HB:=zh hn;clear hn)|(go_at_call 37;refine(bytes_w (HB.out.ext HX5.out) HR5.out (by first|omega|(simp only [List.length_append,List.length_nil,List.length_cons,txt,sby_length,numB_len,sfB] <;> omega))).mono ?_;rintro e w1 ⟨rfl,v1,hn⟩;clear hb0;have hb0:=(hn.buf.boxed 0).trans (show _=some (.string x.1)from rfl);clear hb1;have hb1:=(hn.buf.boxed 1).trans (show _=some (.string x.2)from rfl);replace HB:=zh hn;clear hn))
   replace HB:=zh (HB0.out.unbox HB.out)
   go_roundw
   case rel=>
    refine⟨k+1,by omega,by go_num,v1,?_⟩
    rw [take_flat _ ps k hlt,<-HX.out]
    have hz:=HB.out
    simp only [List.append_assoc,sfB,prB,erB]at hz⊢
    exact zh hz
   case measure=>simp [intOf];omega
  ·obtain rfl:k=ps.length:=by omega
   have hfl:=flat_len erB 2002 ps HF.out
   rw [List.take_length]at HB
   have hc:=HB.out.cell
   go_wp2_with (go_at_call 36;refine(number_w 1 (by omega) _ HB.out (by first|omega|(simp only [List.length_append,List.length_nil,List.length_cons,txt,sby_length,numB_len,sfB] <;> omega))).mono ?_;rintro e w1 ⟨rfl,v1,hn⟩;clear hc;have hc:=hn.cell;replace HB:=zh hn;clear hn)
   go_ret
   exact gave_of HB.out (by have hz:=HE.out;subst hz;rw [HP0.out];first|done|(simp only [List.nil_append,List.append_assoc,List.append_nil]))
set_option maxHeartbeats 1000000 in
theorem body48 (a b:ByteArray)(n:Int)(vf vr vt vv vd vw vp vl:Value)(w:World)(ps:List (ByteArray×ByteArray))(A_l:Option Addr)(c_l:Nat)(hvl:vp=.slice A_l ps.length c_l)(hr:RdM 2 isPr w (.slice A_l ps.length c_l) ps)(hl:ps.length<=1000)(hm:∀y∈ps,y.1.size<=1000/\y.2.size<=1000)(R:List Int)(hE:(ps.flatMap erB++numB 0 1)=R):
 Calls Tryz.prog 16 #[.agg #[.int .i64 48,.string a,.string b,.int .u32 n,vf,vr,vt,vv,vd,vw,vp,vl]] w (Gave w R):=by
 subst hvl
 have HRl:=zh (hr.ext (ext_alloc w (.cells #[.int .i64 48,.string a,.string b,.int .u32 n,vf,vr,vt,vv,vd,vw,.slice A_l ps.length c_l,vl] 37)) (fun _ _ h=>h))
 clear hr
 have HM:=zh hm
 have HF:=zh (show∀y∈ps,(erB y).length<=2002 from fun y hy=>(by have:=hm y hy;simp only [prB,erB,txt,List.length_append,List.length_cons,List.length_nil,sby_length];omega))
 clear hm
 have hx10:True:=trivial
 have h0:=Wr.start1 w (.cells #[.int .i64 48,.string a,.string b,.int .u32 n,vf,vr,vt,vv,vd,vw,.slice A_l ps.length c_l,vl] 37)
 have hc:=h0.cell
 have HB:=zh h0
 clear h0
 have HE:=zh hE
 clear hE
 go_enter Tryz.func16,Tryz.ntmps16
 go_wp2
 obtain⟨PRE0,HB',HP0⟩:∃P,Hid (Wr (Lt (w.alloc (.cells #[.int .i64 48,.string a,.string b,.int .u32 n,vf,vr,vt,vv,vd,vw,.slice A_l ps.length c_l,vl] 37)).heap.size) (w.alloc (.cells #[.int .i64 48,.string a,.string b,.int .u32 n,vf,vr,vt,vv,vd,vw,.slice A_l ps.length c_l,vl] 37)) _ (w.heap.size+1+1) _ (P))/\Hid (P=[]):=⟨_,HB,zh rfl⟩
 clear HB
 have hpl0:PRE0.length<=4:=by rw [HP0.out];first|omega|(simp only [List.length_append,List.length_nil,List.length_cons,txt,sby_length,numB_len,sfB] <;> omega)
 go_loopw [280] (fun i wr=>∃k:Nat,k<=ps.length/\i=.int .i64 k/\∃v',Hid (Wr (Lt (w.alloc (.cells #[.int .i64 48,.string a,.string b,.int .u32 n,vf,vr,vt,vv,vd,vw,.slice A_l ps.length c_l,vl] 37)).heap.size) (w.alloc (.cells #[.int .i64 48,.string a,.string b,.int .u32 n,vf,vr,vt,vv,vd,vw,.slice A_l ps.length c_l,vl] 37)) wr (w.heap.size+1+1) v' (PRE0++(ps.take k).flatMap erB))) (fun i _=>ps.length - (intOf i).toNat)
 case atStart=>exact⟨0,Nat.zero_le _,rfl,_,by simpa using HB'⟩
 case round=>
  clear HB' hc hx10
  obtain⟨k,hk1,rfl,v2,HB⟩:=hrel
  by_cases hlt:k < ps.length
  ·have hfl:=flat_take_len erB 2002 k ps HF.out
   obtain⟨b1,o1,f,rfl,hcell,hv⟩:=HRl.out.at_ hlt
   have hxl:=HM.out _ (List.getElem_mem hlt)
   obtain⟨x,hx⟩:∃x,x=ps[k]:=⟨_,rfl⟩
   rw [<-hx]at hv hxl
   obtain⟨hf0,hf1⟩:=hv
   have hd0:=HB.out.buf.bel.cell (hcell 0 (by omega))
   rw [hf0,Nat.add_zero]at hd0
   have hd1:=HB.out.buf.bel.cell (hcell 1 (by omega))
   rw [hf1]at hd1
   have HX:=zh hx
   clear hx hcell hf0 hf1
   have HB0:=HB
   replace HB:=zh (HB0.out.box (.cells #[.string x.1,.string x.2] 48))
   have hb0:True:=trivial
   have hb1:True:=trivial
   obtain⟨W5,A5,c5,hcv,hx5,hr5⟩:=conv_str (wr.alloc (.cells #[.string x.1,.string x.2] 48)) x.1 (by unfold maxLen;omega)
   have HX5:=zh hx5
   have HR5:=zh hr5
   clear hx5 hr5
   go_wp2_with (first|(go_at_call 38;refine(text_w _ HB.out (by first|omega|(simp only [List.length_append,List.length_nil,List.length_cons,txt,sby_length,numB_len,sfB] <;> omega))).mono ?_;rintro e w1 ⟨rfl,v1,hn⟩;clear hb0;have hb0:=(hn.buf.boxed 0).trans (show _=some (.string x.1)from rfl);clear hb1;have hb1:=(hn.buf.boxed 1).trans (show _=some (.string x.2)from rfl);replace HB:=zh hn;clear hn)|(go_at_call 37;refine(bytes_w (HB.out.ext HX5.out) HR5.out (by first|omega|(simp only [List.length_append,List.length_nil,List.length_cons,txt,sby_length,numB_len,sfB] <;> omega))).mono ?_;rintro e w1 ⟨rfl,v1,hn⟩;clear hb0;have hb0:=(hn.buf.boxed 0).trans (show _=some (.string x.1)from rfl);clear hb1;have hb1:=(hn.buf.boxed 1).trans (show _=some (.string x.2)from rfl);replace HB:=zh hn;clear hn))
   replace HB:=zh (HB0.out.unbox HB.out)
   go_roundw
   case rel=>
    refine⟨k+1,by omega,by go_num,v1,?_⟩
    rw [take_flat _ ps k hlt,<-HX.out]
    have hz:=HB.out
    simp only [List.append_assoc,sfB,prB,erB]at hz⊢
    exact zh hz
   case measure=>simp [intOf];omega
  ·obtain rfl:k=ps.length:=by omega
   have hfl:=flat_len erB 2002 ps HF.out
   rw [List.take_length]at HB
   have hc:=HB.out.cell
   go_wp2_with (go_at_call 36;refine(number_w 1 (by omega) _ HB.out (by first|omega|(simp only [List.length_append,List.length_nil,List.length_cons,txt,sby_length,numB_len,sfB] <;> omega))).mono ?_;rintro e w1 ⟨rfl,v1,hn⟩;clear hc;have hc:=hn.cell;replace HB:=zh hn;clear hn)
   go_ret
   exact gave_of HB.out (by have hz:=HE.out;subst hz;rw [HP0.out];first|done|(simp only [List.nil_append,List.append_assoc,List.append_nil]))
/-- Where Decode stands: the copy made or not, the method called or not. -/
def DecK (W0:World) (bk:Nat) (xs:List Int) (D:Value->World->Prop) (L:Nat->Bool) (vs:Nat->Value) (w:World):Prop:=
 if L 9 then D (vs 9) w else Ext W0 w/\(L 5=true->RdB w (vs 5) xs/\(vs 5).ownBlock≠some bk)
theorem DecK.keep {W0:World} {bk:Nat} {xs:List Int} {D:Value->World->Prop} {L:Nat->Bool} {vs:Nat->Value} {w:World} (h:DecK W0 bk xs D L vs w)(i:Nat)(u:Value)(h5:5≠i)(h9:9≠i):DecK W0 bk xs D (updB L i) (upd vs i u) w:=by
 unfold DecK at *
 simpa [updB,upd,h5,h9]using h
/-- bytes that lie outside the block bk -/
def RdN (bk:Nat) (w:World) (v:Value) (xs:List Int):Prop:=RdB w v xs/\(0 < xs.length->v.ownBlock≠some bk)
theorem RdN.at_ {bk:Nat} {w w':World} {v:Value} {xs:List Int} (h:RdN bk w v xs)(hx:ExtBut bk w w'):RdN bk w' v xs:=by
 refine⟨?_,h.2⟩
 obtain⟨⟨A,c,hv,h1,h2,h3⟩,h4⟩:=h
 refine⟨A,c,hv,h1,h2,fun hn=>?_⟩
 obtain⟨b,off,hA,hc⟩:=h3 hn
 refine⟨b,off,hA,fun j hj=>?_⟩
 have hne:b≠bk:=fun e=>h4 hn (by rw [hv,hA,e];rfl)
 exact(cell_of_heap (hx.block b (lt_of_cell (hc j hj)) hne) _).trans (hc j hj)
theorem RdB.len {w:World} {v:Value} {xs:List Int} (h:RdB w v xs):∃A c,v=.slice A xs.length c:=by
 obtain⟨A,c,hv,_⟩:=h
 exact⟨A,c,hv⟩
theorem RdB.sub {w:World} {A A':Option Addr} {c n l:Nat} {xs:List Int} (h:RdB w (.slice A xs.length c) xs)(hl:l+n<=xs.length)(hA:0 < n->A'=A.map (·.add l))(c':Nat)(hc:n<=c'/\c'<=maxLen):RdB w (.slice A' n c') ((xs.drop l).take n):=by
 obtain⟨A0,c0,hv,h1,h2,h3⟩:=h
 obtain⟨rfl,rfl⟩:A=A0/\c=c0:=by simpa using hv
 have hlen:((xs.drop l).take n).length=n:=by rw [List.length_take,List.length_drop];omega
 refine⟨A',c',by rw [hlen],by omega,hc.2,fun hn=>?_⟩
 rw [hlen]at hn
 obtain⟨b,off,hA0,hcell⟩:=h3 (by omega)
 subst hA0
 refine⟨b,off+l,by rw [hA hn];simp [add_lit0],fun j hj=>?_⟩
 rw [hlen]at hj
 have:=hcell (l+j) (by omega)
 rw [show off+l+j=off+(l+j) by omega,this]
 congr 2
 simp [List.getD,List.getElem?_take,List.getElem?_drop,hj]
theorem RdN.sub {bk:Nat} {w:World} {A A':Option Addr} {c n l:Nat} {xs:List Int} (h:RdN bk w (.slice A xs.length c) xs)(hl:l+n<=xs.length)(hA:0 < n->A'=A.map (·.add l))(c':Nat)(hc:n<=c'/\c'<=maxLen):RdN bk w (.slice A' n c') ((xs.drop l).take n):=by
 refine⟨h.1.sub hl hA c' hc,fun hn=>?_⟩
 have hlen:((xs.drop l).take n).length=n:=by rw [List.length_take,List.length_drop];omega
 rw [hlen]at hn
 have h2:=h.2 (by omega)
 rw [hA hn]
 cases A with
 | none=>simp [Value.ownBlock]
 | some a=>
   simp only [Value.ownBlock,Option.map_some]at h2⊢
   have:(a.add l).block=a.block:=by unfold Addr.add;split <;> rfl
   rw [this]
   exact h2
theorem add_zero_map (A:Option Addr):A.map (·.add 0)=A:=by
 cases A with
 | none=>rfl
 | some a=>obtain⟨b,o,p⟩:=a;cases p <;> simp [Addr.add]
theorem RdB.parts {w:World} {A:Option Addr} {n c:Nat} {xs:List Int} (h:RdB w (.slice A n c) xs):n=xs.length/\xs.length<=c/\c<=maxLen:=by
 obtain⟨A0,c0,hv,h1,h2,_⟩:=h
 obtain⟨rfl,rfl,rfl⟩:A=A0/\n=xs.length/\c=c0:=by simpa using hv
 exact⟨rfl,h1,h2⟩
theorem RdB.take {w:World} {A:Option Addr} {n c:Nat} {xs:List Int} (h:RdB w (.slice A n c) xs)(k:Nat)(hk:k<=n):RdB w (.slice A k c) (xs.take k):=by
 obtain⟨rfl,h1,h2⟩:=h.parts
 have:=h.sub (l:=0) (n:=k) (A':=A) (by omega) (fun _=>(add_zero_map A).symm) c (by omega)
 simpa using this
theorem RdN.take {bk:Nat} {w:World} {A:Option Addr} {n c:Nat} {xs:List Int} (h:RdN bk w (.slice A n c) xs)(k:Nat)(hk:k<=n):RdN bk w (.slice A k c) (xs.take k):=by
 refine⟨h.1.take k hk,fun hn=>?_⟩
 rw [List.length_take]at hn
 have e:(Value.slice A k c).ownBlock=(Value.slice A n c).ownBlock:=by cases A <;> rfl
 rw [e]
 exact h.2 (by omega)
theorem RdN.drop {bk:Nat} {w:World} {A:Option Addr} {n c:Nat} {xs:List Int} (h:RdN bk w (.slice A n c) xs)(k:Nat)(hk:k<=n):RdN bk w (.slice (A.map (·.add k)) (n - k) (c - k)) (xs.drop k):=by
 obtain⟨rfl,h1,h2⟩:=h.1.parts
 have:=h.sub (l:=k) (n:=xs.length - k) (A':=A.map (·.add k)) (by omega) (fun _=>rfl) (c - k) (by omega)
 rwa [List.take_of_length_le (by rw [List.length_drop];omega)]at this
theorem RdN.none {bk:Nat} {w:World} (A:Option Addr)(n c:Nat)(xs:List Int)(hx:xs=[])(hn:n=0)(hc:c<=maxLen):RdN bk w (.slice A n c) xs:=by
 subst hx;subst hn
 exact⟨⟨A,c,rfl,Nat.zero_le _,hc,fun h=>absurd h (Nat.lt_irrefl 0)⟩,fun h=>absurd h (Nat.lt_irrefl 0)⟩
/-- A Buffer, made since w1, whose rest is xs. -/
structure Cur (bk:Nat) (w1:World) (bb:Nat) (w:World) (xs:List Int):Prop where
 bel:ExtBut bk w1 w
 lo:w1.heap.size<=bb
 hi:bk < w1.heap.size
 blk:∃A c,w.heap[bb]?=some (.cells #[.slice A xs.length c] 347 (0,0))/\RdN bk w1 (.slice A xs.length c) xs
theorem Cur.ext {bk bb:Nat} {w1 w w':World} {xs:List Int} (h:Cur bk w1 bb w xs)(hx:Ext w w'):Cur bk w1 bb w' xs:=by
 obtain⟨A,c,hb,hr⟩:=h.blk
 exact⟨h.bel.trans hx.but,h.lo,h.hi,A,c,(hx.block bb (lt_of_block hb)).trans hb,hr⟩
theorem Cur.but {bk bb:Nat} {w1 w w':World} {xs:List Int} (h:Cur bk w1 bb w xs)(hx:ExtBut bk w w'):Cur bk w1 bb w' xs:=by
 obtain⟨A,c,hb,hr⟩:=h.blk
 refine⟨h.bel.trans hx,h.lo,h.hi,A,c,(hx.block bb (lt_of_block hb) ?_).trans hb,hr⟩
 have:=h.lo;have:=h.hi;omega
/-- The Buffer's slot set. -/
theorem Cur.set {bk bb:Nat} {w1 w:World} {xs ys:List Int} (h:Cur bk w1 bb w xs) {A:Option Addr} {n c:Nat} (hr:RdN bk w1 (.slice A n c) ys):Cur bk w1 bb (w.setCell ⟨bb,0,none⟩ (.slice A n c)) ys/\ExtBut bb w (w.setCell ⟨bb,0,none⟩ (.slice A n c)):=by
 obtain⟨A0,c0,hb,_⟩:=h.blk
 obtain⟨rfl,_,_⟩:=hr.1.parts
 have hE:ExtBut bb w (w.setCell ⟨bb,0,none⟩ (.slice A ys.length c)):=(Ext.refl w).but.set 0 _
 refine⟨⟨?_,h.lo,h.hi,A,c,slot_setCell hb,hr⟩,hE⟩
 refine⟨h.bel.os,h.bel.tape,h.bel.output,by simpa [World.setCell]using h.bel.size,fun k hk hne=>?_⟩
 have:=h.lo
 exact(heap_setCell_other w ⟨bb,0,none⟩ k _ (by simp only [];omega)).trans (h.bel.block k hk hne)
theorem cur_len {bk bb:Nat} {w1 w:World} {xs:List Int} (h:Cur bk w1 bb w xs):
 Calls Tryz.prog 167 #[.pointer (some ⟨bb,0,none⟩)] w (fun e w'=>e=.returned (.int .i64 xs.length)/\w'=w):=by
 obtain⟨A,c,hb,hr⟩:=h.blk
 have hc:=cell_slot hb 0 _ rfl
 clear hr h
 go_enter Tryz.func167,Tryz.ntmps167
 go_wp2
 go_ret
 exact⟨rfl,rfl⟩
theorem cur_new {bk:Nat} {w1 w:World} {v:Value} {xs:List Int} (h:RdN bk w1 v xs)(hb:bk < w1.heap.size)(hx:ExtBut bk w1 w):
 Calls Tryz.prog 165 #[v] w (fun e w'=>e=.returned (.pointer (some ⟨w.heap.size,0,none⟩))/\Cur bk w1 w.heap.size w' xs/\Ext w w'):=by
 obtain⟨A,c,hv⟩:=h.1.len
 subst hv
 have H:=zh h
 have HX:=zh hx
 clear h hx
 go_enter Tryz.func165,Tryz.ntmps165
 go_wp2
 go_ret
 exact⟨rfl,⟨HX.out.trans (ext_alloc w _).but,HX.out.size,hb,A,c,heap_alloc_new _ _,H.out⟩,ext_alloc w _⟩
/-- What Next hands back. -/
def GaveN (bk:Nat) (w1:World) (bb k:Nat) (w:World) (xs:List Int):Ending->World->Prop:=fun e w'=>∃A c,e=.returned (.slice A k c)/\RdN bk w1 (.slice A k c) (xs.take k)/\Cur bk w1 bb w' (xs.drop k)/\ExtBut bb w w'
theorem cur_next {bk bb:Nat} {w1 w:World} {xs:List Int} (h:Cur bk w1 bb w xs)(k:Nat)(hk:k<=xs.length):
 Calls Tryz.prog 168 #[.pointer (some ⟨bb,0,none⟩),.int .i64 k] w (GaveN bk w1 bb k w xs):=by
 obtain⟨A,c,hb,hr⟩:=h.blk
 have hc:=cell_slot hb 0 _ rfl
 have hf:=free_slot hb 0
 obtain⟨_,hn,hm⟩:=hr.1.parts
 have HR:=zh hr
 have H:=zh h
 clear hr h hb
 have hG:GaveN bk w1 bb k w xs=GaveN bk w1 bb k w xs:=rfl
 go_enter Tryz.func168,Tryz.ntmps168
 go_wp2
 all_goals go_ret
 ·have hck:c=k:=by assumption
  have h3:=HR.out.take k hk
  rw [hck]at h3 hm
  obtain⟨h1,h2⟩:=H.out.set (RdN.none (bk:=bk) (w:=w1) A (xs.length - k) 0 (xs.drop k) (List.drop_eq_nil_of_le (by omega)) (by omega) (by omega))
  exact⟨A,k,rfl,h3,h1,h2⟩
 ·obtain⟨h1,h2⟩:=H.out.set (HR.out.drop k hk)
  exact⟨A,c,rfl,HR.out.take k hk,h1,h2⟩
theorem rd16 (A:Option Addr)(n c:Nat)(x0 x1:Int)(r:List Int)(w:World)(h:RdB w (.slice A n c) (x0 :: x1 :: r))(h0:0<=x0/\x0 < 256)(h1:0<=x1/\x1 < 256):
 Calls Tryz.prog 137 #[.slice A n c] w (fun e w'=>e=.returned (.int .u16 (x0 * 256+x1))/\Ext w w'):=by
 obtain⟨rfl,_,_⟩:=h.parts
 obtain⟨A',c',hv,_,_,h3⟩:=h
 obtain⟨rfl,rfl⟩:A=A'/\c=c':=by simpa using hv
 obtain⟨b1,o1,rfl,hc⟩:=h3 (by simp)
 have hd0:=hc 0 (by simp)
 have hd1:=hc 1 (by simp)
 simp only [List.getD_cons_zero,List.getD_cons_succ,Nat.add_zero]at hd0 hd1
 have w0:IntKind.u16.wrap x0=x0:=by rw [IntKind.wrap_u16];omega
 have w1':IntKind.u16.wrap x1=x1:=by rw [IntKind.wrap_u16];omega
 have w2:IntKind.u16.wrap (x0 * 256)=x0 * 256:=by rw [IntKind.wrap_u16];omega
 have w3:x0 % 65536=x0:=by omega
 have w4:x1 % 65536=x1:=by omega
 have w5:x0 * 256 % 65536=x0 * 256:=by omega
 have hor:bits .or .u16 x1 (x0 * 256)=x1+x0 * 256:=u16_or8 (x:=x0 * 256) (y:=x1) (by omega) (by omega) (by omega) (by omega) (by omega)
 clear h3 hc hv
 go_enter Tryz.func137,Tryz.ntmps137
 go_wp2
 go_quiet (skip)
 go_wp2
 go_ret
 exact⟨by rw [Int.add_comm (x0 * 256)];rfl,(Ext.refl w).drewN nq⟩
theorem rd32 (A:Option Addr)(n c:Nat)(x0 x1 x2 x3:Int)(r:List Int)(w:World)(h:RdB w (.slice A n c) (x0 :: x1 :: x2 :: x3 :: r))(h0:0<=x0/\x0 < 256)(h1:0<=x1/\x1 < 256)(h2:0<=x2/\x2 < 256)(h3:0<=x3/\x3 < 256):
 Calls Tryz.prog 138 #[.slice A n c] w (fun e w'=>e=.returned (.int .u32 (x0 * 16777216+x1 * 65536+x2 * 256+x3))/\Ext w w'):=by
 obtain⟨rfl,_,_⟩:=h.parts
 obtain⟨A',c',hv,_,_,hh⟩:=h
 obtain⟨rfl,rfl⟩:A=A'/\c=c':=by simpa using hv
 obtain⟨b1,o1,rfl,hc⟩:=hh (by simp)
 have hd0:=hc 0 (by simp)
 have hd1:=hc 1 (by simp)
 have hd2:=hc 2 (by simp)
 have hd3:=hc 3 (by simp)
 simp only [List.getD_cons_zero,List.getD_cons_succ,Nat.add_zero]at hd0 hd1 hd2 hd3
 have w0:x0 % 4294967296=x0:=by omega
 have w1:x1 % 4294967296=x1:=by omega
 have w2:x2 % 4294967296=x2:=by omega
 have w3:x3 % 4294967296=x3:=by omega
 have w4:x2 * 256 % 4294967296=x2 * 256:=by omega
 have w5:x1 * 65536 % 4294967296=x1 * 65536:=by omega
 have w6:x0 * 16777216 % 4294967296=x0 * 16777216:=by omega
 have v0:IntKind.u32.wrap x0=x0:=by rw [IntKind.wrap_u32];omega
 have v1:IntKind.u32.wrap x1=x1:=by rw [IntKind.wrap_u32];omega
 have v2:IntKind.u32.wrap x2=x2:=by rw [IntKind.wrap_u32];omega
 have v3:IntKind.u32.wrap x3=x3:=by rw [IntKind.wrap_u32];omega
 have v4:IntKind.u32.wrap (x2 * 256)=x2 * 256:=by rw [IntKind.wrap_u32];omega
 have v5:IntKind.u32.wrap (x1 * 65536)=x1 * 65536:=by rw [IntKind.wrap_u32];omega
 have v6:IntKind.u32.wrap (x0 * 16777216)=x0 * 16777216:=by rw [IntKind.wrap_u32];omega
 have hor:bits .or .u32 x3 (x2 * 256)=x3+x2 * 256:=u32_or8 (x:=x2 * 256) (y:=x3) (by omega) (by omega) (by omega) (by omega) (by omega)
 have hor2:bits .or .u32 (x3+x2 * 256) (x1 * 65536)=x3+x2 * 256+x1 * 65536:=u32_or16 (x:=x1 * 65536) (y:=x3+x2 * 256) (by omega) (by omega) (by omega) (by omega) (by omega)
 have hor3:bits .or .u32 (x3+x2 * 256+x1 * 65536) (x0 * 16777216)=x3+x2 * 256+x1 * 65536+x0 * 16777216:=u32_or24 (x:=x0 * 16777216) (y:=x3+x2 * 256+x1 * 65536) (by omega) (by omega) (by omega) (by omega) (by omega)
 have hs:x0 * 16777216+x1 * 65536+x2 * 256+x3=x3+x2 * 256+x1 * 65536+x0 * 16777216:=by omega
 rw [hs]
 clear hs hh hc hv
 go_enter Tryz.func138,Tryz.ntmps138
 go_wp2
 go_quiet (skip)
 go_wp2
 go_ret
 exact⟨rfl,(Ext.refl w).drewN nq⟩
/-- What ReadBytes(0) hands back where it finds the end. -/
def GaveT (bk:Nat) (w1:World) (bb:Nat) (w:World) (s:List Int) (r:List Int):Ending->World->Prop:=fun e w'=>∃A c,e=.returned (.tuple #[.slice A (s.length+1) c,.nilIface])/\RdB w' (.slice A (s.length+1) c) (s++ [0])/\Cur bk w1 bb w' r/\ExtBut bb w w'
theorem cur_text {bk bb:Nat} {w1 w:World} {s r:List Int} (h:Cur bk w1 bb w (s++0 :: r))(hs:∀y∈s,y≠0)(hl:(s++0 :: r).length<=1000000):
 Calls Tryz.prog 166 #[.pointer (some ⟨bb,0,none⟩),.int .u8 0] w (GaveT bk w1 bb w s r):=by
 obtain⟨A,c,hb,hr⟩:=h.blk
 have hc:=cell_slot hb 0 _ rfl
 have hf:=free_slot hb 0
 have HR:=zh (hr.at_ h.bel)
 have HR1:=zh hr
 have H:=zh h
 have HS:=zh hs
 obtain⟨hn,hcm,hcx⟩:=hr.1.parts
 have HL:Hid ((s++0 :: r).length=s.length+1+r.length):=zh (by simp;omega)
 have HB:=zh hb
 have HT:Hid (RdB w (.slice A (s.length+1) c) (s++ [0])):=zh (by
  have h1:=HR.out.1.take (s.length+1) (by rw [HL.out];omega)
  have h2:(s++0 :: r).take (s.length+1)=s++ [0]:=by rw [List.take_length_add_append];rfl
  rw [h2]at h1
  exact h1)
 have HDR:Hid (RdN bk w1 (.slice (A.map (·.add (s.length+1))) ((s++0 :: r).length - (s.length+1)) (c - (s.length+1))) r):=zh (by
  have h1:=HR1.out.drop (s.length+1) (by rw [HL.out];omega)
  have h2:(s++0 :: r).drop (s.length+1)=r:=by simp [List.drop_append]
  rw [h2]at h1
  exact h1)
 have HLL:Hid (s.length+1<=(s++0 :: r).length):=zh (by rw [HL.out];omega)
 obtain⟨b1,o1,hA,hcell⟩:∃b1 o1,A=some ⟨b1,o1,none⟩/\∀j,j < (s++0 :: r).length->w.cell? ⟨b1,o1+j,none⟩=some (.int .u8 ((s++0 :: r).getD j 0)):=by
  obtain⟨A',c',hv,_,_,h3⟩:=HR.out.1
  obtain⟨rfl,_⟩:A=A'/\c=c':=by simpa using hv
  exact h3 (by rw [HL.out];omega)
 subst hA
 have HCE:=zh hcell
 obtain⟨N,hN⟩:∃N,N=(s++0 :: r).length:=⟨_,rfl⟩
 rw [<-hN]at hc HDR hn hl HLL HB
 have HN:=zh hN
 have hNl:=HLL.out
 have hcb:s.length+1<=c:=by rw [HL.out]at hcm;omega
 have hNr:Hid (N=s.length+1+r.length):=zh (by rw [HN.out,HL.out])
 clear hr h hb hs hcell hN
 go_enter Tryz.func166,Tryz.ntmps166
 go_wp2
 go_loopw [15] (fun i wr=>∃k:Nat,k<=s.length/\i=.int .i64 k/\wr=w) (fun i _=>s.length - (intOf i).toNat)
 case atStart=>exact⟨0,Nat.zero_le _,rfl,rfl⟩
 case round=>
  obtain⟨k,hk,rfl,rfl⟩:=hrel
  by_cases hlt:k < s.length
  ·have hd:=HCE.out k (by rw [HL.out];omega)
   rw [show (s++0 :: r).getD k 0=s[k] by simp [List.getD,List.getElem?_append_left hlt,List.getElem?_eq_getElem hlt]]at hd
   have hne:=HS.out _ (List.getElem_mem hlt)
   obtain⟨y,hy⟩:∃y,y=s[k]:=⟨_,rfl⟩
   rw [<-hy]at hd hne
   have hnb:(y == 0)=false:=by simpa using hne
   clear hy
   go_wp2
   go_roundw
   case rel=>exact⟨k+1,by omega,by go_num,by first|trivial|rfl⟩
   case measure=>simp only [intOf];omega
  ·obtain rfl:k=s.length:=by omega
   have hd:=HCE.out s.length (by rw [HL.out];omega)
   rw [show (s++0 :: r).getD s.length 0=0 by simp [List.getD]]at hd
   go_wp2_with (at_builtin;refine ap_row (ys:=s++ [0]) rfl _ _ 26 26 rfl Tryz.underlying26 Tryz.underlying26 rfl (Buf.nil _) rfl HT.out (by have:=HLL.out;simp;omega) ?_;intro v2 w2 hnb2;have HBU:=zh hnb2;clear hnb2;have hb2:=(HBU.out.bel.block bb (lt_of_block HB.out)).trans HB.out;have hc2:=cell_slot hb2 0 _ rfl;have hf2:=free_slot hb2 0;have HB2:=zh hb2;clear hb2)
   ·go_ret2
    obtain⟨A2,c2,hv2⟩:=HBU.out.len
    have hrn:r=[]:=List.eq_nil_of_length_eq_zero (by rw [HL.out]at hcm;omega)
    obtain⟨h1,h2⟩:=(H.out.ext HBU.out.bel).set (RdN.none (bk:=bk) (w:=w1) (some ⟨b1,o1,none⟩) (N - (s.length+1)) 0 r hrn (by rw [hNr.out,hrn];simp) (by omega))
    have h3:RdN bb w2 v2 (s++ [0]):=⟨HBU.out.rd,fun _ e=>HBU.out.off _ e (lt_of_block HB.out)⟩
    have h4:v2=.slice A2 (s.length+1) c2:=by rw [hv2];simp
    subst h4
    exact⟨A2,c2,rfl,(h3.at_ h2).1,h1,HBU.out.bel.but.trans h2⟩
   ·go_ret2
    obtain⟨A2,c2,hv2⟩:=HBU.out.len
    obtain⟨h1,h2⟩:=(H.out.ext HBU.out.bel).set HDR.out
    have h3:RdN bb w2 v2 (s++ [0]):=⟨HBU.out.rd,fun _ e=>HBU.out.off _ e (lt_of_block HB.out)⟩
    have h4:v2=.slice A2 (s.length+1) c2:=by rw [hv2];simp
    subst h4
    have h5:=(h3.at_ h2).1
    have h6:=HBU.out.bel.but.trans h2
    simp only [Option.map_some,add_lit0]at h1 h5 h6
    exact⟨A2,c2,rfl,h5,h1,h6⟩
theorem sby_mem {s:ByteArray} {y:Int} (h:y∈sby s):∃k,∃hk:k < s.size,y=(s[k].toNat:Int):=by
 unfold sby at h
 obtain⟨b,hb,rfl⟩:=List.mem_map.1 h
 obtain⟨k,hk,he⟩:=List.mem_iff_getElem.1 hb
 have hk':k < s.size:=by
  have:s.data.toList.length=s.size:=by rw [Array.length_toList];rfl
  omega
 refine⟨k,hk',?_⟩
 rw [<-he]
 rfl
/-- plain texts have no end inside -/
theorem plain_ne {s:ByteArray} (h:plainP s):∀y∈sby s,y≠0:=by
 intro y hy
 obtain⟨k,hk,rfl⟩:=sby_mem hy
 exact h.2 k hk
def Byte (y:Int):Prop:=0<=y/\y < 256
theorem sby_byte (s:ByteArray):∀y∈sby s,Byte y:=by
 intro y hy
 obtain⟨k,hk,rfl⟩:=sby_mem hy
 have:=s[k].toNat_lt
 exact⟨by omega,by omega⟩
theorem RdB.head {w:World} {A:Option Addr} {n c:Nat} {x:Int} {r:List Int} (h:RdB w (.slice A n c) (x :: r)):∃b o,A=some ⟨b,o,none⟩/\w.cell? ⟨b,o,none⟩=some (.int .u8 x):=by
 obtain⟨A',c',hv,_,_,h3⟩:=h
 obtain⟨rfl,_,_⟩:A=A'/\_:=by simpa using hv
 obtain⟨b,o,hA,hc⟩:=h3 (by simp)
 exact⟨b,o,hA,by simpa using hc 0 (by simp)⟩
/-- What Next hands back, by pieces. -/
def GaveP (bk:Nat) (w1:World) (bb:Nat) (w:World) (B R:List Int) (k:Int):Ending->World->Prop:=fun e w'=>∃A c,e=.returned (.slice A k.toNat c)/\RdN bk w1 (.slice A k.toNat c) B/\Cur bk w1 bb w' R/\ExtBut bb w w'
theorem cur_piece {bk bb:Nat} {w1 w:World} {B R:List Int} (h:Cur bk w1 bb w (B++R))(k:Int)(hk:(B.length:Int)=k):
 Calls Tryz.prog 168 #[.pointer (some ⟨bb,0,none⟩),.int .i64 k] w (GaveP bk w1 bb w B R k):=by
 subst hk
 refine(cur_next h B.length (by simp)).mono ?_
 rintro e w' ⟨A,c,rfl,h1,h2,h3⟩
 rw [List.take_left]at h1
 rw [List.drop_left]at h2
 exact⟨A,c,rfl,h1,h2,h3⟩
theorem rd16n (n:Int)(hn:0<=n/\n < 65536)(A:Option Addr)(m c:Nat)(r:List Int)(w:World)(h:RdB w (.slice A m c) (numB n 2++r)):
 Calls Tryz.prog 137 #[.slice A m c] w (fun e w'=>e=.returned (.int .u16 n)/\Ext w w'):=by
 have e:numB n 2++r=n / 256 % 256 :: n % 256 :: r:=by simp [numB]
 rw [e]at h
 refine(rd16 A m c _ _ r w h ⟨by omega,by omega⟩ ⟨by omega,by omega⟩).mono ?_
 rintro e w' ⟨rfl,hx⟩
 exact⟨by congr 2;omega,hx⟩
theorem rd32n (n:Int)(hn:0<=n/\n < 4294967296)(A:Option Addr)(m c:Nat)(r:List Int)(w:World)(h:RdB w (.slice A m c) (numB n 4++r)):
 Calls Tryz.prog 138 #[.slice A m c] w (fun e w'=>e=.returned (.int .u32 n)/\Ext w w'):=by
 have e:numB n 4++r=n / 16777216 % 256 :: n / 65536 % 256 :: n / 256 % 256 :: n % 256 :: r:=by simp [numB]
 rw [e]at h
 refine(rd32 A m c _ _ _ _ r w h ⟨by omega,by omega⟩ ⟨by omega,by omega⟩ ⟨by omega,by omega⟩ ⟨by omega,by omega⟩).mono ?_
 rintro e w' ⟨rfl,hx⟩
 exact⟨by congr 2;omega,hx⟩
/-- the bits of a number that may be negative, read as unsigned -/
theorem numB_mod4 (n:Int):numB n 4=numB (n % 4294967296) 4:=by
 simp only [numB]
 simp only [List.cons.injEq,and_true]
 refine⟨by omega,by omega,by omega,by omega⟩
theorem numB_mod2 (n:Int):numB n 2=numB (n % 65536) 2:=by
 simp only [numB]
 simp only [List.cons.injEq,and_true]
 refine⟨by omega,by omega⟩
theorem nums_len2:∀l:List Int,(l.flatMap fun n=>numB n 2).length=l.length * 2
 | []=>rfl
 | x :: l=>by rw [List.flatMap_cons,List.length_append,numB_len,nums_len2 l,List.length_cons];omega
end Go.Proofs.YtdenjanihikolaaGreatDoor
