/- Decode that can: errors and notices. -/
import Derived.Test.YtdenjanihikolaaGreatDoorDqA0
import Derived.Test.YtdenjanihikolaaGreatDoorDqA1
import Derived.Test.YtdenjanihikolaaGreatDoorDqDkg
import Derived.Test.YtdenjanihikolaaGreatDoorDqDkf
import Derived.Test.YtdenjanihikolaaGreatDoorDqErb
namespace Go.Proofs.YtdenjanihikolaaGreatDoor
set_option linter.unusedVariables false
set_option linter.unusedSimpArgs false
set_option maxRecDepth 100000
open Go.RowKit Go.Maps Og
theorem cur_byte {bk bb:Nat} {w1 w:World} {x:Int} {r:List Int} (h:Cur bk w1 bb w (x :: r)):Calls Tryz.prog 294 #[.pointer (some ⟨bb,0,none⟩)] w (fun e w'=>e=.returned (.tuple #[.int .u8 x,.nilIface])/\Cur bk w1 bb w' r/\ExtBut bb w w'):=by
 obtain⟨A,c,hb,hr⟩:=h.blk
 obtain⟨hn,hcm,hcx⟩:=hr.1.parts
 obtain⟨b5,o5,hA,hd⟩:=((hr.at_ h.bel).1).head
 subst hA
 obtain⟨N,hN⟩:∃N,N=(x :: r).length:=⟨_,rfl⟩
 rw [<-hN]at hb hr hcm
 have hN1:N=r.length+1:=hN
 have e1:((N:Int) == 0)=false:=beq_eq_false_iff_ne.2 (by omega)
 have e2:¬((N:Int)=0):=by omega
 have e3:0 < N:=by omega
 have e4:1<=N:=by omega
 obtain⟨A',c',hs,hq⟩:=sl_from (some ⟨b5,o5,none⟩) N c 1 1 rfl (by omega) hcm hcx
 have HQ:Hid (RdN bk w1 (.slice A' (N - 1) c') r):=zh (hq bk w1 _ hr)
 have hc:=zc hb 0 _ rfl
 have hf:=free_slot hb 0
 have H:=zh h
 clear h hb hr hn hcx hq hN hN1
 go_enter Tryz.func294,Tryz.ntmps294
 go_wp2
 go_ret2
 exact⟨rfl,(H.out.set HQ.out).1,(H.out.set HQ.out).2⟩
theorem sby_one {x:ByteArray} (h:x.size=1):sby x=[cOf x]:=by
 have h1:=len_of x
 rw [h]at h1
 obtain⟨c,hc⟩:=List.length_eq_one_iff.1 h1
 unfold sby cOf
 rw [hc]
 rfl
def bufLen (bb:Nat) (w:World):Nat:=match w.cell? ⟨bb,0,none⟩with
 | some (.slice _ n _)=>n
 | _=>0
theorem bufLen_cur {bk bb:Nat} {w1 w:World} {xs:List Int} (h:Cur bk w1 bb w xs):bufLen bb w=xs.length:=by
 obtain⟨A,c,hb,hr⟩:=h.blk
 unfold bufLen
 rw [zc hb 0 (.slice A xs.length c) rfl]
set_option maxHeartbeats 40000000 in
theorem dekE (ty:TypeId)(qs:List Pr)(hq:∀y∈qs,fldP y/\plainP y.2)(wd:World)(b:Nat)(v:Value)(hb:wd.heap[b]?=some (.cells (errCells fun _=>(⟨#[]⟩:ByteArray)) ty (0,0)))(hv:RdB wd v (qs.flatMap erB++ [0]))(hl:(qs.flatMap erB++ [0]).length<=100000)(hof:v.ownBlock≠some b):
 Calls Tryz.prog 292 #[.pointer (some ⟨b,0,none⟩),v] wd (Deced b (fun b w2=>w2.heap[b]?=some (.cells (errCells (tOf qs)) ty (0,0))) wd):=by
 have HV:Hid (RdN b wd v (qs.flatMap erB++ [0])):=zh ⟨hv,fun _=>hof⟩
 have HBK:=zh hb
 have HLT:=zh (zl hb)
 have HQ:=zh hq
 have HLL:=zh hl
 have HNE:Hid (b≠wd.heap.size):=zh (by have:=HLT.out;omega)
 clear hb hv hof hq hl
 go_enter Tryz.func292,Tryz.ntmps292
 go_wp2_with (first|(refine wpList_store_row rfl 216 (.tmp 21) (.tmp 20) rfl b (errCells fun _=>(⟨#[]⟩:ByteArray)) rfl rfl ty _ HBK.out size216 rfl (err_one _) ?_)|(go_at_call 165;refine(cur_newb (bk:=b) (w1:=wd) (bb:=wd.heap.size) HV.out HLT.out ((Ext.refl wd).but.row _) (by simp [World.setRow])).mono ?_;rintro e w1 ⟨rfl,hcu,hx1⟩;have HC:=zh hcu;have HB:=zh ((hx1.block b (zl (setRow_heap _ _ _ _ _ _ HBK.out))).trans (setRow_heap _ _ _ (errCells fun _=>(⟨#[]⟩:ByteArray)) _ _ HBK.out));clear hcu hx1))
 go_loopw [6] (fun _ wr=>∃(k:Nat) (R:List Int),k<=qs.length/\Hid (Cur b wd wd.heap.size wr R/\R=(qs.drop k).flatMap erB++ [0]/\wr.heap[b]?=some (.cells (errCells (tOf (qs.take k))) ty (0,0)))) (fun _ wr=>bufLen wd.heap.size wr)
 case atStart=>exact⟨0,_,Nat.zero_le _,zh ⟨HC.out,by rw [List.drop_zero],by simpa [tOf]using HB.out⟩⟩
 case round=>
  clear HC HB
  obtain⟨k,R,hk1,HH⟩:=hrel
  have HB:=zh HH.out.2.2
  by_cases hlt:k < qs.length
  ·have HFP:=HQ.out _ (List.getElem_mem hlt)
   have HTT:=zh (take_succ1 qs k hlt)
   obtain⟨⟨x1,x2⟩,hx⟩:∃x,x=qs[k]:=⟨_,rfl⟩
   rw [<-hx]at HFP HTT
   have HFL:=zh HFP.1
   have HS2:=zh (plain_ne HFP.2)
   have hl2:(sby x2).length<=200:=by rw [sby_length];exact HFP.2.1
   obtain⟨R',hR'⟩:∃R',R'=(qs.drop (k+1)).flatMap erB++ [0]:=⟨_,rfl⟩
   have HRE:=zh hR'
   obtain⟨j,hj,hcj,hsz⟩:=let_of HFP.1.1
   replace hcj:cOf x1=ls18.getD j 0:=hcj
   have HCJ:=zh hcj
   obtain⟨c,hce⟩:∃c,c=cOf x1:=⟨_,rfl⟩
   rw [<-hce]at hcj
   have hsx:sby x1=[c]:=by
    have h9:=let_of HFP.1.1
    rw [hce]
    exact sby_one hsz
   have hRR:R=c :: (sby x2++0 :: R'):=by
    rw [HH.out.2.1,List.drop_eq_getElem_cons hlt,List.flatMap_cons,<-hx,hR']
    simp only [erB,txt,hsx,List.append_assoc,List.cons_append,List.nil_append]
   have HC:Hid (Cur b wd wd.heap.size wr (c :: (sby x2++0 :: R'))):=zh (by rw [<-hRR];exact HH.out.1)
   have HLX:Hid ((sby x2++0 :: R').length<=1000000):=zh (by
    have h9:=HLL.out
    have h8:R.length<=100000:=by
     rw [HH.out.2.1,List.length_append]
     have h7:((qs.drop k).flatMap erB).length<=(qs.flatMap erB).length:=by
      have h6:(qs.flatMap erB)=(qs.take k).flatMap erB++(qs.drop k).flatMap erB:=by rw [<-List.flatMap_append,List.take_append_drop]
      rw [h6,List.length_append];omega
     rw [List.length_append]at h9
     omega
    rw [hRR]at h8
    simp only [List.length_cons]at h8
    omega)
   clear HH hRR hR' hsx hx HFP hsz hce
   rcases cases18 hj with rfl|rfl|rfl|rfl|rfl|rfl|rfl|rfl|rfl|rfl|rfl|rfl|rfl|rfl|rfl|rfl|rfl|rfl
   ·as_aux_lemma=>
     obtain rfl:c=83:=hcj
     have hcz:((83:Int) == 0)=false:=by decide
     go_wp2_with (first|(go_at_call 294;refine(cur_byte HC.out).mono ?_;rintro e w2 ⟨rfl,hcu,hx2⟩;have HC2:=zh hcu;have HB2:=zh ((hx2.block b (zl HB.out) HNE.out).trans HB.out);clear hcu hx2)|(go_at_call 166;refine(cur_text (s:=sby x2) HC2.out HS2.out HLX.out).mono ?_;rintro e w3 ⟨A3,c3,rfl,hrd,hcu,hx3⟩;have HC3:=zh hcu;have hcv:=conv_rd (show RdB w3 (.slice A3 (sby x2).length c3) (sby x2)from by(have h9:=hrd.take (sby x2).length (by omega);rwa [List.take_left]at h9));rw [str_sby]at hcv;have hc3:(sby x2).length+1<=c3:=(by have h9:=hrd.parts.2.1;simpa using h9);have HB3:=zh ((hx3.block b (zl HB2.out) HNE.out).trans HB2.out);have hz:=zc HB3.out 0 _ (cell_txt _ (j:=0) (by decide) (by decide));have hy:=free_slot HB3.out 0;clear hcu hx3 hrd))
     go_roundw
     case rel=>
      refine⟨k+1,R',by omega,zh ⟨HC3.out.but (zr.but.set _ _),HRE.out,?_⟩⟩
      rw [HTT.out,tOf_snoc,HCJ.out,slot_at (j:=0) (by decide),<-set_txt _ _ (j:=0) (by decide) (by decide)]
      exact slot_setCell HB3.out
     case measure=>
      rw [bufLen_cur (HC3.out.but (zr.but.set _ _)),bufLen_cur HC.out]
      simp only [List.length_cons,List.length_append];omega
   ·as_aux_lemma=>
     obtain rfl:c=86:=hcj
     have hcz:((86:Int) == 0)=false:=by decide
     go_wp2_with (first|(go_at_call 294;refine(cur_byte HC.out).mono ?_;rintro e w2 ⟨rfl,hcu,hx2⟩;have HC2:=zh hcu;have HB2:=zh ((hx2.block b (zl HB.out) HNE.out).trans HB.out);clear hcu hx2)|(go_at_call 166;refine(cur_text (s:=sby x2) HC2.out HS2.out HLX.out).mono ?_;rintro e w3 ⟨A3,c3,rfl,hrd,hcu,hx3⟩;have HC3:=zh hcu;have hcv:=conv_rd (show RdB w3 (.slice A3 (sby x2).length c3) (sby x2)from by(have h9:=hrd.take (sby x2).length (by omega);rwa [List.take_left]at h9));rw [str_sby]at hcv;have hc3:(sby x2).length+1<=c3:=(by have h9:=hrd.parts.2.1;simpa using h9);have HB3:=zh ((hx3.block b (zl HB2.out) HNE.out).trans HB2.out);have hz:=zc HB3.out 1 _ (cell_txt _ (j:=1) (by decide) (by decide));have hy:=free_slot HB3.out 1;clear hcu hx3 hrd))
     go_roundw
     case rel=>
      refine⟨k+1,R',by omega,zh ⟨HC3.out.but (zr.but.set _ _),HRE.out,?_⟩⟩
      rw [HTT.out,tOf_snoc,HCJ.out,slot_at (j:=1) (by decide),<-set_txt _ _ (j:=1) (by decide) (by decide)]
      exact slot_setCell HB3.out
     case measure=>
      rw [bufLen_cur (HC3.out.but (zr.but.set _ _)),bufLen_cur HC.out]
      simp only [List.length_cons,List.length_append];omega
   ·as_aux_lemma=>
     obtain rfl:c=67:=hcj
     have hcz:((67:Int) == 0)=false:=by decide
     go_wp2_with (first|(go_at_call 294;refine(cur_byte HC.out).mono ?_;rintro e w2 ⟨rfl,hcu,hx2⟩;have HC2:=zh hcu;have HB2:=zh ((hx2.block b (zl HB.out) HNE.out).trans HB.out);clear hcu hx2)|(go_at_call 166;refine(cur_text (s:=sby x2) HC2.out HS2.out HLX.out).mono ?_;rintro e w3 ⟨A3,c3,rfl,hrd,hcu,hx3⟩;have HC3:=zh hcu;have hcv:=conv_rd (show RdB w3 (.slice A3 (sby x2).length c3) (sby x2)from by(have h9:=hrd.take (sby x2).length (by omega);rwa [List.take_left]at h9));rw [str_sby]at hcv;have hc3:(sby x2).length+1<=c3:=(by have h9:=hrd.parts.2.1;simpa using h9);have HB3:=zh ((hx3.block b (zl HB2.out) HNE.out).trans HB2.out);have hz:=zc HB3.out 2 _ (cell_txt _ (j:=2) (by decide) (by decide));have hy:=free_slot HB3.out 2;clear hcu hx3 hrd))
     go_roundw
     case rel=>
      refine⟨k+1,R',by omega,zh ⟨HC3.out.but (zr.but.set _ _),HRE.out,?_⟩⟩
      rw [HTT.out,tOf_snoc,HCJ.out,slot_at (j:=2) (by decide),<-set_txt _ _ (j:=2) (by decide) (by decide)]
      exact slot_setCell HB3.out
     case measure=>
      rw [bufLen_cur (HC3.out.but (zr.but.set _ _)),bufLen_cur HC.out]
      simp only [List.length_cons,List.length_append];omega
   ·as_aux_lemma=>
     obtain rfl:c=77:=hcj
     have hcz:((77:Int) == 0)=false:=by decide
     go_wp2_with (first|(go_at_call 294;refine(cur_byte HC.out).mono ?_;rintro e w2 ⟨rfl,hcu,hx2⟩;have HC2:=zh hcu;have HB2:=zh ((hx2.block b (zl HB.out) HNE.out).trans HB.out);clear hcu hx2)|(go_at_call 166;refine(cur_text (s:=sby x2) HC2.out HS2.out HLX.out).mono ?_;rintro e w3 ⟨A3,c3,rfl,hrd,hcu,hx3⟩;have HC3:=zh hcu;have hcv:=conv_rd (show RdB w3 (.slice A3 (sby x2).length c3) (sby x2)from by(have h9:=hrd.take (sby x2).length (by omega);rwa [List.take_left]at h9));rw [str_sby]at hcv;have hc3:(sby x2).length+1<=c3:=(by have h9:=hrd.parts.2.1;simpa using h9);have HB3:=zh ((hx3.block b (zl HB2.out) HNE.out).trans HB2.out);have hz:=zc HB3.out 3 _ (cell_txt _ (j:=3) (by decide) (by decide));have hy:=free_slot HB3.out 3;clear hcu hx3 hrd))
     go_roundw
     case rel=>
      refine⟨k+1,R',by omega,zh ⟨HC3.out.but (zr.but.set _ _),HRE.out,?_⟩⟩
      rw [HTT.out,tOf_snoc,HCJ.out,slot_at (j:=3) (by decide),<-set_txt _ _ (j:=3) (by decide) (by decide)]
      exact slot_setCell HB3.out
     case measure=>
      rw [bufLen_cur (HC3.out.but (zr.but.set _ _)),bufLen_cur HC.out]
      simp only [List.length_cons,List.length_append];omega
   ·as_aux_lemma=>
     obtain rfl:c=68:=hcj
     have hcz:((68:Int) == 0)=false:=by decide
     go_wp2_with (first|(go_at_call 294;refine(cur_byte HC.out).mono ?_;rintro e w2 ⟨rfl,hcu,hx2⟩;have HC2:=zh hcu;have HB2:=zh ((hx2.block b (zl HB.out) HNE.out).trans HB.out);clear hcu hx2)|(go_at_call 166;refine(cur_text (s:=sby x2) HC2.out HS2.out HLX.out).mono ?_;rintro e w3 ⟨A3,c3,rfl,hrd,hcu,hx3⟩;have HC3:=zh hcu;have hcv:=conv_rd (show RdB w3 (.slice A3 (sby x2).length c3) (sby x2)from by(have h9:=hrd.take (sby x2).length (by omega);rwa [List.take_left]at h9));rw [str_sby]at hcv;have hc3:(sby x2).length+1<=c3:=(by have h9:=hrd.parts.2.1;simpa using h9);have HB3:=zh ((hx3.block b (zl HB2.out) HNE.out).trans HB2.out);have hz:=zc HB3.out 4 _ (cell_txt _ (j:=4) (by decide) (by decide));have hy:=free_slot HB3.out 4;clear hcu hx3 hrd))
     go_roundw
     case rel=>
      refine⟨k+1,R',by omega,zh ⟨HC3.out.but (zr.but.set _ _),HRE.out,?_⟩⟩
      rw [HTT.out,tOf_snoc,HCJ.out,slot_at (j:=4) (by decide),<-set_txt _ _ (j:=4) (by decide) (by decide)]
      exact slot_setCell HB3.out
     case measure=>
      rw [bufLen_cur (HC3.out.but (zr.but.set _ _)),bufLen_cur HC.out]
      simp only [List.length_cons,List.length_append];omega
   ·as_aux_lemma=>
     obtain rfl:c=72:=hcj
     have hcz:((72:Int) == 0)=false:=by decide
     go_wp2_with (first|(go_at_call 294;refine(cur_byte HC.out).mono ?_;rintro e w2 ⟨rfl,hcu,hx2⟩;have HC2:=zh hcu;have HB2:=zh ((hx2.block b (zl HB.out) HNE.out).trans HB.out);clear hcu hx2)|(go_at_call 166;refine(cur_text (s:=sby x2) HC2.out HS2.out HLX.out).mono ?_;rintro e w3 ⟨A3,c3,rfl,hrd,hcu,hx3⟩;have HC3:=zh hcu;have hcv:=conv_rd (show RdB w3 (.slice A3 (sby x2).length c3) (sby x2)from by(have h9:=hrd.take (sby x2).length (by omega);rwa [List.take_left]at h9));rw [str_sby]at hcv;have hc3:(sby x2).length+1<=c3:=(by have h9:=hrd.parts.2.1;simpa using h9);have HB3:=zh ((hx3.block b (zl HB2.out) HNE.out).trans HB2.out);have hz:=zc HB3.out 5 _ (cell_txt _ (j:=5) (by decide) (by decide));have hy:=free_slot HB3.out 5;clear hcu hx3 hrd))
     go_roundw
     case rel=>
      refine⟨k+1,R',by omega,zh ⟨HC3.out.but (zr.but.set _ _),HRE.out,?_⟩⟩
      rw [HTT.out,tOf_snoc,HCJ.out,slot_at (j:=5) (by decide),<-set_txt _ _ (j:=5) (by decide) (by decide)]
      exact slot_setCell HB3.out
     case measure=>
      rw [bufLen_cur (HC3.out.but (zr.but.set _ _)),bufLen_cur HC.out]
      simp only [List.length_cons,List.length_append];omega
   ·as_aux_lemma=>
     obtain rfl:c=80:=hcj
     have hcz:((80:Int) == 0)=false:=by decide
     have HD:Hid (digP x2):=zh (dig_at (y:=(x1,x2)) HFL.out (j:=6) HCJ.out (by decide))
     have hnum:=num_facts HD.out
     have hw32:IntKind.i32.wrap (numS x2)=numS x2:=by rw [IntKind.wrap_i32];omega
     clear hnum
     go_wp2_with (first|(go_at_call 294;refine(cur_byte HC.out).mono ?_;rintro e w2 ⟨rfl,hcu,hx2⟩;have HC2:=zh hcu;have HB2:=zh ((hx2.block b (zl HB.out) HNE.out).trans HB.out);clear hcu hx2)|(go_at_call 166;refine(cur_text (s:=sby x2) HC2.out HS2.out HLX.out).mono ?_;rintro e w3 ⟨A3,c3,rfl,hrd,hcu,hx3⟩;have HC3:=zh hcu;have hcv:=conv_rd (show RdB w3 (.slice A3 (sby x2).length c3) (sby x2)from by(have h9:=hrd.take (sby x2).length (by omega);rwa [List.take_left]at h9));rw [str_sby]at hcv;have hc3:(sby x2).length+1<=c3:=(by have h9:=hrd.parts.2.1;simpa using h9);have HB3:=zh ((hx3.block b (zl HB2.out) HNE.out).trans HB2.out);have hz:=zc HB3.out 6 _ (cell_num _ (j:=6) (by decide));have hy:=free_slot HB3.out 6;clear hcu hx3 hrd)|(go_at_call 75;refine(parse75 x2 HD.out _).mono ?_;rintro e w5 ⟨rfl,hx5⟩;have HC5:=zh (HC3.out.ext hx5);have HB5:=zh ((hx5.block b (zl HB3.out)).trans HB3.out);clear hz hy;have hz:=zc HB5.out 6 _ (cell_num _ (j:=6) (by decide));have hy:=free_slot HB5.out 6;clear hx5))
     go_roundw
     case rel=>
      refine⟨k+1,R',by omega,zh ⟨HC5.out.but (zr.but.set _ _),HRE.out,?_⟩⟩
      rw [HTT.out,tOf_snoc,HCJ.out,slot_at (j:=6) (by decide),<-set_num _ _ (j:=6) (by decide)]
      exact slot_setCell HB5.out
     case measure=>
      rw [bufLen_cur (HC5.out.but (zr.but.set _ _)),bufLen_cur HC.out]
      simp only [List.length_cons,List.length_append];omega
   ·as_aux_lemma=>
     obtain rfl:c=112:=hcj
     have hcz:((112:Int) == 0)=false:=by decide
     have HD:Hid (digP x2):=zh (dig_at (y:=(x1,x2)) HFL.out (j:=7) HCJ.out (by decide))
     have hnum:=num_facts HD.out
     have hw32:IntKind.i32.wrap (numS x2)=numS x2:=by rw [IntKind.wrap_i32];omega
     clear hnum
     go_wp2_with (first|(go_at_call 294;refine(cur_byte HC.out).mono ?_;rintro e w2 ⟨rfl,hcu,hx2⟩;have HC2:=zh hcu;have HB2:=zh ((hx2.block b (zl HB.out) HNE.out).trans HB.out);clear hcu hx2)|(go_at_call 166;refine(cur_text (s:=sby x2) HC2.out HS2.out HLX.out).mono ?_;rintro e w3 ⟨A3,c3,rfl,hrd,hcu,hx3⟩;have HC3:=zh hcu;have hcv:=conv_rd (show RdB w3 (.slice A3 (sby x2).length c3) (sby x2)from by(have h9:=hrd.take (sby x2).length (by omega);rwa [List.take_left]at h9));rw [str_sby]at hcv;have hc3:(sby x2).length+1<=c3:=(by have h9:=hrd.parts.2.1;simpa using h9);have HB3:=zh ((hx3.block b (zl HB2.out) HNE.out).trans HB2.out);have hz:=zc HB3.out 7 _ (cell_num _ (j:=7) (by decide));have hy:=free_slot HB3.out 7;clear hcu hx3 hrd)|(go_at_call 75;refine(parse75 x2 HD.out _).mono ?_;rintro e w5 ⟨rfl,hx5⟩;have HC5:=zh (HC3.out.ext hx5);have HB5:=zh ((hx5.block b (zl HB3.out)).trans HB3.out);clear hz hy;have hz:=zc HB5.out 7 _ (cell_num _ (j:=7) (by decide));have hy:=free_slot HB5.out 7;clear hx5))
     go_roundw
     case rel=>
      refine⟨k+1,R',by omega,zh ⟨HC5.out.but (zr.but.set _ _),HRE.out,?_⟩⟩
      rw [HTT.out,tOf_snoc,HCJ.out,slot_at (j:=7) (by decide),<-set_num _ _ (j:=7) (by decide)]
      exact slot_setCell HB5.out
     case measure=>
      rw [bufLen_cur (HC5.out.but (zr.but.set _ _)),bufLen_cur HC.out]
      simp only [List.length_cons,List.length_append];omega
   ·as_aux_lemma=>
     obtain rfl:c=113:=hcj
     have hcz:((113:Int) == 0)=false:=by decide
     go_wp2_with (first|(go_at_call 294;refine(cur_byte HC.out).mono ?_;rintro e w2 ⟨rfl,hcu,hx2⟩;have HC2:=zh hcu;have HB2:=zh ((hx2.block b (zl HB.out) HNE.out).trans HB.out);clear hcu hx2)|(go_at_call 166;refine(cur_text (s:=sby x2) HC2.out HS2.out HLX.out).mono ?_;rintro e w3 ⟨A3,c3,rfl,hrd,hcu,hx3⟩;have HC3:=zh hcu;have hcv:=conv_rd (show RdB w3 (.slice A3 (sby x2).length c3) (sby x2)from by(have h9:=hrd.take (sby x2).length (by omega);rwa [List.take_left]at h9));rw [str_sby]at hcv;have hc3:(sby x2).length+1<=c3:=(by have h9:=hrd.parts.2.1;simpa using h9);have HB3:=zh ((hx3.block b (zl HB2.out) HNE.out).trans HB2.out);have hz:=zc HB3.out 8 _ (cell_txt _ (j:=8) (by decide) (by decide));have hy:=free_slot HB3.out 8;clear hcu hx3 hrd))
     go_roundw
     case rel=>
      refine⟨k+1,R',by omega,zh ⟨HC3.out.but (zr.but.set _ _),HRE.out,?_⟩⟩
      rw [HTT.out,tOf_snoc,HCJ.out,slot_at (j:=8) (by decide),<-set_txt _ _ (j:=8) (by decide) (by decide)]
      exact slot_setCell HB3.out
     case measure=>
      rw [bufLen_cur (HC3.out.but (zr.but.set _ _)),bufLen_cur HC.out]
      simp only [List.length_cons,List.length_append];omega
   ·as_aux_lemma=>
     obtain rfl:c=87:=hcj
     have hcz:((87:Int) == 0)=false:=by decide
     go_wp2_with (first|(go_at_call 294;refine(cur_byte HC.out).mono ?_;rintro e w2 ⟨rfl,hcu,hx2⟩;have HC2:=zh hcu;have HB2:=zh ((hx2.block b (zl HB.out) HNE.out).trans HB.out);clear hcu hx2)|(go_at_call 166;refine(cur_text (s:=sby x2) HC2.out HS2.out HLX.out).mono ?_;rintro e w3 ⟨A3,c3,rfl,hrd,hcu,hx3⟩;have HC3:=zh hcu;have hcv:=conv_rd (show RdB w3 (.slice A3 (sby x2).length c3) (sby x2)from by(have h9:=hrd.take (sby x2).length (by omega);rwa [List.take_left]at h9));rw [str_sby]at hcv;have hc3:(sby x2).length+1<=c3:=(by have h9:=hrd.parts.2.1;simpa using h9);have HB3:=zh ((hx3.block b (zl HB2.out) HNE.out).trans HB2.out);have hz:=zc HB3.out 9 _ (cell_txt _ (j:=9) (by decide) (by decide));have hy:=free_slot HB3.out 9;clear hcu hx3 hrd))
     go_roundw
     case rel=>
      refine⟨k+1,R',by omega,zh ⟨HC3.out.but (zr.but.set _ _),HRE.out,?_⟩⟩
      rw [HTT.out,tOf_snoc,HCJ.out,slot_at (j:=9) (by decide),<-set_txt _ _ (j:=9) (by decide) (by decide)]
      exact slot_setCell HB3.out
     case measure=>
      rw [bufLen_cur (HC3.out.but (zr.but.set _ _)),bufLen_cur HC.out]
      simp only [List.length_cons,List.length_append];omega
   ·as_aux_lemma=>
     obtain rfl:c=115:=hcj
     have hcz:((115:Int) == 0)=false:=by decide
     go_wp2_with (first|(go_at_call 294;refine(cur_byte HC.out).mono ?_;rintro e w2 ⟨rfl,hcu,hx2⟩;have HC2:=zh hcu;have HB2:=zh ((hx2.block b (zl HB.out) HNE.out).trans HB.out);clear hcu hx2)|(go_at_call 166;refine(cur_text (s:=sby x2) HC2.out HS2.out HLX.out).mono ?_;rintro e w3 ⟨A3,c3,rfl,hrd,hcu,hx3⟩;have HC3:=zh hcu;have hcv:=conv_rd (show RdB w3 (.slice A3 (sby x2).length c3) (sby x2)from by(have h9:=hrd.take (sby x2).length (by omega);rwa [List.take_left]at h9));rw [str_sby]at hcv;have hc3:(sby x2).length+1<=c3:=(by have h9:=hrd.parts.2.1;simpa using h9);have HB3:=zh ((hx3.block b (zl HB2.out) HNE.out).trans HB2.out);have hz:=zc HB3.out 10 _ (cell_txt _ (j:=10) (by decide) (by decide));have hy:=free_slot HB3.out 10;clear hcu hx3 hrd))
     go_roundw
     case rel=>
      refine⟨k+1,R',by omega,zh ⟨HC3.out.but (zr.but.set _ _),HRE.out,?_⟩⟩
      rw [HTT.out,tOf_snoc,HCJ.out,slot_at (j:=10) (by decide),<-set_txt _ _ (j:=10) (by decide) (by decide)]
      exact slot_setCell HB3.out
     case measure=>
      rw [bufLen_cur (HC3.out.but (zr.but.set _ _)),bufLen_cur HC.out]
      simp only [List.length_cons,List.length_append];omega
   ·as_aux_lemma=>
     obtain rfl:c=116:=hcj
     have hcz:((116:Int) == 0)=false:=by decide
     go_wp2_with (first|(go_at_call 294;refine(cur_byte HC.out).mono ?_;rintro e w2 ⟨rfl,hcu,hx2⟩;have HC2:=zh hcu;have HB2:=zh ((hx2.block b (zl HB.out) HNE.out).trans HB.out);clear hcu hx2)|(go_at_call 166;refine(cur_text (s:=sby x2) HC2.out HS2.out HLX.out).mono ?_;rintro e w3 ⟨A3,c3,rfl,hrd,hcu,hx3⟩;have HC3:=zh hcu;have hcv:=conv_rd (show RdB w3 (.slice A3 (sby x2).length c3) (sby x2)from by(have h9:=hrd.take (sby x2).length (by omega);rwa [List.take_left]at h9));rw [str_sby]at hcv;have hc3:(sby x2).length+1<=c3:=(by have h9:=hrd.parts.2.1;simpa using h9);have HB3:=zh ((hx3.block b (zl HB2.out) HNE.out).trans HB2.out);have hz:=zc HB3.out 11 _ (cell_txt _ (j:=11) (by decide) (by decide));have hy:=free_slot HB3.out 11;clear hcu hx3 hrd))
     go_roundw
     case rel=>
      refine⟨k+1,R',by omega,zh ⟨HC3.out.but (zr.but.set _ _),HRE.out,?_⟩⟩
      rw [HTT.out,tOf_snoc,HCJ.out,slot_at (j:=11) (by decide),<-set_txt _ _ (j:=11) (by decide) (by decide)]
      exact slot_setCell HB3.out
     case measure=>
      rw [bufLen_cur (HC3.out.but (zr.but.set _ _)),bufLen_cur HC.out]
      simp only [List.length_cons,List.length_append];omega
   ·as_aux_lemma=>
     obtain rfl:c=99:=hcj
     have hcz:((99:Int) == 0)=false:=by decide
     go_wp2_with (first|(go_at_call 294;refine(cur_byte HC.out).mono ?_;rintro e w2 ⟨rfl,hcu,hx2⟩;have HC2:=zh hcu;have HB2:=zh ((hx2.block b (zl HB.out) HNE.out).trans HB.out);clear hcu hx2)|(go_at_call 166;refine(cur_text (s:=sby x2) HC2.out HS2.out HLX.out).mono ?_;rintro e w3 ⟨A3,c3,rfl,hrd,hcu,hx3⟩;have HC3:=zh hcu;have hcv:=conv_rd (show RdB w3 (.slice A3 (sby x2).length c3) (sby x2)from by(have h9:=hrd.take (sby x2).length (by omega);rwa [List.take_left]at h9));rw [str_sby]at hcv;have hc3:(sby x2).length+1<=c3:=(by have h9:=hrd.parts.2.1;simpa using h9);have HB3:=zh ((hx3.block b (zl HB2.out) HNE.out).trans HB2.out);have hz:=zc HB3.out 12 _ (cell_txt _ (j:=12) (by decide) (by decide));have hy:=free_slot HB3.out 12;clear hcu hx3 hrd))
     go_roundw
     case rel=>
      refine⟨k+1,R',by omega,zh ⟨HC3.out.but (zr.but.set _ _),HRE.out,?_⟩⟩
      rw [HTT.out,tOf_snoc,HCJ.out,slot_at (j:=12) (by decide),<-set_txt _ _ (j:=12) (by decide) (by decide)]
      exact slot_setCell HB3.out
     case measure=>
      rw [bufLen_cur (HC3.out.but (zr.but.set _ _)),bufLen_cur HC.out]
      simp only [List.length_cons,List.length_append];omega
   ·as_aux_lemma=>
     obtain rfl:c=100:=hcj
     have hcz:((100:Int) == 0)=false:=by decide
     go_wp2_with (first|(go_at_call 294;refine(cur_byte HC.out).mono ?_;rintro e w2 ⟨rfl,hcu,hx2⟩;have HC2:=zh hcu;have HB2:=zh ((hx2.block b (zl HB.out) HNE.out).trans HB.out);clear hcu hx2)|(go_at_call 166;refine(cur_text (s:=sby x2) HC2.out HS2.out HLX.out).mono ?_;rintro e w3 ⟨A3,c3,rfl,hrd,hcu,hx3⟩;have HC3:=zh hcu;have hcv:=conv_rd (show RdB w3 (.slice A3 (sby x2).length c3) (sby x2)from by(have h9:=hrd.take (sby x2).length (by omega);rwa [List.take_left]at h9));rw [str_sby]at hcv;have hc3:(sby x2).length+1<=c3:=(by have h9:=hrd.parts.2.1;simpa using h9);have HB3:=zh ((hx3.block b (zl HB2.out) HNE.out).trans HB2.out);have hz:=zc HB3.out 13 _ (cell_txt _ (j:=13) (by decide) (by decide));have hy:=free_slot HB3.out 13;clear hcu hx3 hrd))
     go_roundw
     case rel=>
      refine⟨k+1,R',by omega,zh ⟨HC3.out.but (zr.but.set _ _),HRE.out,?_⟩⟩
      rw [HTT.out,tOf_snoc,HCJ.out,slot_at (j:=13) (by decide),<-set_txt _ _ (j:=13) (by decide) (by decide)]
      exact slot_setCell HB3.out
     case measure=>
      rw [bufLen_cur (HC3.out.but (zr.but.set _ _)),bufLen_cur HC.out]
      simp only [List.length_cons,List.length_append];omega
   ·as_aux_lemma=>
     obtain rfl:c=110:=hcj
     have hcz:((110:Int) == 0)=false:=by decide
     go_wp2_with (first|(go_at_call 294;refine(cur_byte HC.out).mono ?_;rintro e w2 ⟨rfl,hcu,hx2⟩;have HC2:=zh hcu;have HB2:=zh ((hx2.block b (zl HB.out) HNE.out).trans HB.out);clear hcu hx2)|(go_at_call 166;refine(cur_text (s:=sby x2) HC2.out HS2.out HLX.out).mono ?_;rintro e w3 ⟨A3,c3,rfl,hrd,hcu,hx3⟩;have HC3:=zh hcu;have hcv:=conv_rd (show RdB w3 (.slice A3 (sby x2).length c3) (sby x2)from by(have h9:=hrd.take (sby x2).length (by omega);rwa [List.take_left]at h9));rw [str_sby]at hcv;have hc3:(sby x2).length+1<=c3:=(by have h9:=hrd.parts.2.1;simpa using h9);have HB3:=zh ((hx3.block b (zl HB2.out) HNE.out).trans HB2.out);have hz:=zc HB3.out 14 _ (cell_txt _ (j:=14) (by decide) (by decide));have hy:=free_slot HB3.out 14;clear hcu hx3 hrd))
     go_roundw
     case rel=>
      refine⟨k+1,R',by omega,zh ⟨HC3.out.but (zr.but.set _ _),HRE.out,?_⟩⟩
      rw [HTT.out,tOf_snoc,HCJ.out,slot_at (j:=14) (by decide),<-set_txt _ _ (j:=14) (by decide) (by decide)]
      exact slot_setCell HB3.out
     case measure=>
      rw [bufLen_cur (HC3.out.but (zr.but.set _ _)),bufLen_cur HC.out]
      simp only [List.length_cons,List.length_append];omega
   ·as_aux_lemma=>
     obtain rfl:c=70:=hcj
     have hcz:((70:Int) == 0)=false:=by decide
     go_wp2_with (first|(go_at_call 294;refine(cur_byte HC.out).mono ?_;rintro e w2 ⟨rfl,hcu,hx2⟩;have HC2:=zh hcu;have HB2:=zh ((hx2.block b (zl HB.out) HNE.out).trans HB.out);clear hcu hx2)|(go_at_call 166;refine(cur_text (s:=sby x2) HC2.out HS2.out HLX.out).mono ?_;rintro e w3 ⟨A3,c3,rfl,hrd,hcu,hx3⟩;have HC3:=zh hcu;have hcv:=conv_rd (show RdB w3 (.slice A3 (sby x2).length c3) (sby x2)from by(have h9:=hrd.take (sby x2).length (by omega);rwa [List.take_left]at h9));rw [str_sby]at hcv;have hc3:(sby x2).length+1<=c3:=(by have h9:=hrd.parts.2.1;simpa using h9);have HB3:=zh ((hx3.block b (zl HB2.out) HNE.out).trans HB2.out);have hz:=zc HB3.out 15 _ (cell_txt _ (j:=15) (by decide) (by decide));have hy:=free_slot HB3.out 15;clear hcu hx3 hrd))
     go_roundw
     case rel=>
      refine⟨k+1,R',by omega,zh ⟨HC3.out.but (zr.but.set _ _),HRE.out,?_⟩⟩
      rw [HTT.out,tOf_snoc,HCJ.out,slot_at (j:=15) (by decide),<-set_txt _ _ (j:=15) (by decide) (by decide)]
      exact slot_setCell HB3.out
     case measure=>
      rw [bufLen_cur (HC3.out.but (zr.but.set _ _)),bufLen_cur HC.out]
      simp only [List.length_cons,List.length_append];omega
   ·as_aux_lemma=>
     obtain rfl:c=76:=hcj
     have hcz:((76:Int) == 0)=false:=by decide
     have HD:Hid (digP x2):=zh (dig_at (y:=(x1,x2)) HFL.out (j:=16) HCJ.out (by decide))
     have hnum:=num_facts HD.out
     have hw32:IntKind.i32.wrap (numS x2)=numS x2:=by rw [IntKind.wrap_i32];omega
     clear hnum
     go_wp2_with (first|(go_at_call 294;refine(cur_byte HC.out).mono ?_;rintro e w2 ⟨rfl,hcu,hx2⟩;have HC2:=zh hcu;have HB2:=zh ((hx2.block b (zl HB.out) HNE.out).trans HB.out);clear hcu hx2)|(go_at_call 166;refine(cur_text (s:=sby x2) HC2.out HS2.out HLX.out).mono ?_;rintro e w3 ⟨A3,c3,rfl,hrd,hcu,hx3⟩;have HC3:=zh hcu;have hcv:=conv_rd (show RdB w3 (.slice A3 (sby x2).length c3) (sby x2)from by(have h9:=hrd.take (sby x2).length (by omega);rwa [List.take_left]at h9));rw [str_sby]at hcv;have hc3:(sby x2).length+1<=c3:=(by have h9:=hrd.parts.2.1;simpa using h9);have HB3:=zh ((hx3.block b (zl HB2.out) HNE.out).trans HB2.out);have hz:=zc HB3.out 16 _ (cell_num _ (j:=16) (by decide));have hy:=free_slot HB3.out 16;clear hcu hx3 hrd)|(go_at_call 75;refine(parse75 x2 HD.out _).mono ?_;rintro e w5 ⟨rfl,hx5⟩;have HC5:=zh (HC3.out.ext hx5);have HB5:=zh ((hx5.block b (zl HB3.out)).trans HB3.out);clear hz hy;have hz:=zc HB5.out 16 _ (cell_num _ (j:=16) (by decide));have hy:=free_slot HB5.out 16;clear hx5))
     go_roundw
     case rel=>
      refine⟨k+1,R',by omega,zh ⟨HC5.out.but (zr.but.set _ _),HRE.out,?_⟩⟩
      rw [HTT.out,tOf_snoc,HCJ.out,slot_at (j:=16) (by decide),<-set_num _ _ (j:=16) (by decide)]
      exact slot_setCell HB5.out
     case measure=>
      rw [bufLen_cur (HC5.out.but (zr.but.set _ _)),bufLen_cur HC.out]
      simp only [List.length_cons,List.length_append];omega
   ·as_aux_lemma=>
     obtain rfl:c=82:=hcj
     have hcz:((82:Int) == 0)=false:=by decide
     go_wp2_with (first|(go_at_call 294;refine(cur_byte HC.out).mono ?_;rintro e w2 ⟨rfl,hcu,hx2⟩;have HC2:=zh hcu;have HB2:=zh ((hx2.block b (zl HB.out) HNE.out).trans HB.out);clear hcu hx2)|(go_at_call 166;refine(cur_text (s:=sby x2) HC2.out HS2.out HLX.out).mono ?_;rintro e w3 ⟨A3,c3,rfl,hrd,hcu,hx3⟩;have HC3:=zh hcu;have hcv:=conv_rd (show RdB w3 (.slice A3 (sby x2).length c3) (sby x2)from by(have h9:=hrd.take (sby x2).length (by omega);rwa [List.take_left]at h9));rw [str_sby]at hcv;have hc3:(sby x2).length+1<=c3:=(by have h9:=hrd.parts.2.1;simpa using h9);have HB3:=zh ((hx3.block b (zl HB2.out) HNE.out).trans HB2.out);have hz:=zc HB3.out 17 _ (cell_txt _ (j:=17) (by decide) (by decide));have hy:=free_slot HB3.out 17;clear hcu hx3 hrd))
     go_roundw
     case rel=>
      refine⟨k+1,R',by omega,zh ⟨HC3.out.but (zr.but.set _ _),HRE.out,?_⟩⟩
      rw [HTT.out,tOf_snoc,HCJ.out,slot_at (j:=17) (by decide),<-set_txt _ _ (j:=17) (by decide) (by decide)]
      exact slot_setCell HB3.out
     case measure=>
      rw [bufLen_cur (HC3.out.but (zr.but.set _ _)),bufLen_cur HC.out]
      simp only [List.length_cons,List.length_append];omega
  ·obtain rfl:k=qs.length:=by omega
   have hR0:R=[0]:=by rw [HH.out.2.1,List.drop_length];rfl
   have HC:Hid (Cur b wd wd.heap.size wr (0 :: [])):=zh (by have h9:=HH.out.1;rwa [hR0]at h9)
   have HB9:=zh (show wr.heap[b]?=some (.cells (errCells (tOf qs)) ty (0,0))from by have h9:=HB.out;rwa [List.take_length]at h9)
   clear HH hR0
   go_wp2_with (go_at_call 294;refine(cur_byte HC.out).mono ?_;rintro e w2 ⟨rfl,hcu,hx2⟩;have HC2:=zh hcu;have HB2:=zh ((hx2.block b (zl HB.out) HNE.out).trans HB.out);clear hcu hx2)
   go_ret
   exact⟨rfl,HC2.out.bel,by have h9:=HB2.out;rwa [List.take_length]at h9⟩
theorem dek47 (qs:List Pr)(hq:∀y∈qs,fldP y/\plainP y.2)(wd:World)(b:Nat)(v:Value)(hb:wd.heap[b]?=some (.cells (errCells fun _=>(⟨#[]⟩:ByteArray)) 216 (0,0)))(hv:RdB wd v (qs.flatMap erB++ [0]))(hl:(qs.flatMap erB++ [0]).length<=100000)(hof:v.ownBlock≠some b):
 Calls Tryz.prog 292 #[.pointer (some ⟨b,0,none⟩),v] wd (Deced b (fun b w2=>w2.heap[b]?=some (.cells (errCells (tOf qs)) 216 (0,0))) wd):=dekE 216 qs hq wd b v hb hv hl hof
theorem dek48 (qs:List Pr)(hq:∀y∈qs,fldP y/\plainP y.2)(wd:World)(b:Nat)(v:Value)(hb:wd.heap[b]?=some (.cells (errCells fun _=>(⟨#[]⟩:ByteArray)) 218 (0,0)))(hv:RdB wd v (qs.flatMap erB++ [0]))(hl:(qs.flatMap erB++ [0]).length<=100000)(hof:v.ownBlock≠some b):
 Calls Tryz.prog 314 #[.pointer (some ⟨b,0,none⟩),v] wd (Deced b (fun b w2=>w2.heap[b]?=some (.cells (errCells (tOf qs)) 218 (0,0))) wd):=by
 have HE:=zh (dekE 218 qs hq wd b v hb hv hl hof)
 clear hq hb hv hl hof
 go_enter Tryz.func314,Tryz.ntmps314
 go_wp2_with (go_at_call 292;refine HE.out.mono ?_;rintro e w2 ⟨rfl,hx2,hq2⟩;have HX:=zh hx2;have HQ2:=zh hq2;clear hx2 hq2)
 go_ret
 exact⟨rfl,HX.out,HQ2.out⟩
end Go.Proofs.YtdenjanihikolaaGreatDoor
