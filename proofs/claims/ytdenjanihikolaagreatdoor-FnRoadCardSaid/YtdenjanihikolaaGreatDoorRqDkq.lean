/- What is needed of a kind: those with pairs; and all of them together. -/
import Derived.Test.YtdenjanihikolaaGreatDoorRqA0
import Derived.Test.YtdenjanihikolaaGreatDoorRqA1
import Derived.Test.YtdenjanihikolaaGreatDoorRqDkj
import Derived.Test.YtdenjanihikolaaGreatDoorRqSmu
import Derived.Test.YtdenjanihikolaaGreatDoorRqDcj
import Derived.Test.YtdenjanihikolaaGreatDoorRqMkk
import Derived.Test.YtdenjanihikolaaGreatDoorRqMkb
import Derived.Test.YtdenjanihikolaaGreatDoorRqPpc
import Derived.Test.YtdenjanihikolaaGreatDoorRqBdd
import Derived.Test.YtdenjanihikolaaGreatDoorRqTdc
import Derived.Test.YtdenjanihikolaaGreatDoorRqEncf
import Derived.Test.YtdenjanihikolaaGreatDoorRqWrd
import Derived.Test.YtdenjanihikolaaGreatDoorRqEncc
import Derived.Test.YtdenjanihikolaaGreatDoorRqFit
import Derived.Test.YtdenjanihikolaaGreatDoorRqTda
import Derived.Test.YtdenjanihikolaaGreatDoorRqMkg
import Derived.Test.YtdenjanihikolaaGreatDoorRqBdh
import Derived.Test.YtdenjanihikolaaGreatDoorRqStp
import Derived.Test.YtdenjanihikolaaGreatDoorRqMkn
import Derived.Test.YtdenjanihikolaaGreatDoorRqTa
import Derived.Test.YtdenjanihikolaaGreatDoorRqTdn
import Derived.Test.YtdenjanihikolaaGreatDoorRqTdh
import Derived.Test.YtdenjanihikolaaGreatDoorRqDkn
import Derived.Test.YtdenjanihikolaaGreatDoorRqTdg
import Derived.Test.YtdenjanihikolaaGreatDoorRqTdd
import Derived.Test.YtdenjanihikolaaGreatDoorRqTde
import Derived.Test.YtdenjanihikolaaGreatDoorRqDkg
import Derived.Test.YtdenjanihikolaaGreatDoorRqRkb
namespace Go.Proofs.YtdenjanihikolaaGreatDoor
set_option linter.unusedVariables false
set_option linter.unusedSimpArgs false
set_option maxRecDepth 100000
set_option maxHeartbeats 4000000
open Go.RowKit Go.Maps Og
theorem cur_byte {bk bb:Nat} {w1 w:World} {x:Int} {r:List Int} (h:Cur bk w1 bb w (x :: r)):Calls Tryz.prog 294 #[.pointer (some ⟨bb,0,none⟩)] w (fun e w'=>e=.returned (.tuple #[.int .u8 x,.nilIface])/\Cur bk w1 bb w' r/\ExtBut bb w w'):=by
 obtain⟨A,c,hb,hr⟩:=h.blk
 obtain⟨hn,hcm,hcx⟩:=hr.1.parts
 obtain⟨b5,o5,hA,hd⟩:=((hr.at_ h.bel).1).head
 subst hA
 obtain⟨N,hN⟩:∃N,N=(x :: r).length:=⟨_,rfl⟩
 rw [<-hN]at hb hr hcm
 have hN1:N=r.length+1:=hN
 have e1:((N:Int) == 0)=false:=beq_eq_false_iff_ne.2 (by omega)
 have e2:¬((N:Int)=0):=by omega
 have e3:0 < N:=by omega
 have e4:1<=N:=by omega
 obtain⟨A',c',hs,hq⟩:=sl_from (some ⟨b5,o5,none⟩) N c 1 1 rfl (by omega) hcm hcx
 have HQ:Hid (RdN bk w1 (.slice A' (N - 1) c') r):=zh (hq bk w1 _ hr)
 have hc:=zc hb 0 _ rfl
 have hf:=free_slot hb 0
 have H:=zh h
 clear h hb hr hn hcx hq hN hN1
 go_enter Tryz.func294,Tryz.ntmps294
 go_wp2
 go_ret2
 exact⟨rfl,(H.out.set HQ.out).1,(H.out.set HQ.out).2⟩
theorem sby_one {x:ByteArray} (h:x.size=1):sby x=[cOf x]:=by
 have h1:=len_of x
 rw [h]at h1
 obtain⟨c,hc⟩:=List.length_eq_one_iff.1 h1
 unfold sby cOf
 rw [hc]
 rfl
def bufLen (bb:Nat) (w:World):Nat:=match w.cell? ⟨bb,0,none⟩with
 | some (.slice _ n _)=>n
 | _=>0
theorem bufLen_cur {bk bb:Nat} {w1 w:World} {xs:List Int} (h:Cur bk w1 bb w xs):bufLen bb w=xs.length:=by
 obtain⟨A,c,hb,hr⟩:=h.blk
 unfold bufLen
 rw [zc hb 0 (.slice A xs.length c) rfl]
set_option maxHeartbeats 40000000 in
theorem dekE (ty:TypeId)(qs:List Pr)(hq:∀y∈qs,fldP y/\plainP y.2)(wd:World)(b:Nat)(v:Value)(hb:wd.heap[b]?=some (.cells (errCells fun _=>(⟨#[]⟩:ByteArray)) ty (0,0)))(hv:RdB wd v (qs.flatMap erB++ [0]))(hl:(qs.flatMap erB++ [0]).length<=100000)(hof:v.ownBlock≠some b):
 Calls Tryz.prog 292 #[.pointer (some ⟨b,0,none⟩),v] wd (Deced b (fun b w2=>w2.heap[b]?=some (.cells (errCells (tOf qs)) ty (0,0))) wd):=by
 have HV:Hid (RdN b wd v (qs.flatMap erB++ [0])):=zh ⟨hv,fun _=>hof⟩
 have HBK:=zh hb
 have HLT:=zh (zl hb)
 have HQ:=zh hq
 have HLL:=zh hl
 have HNE:Hid (b≠wd.heap.size):=zh (by have:=HLT.out;omega)
 clear hb hv hof hq hl
 go_enter Tryz.func292,Tryz.ntmps292
 go_wp2_with (first|(refine wpList_store_row rfl 216 (.tmp 21) (.tmp 20) rfl b (errCells fun _=>(⟨#[]⟩:ByteArray)) rfl rfl ty _ HBK.out size216 rfl (err_one _) ?_)|(go_at_call 165;refine(cur_newb (bk:=b) (w1:=wd) (bb:=wd.heap.size) HV.out HLT.out ((Ext.refl wd).but.row _) (by simp [World.setRow])).mono ?_;rintro e w1 ⟨rfl,hcu,hx1⟩;have HC:=zh hcu;have HB:=zh ((hx1.block b (zl (setRow_heap _ _ _ _ _ _ HBK.out))).trans (setRow_heap _ _ _ (errCells fun _=>(⟨#[]⟩:ByteArray)) _ _ HBK.out));clear hcu hx1))
 go_loopw [6] (fun _ wr=>∃(k:Nat) (R:List Int),k<=qs.length/\Hid (Cur b wd wd.heap.size wr R/\R=(qs.drop k).flatMap erB++ [0]/\wr.heap[b]?=some (.cells (errCells (tOf (qs.take k))) ty (0,0)))) (fun _ wr=>bufLen wd.heap.size wr)
 case atStart=>exact⟨0,_,Nat.zero_le _,zh ⟨HC.out,by rw [List.drop_zero],by simpa [tOf]using HB.out⟩⟩
 case round=>
  clear HC HB
  obtain⟨k,R,hk1,HH⟩:=hrel
  have HB:=zh HH.out.2.2
  by_cases hlt:k < qs.length
  ·have HFP:=HQ.out _ (List.getElem_mem hlt)
   have HTT:=zh (take_succ1 qs k hlt)
   obtain⟨⟨x1,x2⟩,hx⟩:∃x,x=qs[k]:=⟨_,rfl⟩
   rw [<-hx]at HFP HTT
   have HFL:=zh HFP.1
   have HS2:=zh (plain_ne HFP.2)
   have hl2:(sby x2).length<=200:=by rw [sby_length];exact HFP.2.1
   obtain⟨R',hR'⟩:∃R',R'=(qs.drop (k+1)).flatMap erB++ [0]:=⟨_,rfl⟩
   have HRE:=zh hR'
   obtain⟨j,hj,hcj,hsz⟩:=let_of HFP.1.1
   replace hcj:cOf x1=ls18.getD j 0:=hcj
   have HCJ:=zh hcj
   obtain⟨c,hce⟩:∃c,c=cOf x1:=⟨_,rfl⟩
   rw [<-hce]at hcj
   have hsx:sby x1=[c]:=by
    have h9:=let_of HFP.1.1
    rw [hce]
    exact sby_one hsz
   have hRR:R=c :: (sby x2++0 :: R'):=by
    rw [HH.out.2.1,List.drop_eq_getElem_cons hlt,List.flatMap_cons,<-hx,hR']
    simp only [erB,txt,hsx,List.append_assoc,List.cons_append,List.nil_append]
   have HC:Hid (Cur b wd wd.heap.size wr (c :: (sby x2++0 :: R'))):=zh (by rw [<-hRR];exact HH.out.1)
   have HLX:Hid ((sby x2++0 :: R').length<=1000000):=zh (by
    have h9:=HLL.out
    have h8:R.length<=100000:=by
     rw [HH.out.2.1,List.length_append]
     have h7:((qs.drop k).flatMap erB).length<=(qs.flatMap erB).length:=by
      have h6:(qs.flatMap erB)=(qs.take k).flatMap erB++(qs.drop k).flatMap erB:=by rw [<-List.flatMap_append,List.take_append_drop]
      rw [h6,List.length_append];omega
     rw [List.length_append]at h9
     omega
    rw [hRR]at h8
    simp only [List.length_cons]at h8
    omega)
   clear HH hRR hR' hsx hx HFP hsz hce
   have HSL:Hid (slotC (cOf x1)=j):=zh (by rw [HCJ.out];exact slot_at hj)
   have HFS:Hid (∀{w':World} {cs:Array Value} {t:TypeId},w'.heap[b]?=some (.cells cs t (0,0))->w'.frozen? ⟨b,j,none⟩=false):=zh fun h=>free_slot h j
   have hcz:(c == 0)=false:=by
    rw [hcj]
    rcases cases18 hj with rfl|rfl|rfl|rfl|rfl|rfl|rfl|rfl|rfl|rfl|rfl|rfl|rfl|rfl|rfl|rfl|rfl|rfl <;> decide
   by_cases hnj:numJ j
   ·have HD:Hid (digP x2):=zh (dig_at (y:=(x1,x2)) HFL.out HCJ.out hnj)
    have HT1:Hid (∀T,(errCells T)[j]?=some (.int .i32 (numS (T j)))):=zh fun T=>cell_num T hnj
    have HT2:=zh fun T v=>set_num T v hnj
    have hnum:=num_facts HD.out
    have hw32:IntKind.i32.wrap (numS x2)=numS x2:=by rw [IntKind.wrap_i32];omega
    clear hnum HCJ hj
    rcases hnj with rfl|rfl|rfl
    all_goals as_aux_lemma=>
     simp [ls18]at hcj
     subst hcj
     go_wp2_with (first|(go_at_call 294;refine(cur_byte HC.out).mono ?_;rintro e w2 ⟨rfl,hcu,hx2⟩;have HC2:=zh hcu;have HB2:=zh ((hx2.block b (zl HB.out) HNE.out).trans HB.out);clear hcu hx2)|(go_at_call 166;refine(cur_text (s:=sby x2) HC2.out HS2.out HLX.out).mono ?_;rintro e w3 ⟨A3,c3,rfl,hrd,hcu,hx3⟩;have HC3:=zh hcu;have hcv:=conv_rd (show RdB w3 (.slice A3 (sby x2).length c3) (sby x2)from by(have h9:=hrd.take (sby x2).length (by omega);rwa [List.take_left]at h9));rw [str_sby]at hcv;have hc3:(sby x2).length+1<=c3:=(by have h9:=hrd.parts.2.1;simpa using h9);have HB3:=zh ((hx3.block b (zl HB2.out) HNE.out).trans HB2.out);have hz:=zc HB3.out _ _ (HT1.out _);have hy:=HFS.out HB3.out;clear hcu hx3 hrd)|(go_at_call 75;refine(parse75 x2 HD.out _).mono ?_;rintro e w5 ⟨rfl,hx5⟩;have HC5:=zh (HC3.out.ext hx5);have HB5:=zh ((hx5.block b (zl HB3.out)).trans HB3.out);clear hz hy;have hz:=zc HB5.out _ _ (HT1.out _);have hy:=HFS.out HB5.out;clear hx5))
     go_roundw
     case rel=>
      refine⟨k+1,R',by omega,zh ⟨HC5.out.but (zr.but.set _ _),HRE.out,?_⟩⟩
      rw [HTT.out,tOf_snoc,HSL.out,<-HT2.out]
      exact slot_setCell HB5.out
     case measure=>
      rw [bufLen_cur (HC5.out.but (zr.but.set _ _)),bufLen_cur HC.out]
      simp only [List.length_cons,List.length_append];omega
   ·have HT1:Hid (∀T,(errCells T)[j]?=some (.string (T j))):=zh fun T=>cell_txt T hj hnj
    have HT2:=zh fun T v=>set_txt T v hj hnj
    clear HCJ
    rcases cases18 hj with rfl|rfl|rfl|rfl|rfl|rfl|rfl|rfl|rfl|rfl|rfl|rfl|rfl|rfl|rfl|rfl|rfl|rfl
    all_goals first
     | exact absurd (by decide) hnj
     | clear hnj hj
       as_aux_lemma=>
        simp [ls18]at hcj
        subst hcj
        go_wp2_with (first|(go_at_call 294;refine(cur_byte HC.out).mono ?_;rintro e w2 ⟨rfl,hcu,hx2⟩;have HC2:=zh hcu;have HB2:=zh ((hx2.block b (zl HB.out) HNE.out).trans HB.out);clear hcu hx2)|(go_at_call 166;refine(cur_text (s:=sby x2) HC2.out HS2.out HLX.out).mono ?_;rintro e w3 ⟨A3,c3,rfl,hrd,hcu,hx3⟩;have HC3:=zh hcu;have hcv:=conv_rd (show RdB w3 (.slice A3 (sby x2).length c3) (sby x2)from by(have h9:=hrd.take (sby x2).length (by omega);rwa [List.take_left]at h9));rw [str_sby]at hcv;have hc3:(sby x2).length+1<=c3:=(by have h9:=hrd.parts.2.1;simpa using h9);have HB3:=zh ((hx3.block b (zl HB2.out) HNE.out).trans HB2.out);have hz:=zc HB3.out _ _ (HT1.out _);have hy:=HFS.out HB3.out;clear hcu hx3 hrd))
        go_roundw
        case rel=>
         refine⟨k+1,R',by omega,zh ⟨HC3.out.but (zr.but.set _ _),HRE.out,?_⟩⟩
         rw [HTT.out,tOf_snoc,HSL.out,<-HT2.out]
         exact slot_setCell HB3.out
        case measure=>
         rw [bufLen_cur (HC3.out.but (zr.but.set _ _)),bufLen_cur HC.out]
         simp only [List.length_cons,List.length_append];omega
  ·obtain rfl:k=qs.length:=by omega
   have hR0:R=[0]:=by rw [HH.out.2.1,List.drop_length];rfl
   have HC:Hid (Cur b wd wd.heap.size wr (0 :: [])):=zh (by have h9:=HH.out.1;rwa [hR0]at h9)
   have HB9:=zh (show wr.heap[b]?=some (.cells (errCells (tOf qs)) ty (0,0))from by have h9:=HB.out;rwa [List.take_length]at h9)
   clear HH hR0
   go_wp2_with (go_at_call 294;refine(cur_byte HC.out).mono ?_;rintro e w2 ⟨rfl,hcu,hx2⟩;have HC2:=zh hcu;have HB2:=zh ((hx2.block b (zl HB.out) HNE.out).trans HB.out);clear hcu hx2)
   go_ret
   exact⟨rfl,HC2.out.bel,by have h9:=HB2.out;rwa [List.take_length]at h9⟩
theorem dek47 (qs:List Pr)(hq:∀y∈qs,fldP y/\plainP y.2)(wd:World)(b:Nat)(v:Value)(hb:wd.heap[b]?=some (.cells (errCells fun _=>(⟨#[]⟩:ByteArray)) 216 (0,0)))(hv:RdB wd v (qs.flatMap erB++ [0]))(hl:(qs.flatMap erB++ [0]).length<=100000)(hof:v.ownBlock≠some b):
 Calls Tryz.prog 292 #[.pointer (some ⟨b,0,none⟩),v] wd (Deced b (fun b w2=>w2.heap[b]?=some (.cells (errCells (tOf qs)) 216 (0,0))) wd):=dekE 216 qs hq wd b v hb hv hl hof
theorem dek48 (qs:List Pr)(hq:∀y∈qs,fldP y/\plainP y.2)(wd:World)(b:Nat)(v:Value)(hb:wd.heap[b]?=some (.cells (errCells fun _=>(⟨#[]⟩:ByteArray)) 218 (0,0)))(hv:RdB wd v (qs.flatMap erB++ [0]))(hl:(qs.flatMap erB++ [0]).length<=100000)(hof:v.ownBlock≠some b):
 Calls Tryz.prog 314 #[.pointer (some ⟨b,0,none⟩),v] wd (Deced b (fun b w2=>w2.heap[b]?=some (.cells (errCells (tOf qs)) 218 (0,0))) wd):=by
 have HE:=zh (dekE 218 qs hq wd b v hb hv hl hof)
 clear hq hb hv hl hof
 go_enter Tryz.func314,Tryz.ntmps314
 go_wp2_with (go_at_call 292;refine HE.out.mono ?_;rintro e w2 ⟨rfl,hx2,hq2⟩;have HX:=zh hx2;have HQ2:=zh hq2;clear hx2 hq2)
 go_ret
 exact⟨rfl,HX.out,HQ2.out⟩
open Go.RowKit Og
def ErrIn (ps:List Pr):Prop:=ps.length<=20/\(∀y∈ps,fldP y/\plainP y.1/\plainP y.2/\y.1.size=1/\y.2.size≠0)/\Srt ps
theorem tOf_size {ps:List Pr} (h:ErrIn ps):∀i,(tOf ps i).size<=200:=tOf_at (Q:=fun _ v=>v.size<=200) ps (fun _=>by show 0<=200;omega) fun y hy=>(h.2.1 y hy).2.2.1.1
theorem tOf_dig {ps:List Pr} (h:ErrIn ps):∀i,i=6∨i=7∨i=16->tOf ps i=⟨#[]⟩∨digP (tOf ps i):=fun i=>tOf_at (Q:=fun i v=>numJ i->v=⟨#[]⟩∨digP v) ps (fun _ _=> .inl rfl) (fun y hy hn=> .inr (by
 have h1:=(h.2.1 y hy).1
 obtain⟨j,hj,hc,_⟩:=let_of h1.1
 rw [hc,slot_at hj]at hn
 exact dig_at h1 hc hn)) i
theorem ans47 (a b:ByteArray)(n:Int)(v4 v5 v6 v7 v8 v9 v10 v12:Value)(ps:List Pr)(A11:Option Addr)(c11:Nat)(w w1:World)(bk:Nat)(HP:Hid (RdM 2 isPr w (.slice A11 ps.length c11) ps))(HI:Hid (ErrIn ps))(ht:Hid (Tab w))(hx:Ext w w1)(hbk:w.heap.size<=bk)(hblk:w1.heap[bk]?=some (.cells #[.string ⟨#[]⟩,.string ⟨#[]⟩,.string ⟨#[]⟩,.string ⟨#[]⟩,.string ⟨#[]⟩,.string ⟨#[]⟩,.int .i32 0,.int .i32 0,.string ⟨#[]⟩,.string ⟨#[]⟩,.string ⟨#[]⟩,.string ⟨#[]⟩,.string ⟨#[]⟩,.string ⟨#[]⟩,.string ⟨#[]⟩,.string ⟨#[]⟩,.int .i32 0,.string ⟨#[]⟩,.map none] 216 (0,0)))(R:List Int)(HR:Hid (R=msgB 69 (flT (tOf ps)++ [0]))):
 Calls Tryz.prog 60 #[.iface 213 (.pointer (some ⟨bk,0,none⟩)),.agg #[.int .i64 47,.string a,.string b,.int .u32 n,v4,v5,v6,v7,v8,v9,v10,.slice A11 ps.length c11,v12],.bool true] w1 (Ans 213 293 bk w R):=by
 have n185:=no185 213
 have n189:=no189 213
 have n191:=no191 213
 have n194:=no194 213
 have n196:=no196 213
 have n198:=no198 213
 have n200:=no200 213
 have n203:=no203 213
 have n206:=no206 213
 have n208:=no208 213
 have n210:=no210 213
 have y213:=yes213
 obtain⟨W2,hW2⟩:∃W2,W2=w1.alloc (.cells #[.int .i64 47,.string a,.string b,.int .u32 n,v4,v5,v6,v7,v8,v9,v10,.slice A11 ps.length c11,v12] 31):=⟨_,rfl⟩
 have X1:Hid (Ext w1 W2):=zh (by rw [hW2];exact ext_alloc w1 _)
 have XW:Hid (Ext w W2):=zh (hx.trans X1.out)
 have HB:Hid (W2.heap[bk]?=some (.cells #[.string ⟨#[]⟩,.string ⟨#[]⟩,.string ⟨#[]⟩,.string ⟨#[]⟩,.string ⟨#[]⟩,.string ⟨#[]⟩,.int .i32 0,.int .i32 0,.string ⟨#[]⟩,.string ⟨#[]⟩,.string ⟨#[]⟩,.string ⟨#[]⟩,.string ⟨#[]⟩,.string ⟨#[]⟩,.string ⟨#[]⟩,.string ⟨#[]⟩,.int .i32 0,.string ⟨#[]⟩,.map none] 216 (0,0))):=zh ((X1.out.block _ (zl hblk)).trans hblk)
 have HO:Hid (W2.heap[w1.heap.size]?=some (.cells #[.int .i64 47,.string a,.string b,.int .u32 n,v4,v5,v6,v7,v8,v9,v10,.slice A11 ps.length c11,v12] 31 (0,0))):=zh (by rw [hW2];exact heap_alloc_new _ _)
 have HBK:=zh hbk
 clear hx hbk hblk
 have hb3:=zc HO.out 3 (.int .u32 n) rfl
 have hb11:=zc HO.out 11 (.slice A11 ps.length c11) rfl
 go_enter Tryz.func60,Tryz.ntmps60
 go_wp2_with (first|(go_at_call 54;rw [<-hW2];clear hW2;refine(let54 n _).mono ?_;rintro e w54 ⟨rfl,hw54⟩;rw [hw54];clear hw54)|(go_at_call 68;refine(errorOf68 ps A11 c11 _ (HP.out.ext XW.out (fun _ _ h=>h)) HI.out.1 (fun y hy=>(HI.out.2.1 y hy).1)).mono ?_;rintro e w2 ⟨rfl,hx2⟩;have HX2:=zh hx2;clear hx2;have BB:=zh ((HX2.out.block _ (zl HB.out)).trans HB.out))|(refine wpList_store_row rfl 216 (.tmp 165) (.tmp 163) rfl bk (errCells (tOf ps)) rfl rfl 216 _ BB.out size216 rfl (err_one _) ?_))
 go_ret2
 have SS:=setRow_heap _ _ _ (errCells (tOf ps)) _ _ BB.out
 have E2:=((HX2.out.but (b:=bk)).row (errCells (tOf ps))).ext XW.out HBK.out
 exact⟨rfl,E2,encError (tOf ps) bk _ SS (tOf_size HI.out) (tOf_dig HI.out) (ht.out.ext E2) R HR⟩
theorem ans48 (a b:ByteArray)(n:Int)(v4 v5 v6 v7 v8 v9 v10 v12:Value)(ps:List Pr)(A11:Option Addr)(c11:Nat)(w w1:World)(bk:Nat)(HP:Hid (RdM 2 isPr w (.slice A11 ps.length c11) ps))(HI:Hid (ErrIn ps))(ht:Hid (Tab w))(hx:Ext w w1)(hbk:w.heap.size<=bk)(hblk:w1.heap[bk]?=some (.cells #[.string ⟨#[]⟩,.string ⟨#[]⟩,.string ⟨#[]⟩,.string ⟨#[]⟩,.string ⟨#[]⟩,.string ⟨#[]⟩,.int .i32 0,.int .i32 0,.string ⟨#[]⟩,.string ⟨#[]⟩,.string ⟨#[]⟩,.string ⟨#[]⟩,.string ⟨#[]⟩,.string ⟨#[]⟩,.string ⟨#[]⟩,.string ⟨#[]⟩,.int .i32 0,.string ⟨#[]⟩,.map none] 218 (0,0)))(R:List Int)(HR:Hid (R=msgB 78 (flT (tOf ps)++ [0]))):
 Calls Tryz.prog 60 #[.iface 217 (.pointer (some ⟨bk,0,none⟩)),.agg #[.int .i64 48,.string a,.string b,.int .u32 n,v4,v5,v6,v7,v8,v9,v10,.slice A11 ps.length c11,v12],.bool true] w1 (Ans 217 315 bk w R):=by
 have n185:=no185 217
 have n189:=no189 217
 have n191:=no191 217
 have n194:=no194 217
 have n196:=no196 217
 have n198:=no198 217
 have n200:=no200 217
 have n203:=no203 217
 have n206:=no206 217
 have n208:=no208 217
 have n210:=no210 217
 have n213:=no213 217
 have y217:=yes217
 obtain⟨W2,hW2⟩:∃W2,W2=w1.alloc (.cells #[.int .i64 48,.string a,.string b,.int .u32 n,v4,v5,v6,v7,v8,v9,v10,.slice A11 ps.length c11,v12] 31):=⟨_,rfl⟩
 have X1:Hid (Ext w1 W2):=zh (by rw [hW2];exact ext_alloc w1 _)
 have XW:Hid (Ext w W2):=zh (hx.trans X1.out)
 have HB:Hid (W2.heap[bk]?=some (.cells #[.string ⟨#[]⟩,.string ⟨#[]⟩,.string ⟨#[]⟩,.string ⟨#[]⟩,.string ⟨#[]⟩,.string ⟨#[]⟩,.int .i32 0,.int .i32 0,.string ⟨#[]⟩,.string ⟨#[]⟩,.string ⟨#[]⟩,.string ⟨#[]⟩,.string ⟨#[]⟩,.string ⟨#[]⟩,.string ⟨#[]⟩,.string ⟨#[]⟩,.int .i32 0,.string ⟨#[]⟩,.map none] 218 (0,0))):=zh ((X1.out.block _ (zl hblk)).trans hblk)
 have HO:Hid (W2.heap[w1.heap.size]?=some (.cells #[.int .i64 48,.string a,.string b,.int .u32 n,v4,v5,v6,v7,v8,v9,v10,.slice A11 ps.length c11,v12] 31 (0,0))):=zh (by rw [hW2];exact heap_alloc_new _ _)
 have HBK:=zh hbk
 clear hx hbk hblk
 have hb3:=zc HO.out 3 (.int .u32 n) rfl
 have hb11:=zc HO.out 11 (.slice A11 ps.length c11) rfl
 go_enter Tryz.func60,Tryz.ntmps60
 go_wp2_with (first|(go_at_call 54;rw [<-hW2];clear hW2;refine(let54 n _).mono ?_;rintro e w54 ⟨rfl,hw54⟩;rw [hw54];clear hw54)|(go_at_call 68;refine(errorOf68 ps A11 c11 _ (HP.out.ext XW.out (fun _ _ h=>h)) HI.out.1 (fun y hy=>(HI.out.2.1 y hy).1)).mono ?_;rintro e w2 ⟨rfl,hx2⟩;have HX2:=zh hx2;clear hx2;have BB:=zh ((HX2.out.block _ (zl HB.out)).trans HB.out))|(refine wpList_store_row rfl 216 (.tmp 23) (.tmp 173) rfl w2.heap.size (errCells (tOf ps)) rfl rfl 216 #[.string ⟨#[]⟩,.string ⟨#[]⟩,.string ⟨#[]⟩,.string ⟨#[]⟩,.string ⟨#[]⟩,.string ⟨#[]⟩,.int .i32 0,.int .i32 0,.string ⟨#[]⟩,.string ⟨#[]⟩,.string ⟨#[]⟩,.string ⟨#[]⟩,.string ⟨#[]⟩,.string ⟨#[]⟩,.string ⟨#[]⟩,.string ⟨#[]⟩,.int .i32 0,.string ⟨#[]⟩,.map none] (heap_alloc_new w2 _) size216 rfl (err_one _) ?_;have BN:=zh (setRow_heap (w2.alloc (.cells #[.string ⟨#[]⟩,.string ⟨#[]⟩,.string ⟨#[]⟩,.string ⟨#[]⟩,.string ⟨#[]⟩,.string ⟨#[]⟩,.int .i32 0,.int .i32 0,.string ⟨#[]⟩,.string ⟨#[]⟩,.string ⟨#[]⟩,.string ⟨#[]⟩,.string ⟨#[]⟩,.string ⟨#[]⟩,.string ⟨#[]⟩,.string ⟨#[]⟩,.int .i32 0,.string ⟨#[]⟩,.map none] 216)) w2.heap.size _ (errCells (tOf ps)) 216 (0,0) (heap_alloc_new w2 _));have XN:Hid (Ext w2 ((w2.alloc (.cells #[.string ⟨#[]⟩,.string ⟨#[]⟩,.string ⟨#[]⟩,.string ⟨#[]⟩,.string ⟨#[]⟩,.string ⟨#[]⟩,.int .i32 0,.int .i32 0,.string ⟨#[]⟩,.string ⟨#[]⟩,.string ⟨#[]⟩,.string ⟨#[]⟩,.string ⟨#[]⟩,.string ⟨#[]⟩,.string ⟨#[]⟩,.string ⟨#[]⟩,.int .i32 0,.string ⟨#[]⟩,.map none] 216)).setRow w2.heap.size (errCells (tOf ps)))):=zh ((zr.but.row _).ext (ext_alloc w2 _) (Nat.le_refl _));have BM:=zh ((XN.out.block _ (zl BB.out)).trans BB.out))|(refine wpList_load_row rfl 216 (.tmp 23) rfl w2.heap.size rfl 216 (errCells (tOf ps)) (0,0) _ BN.out Tryz.underlying216 rfl size216 ?_)|(refine wpList_store_row rfl 218 (.tmp 178) (.tmp 176) rfl bk (errCells (tOf ps)) rfl rfl 218 _ BM.out size218 rfl (err_one _) ?_))
 go_ret2
 have SS:=setRow_heap _ _ _ (errCells (tOf ps)) _ _ BM.out
 have E2:=(((HX2.out.trans XN.out).but (b:=bk)).row (errCells (tOf ps))).ext XW.out HBK.out
 exact⟨rfl,E2,encNotice (tOf ps) bk _ SS (tOf_size HI.out) (tOf_dig HI.out) (ht.out.ext E2) R HR⟩
theorem srt_pairs {single empty:Bool} {ps:List Pr} (h:pairsP single empty ps):Srt ps:=srt_of ps h.2.2
theorem err_in {ps:List Pr} (h:(∀y∈ps,fldP y)/\pairsP true false ps):ErrIn ps:=by
 refine⟨h.2.1,fun y hy=>?_,srt_pairs h.2⟩
 have h1:=h.2.2.1 y hy
 exact⟨h.1 y hy,h1.1,h1.2.1,h1.2.2.2.1 rfl,h1.2.2.2.2 rfl⟩
theorem numB01:numB 0 1=[0]:=by decide
theorem answd47 (T:Nat->ByteArray)(ps:List Pr)(hN:∀i,numJ i->T i=⟨#[]⟩∨digP (T i))(hp:(qsOf T).Perm ps)(hs:Srt ps)(w:World)(htab:Tab w)(bk mb:Nat)(hblk:w.heap[bk]?=some (.cells (errCells T) 216 (0,0)))(hmb:w.heap[mb]?=some (.cells #[.int .i64 47,.string ⟨#[]⟩,.string ⟨#[]⟩,.int .u32 0,.int .u32 0,.slice none 0 0,.slice none 0 0,.slice none 0 0,.slice none 0 0,.slice none 0 0,.slice none 0 0,.slice none 0 0,.slice none 0 0] 31 (0,0)))(hne:bk≠mb):
 Calls Tryz.prog 65 #[.iface 213 (.pointer (some ⟨bk,0,none⟩)),.pointer (some ⟨mb,0,none⟩)] w (Answd 47 mb (DecP 47 ⟨#[]⟩ ⟨#[]⟩ 0 [] [] [] [] [] [] ps []) w):=by
 have n185:=no185 213
 have n189:=no189 213
 have n191:=no191 213
 have n194:=no194 213
 have n196:=no196 213
 have n198:=no198 213
 have n200:=no200 213
 have n203:=no203 213
 have n206:=no206 213
 have n208:=no208 213
 have n210:=no210 213
 have y213:=yes213
 have HB:=zh hblk
 have HM:=zh hmb
 have HPP:=zh (pairs72 T ps hN hp hs w htab)
 have HMB:=zh (zl hmb)
 clear hN hp hs htab hblk hmb hne
 go_enter Tryz.func65,Tryz.ntmps65
 go_wp2_with (first|(refine wpList_load_row rfl 216 (.tmp 183) rfl bk rfl 216 (errCells T) (0,0) _ HB.out Tryz.underlying216 rfl size216 ?_)|(go_at_call 72;refine HPP.out.mono ?_;rintro e w2 ⟨A2,c2,rfl,hx2,hr2⟩;have HX2:=zh hx2;have HR2:=zh hr2;have HM2:=zh ((hx2.block _ HMB.out).trans HM.out);clear hx2 hr2;have hz:=zc HM2.out 11 (.slice none 0 0) rfl;have hy:=free_slot HM2.out 11))
 (try simp only [Exit.inBlock,Exit.then]);first|refine bodyPost_end (results_none rfl _ _ _) rfl ?_|refine bodyPost_ret (results_none rfl _ _ _) rfl ?_
 refine⟨⟨#[]⟩,⟨#[]⟩,0,0,none,0,0,none,0,0,none,0,0,none,0,0,none,0,0,none,0,0,A2,ps.length,c2,none,0,0,rfl,HX2.out.but.set _ _,slot_setCell (j:=11) HM2.out,fun w3 h3=>⟨none,none,none,none,none,none,A2,none,0,0,0,0,0,0,c2,0,rfl,rdi_nil _ _,rdi_nil _ _,rdi_nil _ _,rdm_nil _ _ _,RdB.nil _,rd1_nil _ _,?_,rdm_nil _ _ _,⟨by decide,by decide⟩,⟨by decide,by decide⟩,nofun,nofun,nofun,nofun⟩⟩
 exact rdm_of (own_stay (w:=w) (w':=w2) (own_zero HR2.out) (fun g hg=>by have:=(HR2.out.lt g hg).1;omega) (fun k h1 h2=>(h3 k h1 (by simpa [World.setCell]using h2)).trans (heap_setCell_other _ _ _ _ (by have:=HMB.out;simp only [ne_eq];omega)))) (rws_flat _ _)
theorem answd48 (T:Nat->ByteArray)(ps:List Pr)(hN:∀i,numJ i->T i=⟨#[]⟩∨digP (T i))(hp:(qsOf T).Perm ps)(hs:Srt ps)(w:World)(htab:Tab w)(bk mb:Nat)(hblk:w.heap[bk]?=some (.cells (errCells T) 218 (0,0)))(hmb:w.heap[mb]?=some (.cells #[.int .i64 48,.string ⟨#[]⟩,.string ⟨#[]⟩,.int .u32 0,.int .u32 0,.slice none 0 0,.slice none 0 0,.slice none 0 0,.slice none 0 0,.slice none 0 0,.slice none 0 0,.slice none 0 0,.slice none 0 0] 31 (0,0)))(hne:bk≠mb):
 Calls Tryz.prog 65 #[.iface 217 (.pointer (some ⟨bk,0,none⟩)),.pointer (some ⟨mb,0,none⟩)] w (Answd 48 mb (DecP 48 ⟨#[]⟩ ⟨#[]⟩ 0 [] [] [] [] [] [] ps []) w):=by
 have n185:=no185 217
 have n189:=no189 217
 have n191:=no191 217
 have n194:=no194 217
 have n196:=no196 217
 have n198:=no198 217
 have n200:=no200 217
 have n203:=no203 217
 have n206:=no206 217
 have n208:=no208 217
 have n210:=no210 217
 have n213:=no213 217
 have y217:=yes217
 have HB:=zh hblk
 have HM:=zh hmb
 have HPP:=zh (pairs72 T ps hN hp hs w htab)
 have HMB:=zh (zl hmb)
 clear hN hp hs htab hblk hmb hne
 go_enter Tryz.func65,Tryz.ntmps65
 go_wp2_with (first|(refine wpList_load_row rfl 218 (.tmp 193) rfl bk rfl 218 (errCells T) (0,0) _ HB.out Tryz.underlying218 rfl size218 ?_)|(go_at_call 72;refine HPP.out.mono ?_;rintro e w2 ⟨A2,c2,rfl,hx2,hr2⟩;have HX2:=zh hx2;have HR2:=zh hr2;have HM2:=zh ((hx2.block _ HMB.out).trans HM.out);clear hx2 hr2;have hz:=zc HM2.out 11 (.slice none 0 0) rfl;have hy:=free_slot HM2.out 11))
 (try simp only [Exit.inBlock,Exit.then]);first|refine bodyPost_end (results_none rfl _ _ _) rfl ?_|refine bodyPost_ret (results_none rfl _ _ _) rfl ?_
 refine⟨⟨#[]⟩,⟨#[]⟩,0,0,none,0,0,none,0,0,none,0,0,none,0,0,none,0,0,none,0,0,A2,ps.length,c2,none,0,0,rfl,HX2.out.but.set _ _,slot_setCell (j:=11) HM2.out,fun w3 h3=>⟨none,none,none,none,none,none,A2,none,0,0,0,0,0,0,c2,0,rfl,rdi_nil _ _,rdi_nil _ _,rdi_nil _ _,rdm_nil _ _ _,RdB.nil _,rd1_nil _ _,?_,rdm_nil _ _ _,⟨by decide,by decide⟩,⟨by decide,by decide⟩,nofun,nofun,nofun,nofun⟩⟩
 exact rdm_of (own_stay (w:=w) (w':=w2) (own_zero HR2.out) (fun g hg=>by have:=(HR2.out.lt g hg).1;omega) (fun k h1 h2=>(h3 k h1 (by simpa [World.setCell]using h2)).trans (heap_setCell_other _ _ _ _ (by have:=HMB.out;simp only [ne_eq];omega)))) (rws_flat _ _)
theorem tOf_num {qs:List Pr} (h:∀y∈qs,fldP y):∀i,numJ i->tOf qs i=⟨#[]⟩∨digP (tOf qs i):=
 tOf_at (Q:=fun i v=>numJ i->v=⟨#[]⟩∨digP v) qs (fun _ _=> .inl rfl) fun y hy hn=>by
  obtain⟨j,hj,he,_⟩:=let_of (h y hy).1
  rw [he,slot_at hj]at hn
  exact .inr (dig_at (h y hy) he hn)
theorem qs_permQ {qs ps:List Pr} (hp:qs.Perm ps)(h:∀y∈ps,letP y.1/\y.2.size≠0)(hs:Srt ps):(qsOf (tOf qs)).Perm ps:=by
 have hn:qs.Pairwise (fun p q=>p.1≠q.1):=hp.symm.pairwise hs.names (fun h e=>h e.symm)
 have h1:=qs_from qs (fun _=>⟨#[]⟩) (fun y hy=>h y (hp.mem_iff.1 hy)) hn (fun _ _=>rfl)
 have h2:qsOf (fun _=>⟨#[]⟩)=[]:=rfl
 rw [h2,List.append_nil]at h1
 exact h1.trans hp
section
variable {a b : ByteArray} {n : Int} {lf lr ty d : List Int} {vls : List (Bool × List Int)} {ws : List ByteArray} {ps : List (ByteArray × ByteArray)} {fs : List Sf} {mm : Int} {A5 A6 A7 A8 A9 A10 A11 A12 : Option Addr} {c5 c6 c7 c8 c9 c10 c11 c12 : Nat} {w wx : World} {s : Wh}
theorem goes18 (hm:MsgIn w (.agg #[.int .i64 18,.string a,.string b,.int .u32 n,.int .u32 mm,.slice A5 lf.length c5,.slice A6 lr.length c6,.slice A7 ty.length c7,.slice A8 vls.length c8,.slice A9 d.length c9,.slice A10 ws.length c10,.slice A11 ps.length c11,.slice A12 fs.length c12]) a b 18 n mm A5 A6 A7 A8 A9 A10 A11 A12 c5 c6 c7 c8 c9 c10 c11 c12 lf lr ty d vls ws ps fs)(ht:Tab w)(hp:properP 18 a b n lf lr ty vls d ws ps fs)(hs:SpQ wx s lf lr ty d vls ws ps fs):Goes 18 (XQ s 18 a b n lf lr ty d vls ws ps fs) (.agg #[.int .i64 18,.string a,.string b,.int .u32 n,.int .u32 mm,.slice A5 lf.length c5,.slice A6 lr.length c6,.slice A7 ty.length c7,.slice A8 vls.length c8,.slice A9 d.length c9,.slice A10 ws.length c10,.slice A11 ps.length c11,.slice A12 fs.length c12]) wx w ps.length:=by
 obtain⟨hn6,h0,h1,h2,h3⟩:=hp.k18 rfl
 have hm2:∀y∈ps,plainP y.1/\plainP y.2:=fun y hy=>⟨(h2 y hy).1,(h2 y hy).2.1⟩
 have hn:=hm.n
 have l:=flat_len prB 402 ps (fun x hx=>by have:=(hm2 x hx).1.1;have:=(hm2 x hx).2.1;rw [prB_lenS,sby_length,sby_length];omega)
 have hsr:=srt_of ps h3
 have hne:=List.length_pos_iff.1 h0
 subst hn6
 refine rk0 (B:=numB 196608 4++ps.flatMap prB++numB 0 1) kf18 hs (fun _=>rfl) (by rw [List.append_assoc,numB01]) (by simp only [List.length_append,numB_len];omega) ⟨by simp,by omega,by simp⟩ (dek18 ps h1 hm2 hne) (fun k w2 ⟨mb,nn,h1,h2,h3⟩=>told18 196608 ps w2 k mb nn h1 h2 (by omega) hsr ⟨by decide,by decide⟩ (by omega)) (fun w' hx=>made18 a b 196608 _ _ _ _ _ _ _ _ ps _ _ w' (zh (hm.rp.ext hx (fun _ _ h=>h))) h1 hm2 hsr hne hn _ (zh ?_)) ?_
 ·rw [all_msg0,numB4,numB01]
 ·constructor <;> intro s w hs <;> exact body18 _ _ _ _ _ _ _ _ _ _ _ w hn ps _ _ rfl hs.hp (by omega) (fun y hy=>⟨by have:=(hm2 y hy).1.1;omega,by have:=(hm2 y hy).2.1;omega⟩) _ rfl
theorem goes_err {kd:Int} (hk:kd=47∨kd=48)(hm:MsgIn w (.agg #[.int .i64 kd,.string a,.string b,.int .u32 n,.int .u32 mm,.slice A5 lf.length c5,.slice A6 lr.length c6,.slice A7 ty.length c7,.slice A8 vls.length c8,.slice A9 d.length c9,.slice A10 ws.length c10,.slice A11 ps.length c11,.slice A12 fs.length c12]) a b kd n mm A5 A6 A7 A8 A9 A10 A11 A12 c5 c6 c7 c8 c9 c10 c11 c12 lf lr ty d vls ws ps fs)(ht:Tab w)(hp:properP kd a b n lf lr ty vls d ws ps fs)(hs:SpQ wx s lf lr ty d vls ws ps fs):Goes kd (XQ s kd a b n lf lr ty d vls ws ps fs) (.agg #[.int .i64 kd,.string a,.string b,.int .u32 n,.int .u32 mm,.slice A5 lf.length c5,.slice A6 lr.length c6,.slice A7 ty.length c7,.slice A8 vls.length c8,.slice A9 d.length c9,.slice A10 ws.length c10,.slice A11 ps.length c11,.slice A12 fs.length c12]) wx w ps.length:=by
 have h:=hp.k47 hk
 have hI:=err_in h
 obtain⟨hf,h1,h2,h3⟩:=h
 have hsr:=srt_of ps h3
 have hpm:=qs_perm (fun y hy=>⟨(hI.2.1 y hy).1.1,(hI.2.1 y hy).2.2.2.2⟩) hI.2.2
 have hf2:∀y∈ps,fldP y/\plainP y.2/\y.2.size≠0:=fun y hy=>⟨hf y hy,(h2 y hy).2.1,(h2 y hy).2.2.2.2 rfl⟩
 have l:=flat_len erB 402 ps (fun x hx=>by have:=(h2 x hx).1.1;have:=(h2 x hx).2.1.1;simp only [erB,txt,List.length_append,sby_length,List.length_cons,List.length_nil];omega)
 have hl:(ps.flatMap erB++numB 0 1).length<=60000:=by simp only [List.length_append,numB_len];omega
 rcases hk with rfl|rfl
 ·have hb:∀{a b:ByteArray} {n:Int} {lf lr ty d:List Int} {vls:List (Bool×List Int)} {ws:List ByteArray} {fs:List Sf},BO 47 a b n lf lr ty d vls ws ps fs (ps.flatMap erB++numB 0 1):=fun s w hs=>body47 _ _ _ _ _ _ _ _ _ _ _ w ps _ _ rfl hs.hp (by omega) (fun y hy=>⟨by have:=(h2 y hy).1.1;omega,by have:=(h2 y hy).2.1.1;omega⟩) _ rfl
  refine⟨fun r=>∃qs:List Pr,qs.Perm ps/\r=qs.flatMap erB++numB 0 1,_,_,⟨fun wy hy=>hb s wy (hs.ext hy),fun wy hy=>by_of kf47 hl hb s wy (hs.ext hy),⟨ps,.refl _,rfl⟩,fun r ⟨qs,hq,e⟩=>by rw [e,List.length_append,List.length_append,flat_perm hq],fun w1 vb r ⟨qs,hq,e⟩ hv htb=>?_⟩,69 :: b32 ((ps.flatMap erB++numB 0 1).length+4),(qsOf (tOf ps)).flatMap erB++numB 0 1,?_,⟨_,hpm,rfl⟩,?_⟩
  ·rw [e,numB01]at hv
   have hlen:(qs.flatMap erB++ [0]).length<=100000:=by rw [<-numB01,List.length_append,flat_perm hq,<-List.length_append];omega
   exact(dec_ok 213 292 216 _ 47 vb _ _ _ w1 hv (by omega) kf47.md kf47.nd kf47.cd kf47.em (fun w1 b v _ _ h1 h2 h3=>dek47 qs (fun y hy=>⟨(hf2 y (hq.mem_iff.1 hy)).1,(hf2 y (hq.mem_iff.1 hy)).2.1⟩) w1 b v h1 h2 hlen h3) (fun b w2 h1 hx=>told_dflt 213 47 _ w2 b (by decide) fun W2 hx2 hm=>answd47 (tOf qs) ps (tOf_num fun y hy=>hf y (hq.mem_iff.1 hy)) (qs_permQ hq (fun y hy=>⟨(hf y hy).1,(hf2 y hy).2.2⟩) hsr) hsr W2 (htb.ext (hx.trans hx2)) b (w2.heap.size+1) ((hx2.block b (zl h1)).trans h1) hm (by have:=zl h1;omega))).mono (decOk_mono fun v w2 hd=>decR_of hd (fun _=>rfl) (by simp) (by omega) (by simp) @fun A5 A6 A7 B7 A9 A10 B10 B11 c5 c6 c7 d7 c9 c10 d10 d11 w3 hs=>by_of kf47 hl hb ⟨A5,A6,A7,B7,A9,A10,B10,B11,c5,c6,c7,d7,c9,c10,d10,d11⟩ w3 hs)
  ·rw [all_msg (by decide)];unfold msgB;simp only [List.length_append,List.length_cons];omega
  ·refine enc14 213 293 _ _ _ _ _ _ _ _ _ _ _ _ _ w _ kf47.me kf47.ce fun w' hx=>made_dflt 213 293 216 _ 47 n _ _ _ _ _ _ _ _ _ _ _ w' _ (by decide) kf47.em fun w1 bk hx1 hbk hblk=>ans47 a b n _ _ _ _ _ _ _ _ ps _ _ w' w1 bk (zh (hm.rp.ext hx (fun _ _ h=>h))) (zh hI) (zh (ht.ext hx)) hx1 hbk hblk _ (zh ?_)
   unfold msgB
   rw [flT_qs,numB01,List.cons_append]
   simp only [List.length_append,flat_perm hpm]
 ·have hb:∀{a b:ByteArray} {n:Int} {lf lr ty d:List Int} {vls:List (Bool×List Int)} {ws:List ByteArray} {fs:List Sf},BO 48 a b n lf lr ty d vls ws ps fs (ps.flatMap erB++numB 0 1):=fun s w hs=>body48 _ _ _ _ _ _ _ _ _ _ _ w ps _ _ rfl hs.hp (by omega) (fun y hy=>⟨by have:=(h2 y hy).1.1;omega,by have:=(h2 y hy).2.1.1;omega⟩) _ rfl
  refine⟨fun r=>∃qs:List Pr,qs.Perm ps/\r=qs.flatMap erB++numB 0 1,_,_,⟨fun wy hy=>hb s wy (hs.ext hy),fun wy hy=>by_of kf48 hl hb s wy (hs.ext hy),⟨ps,.refl _,rfl⟩,fun r ⟨qs,hq,e⟩=>by rw [e,List.length_append,List.length_append,flat_perm hq],fun w1 vb r ⟨qs,hq,e⟩ hv htb=>?_⟩,78 :: b32 ((ps.flatMap erB++numB 0 1).length+4),(qsOf (tOf ps)).flatMap erB++numB 0 1,?_,⟨_,hpm,rfl⟩,?_⟩
  ·rw [e,numB01]at hv
   have hlen:(qs.flatMap erB++ [0]).length<=100000:=by rw [<-numB01,List.length_append,flat_perm hq,<-List.length_append];omega
   exact(dec_ok 217 314 218 _ 48 vb _ _ _ w1 hv (by omega) kf48.md kf48.nd kf48.cd kf48.em (fun w1 b v _ _ h1 h2 h3=>dek48 qs (fun y hy=>⟨(hf2 y (hq.mem_iff.1 hy)).1,(hf2 y (hq.mem_iff.1 hy)).2.1⟩) w1 b v h1 h2 hlen h3) (fun b w2 h1 hx=>told_dflt 217 48 _ w2 b (by decide) fun W2 hx2 hm=>answd48 (tOf qs) ps (tOf_num fun y hy=>hf y (hq.mem_iff.1 hy)) (qs_permQ hq (fun y hy=>⟨(hf y hy).1,(hf2 y hy).2.2⟩) hsr) hsr W2 (htb.ext (hx.trans hx2)) b (w2.heap.size+1) ((hx2.block b (zl h1)).trans h1) hm (by have:=zl h1;omega))).mono (decOk_mono fun v w2 hd=>decR_of hd (fun _=>rfl) (by simp) (by omega) (by simp) @fun A5 A6 A7 B7 A9 A10 B10 B11 c5 c6 c7 d7 c9 c10 d10 d11 w3 hs=>by_of kf48 hl hb ⟨A5,A6,A7,B7,A9,A10,B10,B11,c5,c6,c7,d7,c9,c10,d10,d11⟩ w3 hs)
  ·rw [all_msg (by decide)];unfold msgB;simp only [List.length_append,List.length_cons];omega
  ·refine enc14 217 315 _ _ _ _ _ _ _ _ _ _ _ _ _ w _ kf48.me kf48.ce fun w' hx=>made_dflt 217 315 218 _ 48 n _ _ _ _ _ _ _ _ _ _ _ w' _ (by decide) kf48.em fun w1 bk hx1 hbk hblk=>ans48 a b n _ _ _ _ _ _ _ _ ps _ _ w' w1 bk (zh (hm.rp.ext hx (fun _ _ h=>h))) (zh hI) (zh (ht.ext hx)) hx1 hbk hblk _ (zh ?_)
   unfold msgB
   rw [flT_qs,numB01,List.cons_append]
   simp only [List.length_append,flat_perm hpm]
theorem road_in {kd:Int} {B7 B10 B11:Option Addr} {d7 d10 d11:Nat} (hm:MsgIn w (.agg #[.int .i64 kd,.string a,.string b,.int .u32 n,.int .u32 mm,.slice A5 lf.length c5,.slice A6 lr.length c6,.slice A7 ty.length c7,.slice A8 vls.length c8,.slice A9 d.length c9,.slice A10 ws.length c10,.slice A11 ps.length c11,.slice A12 fs.length c12]) a b kd n mm A5 A6 A7 A8 A9 A10 A11 A12 c5 c6 c7 c8 c9 c10 c11 c12 lf lr ty d vls ws ps fs)(ht:Tab w)(hp:properP kd a b n lf lr ty vls d ws ps fs)(hs:SpIn wx A5 A6 A7 B7 A9 A10 B10 B11 c5 c6 c7 d7 c9 c10 d10 d11 lf lr ty d vls ws ps fs):
 ∃Bod RB R,DD kd (.agg #[.int .i64 kd,.string a,.string b,.int .u32 n,.slice A5 lf.length c5,.slice A6 lr.length c6,.slice A7 ty.length c7,.slice B7 vls.length d7,.slice A9 d.length c9,.slice A10 ws.length c10,.slice B10 ps.length d10,.slice B11 fs.length d11]) wx Bod RB R ps.length/\EncIn (.agg #[.int .i64 kd,.string a,.string b,.int .u32 n,.int .u32 mm,.slice A5 lf.length c5,.slice A6 lr.length c6,.slice A7 ty.length c7,.slice A8 vls.length c8,.slice A9 d.length c9,.slice A10 ws.length c10,.slice A11 ps.length c11,.slice A12 fs.length c12]) w Bod RB R:=by
 have hs':SpQ wx ⟨A5,A6,A7,B7,A9,A10,B10,B11,c5,c6,c7,d7,c9,c10,d10,d11⟩ lf lr ty d vls ws ps fs:=hs
 cases hst:turnedQ kd
 ·exact goes_of hst hm hp hs'
 ·have hk:kd=18∨kd=47∨kd=48:=by
   unfold turnedQ at hst
   simp only [Bool.or_eq_true,beq_iff_eq]at hst
   omega
  rcases hk with rfl|hk
  ·exact goes18 hm ht hp hs'
  ·exact goes_err hk hm ht hp hs'
end
end Go.Proofs.YtdenjanihikolaaGreatDoor
