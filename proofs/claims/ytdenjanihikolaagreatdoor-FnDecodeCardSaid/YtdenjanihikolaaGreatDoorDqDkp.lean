/- Decode that can: a message that starts. -/
import Derived.Test.YtdenjanihikolaaGreatDoorDqA0
import Derived.Test.YtdenjanihikolaaGreatDoorDqA1
import Derived.Test.YtdenjanihikolaaGreatDoorDqDkg
import Derived.Test.YtdenjanihikolaaGreatDoorDqErb
import Derived.Test.YtdenjanihikolaaGreatDoorDqErf
namespace Go.Proofs.YtdenjanihikolaaGreatDoor
set_option linter.unusedVariables false
set_option linter.unusedSimpArgs false
set_option maxRecDepth 100000
open Go.RowKit Go.Maps Og
structure StS (b mb:Nat) (wd w:World) (N p:Nat) (xs R:List Int) (k:Nat) (ps:List Pr):Prop where
 len:N=p+R.length
 rest:xs.drop p=R
 tl:R=(ps.drop k).flatMap prB++ [0]
 bel:ExtBut b wd w
 blk:w.heap[b]?=some (.cells #[.int .u32 196608,.map (some mb)] 152 (0,0))
 own:w.ownsMap Tryz.prog 9 (plainElem (H:=Unit) Tryz.prog 9) mb k (mapOf (ps.take k))
 lo:wd.heap.size<=mb
theorem prB_lenS (p:Pr):(prB p).length=(sby p.1).length+1+((sby p.2).length+1):=by
 simp only [prB,txt,List.length_append,List.length_cons,List.length_nil]
theorem prB_lenT:∀(l:List Pr),2 * l.length<=(l.flatMap prB).length
 | []=>Nat.le_refl _
 | p :: r=>by
   rw [List.flatMap_cons,List.length_append,prB_lenS,List.length_cons]
   have:=prB_lenT r
   omega
theorem ExtBut.grown2 {b mb:Nat} {wd w w':World} (h:ExtBut b wd w)(hg:w.grownBy w' (some mb))(hlo:wd.heap.size<=mb):ExtBut b wd w':=
 ⟨hg.os.trans h.os,hg.tape.trans h.tape,hg.output.trans h.output,Nat.le_trans h.size hg.size,fun k hk hkb=>(hg.block k (Nat.lt_of_lt_of_le hk h.size) (fun e=>by have:=Option.some.inj e;omega)).trans (h.block k hk hkb)⟩
set_option maxHeartbeats 8000000 in
theorem dek18 (ps:List Pr)(hlp:ps.length<=20)(hm:∀y∈ps,plainP y.1/\plainP y.2)(hne:ps≠[])(wd:World)(b:Nat)(v:Value)(hb:wd.heap[b]?=some (.cells #[.int .u32 0,.map none] 152 (0,0)))(hv:RdB wd v (numB 196608 4++(ps.flatMap prB++ [0])))(hl:(numB 196608 4++(ps.flatMap prB++ [0])).length<=100000)(hof:v.ownBlock≠some b):
 Calls Tryz.prog 190 #[.pointer (some ⟨b,0,none⟩),v] wd (Deced b (fun b w2=>∃mb nn,w2.heap[b]?=some (.cells #[.int .u32 196608,.map (some mb)] 152 (0,0))/\w2.ownsMap Tryz.prog 9 (plainElem (H:=Unit) Tryz.prog 9) mb nn (mapOf ps)/\nn<=20) wd):=by
 obtain⟨R0,hR0⟩:∃R,R=ps.flatMap prB++ [0]:=⟨_,rfl⟩
 rw [<-hR0]at hv hl
 obtain⟨xs0,hxs0⟩:∃y,y=numB 196608 4++R0:=⟨_,rfl⟩
 rw [<-hxs0]at hv hl
 obtain⟨A,c9,hvA⟩:=hv.len
 subst hvA
 obtain⟨N,hN⟩:∃m,m=xs0.length:=⟨_,rfl⟩
 have hNl:N=4+R0.length:=by rw [hN,hxs0,List.length_append,numB_len]
 have HV:Hid (RdN b wd (.slice A N c9) xs0):=zh (by rw [hN];exact⟨hv,fun _=>hof⟩)
 have HLT:=zh (zl hb)
 have HBK:=zh hb
 have HX:Hid (ExtBut b wd wd):=zh (Ext.refl wd).but
 have HM:=zh hm
 have HR0:=zh hR0
 have hps0:0 < ps.length:=List.length_pos_iff.2 hne
 have hck0:=zc hb 0 _ rfl
 have hfk0:=free_slot hb 0
 have hck1:=zc hb 1 _ rfl
 have hfk1:=free_slot hb 1
 have hcap:=hv.parts.2.1
 have HCM:=zh hv.parts.2.2
 rw [<-hN]at hcap hl
 rw [<-hN]
 obtain⟨b1,o1,hA⟩:∃b1 o1,A=some ⟨b1,o1,none⟩:=by
  obtain⟨A',c',hv',_,_,h3⟩:=hv
  obtain⟨rfl,_⟩:A=A'/\_:=by simpa using hv'
  obtain⟨b1,o1,hA,_⟩:=h3 (by omega)
  exact⟨b1,o1,hA⟩
 subst hA
 have HVa:Hid (RdN b wd (.slice (some ⟨b1,o1,none⟩) N c9) (numB 196608 4++R0)):=zh (by have h9:=HV.out;rwa [hxs0]at h9)
 have HP4:Hid (xs0.drop 4=R0):=zh (by rw [hxs0];exact drop_numB _ _ _)
 have HLP:Hid (N=4+R0.length):=zh hNl
 have h4:¬N < 4:=by omega
 have hmk:=fun w=>run_makeMap (P:=Tryz.prog) 150 w
 clear hv hof hb hm hN hxs0 hR0 hNl hne
 go_enter Tryz.func190,Tryz.ntmps190
 go_wp2_with (go_at_call 138;refine(rd32n 196608 (by decide) _ _ _ R0 _ (HVa.out.at_ HX.out).1).mono ?_;rintro e w3 ⟨rfl,hx3⟩;have HXn:Hid (ExtBut b wd w3):=zh (HX.out.trans hx3.but);have HBn:Hid (w3.heap[b]?=some (.cells #[.int .u32 0,.map none] 152 (0,0))):=zh ((hx3.block b HLT.out).trans HBK.out);clear HX HBK hck0 hck1 hfk0 hfk1 hx3;have HX:=HXn;have HBK:=HBn;clear HXn HBn;have hck0:=zc HBK.out 0 _ rfl;have hfk0:=free_slot HBK.out 0;have hbm:=((ext_alloc (w3.setCell ⟨b,0,none⟩ (.int .u32 196608)) (.map #[] 0)).block b (zl (slot_setCell HBK.out))).trans (slot_setCell HBK.out);have hmk1:=zc hbm 1 (.map none) rfl;have hmf1:=free_slot hbm 1;clear hbm)
 go_loopw [5] (fun rp wr=>∃k p:Nat,k < ps.length/\rp=.int .i64 p/\∃R,Hid (StS b w3.heap.size wd wr N p xs0 R k ps)) (fun rp _=>N - (intOf rp).toNat)
 case atStart=>
  refine⟨0,4,hps0,rfl,R0,zh ⟨HLP.out,HP4.out,HR0.out,?_,?_,?_,HX.out.size⟩⟩
  ·exact((HX.out.set 0 (.int .u32 196608)).trans (ext_alloc _ _).but).set 1 _
  ·exact slot_setCell (j:=1) (((ext_alloc (w3.setCell ⟨b,0,none⟩ (.int .u32 196608)) (.map #[] 0)).block b (zl (slot_setCell HBK.out))).trans (slot_setCell (j:=0) HBK.out))
  ·have h9:=own_map (World.ownsMap_made (w3.setCell ⟨b,0,none⟩ (.int .u32 196608)) _ _ _) (w':=((w3.setCell ⟨b,0,none⟩ (.int .u32 196608)).alloc (.map #[] 0)).setCell ⟨b,1,none⟩ (.map (some w3.heap.size))) (heap_setCell_other _ _ _ _ (by have:=zl HBK.out;simp [World.setCell];omega))
   have hsz:(w3.setCell ⟨b,0,none⟩ (.int .u32 196608)).heap.size=w3.heap.size:=by simp [World.setCell]
   rw [hsz]at h9
   exact h9
 case round=>
  clear HX HBK hck0 hfk0 hmk1 hmf1 hmk h4
  obtain⟨k,p,hk1,rfl,R,HH⟩:=hrel
  have hpp:=HM.out _ (List.getElem_mem hk1)
  obtain⟨⟨x1,x2⟩,hx⟩:∃x,x=ps[k]:=⟨_,rfl⟩
  rw [<-hx]at hpp
  have HXX:=zh hx
  have hS0:=HH.out.tl
  rw [List.drop_eq_getElem_cons hk1,List.flatMap_cons,<-hx]at hS0
  obtain⟨R2,hR2⟩:∃R2,R2=(ps.drop (k+1)).flatMap prB++ [0]:=⟨_,rfl⟩
  obtain⟨R1,hR1⟩:∃R1,R1=sby x2++0 :: R2:=⟨_,rfl⟩
  have hRe:R=sby x1++0 :: R1:=by rw [hS0,hR1,hR2];simp only [prB,txt,List.append_assoc,List.cons_append,List.nil_append]
  have hl1:R.length=(sby x1).length+1+R1.length:=by rw [hRe];simp only [List.length_append,List.length_cons];omega
  have hl2:R1.length=(sby x2).length+1+R2.length:=by rw [hR1];simp only [List.length_append,List.length_cons];omega
  have HLE:=zh HH.out.len
  have HS1:Hid (x1.size<=maxLen):=zh (by have:=hpp.1.1;simp only []at this;unfold maxLen;omega)
  have HS2:Hid (x2.size<=maxLen):=zh (by have:=hpp.2.1;simp only []at this;unfold maxLen;omega)
  have HP1:=zh (plain_pos hpp.1)
  have HP2:=zh (plain_pos hpp.2)
  have hpN:p<=N:=by have:=HLE.out;omega
  have hNp:N - p=R.length:=by have:=HLE.out;omega
  obtain⟨A3,c3,hs3,hr3⟩:=sl_at (some ⟨b1,o1,none⟩) N c9 p hpN hcap HCM.out
  have HQ3:Hid (RdB wr (.slice A3 R.length c3) (sby x1++0 :: R1)):=zh (by have h9:=(hr3 b wd xs0 HV.out).at_ HH.out.bel;rw [HH.out.rest,hNp]at h9;rw [<-hRe];exact h9.1)
  rw [hNp]at hs3
  obtain⟨A4,c4,hs4,hr4⟩:=sl_midr (some ⟨b1,o1,none⟩) N c9 p (sby x1).length (by have:=HLE.out;omega) hcap HCM.out
  have hcv1:(convert 26 9 (.slice A4 (sby x1).length c4)).run Tryz.prog wr=.ok (.string x1) wr:=by
   have h9:=(hr4 b wd xs0 HV.out).at_ HH.out.bel
   rw [HH.out.rest,hRe,List.take_left]at h9
   have h8:=conv_rd h9.1
   rwa [str_sby]at h8
  have hd1:xs0.drop (p+((sby x1).length+1))=R1:=drop_step (B:=sby x1++ [0]) (by rw [HH.out.rest,hRe];simp) (by simp)
  have hN1:N - (p+((sby x1).length+1))=R1.length:=by have:=HLE.out;omega
  obtain⟨A5,c5,hs5,hr5⟩:=sl_at (some ⟨b1,o1,none⟩) N c9 (p+((sby x1).length+1)) (by have:=HLE.out;omega) hcap HCM.out
  have HQ5:Hid (RdB wr (.slice A5 R1.length c5) (sby x2++0 :: R2)):=zh (by have h9:=(hr5 b wd xs0 HV.out).at_ HH.out.bel;rw [hd1,hN1]at h9;rw [<-hR1];exact h9.1)
  rw [hN1]at hs5
  obtain⟨A6,c6,hs6,hr6⟩:=sl_midr (some ⟨b1,o1,none⟩) N c9 (p+((sby x1).length+1)) (sby x2).length (by have:=HLE.out;omega) hcap HCM.out
  have hcv2:(convert 26 9 (.slice A6 (sby x2).length c6)).run Tryz.prog wr=.ok (.string x2) wr:=by
   have h9:=(hr6 b wd xs0 HV.out).at_ HH.out.bel
   rw [hd1,hR1,List.take_left]at h9
   have h8:=conv_rd h9.1
   rwa [str_sby]at h8
  have hd2:xs0.drop (p+((sby x1).length+1)+((sby x2).length+1))=R2:=drop_step (B:=sby x2++ [0]) (by rw [hd1,hR1];simp) (by simp)
  have HD2:=zh hd2
  have hN2:N - (p+((sby x1).length+1)+((sby x2).length+1))=R2.length:=by have:=HLE.out;omega
  obtain⟨A7,c7,hs7,hr7⟩:=sl_at (some ⟨b1,o1,none⟩) N c9 (p+((sby x1).length+1)+((sby x2).length+1)) (by have:=HLE.out;omega) hcap HCM.out
  rw [hN2]at hs7
  have hcp1:p+(sby x1).length<=c9:=by have:=HLE.out;omega
  have hcp2:p+((sby x1).length+1)+(sby x2).length<=c9:=by have:=HLE.out;omega
  have HL2:Hid (N=p+((sby x1).length+1)+((sby x2).length+1)+R2.length):=zh (by have:=HLE.out;omega)
  have HOWN:=zh HH.out.own
  have hbl1:=zc HH.out.blk 1 (.map (some w3.heap.size)) rfl
  have HNX:Hid (∀w9,wr.grownBy w9 (some w3.heap.size)->w9.ownsMap Tryz.prog 9 (plainElem (H:=Unit) Tryz.prog 9) w3.heap.size (k+1) ((mapOf (ps.take k)).put (.string (kb x1)) (.lit (.string (kb x2))))->k+1<=ps.length/\StS b w3.heap.size wd w9 N (p+((sby x1).length+1)+((sby x2).length+1)) xs0 R2 (k+1) ps):=zh (fun w9 hg h9=>⟨hk1,HL2.out,HD2.out,hR2,HH.out.bel.grown2 hg HH.out.lo,(hg.block b (zl HH.out.blk) (fun e=>by have h7:=Option.some.inj e;have:=HLT.out;have:=HH.out.lo;omega)).trans HH.out.blk,by rw [take_snoc1 ps k hk1,<-HXX.out,mapOf_snoc];exact h9,HH.out.lo⟩)
  by_cases hlast:k+1=ps.length
  ·have hR20:R2=[0]:=by rw [hR2,hlast,List.drop_length];rfl
   have heq:((R2.length:Int) == 1)=true:=by rw [hR20];rfl
   have heq2:R2.length=1:=by rw [hR20];rfl
   have HCZ:Hid (∀w',ExtBut b wd w'->w'.cell? ⟨b1,o1+(p+((sby x1).length+1)+((sby x2).length+1)),none⟩=some (.int .u8 0)):=zh (fun w' hw=>by
    obtain⟨A',c',hv',_,_,h3⟩:=(HV.out.at_ hw).1
    obtain⟨rfl,_⟩:(some ⟨b1,o1,none⟩)=A'/\_:=by simpa using hv'
    have hlt:p+((sby x1).length+1)+((sby x2).length+1) < xs0.length:=by
     have h8:=congrArg List.length hd2
     rw [List.length_drop,hR20]at h8
     simp at h8
     omega
    obtain⟨b2,o2,hA2,h4⟩:=h3 (by omega)
    obtain⟨rfl,rfl⟩:b1=b2/\o1=o2:=by simpa using hA2
    rw [h4 _ hlt]
    have h7:xs0.getD (p+((sby x1).length+1)+((sby x2).length+1)) 0=0:=by
     have h8:=congrArg (fun l=>l.getD 0 0) hd2
     simp only [hR20]at h8
     rw [List.getD_eq_getElem?_getD,List.getElem?_drop,Nat.add_zero]at h8
     simpa using h8
    rw [h7])
   have hpc:p+((sby x1).length+1)+((sby x2).length+1) < N:=by have:=HL2.out;omega
   clear hS0 hx hR2 hR1 hRe hl1 hl2 hr3 hr4 hr5 hr6 hr7 hd1 hd2 hR20 hpp heq2 hNp hN1 hN2
   go_wp2_with (first|(go_at_call_of 136 A3;refine(idx_found _ _ _ _ _ _ HQ3.out HP1.out).mono ?_;rintro e w4 ⟨rfl,hw4⟩;rw [hw4];clear hw4)|(go_at_call_of 136 A5;refine(idx_found _ _ _ _ _ _ HQ5.out HP2.out).mono ?_;rintro e w4 ⟨rfl,hw4⟩;rw [hw4];clear hw4)|(at_mapUpdate;refine wpList_mapUpdate_own _ rfl _ _ _ 150 rfl 9 9 lawS Tryz.underlying150 _ w3.heap.size k _ rfl HOWN.out (by unfold maxLen;omega) _ _ (.string (kb x1)) rfl rfl (key_of _ HS1.out) (.lit (.string (kb x2))) [] (elem_of _ HS2.out) ?_;intro w9 hown9 hg9;have HST:=zh (HNX.out w9 hg9 hown9);clear hown9 hg9;have hcz:=HCZ.out w9 HST.out.2.bel))
   go_ret
   refine⟨rfl,HST.out.2.bel,_,_,HST.out.2.blk,?_,by omega⟩
   have h9:=HST.out.2.own
   rwa [hlast,List.take_length]at h9
  ·have hge:3<=R2.length:=by
    rw [hR2,List.length_append]
    have h9:=prB_lenT (ps.drop (k+1))
    rw [List.length_drop]at h9
    simp only [List.length_cons,List.length_nil]
    omega
   have heq:((R2.length:Int) == 1)=false:=beq_eq_false_iff_ne.2 (by omega)
   have heq2:¬((R2.length:Int)=1):=by omega
   have HKL:Hid (k+1 < ps.length):=zh (by omega)
   have hpc:p+((sby x1).length+1)+((sby x2).length+1) < N:=by have:=HL2.out;omega
   clear hS0 hx hR2 hR1 hRe hl1 hl2 hr3 hr4 hr5 hr6 hr7 hd1 hd2 hpp hNp hN1 hN2
   go_wp2_with (first|(go_at_call_of 136 A3;refine(idx_found _ _ _ _ _ _ HQ3.out HP1.out).mono ?_;rintro e w4 ⟨rfl,hw4⟩;rw [hw4];clear hw4)|(go_at_call_of 136 A5;refine(idx_found _ _ _ _ _ _ HQ5.out HP2.out).mono ?_;rintro e w4 ⟨rfl,hw4⟩;rw [hw4];clear hw4)|(at_mapUpdate;refine wpList_mapUpdate_own _ rfl _ _ _ 150 rfl 9 9 lawS Tryz.underlying150 _ w3.heap.size k _ rfl HOWN.out (by unfold maxLen;omega) _ _ (.string (kb x1)) rfl rfl (key_of _ HS1.out) (.lit (.string (kb x2))) [] (elem_of _ HS2.out) ?_;intro w9 hown9 hg9;have HST:=zh (HNX.out w9 hg9 hown9);clear hown9 hg9))
   go_roundw
   case rel=>exact⟨k+1,p+((sby x1).length+1)+((sby x2).length+1),HKL.out,by go_num,R2,zh HST.out.2⟩
   case measure=>have:=HL2.out;simp only [intOf];omega
end Go.Proofs.YtdenjanihikolaaGreatDoor
