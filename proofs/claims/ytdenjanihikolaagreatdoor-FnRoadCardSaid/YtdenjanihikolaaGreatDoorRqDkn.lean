/- Decode that can: Bind. -/
import Derived.Test.YtdenjanihikolaaGreatDoorRqA2
import Derived.Test.YtdenjanihikolaaGreatDoorRqA0
import Derived.Test.YtdenjanihikolaaGreatDoorRqA1
import Derived.Deep.DeepCutAuto
import Derived.Deep.CutBlock
import Derived.Deep.Light
import Derived.BigQuiet
import Derived.Test.YtdenjanihikolaaGreatDoorRqDkj
import Derived.Test.YtdenjanihikolaaGreatDoorRqDcj
namespace Go.Proofs.YtdenjanihikolaaGreatDoor
set_option linter.unusedVariables false
set_option linter.unusedSimpArgs false
set_option maxRecDepth 100000
set_option maxHeartbeats 4000000
open Go.RowKit Og
set_option maxHeartbeats 30000000 in
theorem dek0 (a c:ByteArray)(lf lr:List Int)(vls:List (Bool×List Int))(ha:plainP a)(hc:plainP c)(hlf:lf.length<=20)(hgf:∀y∈lf,0<=y/\y < 32768)(hlv:vls.length<=20)(hgv:∀y∈vls,y.2.length<=200)(hlr:lr.length<=20)(hgr:∀y∈lr,0<=y/\y < 32768)(wd:World)(b:Nat)(v:Value)(hb:wd.heap[b]?=some (.cells #[.string ⟨#[]⟩,.string ⟨#[]⟩,.slice none 0 0,.slice none 0 0,.slice none 0 0] 107 (0,0)))(hv:RdB wd v (sby a++0 :: (sby c++0 :: (numB (lf.length:Int) 2++(lf.flatMap (fun n=>numB n 2)++(numB (vls.length:Int) 2++(vls.flatMap (fun x=>valB x.1 x.2)++(numB (lr.length:Int) 2++lr.flatMap (fun n=>numB n 2)))))))))(hl:(sby a++0 :: (sby c++0 :: (numB (lf.length:Int) 2++(lf.flatMap (fun n=>numB n 2)++(numB (vls.length:Int) 2++(vls.flatMap (fun x=>valB x.1 x.2)++(numB (lr.length:Int) 2++lr.flatMap (fun n=>numB n 2)))))))).length<=100000)(hof:v.ownBlock≠some b):
 Calls Tryz.prog 133 #[.pointer (some ⟨b,0,none⟩),v] wd (Deced b (fun b w2=>∃A1 c1 A2 c2 A3 c3,w2.heap[b]?=some (.cells #[.string a,.string c,.slice A1 lf.length c1,.slice A2 vls.length c2,.slice A3 lr.length c3] 107 (0,0))/\RdI .i16 w2 (.slice A1 lf.length c1) lf/\Rd1 isOpt w2 (.slice A2 vls.length c2) (vls.map optV)/\RdI .i16 w2 (.slice A3 lr.length c3) lr) wd):=by
 obtain⟨RR,hRR⟩:∃R,R=lr.flatMap (fun n=>numB n 2):=⟨_,rfl⟩
 obtain⟨T2,hT2⟩:∃R,R=numB (lr.length:Int) 2++RR:=⟨_,rfl⟩
 obtain⟨RV,hRV⟩:∃R,R=vls.flatMap (fun x=>valB x.1 x.2):=⟨_,rfl⟩
 obtain⟨T1r,hT1r⟩:∃R,R=RV++T2:=⟨_,rfl⟩
 obtain⟨T1,hT1⟩:∃R,R=numB (vls.length:Int) 2++T1r:=⟨_,rfl⟩
 obtain⟨RF,hRF⟩:∃R,R=lf.flatMap (fun n=>numB n 2):=⟨_,rfl⟩
 obtain⟨Rf,hRf⟩:∃R,R=RF++T1:=⟨_,rfl⟩
 obtain⟨R,hR⟩:∃R,R=numB (lf.length:Int) 2++Rf:=⟨_,rfl⟩
 obtain⟨R1,hR1⟩:∃R1,R1=sby c++0 :: R:=⟨_,rfl⟩
 obtain⟨xs0,hxs0⟩:∃y,y=sby a++0 :: R1:=⟨_,rfl⟩
 have hbody:sby a++0 :: (sby c++0 :: (numB (lf.length:Int) 2++(lf.flatMap (fun n=>numB n 2)++(numB (vls.length:Int) 2++(vls.flatMap (fun x=>valB x.1 x.2)++(numB (lr.length:Int) 2++lr.flatMap (fun n=>numB n 2)))))))=xs0:=by rw [hxs0,hR1,hR,hRf,hT1,hT1r,hT2,hRF,hRV,hRR]
 rw [hbody]at hv hl
 clear hbody
 obtain⟨A,c9,hvA⟩:=hv.len
 subst hvA
 obtain⟨N,hN⟩:∃m,m=xs0.length:=⟨_,rfl⟩
 have hfl:RF.length=lf.length * 2:=by rw [hRF];exact nums_len2 lf
 have hrl:RR.length=lr.length * 2:=by rw [hRR];exact nums_len2 lr
 have hl2:T2.length=2+RR.length:=by rw [hT2,List.length_append,numB_len]
 have hl1r:T1r.length=RV.length+T2.length:=by rw [hT1r,List.length_append]
 have hl1:T1.length=2+T1r.length:=by rw [hT1,List.length_append,numB_len]
 have hlf':Rf.length=RF.length+T1.length:=by rw [hRf,List.length_append]
 have hlR:R.length=2+Rf.length:=by rw [hR,List.length_append,numB_len]
 have hlR1:R1.length=(sby c).length+1+R.length:=by rw [hR1];simp only [List.length_append,List.length_cons];omega
 have hNl:N=(sby a).length+1+R1.length:=by rw [hN,hxs0];simp only [List.length_append,List.length_cons];omega
 have HV:Hid (RdN b wd (.slice A N c9) xs0):=zh (by rw [hN];exact⟨hv,fun _=>hof⟩)
 have HLT:=zh (zl hb)
 have HBK:=zh hb
 have HGF:=zh hgf
 have HGR:=zh hgr
 have HGV:=zh hgv
 have HRV:=zh hRV
 have HRF:=zh hRF
 have HRR:=zh hRR
 have HX:Hid (ExtBut b wd wd):=zh (Ext.refl wd).but
 have hck0:=zc hb 0 _ rfl
 have hfk0:=free_slot hb 0
 have hck1:=zc hb 1 _ rfl
 have hfk1:=free_slot hb 1
 have hck2:=zc hb 2 _ rfl
 have hfk2:=free_slot hb 2
 have hck3:=zc hb 3 _ rfl
 have hfk3:=free_slot hb 3
 have hck4:=zc hb 4 _ rfl
 have hfk4:=free_slot hb 4
 have hcap:=hv.parts.2.1
 have HCM:=zh hv.parts.2.2
 rw [<-hN]at hcap hl
 rw [<-hN]
 obtain⟨b1,o1,hA⟩:∃b1 o1,A=some ⟨b1,o1,none⟩:=by
  obtain⟨A',c',hv',_,_,h3⟩:=hv
  obtain⟨rfl,_⟩:A=A'/\_:=by simpa using hv'
  obtain⟨b1,o1,hA,_⟩:=h3 (by omega)
  exact⟨b1,o1,hA⟩
 have HA:=zh hA
 have HPa:=zh (plain_pos ha)
 have HPc:=zh (plain_pos hc)
 have hla:(sby a).length<=200:=by rw [sby_length];exact ha.1
 have hlc:(sby c).length<=200:=by rw [sby_length];exact hc.1
 have HNF:Hid (0<=(lf.length:Int)/\(lf.length:Int) < 65536):=zh (by omega)
 have HNV:Hid (0<=(vls.length:Int)/\(vls.length:Int) < 65536):=zh (by omega)
 have HNR:Hid (0<=(lr.length:Int)/\(lr.length:Int) < 65536):=zh (by omega)
 have HNA:Hid ((sby a).length<=N):=zh (by omega)
 have hna1:(sby a).length+1<=N:=by omega
 have HV1:Hid (RdN b wd (.slice A N c9) (sby a++0 :: R1)):=zh (by have h9:=HV.out;rwa [hxs0]at h9)
 have HTA:Hid (xs0.take (sby a).length=sby a):=zh (by rw [hxs0,List.take_left])
 obtain⟨A4,c4,hsl,hsr⟩:=sl_at A N c9 ((sby a).length+1) (by omega) hcap HCM.out
 have hN4:N - ((sby a).length+1)=R1.length:=by omega
 rw [hN4]at hsl
 have hd1:xs0.drop ((sby a).length+1)=R1:=by
  have h9:=drop_step (xs:=xs0) (B:=sby a++ [0]) (T:=R1) (a:=0) (m:=(sby a).length+1) (by rw [hxs0];simp) (by simp)
  rwa [Nat.zero_add]at h9
 have HD1:Hid (RdN b wd (.slice A4 R1.length c4) (sby c++0 :: R)):=zh (by have h9:=hsr b wd xs0 HV.out;rw [hd1,hN4]at h9;rw [<-hR1];exact h9)
 have HLP:Hid (N=(sby a).length+1+((sby c).length+1)+R.length):=zh (by omega)
 have hP:xs0.drop ((sby a).length+1+((sby c).length+1))=R:=drop_step (B:=sby c++ [0]) (by rw [hd1,hR1];simp) (by simp)
 obtain⟨A5,c5,hs5,hr5⟩:=sl_midr A N c9 ((sby a).length+1) (sby c).length (by omega) hcap HCM.out
 have HR5:Hid (RdN b wd (.slice A5 (sby c).length c5) (sby c)):=zh (by have h9:=hr5 b wd xs0 HV.out;rwa [hd1,hR1,List.take_left]at h9)
 have hnc1:(sby a).length+1+((sby c).length+1)<=N:=by omega
 have HER:=zh hR
 have HET1:=zh hT1
 have HET2:=zh hT2
 have HT1r:=zh hT1r
 have HRf:=zh hRf
 have hNBf:N - ((sby a).length+1+((sby c).length+1))=R.length:=by have:=HLP.out;omega
 obtain⟨Bf,dBf,hsBf,hrBf⟩:=sl_at A N c9 ((sby a).length+1+((sby c).length+1)) (by have:=HLP.out;omega) hcap HCM.out
 rw [hNBf]at hsBf
 have HQBf:Hid (∀w,ExtBut b wd w->RdB w (.slice Bf R.length dBf) (numB (lf.length:Int) 2++Rf)):=zh (fun w hw=>by have h9:=(hrBf b wd xs0 HV.out).at_ hw;rw [hP,hNBf]at h9;have h8:=h9.1;first|exact h8|(rw [HER.out]at h8⊢;exact h8))
 clear hrBf
 have h2Bf:¬R.length < 2:=by omega
 have HPF:Hid (xs0.drop ((sby a).length+1+((sby c).length+1)+2)=Rf):=zh (drop_step (by rw [hP,hR]) (by rw [numB_len]))
 have HLF:Hid (N=(sby a).length+1+((sby c).length+1)+2+Rf.length):=zh (by omega)
 have HL1:Hid (T1.length=2+T1r.length/\T1r.length=RV.length+T2.length/\T2.length=2+RR.length/\RR.length=lr.length * 2):=zh ⟨hl1,hl1r,hl2,hrl⟩
 have HLf:Hid (Rf.length=lf.length * 2+T1.length):=zh (by omega)
 clear hv hof hb hA hgf hgv hgr hN hxs0 hR1 hR hRf hT1 hT1r hT2 hRF hRV hRR hr5 hsr hd1 hN4 hP hNl hlR1 hlR hlf' hl1 hl1r hl2 hrl hfl HLP
 go_enter Tryz.func133,Tryz.ntmps133
 go_upto_if 72 with (first|(go_at_call_of 136 A;refine(idx_found _ _ _ _ _ _ (HV1.out.at_ (by exact(((((HX.out.set _ _).set _ _).set _ _).set _ _).set _ _))).1 HPa.out).mono ?_;rintro e w3 ⟨rfl,hw3⟩;have HXn:Hid (ExtBut b wd w3):=zh (by rw [hw3];exact(((((HX.out.set _ _).set _ _).set _ _).set _ _).set _ _));have HBn:Hid (w3.heap[b]?=some (.cells #[.string ⟨#[]⟩,.string ⟨#[]⟩,.slice none 0 0,.slice none 0 0,.slice none 0 0] 107 (0,0))):=zh (by rw [hw3];exact slot_setCell (slot_setCell (slot_setCell (slot_setCell (slot_setCell HBK.out)))));clear HX HBK;have HX:=HXn;have HBK:=HBn;clear HXn HBn hw3;(try clear hck0);(try clear hfk0);(try clear hck1);(try clear hfk1);(try clear hck2);(try clear hfk2);(try clear hck3);(try clear hfk3);(try clear hck4);(try clear hfk4);have hck0:=zc HBK.out 0 _ rfl;have hfk0:=free_slot HBK.out 0;have hck1:=zc HBK.out 1 _ rfl;have hfk1:=free_slot HBK.out 1;have hck2:=zc HBK.out 2 _ rfl;have hfk2:=free_slot HBK.out 2;have hck3:=zc HBK.out 3 _ rfl;have hfk3:=free_slot HBK.out 3;have hck4:=zc HBK.out 4 _ rfl;have hfk4:=free_slot HBK.out 4;have hcv1:=conv_rd (show RdB w3 (.slice A (sby a).length c9) (sby a)from by(have h9:=((HV.out.at_ HX.out).1).take (sby a).length HNA.out;rw [HTA.out]at h9;exact h9)))|(go_at_call_of 136 A4;refine(idx_found _ _ _ _ _ _ (HD1.out.at_ (by exact HX.out.set _ _)).1 HPc.out).mono ?_;rintro e w3 ⟨rfl,hw3⟩;have HXn:Hid (ExtBut b wd w3):=zh (by rw [hw3];exact(HX.out.set _ _));have HBn:Hid (w3.heap[b]?=some (.cells #[.string (strOf (sby a)),.string ⟨#[]⟩,.slice none 0 0,.slice none 0 0,.slice none 0 0] 107 (0,0))):=zh (by rw [hw3];exact slot_setCell HBK.out);clear HX HBK;have HX:=HXn;have HBK:=HBn;clear HXn HBn hw3;(try clear hck0);(try clear hfk0);(try clear hck1);(try clear hfk1);(try clear hck2);(try clear hfk2);(try clear hck3);(try clear hfk3);(try clear hck4);(try clear hfk4);have hck0:=zc HBK.out 0 _ rfl;have hfk0:=free_slot HBK.out 0;have hck1:=zc HBK.out 1 _ rfl;have hfk1:=free_slot HBK.out 1;have hck2:=zc HBK.out 2 _ rfl;have hfk2:=free_slot HBK.out 2;have hck3:=zc HBK.out 3 _ rfl;have hfk3:=free_slot HBK.out 3;have hck4:=zc HBK.out 4 _ rfl;have hfk4:=free_slot HBK.out 4;have hcv2:=conv_rd (show RdB w3 (.slice A5 (sby c).length c5) (sby c)from(HR5.out.at_ HX.out).1))|(go_at_call_of 137 Bf;refine(rd16n (lf.length:Int) HNF.out _ _ _ (Rf) _ (HQBf.out _ (by exact HX.out.set _ _))).mono ?_;rintro e w3 ⟨rfl,hx3⟩;have HXn:Hid (ExtBut b wd w3):=zh ((HX.out.set _ _).trans hx3.but);have HBn:Hid (w3.heap[b]?=some (.cells #[.string (strOf (sby a)),.string (strOf (sby c)),.slice none 0 0,.slice none 0 0,.slice none 0 0] 107 (0,0))):=zh ((hx3.block b (zl (slot_setCell HBK.out))).trans (slot_setCell HBK.out));clear HX HBK;have HX:=HXn;have HBK:=HBn;clear HXn HBn hx3;(try clear hck0);(try clear hfk0);(try clear hck1);(try clear hfk1);(try clear hck2);(try clear hfk2);(try clear hck3);(try clear hfk3);(try clear hck4);(try clear hfk4);have hck0:=zc HBK.out 0 _ rfl;have hfk0:=free_slot HBK.out 0;have hck1:=zc HBK.out 1 _ rfl;have hfk1:=free_slot HBK.out 1;have hck2:=zc HBK.out 2 _ rfl;have hfk2:=free_slot HBK.out 2;have hck3:=zc HBK.out 3 _ rfl;have hfk3:=free_slot HBK.out 3;have hck4:=zc HBK.out 4 _ rfl;have hfk4:=free_slot HBK.out 4))
 go_cut [6]from 71 to 109 (fun rp wx=>∃p:Nat,rp=.int .i64 p/\∃A2 c2,Hid (N=p+T1.length/\xs0.drop p=T1/\ExtBut b wd wx/\wx.heap[b]?=some (.cells #[.string (strOf (sby a)),.string (strOf (sby c)),.slice A2 lf.length c2,.slice none 0 0,.slice none 0 0] 107 (0,0))/\∀w',ExtBut b wx w'->RdI .i16 w' (.slice A2 lf.length c2) lf))
 case first=>
  by_cases hf0:lf.length=0
  ·have HFN:Hid (lf=[]):=zh (List.eq_nil_of_length_eq_zero hf0)
   have HF0:=zh hf0
   have hz0:¬((0:Int) < (lf.length:Int)):=by omega
   clear hf0
   go_wp2_with fail
   go_meet
   case rel=>
    have HB9:=HBK
    refine⟨(sby a).length+1+((sby c).length+1)+2,by go_num,none,0,zh ⟨?_,?_,HX.out,?_,fun w' _=>?_⟩⟩
    ·have:=HLF.out;have:=HLf.out;have:=HF0.out;omega
    ·rw [HPF.out,HRf.out,HRF.out,HFN.out];rfl
    ·rw [HF0.out];exact HB9.out
    ·rw [HF0.out,HFN.out];exact rdi_nil _ _
  ·have hfp:(0:Int) < (lf.length:Int):=by omega
   have hfp2:0 < lf.length:=by omega
   have hmk:=mkH_run lf.length (by omega)
   have hN7:N - ((sby a).length+1+((sby c).length+1)+2)=Rf.length:=by have:=HLF.out;omega
   obtain⟨Bg,dBg,hsBg,hrBg⟩:=sl_at A N c9 ((sby a).length+1+((sby c).length+1)+2) (by have:=HLF.out;omega) hcap HCM.out
   rw [hN7]at hsBg
   have hwr:IntKind.i64.wrap ((lf.length:Int) * 2)=(lf.length:Int) * 2:=by rw [IntKind.wrap_i64];omega
   have hlti:¬(Rf.length:Int) < (lf.length:Int) * 2:=by have:=HLf.out;omega
   have HLS:=HLF
   have HPS:Hid (xs0.drop ((sby a).length+1+((sby c).length+1)+2)=lf.flatMap (fun n=>numB n 2)++T1):=zh (by rw [HPF.out,HRf.out,HRF.out])
   have HLS:Hid (N=(sby a).length+1+((sby c).length+1)+2+(lf.flatMap (fun n=>numB n 2)++T1).length):=zh (by rw [<-HRF.out,<-HRf.out];exact HLF.out)
   clear hrBg hN7
   have hbm:=((mkH_ext lf.length w3).block b (zl HBK.out)).trans HBK.out
   have hmk0:=zc hbm 0 _ rfl;have hmf0:=free_slot hbm 0;have hmk1:=zc hbm 1 _ rfl;have hmf1:=free_slot hbm 1;have hmk2:=zc hbm 2 _ rfl;have hmf2:=free_slot hbm 2;have hmk3:=zc hbm 3 _ rfl;have hmf3:=free_slot hbm 3;have hmk4:=zc hbm 4 _ rfl;have hmf4:=free_slot hbm 4
   clear hbm
   go_wp2
   obtain⟨g2,hg2⟩:∃g2,g2=w3.heap.size:=⟨_,rfl⟩
   have HG2:=zh hg2
   have hmE:=zh (mkH_ext lf.length w3)
   go_quiet (skip)
   have HXW:=zh (((HX.out.trans hmE.out.but).set 2 (.slice (some ⟨w3.heap.size,0,none⟩) lf.length lf.length)).trans (zr.drewN nq).but)
   have HBW:Hid (((((mkH lf.length w3).setCell ⟨b,2,none⟩ (.slice (some ⟨w3.heap.size,0,none⟩) lf.length lf.length)).drewN nq).heap[b]?=some (.cells #[.string (strOf (sby a)),.string (strOf (sby c)),.slice (some ⟨g2,0,none⟩) lf.length lf.length,.slice none 0 0,.slice none 0 0] 107 (0,0)))):=zh (by rw [HG2.out];exact slot_setCell ((hmE.out.block b (zl HBK.out)).trans HBK.out))
   have HAW:Hid (((((mkH lf.length w3).setCell ⟨b,2,none⟩ (.slice (some ⟨w3.heap.size,0,none⟩) lf.length lf.length)).drewN nq).heap[g2]?=some (.cells (madeCells #[.int .i16 0] lf.length) 243 (0,0)))):=zh (by rw [HG2.out];exact(heap_setCell_other _ _ _ _ (by have:=zl HBK.out;simp only [];omega)).trans (heap_alloc_new _ _))
   have HGL:Hid (wd.heap.size<=g2):=zh (by rw [HG2.out];exact HX.out.size)
   skip
   clear hck0 hck1 hck2 hck3 hck4 hfk0 hfk1 hfk2 hfk3 hfk4 hmk0 hmk1 hmk2 hmk3 hmk4 hmf0 hmf1 hmf2 hmf3 hmf4
   clear HX HBK hmk hg2
   go_wp2
   clear hfp hfp2
   go_loopw [93,6] (fun i rp wr=>∃k p:Nat,k<=lf.length/\i=.int .i64 k/\rp=.int .i64 p/\∃R cs,Hid (DrT b g2 wd wr (.cells #[.string (strOf (sby a)),.string (strOf (sby c)),.slice (some ⟨g2,0,none⟩) lf.length lf.length,.slice none 0 0,.slice none 0 0] 107 (0,0)) 243 lf.length N xs0 p R cs (fun j u=>u=.int .i16 (lf.getD j 0)) (.int .i16 0) k/\R=(lf.drop k).flatMap (fun n=>numB n 2)++T1)) (fun i _ _=>lf.length - (intOf i).toNat)
   case atStart=>exact⟨0,(sby a).length+1+((sby c).length+1)+2,Nat.zero_le _,rfl,by go_num,_,madeCells #[.int .i16 0] lf.length,zh ⟨⟨HLS.out,HPS.out,HXW.out,HBW.out,HAW.out,by rw [size_madeCells],HGL.out,fun j hj=>absurd hj (Nat.not_lt_zero _),fun j _ hj=>by simp [madeCells,hj,Nat.mod_one]⟩,by rw [List.drop_zero]⟩⟩
   case round=>
    clear HXW HBW HAW hmE
    obtain⟨k,p,hk1,rfl,rfl,R3,cs,HH0⟩:=hrel
    have HH:=zh HH0.out.1
    have hS0:=HH0.out.2
    skip
    clear HH0
    have hNp:N - p=R3.length:=by have:=HH.out.len;omega
    have hpN:p<=N:=by have:=HH.out.len;omega
    have HX:=zh HH.out.bel
    by_cases hlt:k < lf.length
    ·obtain⟨x,hx⟩:∃x,x=lf[k]:=⟨_,rfl⟩
     have hxr:=HGF.out _ (List.getElem_mem hlt)
     rw [<-hx]at hxr
     have hgd:lf.getD k 0=x:=by rw [hx];exact getD_mem hlt
     have HU:Hid (Value.int .i16 x=.int .i16 (lf.getD k 0)):=zh (by rw [hgd])
     rw [List.drop_eq_getElem_cons hlt,List.flatMap_cons,<-hx,List.append_assoc]at hS0
     obtain⟨R4,hR4e⟩:∃R4,R4=(lf.drop (k+1)).flatMap (fun n=>numB n 2)++T1:=⟨_,rfl⟩
     rw [<-hR4e]at hS0
     have HR4:=zh hS0
     have HR4e:=zh hR4e
     have HCW:=zh (zc HH.out.blk 2 (.slice (some ⟨g2,0,none⟩) lf.length lf.length) rfl)
     obtain⟨A7,c7,hs7,hr7⟩:=sl_at A N c9 p hpN hcap HCM.out
     have HD:Hid (RdN b wd (.slice A7 R3.length c7) R3):=zh (by
      have h9:=hr7 b wd xs0 HV.out
      rwa [HH.out.rest,hNp]at h9)
     rw [hNp]at hs7
     have hw:IntKind.i16.wrap x=x:=by rw [wrapI16];omega
     have HKX:Hid (0<=x/\x < 65536):=zh (by omega)
     clear hr7 hS0 hx hxr hR4e hgd
     go_wp2
     refine wp_region_cut (J:=fun x=>Ext wr x) (R:=Ext) 10 [Sp.eq _ (.pointer (some ⟨b,0,none⟩)),Sp.eq _ (.pointer (some ⟨b,0,none⟩)),Sp.eq _ (.pointer (some ⟨b,2,none⟩)),Sp.eq _ (.slice (some ⟨g2,0,none⟩) lf.length lf.length),Sp.eq _ (.int .i64 k),Sp.eq _ (.slice A N c9),Sp.eq _ (.int .i64 (p:Int)),Sp.eq _ (.slice A7 R3.length c7),Sp.eq _ (.int .u16 x),Sp.eq _ (.int .i16 x)] (by kernel_rfl) (by kernel_rfl) ?_ ?_ ?_
     ·exact(Ext.refl wr).drew
     ·refine⟨zj,zj,zj,?_,zj,zj,zj,zj,?_,zj,trivial⟩
      ·intro vs w1 hJ hp
       have q2:vs 2=_:=zd hp 2
       have HJ:=zh hJ
       have hq:=hJ.cell HCW.out
       clear hp hJ
       simp only [List.take_succ_cons,List.take_zero,putAll,Nat.reduceAdd]
       go_wp2
       exact⟨rfl,HJ.out,zr,rfl⟩
      ·intro vs w1 hJ hp
       have q7:vs 7=_:=zd hp 7
       have HJ:=zh hJ
       clear hp hJ
       simp only [List.take_succ_cons,List.take_zero,putAll,Nat.reduceAdd]
       go_wp2_with (go_at_call 137;refine(rd16n x HKX.out _ _ _ R4 _ (by rw [<-HR4.out];exact(HD.out.at_ (HX.out.trans HJ.out.but)).1)).mono ?_;rintro e w2' ⟨rfl,hx2⟩;have HX2:=zh hx2;clear hx2)
       exact⟨rfl,HJ.out.trans HX2.out,HX2.out,rfl⟩
     ·intro vs w1 hJ hp
      have q0:vs 0=_:=zd hp 0
      have q1:vs 1=_:=zd hp 1
      have q2:vs 2=_:=zd hp 2
      have q3:vs 3=_:=zd hp 3
      have q4:vs 4=_:=zd hp 4
      have q5:vs 5=_:=zd hp 5
      have q6:vs 6=_:=zd hp 6
      have q7:vs 7=_:=zd hp 7
      have q8:vs 8=_:=zd hp 8
      have q9:vs 9=_:=zd hp 9
      have HJ:=zh hJ
      have hcg':=zc ((hJ.block _ (zl HH.out.arr)).trans HH.out.arr) k (.int .i16 0) (HH.out.at_ hlt)
      have hfg':=free_slot ((hJ.block _ (zl HH.out.arr)).trans HH.out.arr) k
      clear hp hJ
      simp only [List.drop_succ_cons,List.drop_zero,List.take_succ_cons,List.take_zero,putAll,Nat.reduceAdd,Act.put,q0,q1,q2,q3,q4,q5,q6,q7,q8,q9,List.setIfInBounds_toArray,List.set_cons_zero,List.set_cons_succ]
      clear q0 q1 q2 q3 q4 q5 q6 q7 q8 q9
      go_wp2
      go_roundw
      case rel=>
       skip
       exact⟨k+1,p+2,by omega,by go_num,by go_num,R4,cs.setIfInBounds k (.int .i16 x),zh ⟨(HH.out.skip HJ.out HR4.out (by rw [numB_len])).put HLT.out (by omega) HU.out,HR4e.out⟩⟩
      case measure=>simp only [intOf];omega
    ·obtain rfl:k=lf.length:=by omega
     rw [List.drop_length,List.flatMap_nil,List.nil_append]at hS0
     have HB9:=zh HH.out
     go_wp2
     go_meet
     case rel=>
      exact⟨p,by go_num,_,_,zh ⟨by have:=HB9.out.len;rw [hS0]at this;exact this,by rw [HB9.out.rest,hS0],HB9.out.bel,HB9.out.blk,fun w' hw=>rdi_arr ((hw.block _ (zl HB9.out.arr) (by have:=HLT.out;have:=HB9.out.lo;omega)).trans HB9.out.arr) HB9.out.done (by omega)⟩⟩
 case rest=>
 clear hck0 hck1 hck2 hck3 hck4 hfk0 hfk1 hfk2 hfk3 hfk4 HX HBK
 clear hsBf hsl hs5 h2Bf hnc1 hna1 hcv1 hcv2 hNBf
 obtain⟨p,rfl,A2,c2,HS⟩:=hcut
 obtain⟨wa,hwa⟩:∃wa,wa=wc:=⟨_,rfl⟩
 rw [<-hwa]at HS⊢
 clear hwa
 have HX:=zh HS.out.2.2.1
 have HBK:=zh HS.out.2.2.2.1
 have HK2:=zh HS.out.2.2.2.2
 have hP:=HS.out.2.1
 have HLP:=zh HS.out.1
 have hck0:=zc HBK.out 0 _ rfl;have hfk0:=free_slot HBK.out 0;have hck1:=zc HBK.out 1 _ rfl;have hfk1:=free_slot HBK.out 1;have hck2:=zc HBK.out 2 _ rfl;have hfk2:=free_slot HBK.out 2;have hck3:=zc HBK.out 3 _ rfl;have hfk3:=free_slot HBK.out 3;have hck4:=zc HBK.out 4 _ rfl;have hfk4:=free_slot HBK.out 4
 have hNBv:N - (p)=T1.length:=by have:=HLP.out;omega
 obtain⟨Bv,dBv,hsBv,hrBv⟩:=sl_at A N c9 (p) (by have:=HLP.out;omega) hcap HCM.out
 rw [hNBv]at hsBv
 have HQBv:Hid (∀w,ExtBut b wd w->RdB w (.slice Bv T1.length dBv) (numB (vls.length:Int) 2++T1r)):=zh (fun w hw=>by have h9:=(hrBv b wd xs0 HV.out).at_ hw;rw [hP,hNBv]at h9;have h8:=h9.1;first|exact h8|(rw [HET1.out]at h8⊢;exact h8))
 clear hrBv
 have h2Bv:¬T1.length < 2:=by have:=HL1.out;omega
 have HPV:Hid (xs0.drop (p+2)=T1r):=zh (drop_step (by rw [hP,HET1.out]) (by rw [numB_len]))
 have HLV:Hid (N=p+2+T1r.length):=zh (by have:=HLP.out;have:=HL1.out;omega)
 clear hP HS
 have hpN:p<=N:=by have:=HLP.out;omega
 go_upto_if 126 with (go_at_call_of 137 Bv;refine(rd16n (vls.length:Int) HNV.out _ _ _ (T1r) _ (HQBv.out _ HX.out)).mono ?_;rintro e w3 ⟨rfl,hx3⟩;have hx9:=zh hx3;have HXn:Hid (ExtBut b wd w3):=zh (HX.out.trans hx3.but);have HBn:Hid (w3.heap[b]?=some (.cells #[.string (strOf (sby a)),.string (strOf (sby c)),.slice A2 lf.length c2,.slice none 0 0,.slice none 0 0] 107 (0,0))):=zh ((hx3.block b (zl HBK.out)).trans HBK.out);clear HX HBK;have HX:=HXn;have HBK:=HBn;clear HXn HBn hx3;(try clear hck0);(try clear hfk0);(try clear hck1);(try clear hfk1);(try clear hck2);(try clear hfk2);(try clear hck3);(try clear hfk3);(try clear hck4);(try clear hfk4);have hck0:=zc HBK.out 0 _ rfl;have hfk0:=free_slot HBK.out 0;have hck1:=zc HBK.out 1 _ rfl;have hfk1:=free_slot HBK.out 1;have hck2:=zc HBK.out 2 _ rfl;have hfk2:=free_slot HBK.out 2;have hck3:=zc HBK.out 3 _ rfl;have hfk3:=free_slot HBK.out 3;have hck4:=zc HBK.out 4 _ rfl;have hfk4:=free_slot HBK.out 4;have HE3:Hid (ExtBut b wa w3):=zh hx9.out.but)
 go_cut [6]from 125 to 182 (fun rp wx=>∃p:Nat,rp=.int .i64 p/\∃A3 c3,Hid (N=p+T2.length/\xs0.drop p=T2/\ExtBut b wd wx/\wx.heap[b]?=some (.cells #[.string (strOf (sby a)),.string (strOf (sby c)),.slice A2 lf.length c2,.slice A3 vls.length c3,.slice none 0 0] 107 (0,0))/\(∀w',ExtBut b wx w'->RdI .i16 w' (.slice A2 lf.length c2) lf)/\∀w',ExtBut b wx w'->Rd1 isOpt w' (.slice A3 vls.length c3) (vls.map optV)))
 case first=>
  by_cases hv0:vls.length=0
  ·have HVN:Hid (vls=[]):=zh (List.eq_nil_of_length_eq_zero hv0)
   have HV0:=zh hv0
   have hz0:¬((0:Int) < (vls.length:Int)):=by omega
   clear hv0
   go_wp2_with fail
   go_meet
   case rel=>
    refine⟨p+2,by go_num,none,0,zh ⟨?_,?_,HX.out,?_,fun w' hw=>HK2.out w' (HE3.out.trans hw),fun w' _=>?_⟩⟩
    ·have h9:=HLV.out;rw [HT1r.out,HRV.out,HVN.out]at h9;exact h9
    ·rw [HPV.out,HT1r.out,HRV.out,HVN.out];rfl
    ·rw [HV0.out];exact HBK.out
    ·rw [HV0.out,HVN.out];exact rd1_nil _ _
  ·have hvp:(0:Int) < (vls.length:Int):=by omega
   have hvp2:0 < vls.length:=by omega
   have hmk:=mkV_run vls.length (by omega)
   have HPS:Hid (xs0.drop (p+2)=RV++T2):=zh (by rw [HPV.out,HT1r.out])
   have HLS:Hid (N=p+2+(RV++T2).length):=zh (by rw [<-HT1r.out];exact HLV.out)
   have hbm:=((mkV_ext vls.length w3).block b (zl HBK.out)).trans HBK.out
   have hmk0:=zc hbm 0 _ rfl;have hmf0:=free_slot hbm 0;have hmk1:=zc hbm 1 _ rfl;have hmf1:=free_slot hbm 1;have hmk2:=zc hbm 2 _ rfl;have hmf2:=free_slot hbm 2;have hmk3:=zc hbm 3 _ rfl;have hmf3:=free_slot hbm 3;have hmk4:=zc hbm 4 _ rfl;have hmf4:=free_slot hbm 4
   clear hbm
   simp only [hvp2,decide_true]
   go_wp2
   clear hck0 hck1 hck2 hck3 hck4 hfk0 hfk1 hfk2 hfk3 hfk4 hmk0 hmk1 hmk2 hmk3 hmk4 hmf0 hmf1 hmf2 hmf3 hmf4
   obtain⟨g3,hg3⟩:∃g3,g3=w3.heap.size:=⟨_,rfl⟩
   have HG3:=zh hg3
   have hmE3:=mkV_ext vls.length w3
   have HXW:=zh ((HX.out.trans hmE3.but).set 3 (.slice (some ⟨w3.heap.size,0,none⟩) vls.length vls.length))
   have HEB:=zh ((HE3.out.trans hmE3.but).set 3 (.slice (some ⟨w3.heap.size,0,none⟩) vls.length vls.length))
   have HBW:Hid (((mkV vls.length w3).setCell ⟨b,3,none⟩ (.slice (some ⟨w3.heap.size,0,none⟩) vls.length vls.length)).heap[b]?=some (.cells #[.string (strOf (sby a)),.string (strOf (sby c)),.slice A2 lf.length c2,.slice (some ⟨g3,0,none⟩) vls.length vls.length,.slice none 0 0] 107 (0,0))):=zh (by rw [HG3.out];exact slot_setCell ((hmE3.block b (zl HBK.out)).trans HBK.out))
   have HAW:Hid (((mkV vls.length w3).setCell ⟨b,3,none⟩ (.slice (some ⟨w3.heap.size,0,none⟩) vls.length vls.length)).heap[g3]?=some (.cells (madeCells #[.slice none 0 0] vls.length) 26 (0,0))):=zh (by rw [HG3.out];exact(heap_setCell_other _ _ _ _ (by have:=zl HBK.out;simp only [];omega)).trans (heap_alloc_new _ _))
   have HGL:Hid (wd.heap.size<=g3):=zh (by rw [HG3.out];exact HX.out.size)
   have HGE:Hid (wa.heap.size<=g3):=zh (by rw [HG3.out];exact HE3.out.size)
   clear HX HBK hg3 hmE3 hmk
   go_wp2
   clear hvp hvp2
   go_loopw [133,6] (fun i rp wr=>∃k p:Nat,k<=vls.length/\i=.int .i64 k/\rp=.int .i64 p/\∃R cs,Hid (DrT b g3 wd wr (.cells #[.string (strOf (sby a)),.string (strOf (sby c)),.slice A2 lf.length c2,.slice (some ⟨g3,0,none⟩) vls.length vls.length,.slice none 0 0] 107 (0,0)) 26 vls.length N xs0 p R cs (fun j u=>OptAt b wd (vls.getD j (true,[])) u) (.slice none 0 0) k/\R=(vls.drop k).flatMap (fun x=>valB x.1 x.2)++T2/\ExtBut b wa wr)) (fun i _ _=>vls.length - (intOf i).toNat)
   case atStart=>
    exact⟨0,p+2,Nat.zero_le _,rfl,by go_num,_,madeCells #[.slice none 0 0] vls.length,zh ⟨⟨HLS.out,HPS.out,HXW.out,HBW.out,HAW.out,by rw [size_madeCells],HGL.out,fun j hj=>absurd hj (Nat.not_lt_zero _),fun j _ hj=>by simp [madeCells,hj,Nat.mod_one]⟩,by rw [List.drop_zero,HRV.out],HEB.out⟩⟩
   case round=>
    clear HXW HBW HAW HEB
    obtain⟨k,p,hk1,rfl,rfl,R3,cs,HH0⟩:=hrel
    have HH:=zh HH0.out.1
    have hS0:=HH0.out.2.1
    have HE:=zh HH0.out.2.2
    clear HH0
    have hNp:N - p=R3.length:=by have:=HH.out.len;omega
    have hpN:p<=N:=by have:=HH.out.len;omega
    have HX:=zh HH.out.bel
    by_cases hlt:k < vls.length
    ·obtain⟨x,hx⟩:∃x,x=vls[k]:=⟨_,rfl⟩
     have hxr:=HGV.out _ (List.getElem_mem hlt)
     rw [<-hx]at hxr
     have hgd:vls.getD k (true,[])=x:=by rw [hx];simp [List.getD,hlt]
     rw [List.drop_eq_getElem_cons hlt,List.flatMap_cons,<-hx,List.append_assoc]at hS0
     obtain⟨R5,hR5e⟩:∃R5,R5=(vls.drop (k+1)).flatMap (fun x=>valB x.1 x.2)++T2:=⟨_,rfl⟩
     rw [<-hR5e]at hS0
     have HR5e:=zh hR5e
     obtain⟨A7,c7',hs7,hr7⟩:=sl_at A N c9 p hpN hcap HCM.out
     have HD:Hid (RdN b wd (.slice A7 R3.length c7') R3):=zh (by
      have h9:=hr7 b wd xs0 HV.out
      rwa [HH.out.rest,hNp]at h9)
     rw [hNp]at hs7
     clear hr7
     obtain⟨x1,x2⟩:=x
     cases x1 with
     | true=>
       have e1:valB (true,x2).1 (true,x2).2=numB 4294967295 4:=by simp only [valB,if_true];exact numB_mod4 (-1)
       rw [e1]at hS0
       obtain⟨R4,hR4e⟩:∃R4,R4=R5:=⟨_,rfl⟩
       rw [<-hR4e]at hS0
       have HR4:=zh hS0
       have HR45:=zh hR4e
       have h4:¬R3.length < 4:=by rw [hS0,List.length_append,numB_len];omega
       have hw:IntKind.i32.wrap 4294967295= -1:=by rw [IntKind.wrap_i32];rfl
       have HK4:Hid (0<=(4294967295:Int)/\(4294967295:Int) < 4294967296):=zh (by omega)
       have HOA:Hid (OptAt b wd (vls.getD k (true,[])) (.slice none 0 0)):=zh (by rw [hgd];exact OptAt.nul)
       clear hS0 hx hxr hR5e hR4e e1 hgd
       go_wp2_with (go_at_call 138;refine(rd32n 4294967295 HK4.out _ _ _ R4 _ (by rw [<-HR4.out];exact(HD.out.at_ HX.out).1)).mono ?_;rintro e w5 ⟨rfl,hx5⟩;have HX5:=zh hx5;have hb5:=(hx5.block b (zl HH.out.blk)).trans HH.out.blk;have hg5:=(hx5.block g3 (zl HH.out.arr)).trans HH.out.arr;have HG5:=zh hg5;have hc5:=zc hb5 3 _ rfl;have HC5:=zh hc5;clear hx5 hb5 hg5)
       go_roundw
       case rel=>exact⟨k+1,p+4,by omega,by go_num,by go_num,R5,cs,zh ⟨by rw [<-HR45.out];exact(HH.out.skip HX5.out HR4.out (by rw [numB_len])).pass (by omega) HOA.out,HR5e.out,HE.out.trans HX5.out.but⟩⟩
       case measure=>simp only [intOf];omega
     | false=>
       have e1:valB (false,x2).1 (false,x2).2=numB (x2.length:Int) 4++x2:=by simp only [valB,Bool.false_eq_true,if_false]
       rw [e1,List.append_assoc]at hS0
       replace hxr:x2.length<=200:=hxr
       obtain⟨R4,hR4e⟩:∃R4,R4=x2++R5:=⟨_,rfl⟩
       rw [<-hR4e]at hS0
       have HR4:=zh hS0
       have hl4:R3.length=4+R4.length:=by rw [hS0];simp only [List.length_append,numB_len]
       have hl5:R4.length=x2.length+R5.length:=by rw [hR4e];simp only [List.length_append]
       have h4:¬R3.length < 4:=by omega
       have hw:IntKind.i32.wrap (x2.length:Int)=(x2.length:Int):=by rw [IntKind.wrap_i32];omega
       have hm:((x2.length:Int) == -1)=false:=beq_eq_false_iff_ne.2 (by omega)
       have hm2:¬((x2.length:Int)= -1):=by omega
       have HK4:Hid (0<=(x2.length:Int)/\(x2.length:Int) < 4294967296):=zh (by omega)
       have hN5:N - (p+4)=R4.length:=by omega
       obtain⟨A8,c8,hs8,hr8⟩:=sl_at A N c9 (p+4) (by omega) hcap HCM.out
       rw [hN5]at hs8
       clear hr8
       have HR5:=zh (show R3=(numB (x2.length:Int) 4++x2)++R5 by rw [hS0,hR4e,List.append_assoc])
       obtain⟨qA,c7,hs9,hr9⟩:=sl_mids wd ⟨b1,o1,none⟩ N c9 (p+4) x2.length (by omega) hcap HCM.out
       rw [<-HA.out]at hs9 hr9
       have HOA:Hid (OptAt b wd (vls.getD k (true,[])) (.slice (some qA) x2.length c7)):=zh (by
        rw [hgd]
        refine OptAt.of ?_
        have h9:=hr9 b wd xs0 HV.out
        rwa [<-List.drop_drop,HH.out.rest,hS0,drop_numB,hR4e,List.take_left]at h9)
       have hs77:=fun w=>hs9 ((p:Int)+4) ((p:Int)+4+(x2.length:Int)) w (by push_cast;rfl) (by push_cast;rfl)
       have hcc:p+4+x2.length<=c9:=by omega
       have h5n:¬R4.length < x2.length:=by omega
       clear hS0 hx hR4e hR5e e1 hl4 hl5 hgd hr9 hs9
       go_wp2_with (go_at_call 138;refine(rd32n x2.length HK4.out _ _ _ R4 _ (by rw [<-HR4.out];exact(HD.out.at_ HX.out).1)).mono ?_;rintro e w5 ⟨rfl,hx5⟩;have HX5:=zh hx5;have hb5:=(hx5.block b (zl HH.out.blk)).trans HH.out.blk;have hg5:=(hx5.block g3 (zl HH.out.arr)).trans HH.out.arr;have HG5:=zh hg5;have hc5:=zc hb5 3 _ rfl;have HC5:=zh hc5;clear hx5 hb5 hg5)
       refine wp_region_cut (J:=fun x=>Ext w5 x) (R:=Ext) 11 [Sp.eq _ (.pointer (some ⟨b,0,none⟩)),Sp.eq _ (.pointer (some ⟨b,0,none⟩)),Sp.eq _ (.pointer (some ⟨b,3,none⟩)),Sp.eq _ (.slice (some ⟨g3,0,none⟩) vls.length vls.length),Sp.eq _ (.int .i64 k),Sp.eq _ (.slice A N c9),Sp.eq _ (.int .i64 ((p:Int)+4)),Sp.eq _ (.int .i64 ((p:Int)+4)),Sp.eq _ (.int .i64 (x2.length:Int)),Sp.eq _ (.int .i64 ((p:Int)+4+(x2.length:Int))),Sp.eq _ (.slice (some qA) x2.length c7)] (by kernel_rfl) (by kernel_rfl) ?_ ?_ ?_
       ·exact(Ext.refl w5).drew
       ·refine⟨zj,zj,zj,?_,zj,zj,zj,zj,zj,zj,zj,trivial⟩
        ·intro vs w1 hJ hp
         have q2:vs 2=_:=zd hp 2
         have HJ:=zh hJ
         have hq:=hJ.cell HC5.out
         clear hp hJ
         simp only [List.take_succ_cons,List.take_zero,putAll,Nat.reduceAdd]
         go_wp2
         exact⟨rfl,HJ.out,zr,rfl⟩
       ·intro vs w1 hJ hp
        have q0:vs 0=_:=zd hp 0
        have q1:vs 1=_:=zd hp 1
        have q2:vs 2=_:=zd hp 2
        have q3:vs 3=_:=zd hp 3
        have q4:vs 4=_:=zd hp 4
        have q5:vs 5=_:=zd hp 5
        have q6:vs 6=_:=zd hp 6
        have q7:vs 7=_:=zd hp 7
        have q8:vs 8=_:=zd hp 8
        have q9:vs 9=_:=zd hp 9
        have q10:vs 10=_:=zd hp 10
        have HJ:=zh hJ
        have hcg':=zc ((hJ.block _ (zl HG5.out)).trans HG5.out) k (.slice none 0 0) (HH.out.at_ hlt)
        have hfg':=free_slot ((hJ.block _ (zl HG5.out)).trans HG5.out) k
        clear hp hJ hc5
        simp only [List.drop_succ_cons,List.drop_zero,List.take_succ_cons,List.take_zero,putAll,Nat.reduceAdd,Act.put,q0,q1,q2,q3,q4,q5,q6,q7,q8,q9,q10,List.setIfInBounds_toArray,List.set_cons_zero,List.set_cons_succ]
        clear q0 q1 q2 q3 q4 q5 q6 q7 q8 q9 q10
        go_wp2
        go_roundw
        case rel=>
         refine⟨k+1,p+(4+x2.length),by omega,by go_num,by go_num,R5,cs.setIfInBounds k (.slice (some qA) x2.length c7),zh ⟨?_,HR5e.out,(HE.out.trans (HX5.out.trans HJ.out).but).put HGE.out _ _⟩⟩
         exact(HH.out.skip (HX5.out.trans HJ.out) HR5.out (by rw [List.length_append,numB_len])).put HLT.out (by omega) HOA.out
        case measure=>simp only [intOf];omega
    ·obtain rfl:k=vls.length:=by omega
     rw [List.drop_length,List.flatMap_nil,List.nil_append]at hS0
     have HB9:=zh HH.out
     go_wp2
     go_meet
     case rel=>
      exact⟨p,by go_num,_,_,zh ⟨by have:=HB9.out.len;rw [hS0]at this;exact this,by rw [HB9.out.rest,hS0],HB9.out.bel,HB9.out.blk,fun w' hw=>HK2.out w' (HE.out.trans hw),fun w' hw=>rd1_arr (m:=0) ((hw.block _ (zl HB9.out.arr) (by have:=HLT.out;have:=HB9.out.lo;omega)).trans HB9.out.arr) HB9.out.done (HB9.out.bel.trans hw) (Nat.le_refl _) (by unfold maxLen;omega)⟩⟩
 case rest=>
 clear hck0 hck1 hck2 hck3 hck4 hfk0 hfk1 hfk2 hfk3 hfk4 HX HBK
 clear hsBv h2Bv HE3 hNBv HLP HPV HLV
 obtain⟨p,rfl,A3,c3,HS⟩:=hcut
 clear HK2
 obtain⟨wa,hwa⟩:∃wa,wa=wc:=⟨_,rfl⟩
 rw [<-hwa]at HS⊢
 clear hwa
 have HX:=zh HS.out.2.2.1
 have HBK:=zh HS.out.2.2.2.1
 have HK2:=zh HS.out.2.2.2.2.1
 have HK3:=zh HS.out.2.2.2.2.2
 have hP:=HS.out.2.1
 have HLP:=zh HS.out.1
 have hck0:=zc HBK.out 0 _ rfl;have hfk0:=free_slot HBK.out 0;have hck1:=zc HBK.out 1 _ rfl;have hfk1:=free_slot HBK.out 1;have hck2:=zc HBK.out 2 _ rfl;have hfk2:=free_slot HBK.out 2;have hck3:=zc HBK.out 3 _ rfl;have hfk3:=free_slot HBK.out 3;have hck4:=zc HBK.out 4 _ rfl;have hfk4:=free_slot HBK.out 4
 have hNBz:N - (p)=T2.length:=by have:=HLP.out;omega
 obtain⟨Bz,dBz,hsBz,hrBz⟩:=sl_at A N c9 (p) (by have:=HLP.out;omega) hcap HCM.out
 rw [hNBz]at hsBz
 have HQBz:Hid (∀w,ExtBut b wd w->RdB w (.slice Bz T2.length dBz) (numB (lr.length:Int) 2++RR)):=zh (fun w hw=>by have h9:=(hrBz b wd xs0 HV.out).at_ hw;rw [hP,hNBz]at h9;have h8:=h9.1;first|exact h8|(rw [HET2.out]at h8⊢;exact h8))
 clear hrBz
 have h2Bz:¬T2.length < 2:=by have:=HL1.out;omega
 have hpN:p<=N:=by have:=HLP.out;omega
 have hmk:=mkH_run lr.length (by omega)
 have hN7:N - (p+2)=RR.length:=by have:=HLP.out;have:=HL1.out;omega
 obtain⟨Bg,dBg,hsBg,hrBg⟩:=sl_at A N c9 (p+2) (by have:=HLP.out;have:=HL1.out;omega) hcap HCM.out
 rw [hN7]at hsBg
 have hwr:IntKind.i64.wrap ((lr.length:Int) * 2)=(lr.length:Int) * 2:=by rw [IntKind.wrap_i64];omega
 have hlti:¬(RR.length:Int) < (lr.length:Int) * 2:=by have:=HL1.out;omega
 have HPS:Hid (xs0.drop (p+2)=lr.flatMap (fun n=>numB n 2)++ []):=zh (by rw [List.append_nil,<-HRR.out];exact drop_step (by rw [hP,HET2.out]) (by rw [numB_len]))
 have HLS:Hid (N=p+2+(lr.flatMap (fun n=>numB n 2)++ []).length):=zh (by rw [List.append_nil,<-HRR.out];have:=HLP.out;have:=HL1.out;omega)
 clear hrBg hP HS hN7
 go_wp2_with (go_at_call_of 137 Bz;refine(rd16n (lr.length:Int) HNR.out _ _ _ (RR) _ (HQBz.out _ HX.out)).mono ?_;rintro e w3 ⟨rfl,hx3⟩;have hx9:=zh hx3;have HXn:Hid (ExtBut b wd w3):=zh (HX.out.trans hx3.but);have HBn:Hid (w3.heap[b]?=some (.cells #[.string (strOf (sby a)),.string (strOf (sby c)),.slice A2 lf.length c2,.slice A3 vls.length c3,.slice none 0 0] 107 (0,0))):=zh ((hx3.block b (zl HBK.out)).trans HBK.out);clear HX HBK;have HX:=HXn;have HBK:=HBn;clear HXn HBn hx3;(try clear hck0);(try clear hfk0);(try clear hck1);(try clear hfk1);(try clear hck2);(try clear hfk2);(try clear hck3);(try clear hfk3);(try clear hck4);(try clear hfk4);have hck0:=zc HBK.out 0 _ rfl;have hfk0:=free_slot HBK.out 0;have hck1:=zc HBK.out 1 _ rfl;have hfk1:=free_slot HBK.out 1;have hck2:=zc HBK.out 2 _ rfl;have hfk2:=free_slot HBK.out 2;have hck3:=zc HBK.out 3 _ rfl;have hfk3:=free_slot HBK.out 3;have hck4:=zc HBK.out 4 _ rfl;have hfk4:=free_slot HBK.out 4;have hbm:=((mkH_ext lr.length w3).block b (zl HBK.out)).trans HBK.out;have hmk0:=zc hbm 0 _ rfl;have hmf0:=free_slot hbm 0;have hmk1:=zc hbm 1 _ rfl;have hmf1:=free_slot hbm 1;have hmk2:=zc hbm 2 _ rfl;have hmf2:=free_slot hbm 2;have hmk3:=zc hbm 3 _ rfl;have hmf3:=free_slot hbm 3;have hmk4:=zc hbm 4 _ rfl;have hmf4:=free_slot hbm 4;clear hbm;have HE3:Hid (ExtBut b wa w3):=zh hx9.out.but)
 obtain⟨g4,hg2⟩:∃g4,g4=w3.heap.size:=⟨_,rfl⟩
 have HG2:=zh hg2
 have hmE:=zh (mkH_ext lr.length w3)
 go_quiet (skip)
 have HXW:=zh (((HX.out.trans hmE.out.but).set 4 (.slice (some ⟨w3.heap.size,0,none⟩) lr.length lr.length)).trans (zr.drewN nq).but)
 have HBW:Hid (((((mkH lr.length w3).setCell ⟨b,4,none⟩ (.slice (some ⟨w3.heap.size,0,none⟩) lr.length lr.length)).drewN nq).heap[b]?=some (.cells #[.string (strOf (sby a)),.string (strOf (sby c)),.slice A2 lf.length c2,.slice A3 vls.length c3,.slice (some ⟨g4,0,none⟩) lr.length lr.length] 107 (0,0)))):=zh (by rw [HG2.out];exact slot_setCell ((hmE.out.block b (zl HBK.out)).trans HBK.out))
 have HAW:Hid (((((mkH lr.length w3).setCell ⟨b,4,none⟩ (.slice (some ⟨w3.heap.size,0,none⟩) lr.length lr.length)).drewN nq).heap[g4]?=some (.cells (madeCells #[.int .i16 0] lr.length) 243 (0,0)))):=zh (by rw [HG2.out];exact(heap_setCell_other _ _ _ _ (by have:=zl HBK.out;simp only [];omega)).trans (heap_alloc_new _ _))
 have HGL:Hid (wd.heap.size<=g4):=zh (by rw [HG2.out];exact HX.out.size)
 have HEB:=zh (((HE3.out.trans hmE.out.but).set 4 (.slice (some ⟨w3.heap.size,0,none⟩) lr.length lr.length)).trans (zr.drewN nq).but)
 have HGE:Hid (wa.heap.size<=g4):=zh (by rw [HG2.out];exact HE3.out.size)
 clear hck0 hck1 hck2 hck3 hck4 hfk0 hfk1 hfk2 hfk3 hfk4 hmk0 hmk1 hmk2 hmk3 hmk4 hmf0 hmf1 hmf2 hmf3 hmf4
 clear HX HBK hmk hg2
 go_wp2
 skip
 go_loopw [218,6] (fun i rp wr=>∃k p:Nat,k<=lr.length/\i=.int .i64 k/\rp=.int .i64 p/\∃R cs,Hid (DrT b g4 wd wr (.cells #[.string (strOf (sby a)),.string (strOf (sby c)),.slice A2 lf.length c2,.slice A3 vls.length c3,.slice (some ⟨g4,0,none⟩) lr.length lr.length] 107 (0,0)) 243 lr.length N xs0 p R cs (fun j u=>u=.int .i16 (lr.getD j 0)) (.int .i16 0) k/\R=(lr.drop k).flatMap (fun n=>numB n 2)++ []/\ExtBut b wa wr)) (fun i _ _=>lr.length - (intOf i).toNat)
 case atStart=>exact⟨0,p+2,Nat.zero_le _,rfl,by go_num,_,madeCells #[.int .i16 0] lr.length,zh ⟨⟨HLS.out,HPS.out,HXW.out,HBW.out,HAW.out,by rw [size_madeCells],HGL.out,fun j hj=>absurd hj (Nat.not_lt_zero _),fun j _ hj=>by simp [madeCells,hj,Nat.mod_one]⟩,by rw [List.drop_zero],HEB.out⟩⟩
 case round=>
  clear HXW HBW HAW hmE
  obtain⟨k,p,hk1,rfl,rfl,R3,cs,HH0⟩:=hrel
  have HH:=zh HH0.out.1
  have hS0:=HH0.out.2.1
  have HE:=zh HH0.out.2.2
  clear HH0
  have hNp:N - p=R3.length:=by have:=HH.out.len;omega
  have hpN:p<=N:=by have:=HH.out.len;omega
  have HX:=zh HH.out.bel
  by_cases hlt:k < lr.length
  ·obtain⟨x,hx⟩:∃x,x=lr[k]:=⟨_,rfl⟩
   have hxr:=HGR.out _ (List.getElem_mem hlt)
   rw [<-hx]at hxr
   have hgd:lr.getD k 0=x:=by rw [hx];exact getD_mem hlt
   have HU:Hid (Value.int .i16 x=.int .i16 (lr.getD k 0)):=zh (by rw [hgd])
   rw [List.drop_eq_getElem_cons hlt,List.flatMap_cons,<-hx,List.append_assoc]at hS0
   obtain⟨R4,hR4e⟩:∃R4,R4=(lr.drop (k+1)).flatMap (fun n=>numB n 2)++ []:=⟨_,rfl⟩
   rw [<-hR4e]at hS0
   have HR4:=zh hS0
   have HR4e:=zh hR4e
   have HCW:=zh (zc HH.out.blk 4 (.slice (some ⟨g4,0,none⟩) lr.length lr.length) rfl)
   obtain⟨A7,c7,hs7,hr7⟩:=sl_at A N c9 p hpN hcap HCM.out
   have HD:Hid (RdN b wd (.slice A7 R3.length c7) R3):=zh (by
    have h9:=hr7 b wd xs0 HV.out
    rwa [HH.out.rest,hNp]at h9)
   rw [hNp]at hs7
   have hw:IntKind.i16.wrap x=x:=by rw [wrapI16];omega
   have HKX:Hid (0<=x/\x < 65536):=zh (by omega)
   clear hr7 hS0 hx hxr hR4e hgd
   go_wp2
   refine wp_region_cut (J:=fun x=>Ext wr x) (R:=Ext) 10 [Sp.eq _ (.pointer (some ⟨b,0,none⟩)),Sp.eq _ (.pointer (some ⟨b,0,none⟩)),Sp.eq _ (.pointer (some ⟨b,4,none⟩)),Sp.eq _ (.slice (some ⟨g4,0,none⟩) lr.length lr.length),Sp.eq _ (.int .i64 k),Sp.eq _ (.slice A N c9),Sp.eq _ (.int .i64 (p:Int)),Sp.eq _ (.slice A7 R3.length c7),Sp.eq _ (.int .u16 x),Sp.eq _ (.int .i16 x)] (by kernel_rfl) (by kernel_rfl) ?_ ?_ ?_
   ·exact(Ext.refl wr).drew
   ·refine⟨zj,zj,zj,?_,zj,zj,zj,zj,?_,zj,trivial⟩
    ·intro vs w1 hJ hp
     have q2:vs 2=_:=zd hp 2
     have HJ:=zh hJ
     have hq:=hJ.cell HCW.out
     clear hp hJ
     simp only [List.take_succ_cons,List.take_zero,putAll,Nat.reduceAdd]
     go_wp2
     exact⟨rfl,HJ.out,zr,rfl⟩
    ·intro vs w1 hJ hp
     have q7:vs 7=_:=zd hp 7
     have HJ:=zh hJ
     clear hp hJ
     simp only [List.take_succ_cons,List.take_zero,putAll,Nat.reduceAdd]
     go_wp2_with (go_at_call 137;refine(rd16n x HKX.out _ _ _ R4 _ (by rw [<-HR4.out];exact(HD.out.at_ (HX.out.trans HJ.out.but)).1)).mono ?_;rintro e w2' ⟨rfl,hx2⟩;have HX2:=zh hx2;clear hx2)
     exact⟨rfl,HJ.out.trans HX2.out,HX2.out,rfl⟩
   ·intro vs w1 hJ hp
    have q0:vs 0=_:=zd hp 0
    have q1:vs 1=_:=zd hp 1
    have q2:vs 2=_:=zd hp 2
    have q3:vs 3=_:=zd hp 3
    have q4:vs 4=_:=zd hp 4
    have q5:vs 5=_:=zd hp 5
    have q6:vs 6=_:=zd hp 6
    have q7:vs 7=_:=zd hp 7
    have q8:vs 8=_:=zd hp 8
    have q9:vs 9=_:=zd hp 9
    have HJ:=zh hJ
    have hcg':=zc ((hJ.block _ (zl HH.out.arr)).trans HH.out.arr) k (.int .i16 0) (HH.out.at_ hlt)
    have hfg':=free_slot ((hJ.block _ (zl HH.out.arr)).trans HH.out.arr) k
    clear hp hJ
    simp only [List.drop_succ_cons,List.drop_zero,List.take_succ_cons,List.take_zero,putAll,Nat.reduceAdd,Act.put,q0,q1,q2,q3,q4,q5,q6,q7,q8,q9,List.setIfInBounds_toArray,List.set_cons_zero,List.set_cons_succ]
    clear q0 q1 q2 q3 q4 q5 q6 q7 q8 q9
    go_wp2
    go_roundw
    case rel=>
     skip
     exact⟨k+1,p+2,by omega,by go_num,by go_num,R4,cs.setIfInBounds k (.int .i16 x),zh ⟨(HH.out.skip HJ.out HR4.out (by rw [numB_len])).put HLT.out (by omega) HU.out,HR4e.out,(HE.out.trans HJ.out.but).put HGE.out _ _⟩⟩
    case measure=>simp only [intOf];omega
  ·obtain rfl:k=lr.length:=by omega
   rw [List.drop_length,List.flatMap_nil,List.nil_append]at hS0
   have HB9:=zh HH.out
   go_wp2
   go_ret
   refine⟨rfl,HB9.out.bel,_,_,_,_,_,_,?_,HK2.out _ HE.out,HK3.out _ HE.out,rdi_arr HB9.out.arr HB9.out.done (by omega)⟩
   have h9:=HB9.out.blk
   rwa [str_sby,str_sby]at h9
end Go.Proofs.YtdenjanihikolaaGreatDoor
