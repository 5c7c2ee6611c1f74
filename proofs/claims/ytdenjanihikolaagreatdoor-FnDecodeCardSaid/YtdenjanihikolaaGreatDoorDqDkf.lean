/- told and answered by kind: Tdc. -/
import Derived.Test.YtdenjanihikolaaGreatDoorDqA0
import Derived.Test.YtdenjanihikolaaGreatDoorDqA1
import Derived.Test.YtdenjanihikolaaGreatDoorDqDkd
import Derived.Test.YtdenjanihikolaaGreatDoorDqDcf
import Derived.Laws.IdiomCopy
import Derived.Test.YtdenjanihikolaaGreatDoorDqTda
import Derived.Test.YtdenjanihikolaaGreatDoorDqMke
import Derived.Test.YtdenjanihikolaaGreatDoorDqBase
import Derived.Test.YtdenjanihikolaaGreatDoorDqBdk
import Derived.Test.YtdenjanihikolaaGreatDoorDqErb
import Derived.Test.YtdenjanihikolaaGreatDoorDqLtr
import Derived.Test.YtdenjanihikolaaGreatDoorDqTa
namespace Go.Proofs.YtdenjanihikolaaGreatDoor
set_option linter.unusedVariables false
set_option linter.unusedSimpArgs false
set_option maxRecDepth 100000
open Go.RowKit Og
set_option maxHeartbeats 2000000 in
theorem dek12 (a c:ByteArray)(l:List Int)(ha:plainP a)(hc:plainP c)(hll:l.length<=20)(hlr:∀y∈l,0<=y/\y < 4294967296)(wd:World)(b:Nat)(v:Value)(hb:wd.heap[b]?=some (.cells #[.string ⟨#[]⟩,.string ⟨#[]⟩,.slice none 0 0] 137 (0,0)))(hv:RdB wd v (sby a++0 :: (sby c++0 :: (numB (l.length:Int) 2++l.flatMap fun n=>numB n 4))))(hl:(sby a++0 :: (sby c++0 :: (numB (l.length:Int) 2++l.flatMap fun n=>numB n 4))).length<=100000)(hof:v.ownBlock≠some b):
 Calls Tryz.prog 175 #[.pointer (some ⟨b,0,none⟩),v] wd (Deced b (fun b w2=>∃A n,w2.heap[b]?=some (.cells #[.string a,.string c,.slice A l.length n] 137 (0,0))/\RdI .u32 w2 (.slice A l.length n) l) wd):=by
 obtain⟨R2,hR2⟩:∃R2,R2=l.flatMap fun n=>numB n 4:=⟨_,rfl⟩
 have h2:R2.length=l.length * 4:=by rw [hR2];exact nums_len4 l
 rw [<-hR2]at hv hl
 have HR2:=zh hR2
 have HV:=zh (And.intro hv hof)
 have HLT:=zh (zl hb)
 have HBK:=zh hb
 have HLR:=zh hlr
 have hck0:=zc hb 0 _ rfl
 have hck1:=zc hb 1 _ rfl
 have hck2:=zc hb 2 _ rfl
 have hfk0:=free_slot hb 0
 have hfk1:=free_slot hb 1
 have hfk2:=free_slot hb 2
 have HSa:=zh (plain_ne ha)
 have HSc:=zh (plain_ne hc)
 have hla:(sby a).length<=200:=by rw [sby_length];exact ha.1
 have hlc:(sby c).length<=200:=by rw [sby_length];exact hc.1
 have hln:(numB (l.length:Int) 2++R2).length=2+R2.length:=by simp only [List.length_append,numB_len]
 have HLa:Hid ((sby a++0 :: (sby c++0 :: (numB (l.length:Int) 2++R2))).length<=1000000):=zh (by omega)
 have HLc:Hid ((sby c++0 :: (numB (l.length:Int) 2++R2)).length<=1000000):=zh (by simp only [List.length_append,List.length_cons,numB_len];omega)
 have HNL:Hid (0<=(l.length:Int)/\(l.length:Int) < 65536):=zh (by omega)
 have h22:¬((2:Int)+(R2.length:Int) < 2):=by omega
 clear hv hof hb hlr hR2 hl
 go_enter Tryz.func175,Tryz.ntmps175
 go_wp2_with (first|(go_at_call 165;refine(cur_newb (bk:=b) (w1:=wd) (bb:=wd.heap.size) ⟨HV.out.1,fun _=>HV.out.2⟩ HLT.out (by first|exact(((Ext.refl wd).but.set _ _).set _ _).set _ _|exact(Ext.refl wd).but) (by simp [World.setCell])).mono ?_;rintro e w2 ⟨rfl,hcu,hx⟩;have HC:=zh hcu;(first|have hbk:=upbe3 hx HLT.out HBK.out|have hbk:=upbe1 hx HLT.out HBK.out|have hbk:=upbe hx HLT.out HBK.out);(try simp only [List.setIfInBounds_toArray,List.set_cons_zero,List.set_cons_succ]at hbk);clear HBK;have HBK:=zh hbk;(try clear hck0);(try clear hck1);(try clear hck2);(try clear hfk0);(try clear hfk1);(try clear hfk2);have hck0:=zc hbk 0 _ rfl;have hck1:=zc hbk 1 _ rfl;have hck2:=zc hbk 2 _ rfl;have hfk0:=free_slot hbk 0;have hfk1:=free_slot hbk 1;have hfk2:=free_slot hbk 2;clear hbk;clear hcu hx)|(go_at_call 166;refine(cur_text (s:=sby a) (by first|exact HC.out|exact HC.out.but (zr.but.set _ _)) HSa.out HLa.out).mono ?_;rintro e w3 ⟨A3,c3,rfl,hrd,hcu,hx3⟩;clear HC;have HC:=zh hcu;(try clear hcv);(try clear hc3);have hcv:=conv_rd (show RdB w3 (.slice A3 (sby a).length c3) (sby a)from by(have h9:=hrd.take (sby a).length (by omega);rwa [List.take_left]at h9));have hc3:(sby a).length+1<=c3:=(by have h9:=hrd.parts.2.1;simpa using h9);(first|have hbk:=upb3 hx3 HLT.out HBK.out|have hbk:=upb1 hx3 HLT.out HBK.out|have hbk:=upb hx3 HLT.out HBK.out);(try simp only [List.setIfInBounds_toArray,List.set_cons_zero,List.set_cons_succ]at hbk);clear HBK;have HBK:=zh hbk;(try clear hck0);(try clear hck1);(try clear hck2);(try clear hfk0);(try clear hfk1);(try clear hfk2);have hck0:=zc hbk 0 _ rfl;have hck1:=zc hbk 1 _ rfl;have hck2:=zc hbk 2 _ rfl;have hfk0:=free_slot hbk 0;have hfk1:=free_slot hbk 1;have hfk2:=free_slot hbk 2;clear hbk;clear hcu hx3 hrd)|(go_at_call 166;refine(cur_text (s:=sby c) (by first|exact HC.out|exact HC.out.but (zr.but.set _ _)) HSc.out HLc.out).mono ?_;rintro e w3 ⟨A3,c3,rfl,hrd,hcu,hx3⟩;clear HC;have HC:=zh hcu;(try clear hcv);(try clear hc3);have hcv:=conv_rd (show RdB w3 (.slice A3 (sby c).length c3) (sby c)from by(have h9:=hrd.take (sby c).length (by omega);rwa [List.take_left]at h9));have hc3:(sby c).length+1<=c3:=(by have h9:=hrd.parts.2.1;simpa using h9);(first|have hbk:=upb3 hx3 HLT.out HBK.out|have hbk:=upb1 hx3 HLT.out HBK.out|have hbk:=upb hx3 HLT.out HBK.out);(try simp only [List.setIfInBounds_toArray,List.set_cons_zero,List.set_cons_succ]at hbk);clear HBK;have HBK:=zh hbk;(try clear hck0);(try clear hck1);(try clear hck2);(try clear hfk0);(try clear hfk1);(try clear hfk2);have hck0:=zc hbk 0 _ rfl;have hck1:=zc hbk 1 _ rfl;have hck2:=zc hbk 2 _ rfl;have hfk0:=free_slot hbk 0;have hfk1:=free_slot hbk 1;have hfk2:=free_slot hbk 2;clear hbk;clear hcu hx3 hrd)|(go_at_call 167;refine(cur_len (by first|exact HC.out|exact HC.out.but (zr.but.set _ _))).mono ?_;rintro e w4 ⟨rfl,hw4⟩;rw [hw4];clear hw4)|(go_at_call 168;refine(cur_piece (by first|exact HC.out|exact HC.out.but (zr.but.set _ _)) _ (by first|(rw [numB_len];rfl)|rfl)).mono ?_;rintro e w5 ⟨A5,c5,rfl,hrn,hcu,hx5⟩;(try clear HN);clear HC;have HC:=zh hcu;have HN:=zh hrn;simp only [Int.reduceToNat];(first|have hbk:=upb3 hx5 HLT.out HBK.out|have hbk:=upb1 hx5 HLT.out HBK.out|have hbk:=upb hx5 HLT.out HBK.out);(try simp only [List.setIfInBounds_toArray,List.set_cons_zero,List.set_cons_succ]at hbk);clear HBK;have HBK:=zh hbk;(try clear hck0);(try clear hck1);(try clear hck2);(try clear hfk0);(try clear hfk1);(try clear hfk2);have hck0:=zc hbk 0 _ rfl;have hck1:=zc hbk 1 _ rfl;have hck2:=zc hbk 2 _ rfl;have hfk0:=free_slot hbk 0;have hfk1:=free_slot hbk 1;have hfk2:=free_slot hbk 2;clear hbk;clear hcu hrn hx5)|(go_at_call 137;refine(rd16n (l.length:Int) HNL.out _ _ _ [] _ (by rw [List.append_nil];exact(HN.out.at_ HC.out.bel).1)).mono ?_;rintro e w6 ⟨rfl,hx6⟩;have HC6:=zh (HC.out.ext hx6);clear HC;have HC:=HC6;clear HC6;(first|have hbk:=upbe3 hx6 HLT.out HBK.out|have hbk:=upbe1 hx6 HLT.out HBK.out|have hbk:=upbe hx6 HLT.out HBK.out);(try simp only [List.setIfInBounds_toArray,List.set_cons_zero,List.set_cons_succ]at hbk);clear HBK;have HBK:=zh hbk;(try clear hck0);(try clear hck1);(try clear hck2);(try clear hfk0);(try clear hfk1);(try clear hfk2);have hck0:=zc hbk 0 _ rfl;have hck1:=zc hbk 1 _ rfl;have hck2:=zc hbk 2 _ rfl;have hfk0:=free_slot hbk 0;have hfk1:=free_slot hbk 1;have hfk2:=free_slot hbk 2;clear hbk;clear hx6))
 clear hck0 hck1 hck2 hfk0 hfk1 hfk2 h2
 go_loopw [59] (fun i wr=>∃k:Nat,k<=l.length/\i=.int .i64 k/\∃v ys R,Hid (Cur b wd wd.heap.size wr R/\R=((l.drop k).flatMap fun n=>numB n 4)/\ys=(l.take k).map (Value.int .u32)/\Own wd.heap.size wd wr 22 1 v k ys/\wr.heap[b]?=some (.cells #[.string (strOf (sby a)),.string (strOf (sby c)),v] 137 (0,0)))) (fun i _=>l.length - (intOf i).toNat)
 case atStart=>exact⟨0,Nat.zero_le _,rfl,.slice none 0 0,[],R2,zh ⟨HC.out,by rw [HR2.out,List.drop_zero],rfl,⟨World.ownsRow_nil _ _ _ _,nofun⟩,HBK.out⟩⟩
 case round=>
  clear HC HBK HN
  obtain⟨k,hk1,rfl,v5,ys,R,HH⟩:=hrel
  obtain⟨hC0,hS0,hY0,hO0,hB0⟩:=HH.out
  obtain⟨Av,cv,hv5⟩:=own_slice hO0.own
  subst hv5
  by_cases hlt:k < l.length
  ·obtain⟨x,hx⟩:∃x,x=l[k]:=⟨_,rfl⟩
   have hxr:=HLR.out _ (List.getElem_mem hlt)
   rw [<-hx]at hxr
   have HXR:=zh hxr
   have hys':Hid (ys++ [Value.int .u32 x]=(l.take (k+1)).map (Value.int .u32)):=zh (by rw [hY0,List.take_succ_eq_append_getElem hlt,List.map_append,<-hx];rfl)
   rw [List.drop_eq_getElem_cons hlt,List.flatMap_cons,<-hx]at hS0
   obtain⟨R',hR'⟩:∃R',R'=((l.drop (k+1)).flatMap fun n=>numB n 4):=⟨_,rfl⟩
   rw [<-hR']at hS0
   have HR':=zh hR'
   have HO0:=zh hO0
   have HB0:=zh hB0
   subst hS0
   have HC0:=zh hC0
   have HC:=zh hC0
   have hln4:(numB x 4++R').length=4+R'.length:=by simp only [List.length_append,numB_len]
   have h44:¬((4:Int)+(R'.length:Int) < 4):=by omega
   clear hC0 hO0 hB0 hx hxr HH hR' hY0
   go_wp2_with (go_at_call 167;refine(cur_len (by first|exact HC.out|exact HC.out.but (zr.but.set _ _))).mono ?_;rintro e w4 ⟨rfl,hw4⟩;rw [hw4];clear hw4)
   refine wp_region_ogL (J:=PJ b wd.heap.size wd wr (.slice Av k cv) k ys (numB x 4) R' x (.string (strOf (sby a))) (.string (strOf (sby c)))) (R:=fun _ _=>True) [Sp.eq _ (.pointer (some ⟨b,0,none⟩)),Sp.eq _ (.pointer (some ⟨b,0,none⟩)),Sp.eq _ (.pointer (some ⟨b,0,none⟩)),Sp.eq _ (.pointer (some ⟨b,2,none⟩)),Sp.eq _ (.slice Av k cv),Sp.eq _ (.pointer (some ⟨wd.heap.size,0,none⟩)),Sp.any _,Sp.eq _ (.int .u32 x),Sp.any _,Sp.any _,Sp.eq _ (.pointer (some ⟨b,0,none⟩)),Sp.eq _ (.pointer (some ⟨b,2,none⟩)),Sp.any _] (by kernel_rfl) (by kernel_rfl) ?_ ?_ ?_
   ·exact PJ.start HC0.out HO0.out HB0.out
   ·refine⟨?_,?_,?_,?_,?_,?_,?_,?_,?_,?_,?_,?_,?_,trivial⟩
    ·intro vs w1 L hLi hd hdt hJ hp
     have HJ:=zh hJ
     clear hp hd hdt hLi hJ
     simp only [putAll,Nat.reduceAdd]
     go_wp2
     exact⟨rfl,HJ.out.keep 0 _ (by decide) (by decide) (by decide) (by decide) (by decide),trivial,rfl⟩
    ·intro vs w1 L hLi hd hdt hJ hp
     have HJ:=zh hJ
     clear hp hd hdt hLi hJ
     simp only [putAll,Nat.reduceAdd]
     go_wp2
     exact⟨rfl,HJ.out.keep 1 _ (by decide) (by decide) (by decide) (by decide) (by decide),trivial,rfl⟩
    ·intro vs w1 L hLi hd hdt hJ hp
     have q1:vs 1=.pointer (some ⟨b,0,none⟩):=zd hp 1
     have HJ:=zh hJ
     clear hp hd hdt hLi hJ
     simp only [putAll,Nat.reduceAdd]
     go_wp2
     exact⟨rfl,HJ.out.keep 2 _ (by decide) (by decide) (by decide) (by decide) (by decide),trivial,rfl⟩
    ·intro vs w1 L hLi hd hdt hJ hp
     have q2:vs 2=.pointer (some ⟨b,0,none⟩):=zd hp 2
     have HJ:=zh hJ
     clear hp hd hdt hLi hJ
     simp only [putAll,Nat.reduceAdd]
     go_wp2
     exact⟨rfl,HJ.out.keep 3 _ (by decide) (by decide) (by decide) (by decide) (by decide),trivial,rfl⟩
    ·intro vs w1 L hLi hd hdt hJ hp
     have q3:vs 3=.pointer (some ⟨b,2,none⟩):=zd hp 3
     have HJ:=zh hJ
     have hq:=zc (hJ.F (zd hdt 12)) 2 (.slice Av k cv) rfl
     clear hp hd hdt hLi hJ
     simp only [putAll,Nat.reduceAdd]
     go_wp2
     exact⟨rfl,HJ.out.keep 4 _ (by decide) (by decide) (by decide) (by decide) (by decide),trivial,rfl⟩
    ·intro vs w1 L hLi hd hdt hJ hp
     have HJ:=zh hJ
     clear hp hd hdt hLi hJ
     simp only [putAll,Nat.reduceAdd]
     go_wp2
     exact⟨rfl,HJ.out.keep 5 _ (by decide) (by decide) (by decide) (by decide) (by decide),trivial,rfl⟩
    ·intro vs w1 L hLi hd hdt hJ hp
     have q5:vs 5=.pointer (some ⟨wd.heap.size,0,none⟩):=zd hp 5
     have HJ:=zh hJ
     have HLI:=zh hLi
     have HX:=zh (hJ.A hLi)
     clear hp hd hdt hLi hJ
     simp only [putAll,Nat.reduceAdd]
     go_wp2_with (go_at_call 168;refine(cur_piece (HC0.out.ext HX.out) _ (by rw [numB_len];rfl)).mono ?_;rintro e w2' ⟨A5,c5,rfl,hrn,hcu,hx5⟩;have HRN:=zh hrn;have HCU:=zh hcu;have HX5:=zh hx5;clear hrn hcu hx5;simp only [Int.reduceToNat])
     refine⟨rfl,?_,trivial,trivial⟩
     exact HJ.out.step6 HLI.out HLT.out (Nat.le_refl _) A5 c5 HRN.out HCU.out HX5.out
    ·intro vs w1 L hLi hd hdt hJ hp
     have h6:=zd hd 6
     have H6:=zh h6
     have H8:=zh (zd hdt 8)
     have h6s:=(hJ.B2 h6).1
     have HB1:=zh (hJ.B1 h6)
     have HB2:=zh (hJ.B2 h6).2
     obtain⟨S6,hS6⟩:∃y,y=slA (vs 6):=⟨_,rfl⟩
     obtain⟨T6,hT6⟩:∃y,y=slC (vs 6):=⟨_,rfl⟩
     rw [<-hS6,<-hT6]at h6s HB2
     have HJ:=zh hJ
     clear h6 hS6 hT6
     clear hp hd hdt hLi hJ
     simp only [putAll,Nat.reduceAdd]
     rw [h6s]
     go_wp2_with (go_at_call 138;refine(rd32n x HXR.out _ _ _ [] _ (by rw [List.append_nil];exact(HB2.out.at_ HB1.out.bel).1)).mono ?_;rintro e w2' ⟨rfl,hx6⟩;have HX6:=zh hx6;clear hx6)
     refine⟨rfl,?_,trivial,rfl⟩
     exact HJ.out.step7 H6.out H8.out HX6.out _
    ·intro vs w1 L hLi hd hdt hJ hp
     have q7:vs 7=.int .u32 x:=zd hp 7
     have H7:=zh (zd hd 7)
     have H9:=zh (zd hdt 9)
     have HJ:=zh hJ
     clear hp hd hdt hLi hJ
     simp only [putAll,Nat.reduceAdd]
     go_wp2
     refine⟨rfl,?_,trivial,trivial⟩
     exact HJ.out.step8 H7.out H9.out
    ·intro vs w1 L hLi hd hdt hJ hp
     have q4:vs 4=.slice Av k cv:=zd hp 4
     have q7:vs 7=.int .u32 x:=zd hp 7
     have h8:=zd hd 8
     have H8:=zh h8
     have HLi:=zh hLi
     have HD:=zh (hJ.D h8 hLi)
     have HR:=zh (hJ.C hLi).row
     have HJ:=zh hJ
     clear h8
     clear hp hd hdt hLi hJ
     simp only [putAll,Nat.reduceAdd]
     refine ap_one rfl (.tmp 71) (.tmp 75) 24 22 1 4 _ rfl Tryz.underlying24 info22 rfl (by decide) (v:=.slice Av k cv) (b:=slB (vs 8)) (c:=1) (ys:=[.int .u32 x]) (by simp only [evp_none,ne_eq,Nat.reduceEqDiff,not_false_eq_true,evp_ne];rw [evp_same _ _ _ (by simp [evp_size])];exact q4) HR.out (by simp only [evp_none,ne_eq,Nat.reduceEqDiff,not_false_eq_true,evp_ne];rw [evp_same _ _ _ (by simp [evp_size])];exact HD.out.1) rfl (fun j u hj=>(cell_of_row _ _ _ _ _ _ HD.out.2).trans (by rw [<-Array.getElem?_toList];exact hj)) (List.all_eq_true.1 rfl) (by omega) (by decide) ?_
     intro v2 w2' hn
     refine⟨rfl,?_,trivial,trivial⟩
     rw [slot_put _ _ _ (by simp [evp_size])]
     exact HJ.out.step9 H8.out HLi.out _ hn
    ·intro vs w1 L hLi hd hdt hJ hp
     have q0:vs 0=.pointer (some ⟨b,0,none⟩):=zd hp 0
     have q1:vs 1=.pointer (some ⟨b,0,none⟩):=zd hp 1
     have q2:vs 2=.pointer (some ⟨b,0,none⟩):=zd hp 2
     have q3:vs 3=.pointer (some ⟨b,2,none⟩):=zd hp 3
     have q4:vs 4=.slice Av k cv:=zd hp 4
     have q5:vs 5=.pointer (some ⟨wd.heap.size,0,none⟩):=zd hp 5
     have q7:vs 7=.int .u32 x:=zd hp 7
     have HJ:=zh hJ
     clear hp hd hdt hLi hJ
     simp only [putAll,Nat.reduceAdd]
     go_wp2
     exact⟨rfl,HJ.out.keep 10 _ (by decide) (by decide) (by decide) (by decide) (by decide),trivial,rfl⟩
    ·intro vs w1 L hLi hd hdt hJ hp
     have q0:vs 0=.pointer (some ⟨b,0,none⟩):=zd hp 0
     have q1:vs 1=.pointer (some ⟨b,0,none⟩):=zd hp 1
     have q2:vs 2=.pointer (some ⟨b,0,none⟩):=zd hp 2
     have q3:vs 3=.pointer (some ⟨b,2,none⟩):=zd hp 3
     have q4:vs 4=.slice Av k cv:=zd hp 4
     have q5:vs 5=.pointer (some ⟨wd.heap.size,0,none⟩):=zd hp 5
     have q7:vs 7=.int .u32 x:=zd hp 7
     have q10:vs 10=.pointer (some ⟨b,0,none⟩):=zd hp 10
     have HJ:=zh hJ
     clear hp hd hdt hLi hJ
     simp only [putAll,Nat.reduceAdd]
     go_wp2
     exact⟨rfl,HJ.out.keep 11 _ (by decide) (by decide) (by decide) (by decide) (by decide),trivial,rfl⟩
    ·intro vs w1 L hLi hd hdt hJ hp
     have q0:vs 0=.pointer (some ⟨b,0,none⟩):=zd hp 0
     have q1:vs 1=.pointer (some ⟨b,0,none⟩):=zd hp 1
     have q2:vs 2=.pointer (some ⟨b,0,none⟩):=zd hp 2
     have q3:vs 3=.pointer (some ⟨b,2,none⟩):=zd hp 3
     have q4:vs 4=.slice Av k cv:=zd hp 4
     have q5:vs 5=.pointer (some ⟨wd.heap.size,0,none⟩):=zd hp 5
     have q7:vs 7=.int .u32 x:=zd hp 7
     have q11:vs 11=.pointer (some ⟨b,2,none⟩):=zd hp 11
     have h9:=zd hd 9
     have H9:=zh h9
     have HLi:=zh hLi
     have hF:=hJ.F hLi
     have hc1:=zc hF 2 _ rfl
     have hf1:=free_slot hF 2
     obtain⟨A9,c9,hv9⟩:=own_slice (hJ.E h9).own
     have HV9:=zh hv9
     have HJ:=zh hJ
     clear h9 hF hv9
     clear hp hd hdt hLi hJ
     simp only [putAll,Nat.reduceAdd]
     rw [HV9.out]
     go_wp2
     refine⟨rfl,?_,trivial,trivial⟩
     exact HJ.out.step12 H9.out HLi.out _ _ HV9.out
   ·intro vs w1 L hall hJ hp
    have q0:vs 0=.pointer (some ⟨b,0,none⟩):=zd hp 0
    have q1:vs 1=.pointer (some ⟨b,0,none⟩):=zd hp 1
    have q2:vs 2=.pointer (some ⟨b,0,none⟩):=zd hp 2
    have q3:vs 3=.pointer (some ⟨b,2,none⟩):=zd hp 3
    have q4:vs 4=.slice Av k cv:=zd hp 4
    have q5:vs 5=.pointer (some ⟨wd.heap.size,0,none⟩):=zd hp 5
    have q7:vs 7=.int .u32 x:=zd hp 7
    have q10:vs 10=.pointer (some ⟨b,0,none⟩):=zd hp 10
    have q11:vs 11=.pointer (some ⟨b,2,none⟩):=zd hp 11
    have HFI:=zh (And.intro (hJ.B1 (zd hall 6)) (And.intro (hJ.E (zd hall 9)) (hJ.G (zd hall 12))))
    clear hJ hp hall
    simp only [putAll,Nat.reduceAdd]
    clear q0 q1 q2 q3 q4 q5 q7 q10 q11
    simp only [Exit.inBlock,Exit.then]
    try go_at_K
    simp only [Act.put,List.setIfInBounds_toArray,List.set_cons_zero,List.set_cons_succ]
    go_wp2
    go_roundw
    case rel=>exact⟨k+1,by omega,by go_num,vs 9,ys++ [.int .u32 x],R',zh ⟨HFI.out.1,HR'.out,hys'.out,HFI.out.2.1,HFI.out.2.2⟩⟩
    case measure=>simp only [intOf];omega
  ·obtain rfl:k=l.length:=by omega
   have HC:=zh hC0
   have HO:=zh hO0
   have HB:=zh hB0
   have HY:=zh hY0
   clear hC0 hO0 hB0 hS0 hY0 HH
   go_wp2
   go_ret
   have hb9:=HB.out
   rw [str_sby,str_sby]at hb9
   have ho9:=HO.out.own
   rw [HY.out,List.take_length]at ho9
   obtain⟨A9,c9,hv9,h91,h92,h93⟩:=RdI.of_own (kd:=.u32) ho9
   exact⟨rfl,HC.out.bel,Av,cv,hb9,A9,c9,hv9,h91,h92,h93⟩
def BdK (w wr:World) (v:Value) (d:List Int) (u:Value):Prop:=∀w3:World,(∀q,w.heap.size<=q->q < wr.heap.size->v.ownBlock≠some q->w3.heap[q]?=wr.heap[q]?)->RdB w3 u d
theorem BdK.step {w wr w2 w3:World} {v v2:Value} {d:List Int} {u:Value} {e size m:Nat} {ys:List Value} (h:BdK w wr v d u)(hx:Ext wr w2)(h2:Row e size (But w2 v) w2 w3 v2 m ys):BdK w w3 v2 d u:=by
 refine fun w4 h4=>h w4 fun q h1 h3 h5=>?_
 have hq:But w2 v q:=⟨Nat.lt_of_lt_of_le h3 hx.size,h5⟩
 have h6:=h4 q h1 (h2.lt q hq) fun e=>h2.off q e hq
 exact h6.trans ((h2.kept q hq).trans (hx.block q h3))
theorem BdK.new {w wr w2 w3:World} {v v2:Value} {d:List Int} {u:Value} {e size m:Nat} {ys:List Value} (h:Keeps wr w2 (fun w3=>RdB w3 u d))(hw:w.heap.size<=wr.heap.size)(hv:∀g,v.ownBlock=some g->g < wr.heap.size)(h2:Row e size (But w2 v) w2 w3 v2 m ys):BdK w w3 v2 d u:=by
 refine fun w4 h4=>h w4 fun q h1 h3=>?_
 have hq:But w2 v q:=⟨h3,fun e=>by have:=hv q e;omega⟩
 exact(h4 q (by omega) (h2.lt q hq) fun e=>h2.off q e hq).trans (h2.kept q hq)
def Vls (w wr:World) (v:Value) (l:List (Bool×List Int)) (xs:List Value):Prop:=xs.length=l.length * 2/\∀j (h:j < l.length),∃A c,xs[j * 2]?=some (.bool l[j].1)/\xs[j * 2+1]?=some (.slice A l[j].2.length c)/\BdK w wr v l[j].2 (.slice A l[j].2.length c)
theorem Vls.snoc {w wr w2 w3:World} {v v2:Value} {l:List (Bool×List Int)} {xs:List Value} {x:Bool×List Int} {A:Option Addr} {c e size m:Nat} {ys:List Value} (h:Vls w wr v l xs)(hx:Ext wr w2)(h2:Row e size (But w2 v) w2 w3 v2 m ys)(hu:BdK w w3 v2 x.2 (.slice A x.2.length c)):Vls w w3 v2 (l++ [x]) (xs++ [.bool x.1,.slice A x.2.length c]):=by
 refine⟨by simp [h.1];omega,fun j hj=>?_⟩
 have hxl:=h.1
 rcases Nat.lt_or_ge j l.length with hl|hl
 ·obtain⟨A',c',h1,h3,h4⟩:=h.2 j hl
  rw [List.getElem_append_left hl]
  exact⟨A',c',by rw [List.getElem?_append_left (by omega)];exact h1,by rw [List.getElem?_append_left (by omega)];exact h3,h4.step hx h2⟩
 ·have hj2:j=l.length:=by simp at hj;omega
  subst hj2
  refine⟨A,c,?_,?_,by simpa using hu⟩
  ·rw [List.getElem?_append_right (by omega),hxl];simp
  ·rw [List.getElem?_append_right (by omega),hxl];simp
theorem Vls.rd {w wr:World} {v:Value} {l:List (Bool×List Int)} {xs:List Value} (h:Vls w wr v l xs)(hb:Row 58 2 (Lt w.heap.size) w wr v l.length xs):Keeps w wr (fun w3=>RdM 2 isVal w3 v l):=by
 intro w3 h3
 have hown:=own_stay hb.own hb.off h3
 refine rdm_of hown ⟨h.1,fun j hj=>?_⟩
 obtain⟨A,c,h1,h2,h4⟩:=h.2 j hj
 refine⟨fun k=>if k=0 then .bool l[j].1 else .slice A l[j].2.length c,fun k hk=>?_,rfl,A,c,rfl,h4 w3 fun q a1 a2 _=>h3 q a1 a2⟩
 rcases k with _|_|k
 ·exact h1
 ·exact h2
 ·omega
set_option maxHeartbeats 1000000 in
theorem valuesOfK (l:List (Bool×List Int))(A_l:Option Addr)(c_l:Nat)(w:World)(hr:Rd1 isOpt w (.slice A_l l.length c_l) (l.map optV))(hl:l.length<=1000)(hg:∀y∈l,y.2.length<=2000/\(y.1=true->y.2.length=0)):
 Calls Tryz.prog 62 #[.slice A_l l.length c_l] w (GaveR (fun v w=>RdM 2 isVal w v l) l.length w):=by
 have HR:=zh hr
 clear hr
 go_enter Tryz.func62,Tryz.ntmps62
 go_wp2
 go_loopw [3,8] (fun v i wr=>∃k:Nat,k<=l.length/\i=.int .i64 k/\∃xs,Hid (Row 58 2 (Lt w.heap.size) w wr v k xs/\Vls w wr v (l.take k) xs)) (fun _ i _=>l.length - (intOf i).toNat)
 case atStart=>exact⟨0,Nat.zero_le _,rfl,[],zh ⟨Row.start 58 2 w,by simp,fun j h=>by simp at h⟩⟩
 case round=>
  obtain⟨k,hk1,rfl,xs,HS⟩:=hrel
  obtain⟨Av,cv,hv⟩:=own_slice HS.out.1.own
  subst hv
  by_cases hlt:k < l.length
  ·have hgx:=hg _ (List.getElem_mem hlt)
   obtain⟨b1,o1,u,hA1,hcell,hv⟩:=Rd1.at_ (k:=k) HR.out (by rw [List.length_map];exact hlt)
   rw [List.getElem_map]at hv
   subst hA1
   obtain⟨⟨x1,x2⟩,hx⟩:∃x,x=l[k]:=⟨_,rfl⟩
   rw [<-hx]at hv hgx
   replace hgx:x2.length<=2000/\(x1=true->x2.length=0):=hgx
   have hd0:=HS.out.1.bel.cell hcell
   have HX:=zh hx
   clear hx hcell
   cases x1
   ·obtain⟨p,cx,hu,hrd⟩:=hv
    subst hu
    have HD:=zh (hrd.ext HS.out.1.bel)
    clear hrd
    go_wp2_with (first|(go_at_call 69;refine(valueOfK x2 p cx _ HD.out (by omega)).mono ?_;rintro e w2 ⟨A2,c2,rfl,hx2,hk2⟩;have HX2:=zh hx2;have HK2:=zh hk2;clear hx2 hk2;have HB2:=zh ((HS.out.1.ext HX2.out).but))|(at_builtin;refine ap_built rfl (.tmp 12) (.tmp 15) 25 58 2 32 _ _ _ rfl Tryz.underlying25 info58 rfl (by decide) rfl rfl HB2.out rfl rfl (List.all_eq_true.1 rfl) (by omega) (by decide) ?_;intro v3 w3 hn;obtain⟨A3,c3,hv3⟩:=own_slice hn.own;subst hv3;have HN:=zh hn;clear hn))
    go_roundw
    case rel=>
     refine⟨k+1,by omega,by go_num,_,zh ⟨(HS.out.1.ext HX2.out).unbut HN.out,?_⟩⟩
     rw [List.take_succ_eq_append_getElem hlt,<-HX.out]
     exact HS.out.2.snoc (x:=(false,x2)) HX2.out HN.out (BdK.new HK2.out HS.out.1.bel.size (fun g hg=>(HS.out.1.own.lt g hg).2) HN.out)
    case measure=>simp only [intOf];omega
   ·have hu:u=.slice none 0 0:=hv
    subst hu
    have h0:x2=[]:=List.eq_nil_of_length_eq_zero (hgx.2 rfl)
    subst h0
    go_wp2_with (first|(go_at_call 69;refine(valueOfN _).mono ?_;rintro e w2 ⟨A2,c2,rfl,hx2,hk2⟩;have HX2:=zh hx2;have HK2:=zh hk2;clear hx2 hk2;have HB2:=zh ((HS.out.1.ext HX2.out).but))|(at_builtin;refine ap_built rfl (.tmp 12) (.tmp 15) 25 58 2 32 _ _ _ rfl Tryz.underlying25 info58 rfl (by decide) rfl rfl HB2.out rfl rfl (List.all_eq_true.1 rfl) (by omega) (by decide) ?_;intro v3 w3 hn;obtain⟨A3,c3,hv3⟩:=own_slice hn.own;subst hv3;have HN:=zh hn;clear hn))
    go_roundw
    case rel=>
     refine⟨k+1,by omega,by go_num,_,zh ⟨(HS.out.1.ext HX2.out).unbut HN.out,?_⟩⟩
     rw [List.take_succ_eq_append_getElem hlt,<-HX.out]
     exact HS.out.2.snoc (x:=(true,[])) HX2.out HN.out (BdK.new HK2.out HS.out.1.bel.size (fun g hg=>(HS.out.1.own.lt g hg).2) HN.out)
    case measure=>simp only [intOf];omega
  ·obtain rfl:k=l.length:=by omega
   go_wp2
   go_ret
   have h1:=HS.out
   rw [List.take_length]at h1
   exact⟨_,_,rfl,h1.1.bel,h1.2.rd h1.1⟩
theorem PR.but {R:Value->World->Prop} {n b:Nat} {W1 x y:World} {u:Value} (h:PR R n W1 u x)(hx:ExtBut b x y)(hb:b < W1.heap.size):PR R n W1 u y:=
 ⟨h.1,fun w3 h3=>h.2 w3 fun k h1 h2=>(h3 k h1 (Nat.lt_of_lt_of_le h2 hx.size)).trans (hx.block k h2 (by omega))⟩
theorem PR.made {R:Value->World->Prop} {n:Nat} {W1 x y:World} {A:Option Addr} {c:Nat} (h:Keeps x y (R (.slice A n c)))(hs:W1.heap.size<=x.heap.size):PR R n W1 (.slice A n c) y:=
 ⟨rfl,fun w3 h3=>h w3 fun k h1 h2=>h3 k (Nat.le_trans hs h1) h2⟩
def spB (R:Value->World->Prop) (n b:Nat) (W1:World) (hb:b < W1.heap.size):Sp (ExtBut b):=⟨PR R n W1,fun _ _ _ h k=>PR.but k h hb⟩
def cellsT (base:Array Value) (l:List (Nat×Nat×((Nat->Value)->Value))) (L:Nat->Bool) (vs:Nat->Value):Array Value:=l.foldl (fun c e=>if L e.1=true then c.setIfInBounds e.2.1 (e.2.2 vs)else c) base
structure TJ (mb:Nat) (W:World) (base:Array Value) (l:List (Nat×Nat×((Nat->Value)->Value))) (L:Nat->Bool) (vs:Nat->Value) (w:World):Prop where
 ext:ExtBut mb W w
 blk:w.heap[mb]?=some (.cells (cellsT base l L vs) 31 (0,0))
theorem cellsT_off {l:List (Nat×Nat×((Nat->Value)->Value))} {L:Nat->Bool} {vs:Nat->Value} (i:Nat)(u:Value)(h:∀e∈l,e.1≠i/\(L e.1=true->e.2.2 (upd vs i u)=e.2.2 vs)):∀base,cellsT base l (updB L i) (upd vs i u)=cellsT base l L vs:=by
 unfold cellsT
 induction l with
 | nil=>intro base;rfl
 | cons e r ih=>
   intro base
   obtain⟨h1,h2⟩:=h e (by simp)
   have e1:updB L i e.1=L e.1:=by simp [updB,h1]
   simp only [List.foldl_cons,e1]
   rw [ih fun f hf=>h f (by simp [hf])]
   by_cases hL:L e.1=true
   ·rw [if_pos hL,if_pos hL,h2 hL]
   ·rw [if_neg hL,if_neg hL]
theorem TJ.start {mb:Nat} {W:World} {base:Array Value} {l:List (Nat×Nat×((Nat->Value)->Value))} {vs:Nat->Value} (h:W.heap[mb]?=some (.cells base 31 (0,0))):TJ mb W base l (fun _=>false) vs W.drew:=by
 refine⟨(Ext.refl W).drew.but,?_⟩
 have e:cellsT base l (fun _=>false) vs=base:=by
  unfold cellsT
  induction l with
  | nil=>rfl
  | cons e r ih=>simpa using ih
 rw [e]
 exact h
theorem TJ.keep {mb:Nat} {W w w2:World} {base:Array Value} {l:List (Nat×Nat×((Nat->Value)->Value))} {L:Nat->Bool} {vs:Nat->Value} (h:TJ mb W base l L vs w)(hx:Ext w w2)(i:Nat)(u:Value)(hi:∀e∈l,e.1≠i/\(L e.1=true->e.2.2 (upd vs i u)=e.2.2 vs)):TJ mb W base l (updB L i) (upd vs i u) w2:=by
 refine⟨h.ext.trans hx.but,?_⟩
 rw [cellsT_off i u hi]
 exact(hx.block mb (zl h.blk)).trans h.blk
open Go.RowKit Go.Maps Og
theorem take_succ1 {α:Type} (l:List α)(k:Nat)(h:k < l.length):l.take (k+1)=l.take k++ [l[k]]:=List.take_succ_eq_append_getElem h
theorem size216:(Tryz.prog.info? 216).map (·.size)=some 19:=by kernel_rfl
theorem size218:(Tryz.prog.info? 218).map (·.size)=some 19:=by kernel_rfl
theorem err_one (T:Nat->ByteArray):(errCells T).all (·.oneCell')=true:=by simp [errCells,Value.oneCell']
theorem ExtBut.row {b:Nat} {w w1:World} (h:ExtBut b w w1)(cs:Array Value):ExtBut b w (w1.setRow b cs):=
 ⟨h.os,h.tape,h.output,by simpa [World.setRow]using h.size,fun k hk hne=>(setRow_other w1 b k cs hne).trans (h.block k hk hne)⟩
theorem dig_at {y:ByteArray×ByteArray} (h:fldP y) {j:Nat} (hj:cOf y.1=ls18.getD j 0)(hn:numJ j):digP y.2:=by
 refine h.2 ?_
 obtain⟨i,hi,he⟩:=h.1
 have e2:y.1.data.toList=[UInt8.ofNat (ls18.getD i 0).toNat]:=by
  rw [<-ByteArray.toList_eq,he,ByteArray.toList_eq]
  rcases cases18 hi with rfl|rfl|rfl|rfl|rfl|rfl|rfl|rfl|rfl|rfl|rfl|rfl|rfl|rfl|rfl|rfl|rfl|rfl <;> rfl
 have e3:cOf y.1=ls18.getD i 0:=by
  unfold cOf
  rw [e2]
  rcases cases18 hi with rfl|rfl|rfl|rfl|rfl|rfl|rfl|rfl|rfl|rfl|rfl|rfl|rfl|rfl|rfl|rfl|rfl|rfl <;> rfl
 rw [e3]at hj
 have hij:i=j:=by
  have hj18:j < 18:=by rcases hn with rfl|rfl|rfl <;> decide
  rw [<-slot_at hi,hj,slot_at hj18]
 subst hij
 rw [ByteArray.toList_eq,e2]
 rcases hn with rfl|rfl|rfl
 ·exact .inl rfl
 ·exact .inr (.inl rfl)
 ·exact .inr (.inr rfl)
theorem size31:(Tryz.prog.info? 31).map (·.size)=some 13:=by kernel_rfl
theorem one13 {k n m:Int} {a b:ByteArray} {A5:Option Addr} {n5 c5:Nat} {A6:Option Addr} {n6 c6:Nat} {A7:Option Addr} {n7 c7:Nat} {A8:Option Addr} {n8 c8:Nat} {A9:Option Addr} {n9 c9:Nat} {A10:Option Addr} {n10 c10:Nat} {A11:Option Addr} {n11 c11:Nat} {A12:Option Addr} {n12 c12:Nat} :(#[.int .i64 k,.string a,.string b,.int .u32 n,.int .u32 m,.slice A5 n5 c5,.slice A6 n6 c6,.slice A7 n7 c7,.slice A8 n8 c8,.slice A9 n9 c9,.slice A10 n10 c10,.slice A11 n11 c11,.slice A12 n12 c12]:Array Value).all (·.oneCell')=true:=by simp [Value.oneCell']
theorem rdi_nil (kd:IntKind)(w:World):RdI kd w (.slice none 0 0) []:=⟨none,0,rfl,Nat.le_refl _,by unfold maxLen;omega,fun h=>absurd h (Nat.lt_irrefl 0)⟩
theorem rd1_nil {α:Type} (R:World->α->Value->Prop)(w:World):Rd1 R w (.slice none 0 0) []:=⟨none,0,rfl,Nat.le_refl _,by unfold maxLen;omega,fun h=>absurd h (Nat.lt_irrefl 0)⟩
theorem rdm_nil {α:Type} (size:Nat)(R:World->α->(Nat->Value)->Prop)(w:World):RdM size R w (.slice none 0 0) []:=⟨none,0,rfl,Nat.le_refl _,by unfold maxLen;omega,fun h=>absurd h (Nat.lt_irrefl 0)⟩
def DecP (kd:Int) (a b:ByteArray) (n:Int) (lf lr ty d:List Int) (vls:List (Bool×List Int)) (ws:List ByteArray) (ps:List (ByteArray×ByteArray)) (fs:List Sf) (v:Value) (w:World):Prop:=
 ∃(A5 A6 A7 A8 A9 A10 A11 A12:Option Addr) (c5 c6 c7 c8 c9 c10 c11 c12:Nat),MsgIn w v a b kd n 0 A5 A6 A7 A8 A9 A10 A11 A12 c5 c6 c7 c8 c9 c10 c11 c12 lf lr ty d vls ws ps fs
def Answd (kd:Int) (mb:Nat) (P:Value->World->Prop) (w:World):Ending->World->Prop:=fun e w'=>∃(a' b':ByteArray) (n' m':Int) (E5:Option Addr) (e5 f5:Nat) (E6:Option Addr) (e6 f6:Nat) (E7:Option Addr) (e7 f7:Nat) (E8:Option Addr) (e8 f8:Nat) (E9:Option Addr) (e9 f9:Nat) (E10:Option Addr) (e10 f10:Nat) (E11:Option Addr) (e11 f11:Nat) (E12:Option Addr) (e12 f12:Nat),e=.returned (.tuple #[])/\ExtBut mb w w'/\w'.heap[mb]?=some (.cells #[.int .i64 kd,.string a',.string b',.int .u32 n',.int .u32 m',.slice E5 e5 f5,.slice E6 e6 f6,.slice E7 e7 f7,.slice E8 e8 f8,.slice E9 e9 f9,.slice E10 e10 f10,.slice E11 e11 f11,.slice E12 e12 f12] 31 (0,0))/\∀w3:World,(∀k,w.heap.size<=k->k < w'.heap.size->w3.heap[k]?=w'.heap[k]?)->P (.agg #[.int .i64 kd,.string a',.string b',.int .u32 n',.int .u32 m',.slice E5 e5 f5,.slice E6 e6 f6,.slice E7 e7 f7,.slice E8 e8 f8,.slice E9 e9 f9,.slice E10 e10 f10,.slice E11 e11 f11,.slice E12 e12 f12]) w3
theorem pr_new (W x:World)(y:Int)(hs:W.heap.size<=x.heap.size):PR (fun v w=>RdI .i64 w v [y]) 1 W (.slice (some ⟨x.heap.size,0,none⟩) 1 1) (x.alloc (.cells #[.int .i64 y] 3)):=by
 refine⟨rfl,fun w3 h3=>⟨_,1,rfl,Nat.le_refl _,by unfold maxLen;omega,fun _=>⟨x.heap.size,0,rfl,fun j hj=>?_⟩⟩⟩
 obtain rfl:j=0:=by simp at hj;omega
 have h9:=h3 x.heap.size hs (by simp)
 rw [heap_alloc_new]at h9
 exact zc h9 0 _ rfl
theorem PR.tell {R:Value->World->Prop} {n b:Nat} {W x w:World} {u:Value} {cs:Array Value} (h:PR R n W u x)(hs:w.heap.size<=W.heap.size)(hb:b < W.heap.size):Keeps w (x.setRow b cs) (R (.slice (slA u) n (slC u))):=by
 intro w3 h3
 have h9:=h.2 w3 fun k h1 h2=>(h3 k (Nat.le_trans hs h1) (by simpa [World.setRow]using h2)).trans (setRow_other x b k cs (by omega))
 rwa [h.1]at h9
theorem keeps_tell {R:World->Prop} {W x w:World} {b m j:Nat} {u:Value} {cs:Array Value} (h:Keeps W x R)(hs:w.heap.size<=W.heap.size)(hb:b < W.heap.size)(hm:m < W.heap.size):Keeps w ((x.setCell ⟨m,j,none⟩ u).setRow b cs) R:=
 fun w3 h3=>h w3 fun k h1 h2=>((h3 k (Nat.le_trans hs h1) (by simpa [World.setRow,World.setCell]using h2)).trans (setRow_other _ b k cs (by omega))).trans (heap_setCell_other _ _ _ _ (by simp only [ne_eq];omega))
theorem keeps_put {R:World->Prop} {W x:World} {m j:Nat} {u:Value} (h:Keeps W x R)(hm:m < W.heap.size):Keeps W (x.setCell ⟨m,j,none⟩ u) R:=
 fun w3 h3=>h w3 fun k h1 h2=>(h3 k h1 (by simpa [World.setCell]using h2)).trans (heap_setCell_other _ _ _ _ (by simp only [ne_eq];omega))
theorem PR.keeps {R:Value->World->Prop} {n:Nat} {W x:World} {u:Value} (h:PR R n W u x):Keeps W x (R (.slice (slA u) n (slC u))):=by
 intro w3 h3
 have h9:=h.2 w3 h3
 rwa [h.1]at h9
theorem ExtBut.full {b:Nat} {w w1:World} (h:ExtBut b w w1)(hb:w1.heap[b]?=w.heap[b]?):Ext w w1:=by
 refine⟨h.os,h.tape,h.output,h.size,fun k hk=>?_⟩
 by_cases e:k=b
 ·rw [e];exact hb
 ·exact h.block k hk e
theorem TJ.put {mb:Nat} {W w:World} {base:Array Value} {l:List (Nat×Nat×((Nat->Value)->Value))} {L:Nat->Bool} {vs:Nat->Value} {i j:Nat} {u x:Value} (h:TJ mb W base l L vs w)(hc:cellsT base l (updB L i) (upd vs i x)=(cellsT base l L vs).setIfInBounds j u):TJ mb W base l (updB L i) (upd vs i x) (w.setCell ⟨mb,j,none⟩ u):=by
 refine⟨h.ext.set _ _,?_⟩
 rw [hc]
 exact slot_setCell h.blk
theorem tells_of {kd n:Int} {a b:ByteArray} {lf lr ty d:List Int} {vls:List (Bool×List Int)} {ws:List ByteArray} {w w':World} {A5 A6 A7 A8 A9 A10:Option Addr} {c5 c6 c7 c8 c9 c10:Nat} (hx:Ext w w')
 (h5:Keeps w w' (fun w3=>RdI .i64 w3 (.slice A5 lf.length c5) lf)) (h6:Keeps w w' (fun w3=>RdI .i64 w3 (.slice A6 lr.length c6) lr)) (h7:Keeps w w' (fun w3=>RdI .u32 w3 (.slice A7 ty.length c7) ty)) (h8:Keeps w w' (fun w3=>RdM 2 isVal w3 (.slice A8 vls.length c8) vls)) (h9:Keeps w w' (fun w3=>RdB w3 (.slice A9 d.length c9) d)) (h10:Keeps w w' (fun w3=>Rd1 isStr w3 (.slice A10 ws.length c10) ws))
 (hn:0<=n/\n < 4294967296) (hgt:∀y∈ty,0<=y/\y < 4294967296) (hgd:∀y∈d,0<=y/\y < 256) (hbv:∀y∈vls,∀z∈y.2,0<=z/\z < 256) (hkd: -9223372036854775808<=kd/\kd<=9223372036854775807:=by decide):
 Tells kd (DecP kd a b n lf lr ty d vls ws [] []) w (.returned (.agg #[.int .i64 kd,.string a,.string b,.int .u32 n,.int .u32 0,.slice A5 lf.length c5,.slice A6 lr.length c6,.slice A7 ty.length c7,.slice A8 vls.length c8,.slice A9 d.length c9,.slice A10 ws.length c10,.slice none 0 0,.slice none 0 0])) w':=
 ⟨a,b,n,0,A5,_,c5,A6,_,c6,A7,_,c7,A8,_,c8,A9,_,c9,A10,_,c10,none,0,0,none,0,0,rfl,hx,fun w3 k3=>⟨A5,A6,A7,A8,A9,A10,none,none,c5,c6,c7,c8,c9,c10,0,0,rfl,h5 w3 k3,h6 w3 k3,h7 w3 k3,h8 w3 k3,h9 w3 k3,h10 w3 k3,rdm_nil _ _ _,rdm_nil _ _ _,hn,hkd,hgt,hgd,hbv,nofun⟩⟩
theorem answd_of {kd n:Int} {mb:Nat} {a b:ByteArray} {lf lr ty d:List Int} {vls:List (Bool×List Int)} {ws:List ByteArray} {w w':World} {A5 A6 A7 A8 A9 A10:Option Addr} {c5 c6 c7 c8 c9 c10:Nat} (hx:ExtBut mb w w')
 (hm:w'.heap[mb]?=some (.cells #[.int .i64 kd,.string a,.string b,.int .u32 n,.int .u32 0,.slice A5 lf.length c5,.slice A6 lr.length c6,.slice A7 ty.length c7,.slice A8 vls.length c8,.slice A9 d.length c9,.slice A10 ws.length c10,.slice none 0 0,.slice none 0 0] 31 (0,0)))
 (h5:Keeps w w' (fun w3=>RdI .i64 w3 (.slice A5 lf.length c5) lf)) (h6:Keeps w w' (fun w3=>RdI .i64 w3 (.slice A6 lr.length c6) lr)) (h7:Keeps w w' (fun w3=>RdI .u32 w3 (.slice A7 ty.length c7) ty)) (h8:Keeps w w' (fun w3=>RdM 2 isVal w3 (.slice A8 vls.length c8) vls)) (h9:Keeps w w' (fun w3=>RdB w3 (.slice A9 d.length c9) d)) (h10:Keeps w w' (fun w3=>Rd1 isStr w3 (.slice A10 ws.length c10) ws))
 (hn:0<=n/\n < 4294967296) (hgt:∀y∈ty,0<=y/\y < 4294967296) (hgd:∀y∈d,0<=y/\y < 256) (hbv:∀y∈vls,∀z∈y.2,0<=z/\z < 256) (hkd: -9223372036854775808<=kd/\kd<=9223372036854775807:=by decide):
 Answd kd mb (DecP kd a b n lf lr ty d vls ws [] []) w (.returned (.tuple #[])) w':=
 ⟨a,b,n,0,A5,_,c5,A6,_,c6,A7,_,c7,A8,_,c8,A9,_,c9,A10,_,c10,none,0,0,none,0,0,rfl,hx,hm,fun w3 k3=>⟨A5,A6,A7,A8,A9,A10,none,none,c5,c6,c7,c8,c9,c10,0,0,rfl,h5 w3 k3,h6 w3 k3,h7 w3 k3,h8 w3 k3,h9 w3 k3,h10 w3 k3,rdm_nil _ _ _,rdm_nil _ _ _,hn,hkd,hgt,hgd,hbv,nofun⟩⟩
end Go.Proofs.YtdenjanihikolaaGreatDoor
