/- Decode that can: FunctionCall. -/
import Derived.Test.YtdenjanihikolaaGreatDoorRqA2
import Derived.Test.YtdenjanihikolaaGreatDoorRqA0
import Derived.Test.YtdenjanihikolaaGreatDoorRqA1
import Derived.Test.YtdenjanihikolaaGreatDoorRqDkg
import Derived.Test.YtdenjanihikolaaGreatDoorRqMkb
import Derived.Test.YtdenjanihikolaaGreatDoorRqDok
namespace Go.Proofs.YtdenjanihikolaaGreatDoor
set_option linter.unusedVariables false
set_option linter.unusedSimpArgs false
set_option maxRecDepth 100000
set_option maxHeartbeats 4000000
open Go.RowKit Og
structure KJ (b:Nat) (wd W0:World) (v:Value) (k:Nat) (ys:List Value) (s:Value) (L:Nat->Bool) (vs:Nat->Value) (w:World):Prop where
 A:L 9=false->Ext W0 w
 X:ExtBut b wd w
 C:L 10=false->Own b wd w 9 1 v k ys
 D:L 9=true->L 10=false->vs 9=.slice (some ⟨slB (vs 9),0,none⟩) 1 1/\w.heap[slB (vs 9)]?=some (.cells #[s] 9 (0,0))
 E:L 10=true->Own b wd w 9 1 (vs 10) (k+1) (ys++ [s])
 F:L 13=false->w.heap[b]?=some (.cells #[v] 193 (0,0))
 G:L 13=true->w.heap[b]?=some (.cells #[vs 10] 193 (0,0))
 S:b < w.heap.size
 M1:L 10=true->L 9=true
 M2:L 13=true->L 10=true
section
variable {b : Nat} {wd W0 w w2 : World} {v : Value} {k : Nat} {ys : List Value} {s : Value} {L : Nat → Bool} {vs : Nat → Value}
theorem KJ.start (hb:W0.heap[b]?=some (.cells #[v] 193 (0,0)))(hx:ExtBut b wd W0)(ho:Own b wd W0 9 1 v k ys):KJ b wd W0 v k ys s (fun _=>false) vs W0.drew:=
 ⟨fun _=>(Ext.refl W0).drew,hx.trans (Ext.refl W0).drew.but,fun _=>ho.ext (Ext.refl W0).drew,nofun,nofun,fun _=>hb,nofun,zl hb,nofun,nofun⟩
theorem KJ.keep (h:KJ b wd W0 v k ys s L vs w)(i:Nat)(u:Value)(h6:9≠i)(h7:10≠i)(h10:13≠i):KJ b wd W0 v k ys s (updB L i) (upd vs i u) w:=by
 obtain⟨A,X,C,D,E,F,G,S,M1,M2⟩:=h
 constructor <;> (try simp only [updB,upd,h6,h7,h10,if_false,beq_eq_false_iff_ne.2,Bool.or_false,ne_eq,not_false_eq_true]) <;> assumption
theorem KJ.low (h:KJ b wd W0 v k ys s L vs w)(e:L 10=false):L 13=false:=by
 cases e2:L 13 with
 | false=>rfl
 | true=>rw [h.M2 e2]at e;cases e
theorem KJ.step6 (h:KJ b wd W0 v k ys s L vs w)(e7:L 10=false):KJ b wd W0 v k ys s (updB L 9) (upd vs 9 (.slice (some ⟨w.heap.size,0,none⟩) 1 1)) (w.alloc (.cells #[s] 9)):=by
 have e10:=h.low e7
 have hF:=h.F e10
 have hx:=ext_alloc w (.cells #[s] 9)
 have hX:=h.X.trans hx.but
 constructor <;> (try simp only [updB,upd,e7,e10,Nat.reduceEqDiff,if_false,if_true,Nat.reduceBEq,Bool.or_false,Bool.or_true,Bool.false_eq_true,Bool.true_eq_false,false_implies,true_implies])
 ·exact hX
 ·exact(h.C e7).ext hx
 ·exact⟨rfl,heap_alloc_new _ _⟩
 ·exact(hx.block b (zl hF)).trans hF
 ·exact Nat.lt_of_lt_of_le h.S hx.size
theorem KJ.step7 (h:KJ b wd W0 v k ys s L vs w)(hb:b < wd.heap.size)(e6:L 9=true)(e7:L 10=false)(v2:Value)(hr:Row 9 1 (But w v) w w2 v2 (k+1) (ys++ [s])):KJ b wd W0 v k ys s (updB L 10) (upd vs 10 v2) w2:=by
 have e10:=h.low e7
 have hF:=h.F e10
 have hC:=h.C e7
 have hS:=h.S
 have hX:=h.X
 have hbn:∀q,q < wd.heap.size->But w v q:=fun q hq=>⟨Nat.lt_of_lt_of_le hq hX.size,fun e=>by have:=(hC.off q e).1;omega⟩
 have hfn:But w v b:=hbn b hb
 have hsz:=hr.lt b hfn
 constructor <;> (try simp only [updB,upd,e6,e10,Nat.reduceEqDiff,if_false,if_true,Nat.reduceBEq,Bool.or_false,Bool.or_true,Bool.false_eq_true,Bool.true_eq_false,false_implies,true_implies])
 ·exact⟨hr.os.trans hX.os,hr.tape.trans hX.tape,hr.output.trans hX.output,(by have h9:=hr.lt (wd.heap.size - 1) (hbn _ (by omega));omega),fun q hq hqb=>(hr.kept q (hbn q hq)).trans (hX.block q hq hqb)⟩
 ·exact hC.step hr hS hX.size
 ·exact(hr.kept b (hbn b hb)).trans hF
 ·exact hr.lt b hfn
theorem KJ.step10 (h:KJ b wd W0 v k ys s L vs w)(hb:b < wd.heap.size)(e7:L 10=true)(e10:L 13=false)(u z:Value)(hz:vs 10=z):KJ b wd W0 v k ys s (updB L 13) (upd vs 13 u) (w.setCell ⟨b,0,none⟩ z):=by
 subst hz
 have e6:=h.M1 e7
 have hF:=h.F e10
 have hE:=h.E e7
 have hoth:∀q,q≠b->(w.setCell ⟨b,0,none⟩ (vs 10)).heap[q]?=w.heap[q]?:=fun q hq=>heap_setCell_other w ⟨b,0,none⟩ q _ hq
 constructor <;> (try simp only [updB,upd,e6,e7,Nat.reduceEqDiff,if_false,if_true,Nat.reduceBEq,Bool.or_false,Bool.or_true,Bool.false_eq_true,Bool.true_eq_false,false_implies,true_implies])
 ·exact h.X.set 0 _
 ·exact hE.keep fun g hg _ _=>hoth g (by omega)
 ·exact slot_setCell hF
 ·have:=h.S;simpa [World.setCell]using this
end
theorem dek35 (ws:List ByteArray)(hll:ws.length<=20)(hlr:∀s∈ws,plainP s/\0 < s.size)(wd:World)(b:Nat)(v:Value)(hb:wd.heap[b]?=some (.cells #[.slice none 0 0] 193 (0,0)))(hv:RdB wd v (numB 10 4++(ws.flatMap (fun s=>sby s++ [0])++ [0])))(hl:(numB 10 4++(ws.flatMap (fun s=>sby s++ [0])++ [0])).length<=100000)(hof:v.ownBlock≠some b):
 Calls Tryz.prog 265 #[.pointer (some ⟨b,0,none⟩),v] wd (Deced b (fun b w2=>∃A c,w2.heap[b]?=some (.cells #[.slice A ws.length c] 193 (0,0))/\Rd1 isStr w2 (.slice A ws.length c) ws) wd):=by
 obtain⟨R0,hR0⟩:∃R,R=ws.flatMap (fun s=>sby s++ [0])++ [0]:=⟨_,rfl⟩
 rw [<-hR0]at hv hl
 have HR0:=zh hR0
 clear hR0
 obtain⟨A,c,hvA⟩:=hv.len
 subst hvA
 have hln:(numB 10 4++R0).length=4+R0.length:=by rw [List.length_append,numB_len]
 have HV:Hid (RdN b wd (.slice A (4+R0.length) c) (numB 10 4++R0)):=zh (by rw [<-hln];exact⟨hv,fun _=>hof⟩)
 have HLT:=zh (zl hb)
 have HBK:=zh hb
 have HLR:=zh hlr
 have hcap:=hv.parts.2.1
 have hmax:=hv.parts.2.2
 rw [hln]at hcap hl⊢
 obtain⟨A4,c4,h4,h4r⟩:=sl_at A (4+R0.length) c 4 (by omega) hcap hmax
 have H4:=h4r b wd _ HV.out
 rw [drop_numB,show 4+R0.length - 4=R0.length by omega]at H4
 have HR4:=zh H4
 rw [show 4+R0.length - 4=R0.length by omega]at h4
 have hlt4:¬((4:Int)+(R0.length:Int) < 4):=by omega
 have hnil:∀w:World,(Instr.slice 27 (.slice none 0 0) none (some (.int .i64 0)) none).run Tryz.prog w=.ok (.slice none 0 0) w:=fun w=>by
  rw [run_slice_h (P:=Tryz.prog) w 27 none 0 0 Tryz.underlying27 .i64 0 (by omega) (by omega)]
  have hs:(sizeOf (Tryz.prog.elem 27)).run Tryz.prog w=.ok 1 w:=by
   obtain⟨i0,hi,hz0,hz1,hz2⟩:=info_parts info9
   simp [sizeOf,typeInfo,show Tryz.prog.elem 27=9 from by kernel_rfl,hi,hz1]
  rw [hs]
  rfl
 clear hof hb hlr hv hln h4r H4
 go_enter Tryz.func265,Tryz.ntmps265
 go_wp2_with (go_at_call 138;refine(rd32n 10 (by decide) _ _ _ R0 _ HV.out.1).mono ?_;rintro e w6 ⟨rfl,hx6⟩;have HX6:=zh hx6;have HB6:=zh ((hx6.block b HLT.out).trans HBK.out);clear hx6;have hz0:=zc HB6.out 0 (.slice none 0 0) rfl;have hy0:=free_slot HB6.out 0)
 go_loopw [6] (fun rest wr=>∃k Ar cr R,k<=ws.length/\rest=.slice Ar R.length cr/\∃v ys,Hid (R=(ws.drop k).flatMap (fun s=>sby s++ [0])++ [0]/\RdN b wd (.slice Ar R.length cr) R/\ExtBut b wd wr/\wr.heap[b]?=some (.cells #[v] 193 (0,0))/\Own b wd wr 9 1 v k ys/\ys=(ws.take k).map Value.string)) (fun rest _=>slN rest)
 case atStart=>
  exact⟨0,A4,c4,R0,Nat.zero_le _,rfl,.slice none 0 0,[],zh ⟨HR0.out,HR4.out,HX6.out.but.set _ _,slot_setCell HB6.out,⟨World.ownsRow_nil _ _ _ _,nofun⟩,rfl⟩⟩
 case round=>
  clear hz0 hy0 h4 hlt4 hnil HX6 HB6 HR4 HV HBK
  obtain⟨k,Ar,cr,R,hk1,rfl,v,ys,HH⟩:=hrel
  obtain⟨hS0,hRR,hX,hB,hO,hY⟩:=HH.out
  clear HH
  obtain⟨Av,cv,hv⟩:=own_slice hO.own
  subst hv
  have HRR:=zh hRR
  have HX:=zh hX
  have HBK:=zh hB
  have HOW:=zh hO
  have HY:=zh hY
  have hcapr:=hRR.1.parts.2.1
  have hmaxr:=hRR.1.parts.2.2
  clear hX hB hO hY
  by_cases hlt:k < ws.length
  ·obtain⟨x,hx⟩:∃x,x=ws[k]:=⟨_,rfl⟩
   have hxr:=HLR.out _ (List.getElem_mem hlt)
   rw [<-hx]at hxr
   rw [List.drop_eq_getElem_cons hlt,List.flatMap_cons,<-hx,List.append_assoc,List.append_assoc]at hS0
   obtain⟨R5,hR5⟩:∃R5,R5=(ws.drop (k+1)).flatMap (fun s=>sby s++ [0])++ [0]:=⟨_,rfl⟩
   rw [<-hR5,List.singleton_append]at hS0
   have HR5:=zh hR5
   have h50:0 < R5.length:=by rw [hR5];simp
   have hlx:0 < (sby x).length:=by rw [sby_length];exact hxr.2
   have hlR:R.length=(sby x).length+(1+R5.length):=by rw [hS0];simp only [List.length_append,List.length_cons];omega
   have hgt:(1:Int) < (R.length:Int):=by omega
   have hgt2:1 < R.length:=by omega
   have hlm:R5.length < R.length:=by omega
   have hla:(sby x).length<=200:=by rw [sby_length];exact hxr.1.1
   have HPOS:=zh (plain_pos hxr.1)
   have HIX:Hid (RdN b wd (.slice Ar R.length cr) (sby x++0 :: R5)):=zh (by rw [<-hS0];exact hRR)
   have HNM:Hid (RdN b wd (.slice Ar (sby x).length cr) (sby x)):=zh (by
    have h9:=hRR.take (sby x).length (by omega)
    rw [hS0,List.take_left]at h9
    exact h9)
   obtain⟨Ap,cp,hsp,hrp⟩:=sl_at Ar R.length cr ((sby x).length+1) (by omega) hcapr hmaxr
   have HRP:Hid (RdN b wd (.slice Ap R5.length cp) R5):=zh (by
    have h9:=hrp b wd _ hRR
    rw [show R.length - ((sby x).length+1)=R5.length by omega]at h9
    rwa [show R.drop ((sby x).length+1)=R5 from by rw [hS0,<-List.drop_drop,List.drop_left];rfl]at h9)
   rw [show R.length - ((sby x).length+1)=R5.length by omega]at hsp
   have HYS:Hid (ys++ [Value.string x]=(ws.take (k+1)).map Value.string):=zh (by rw [HY.out,List.take_succ_eq_append_getElem hlt,List.map_append,<-hx];rfl)
   have hne1:¬((((sby x).length:Nat):Int)= -1):=by omega
   have hbx:(sby x).length<=cr:=by omega
   clear hS0 hRR hx hxr hR5 hrp hlR
   go_wp2_with (go_at_call 136;refine(idx_found _ _ _ (sby x) R5 _ (HIX.out.at_ HX.out).1 HPOS.out).mono ?_;rintro e w3 ⟨rfl,hw3⟩;rw [hw3];clear hw3)
   refine wp_region_ogL (J:=KJ b wd wr (.slice Av k cv) k ys (.string x)) (R:=fun _ _=>True) [Sp.eq _ (.pointer (some ⟨b,0,none⟩)),Sp.eq _ (.pointer (some ⟨b,0,none⟩)),Sp.eq _ (.pointer (some ⟨b,0,none⟩)),Sp.eq _ (.pointer (some ⟨b,0,none⟩)),Sp.eq _ (.slice Av k cv),Sp.eq _ (.slice Ar R.length cr),Sp.eq _ (.int .i64 ((sby x).length:Int)),Sp.eq _ (.slice Ar (sby x).length cr),Sp.eq _ (.string x),Sp.any _,Sp.any _,Sp.eq _ (.pointer (some ⟨b,0,none⟩)),Sp.eq _ (.pointer (some ⟨b,0,none⟩)),Sp.any _] (by kernel_rfl) (by kernel_rfl) ?_ ?_ ?_
   ·exact KJ.start HBK.out HX.out HOW.out
   ·refine⟨zu,zu,zu,zu,?_,zu,zu,zu,?_,?_,?_,zu,zu,?_,trivial⟩
    ·intro vs w1 L hLi hd hdt hJ hp
     have q3:vs 3=_:=zd hp 3
     have HJ:=zh hJ
     have hq:=zc (hJ.F (zd hdt 13)) 0 (.slice Av k cv) rfl
     clear hp hd hdt hLi hJ
     simp only [putAll,Nat.reduceAdd]
     go_wp2
     exact⟨rfl,HJ.out.keep 4 _ (by decide) (by decide) (by decide),trivial,rfl⟩
    ·intro vs w1 L hLi hd hdt hJ hp
     have q7:vs 7=_:=zd hp 7
     have HJ:=zh hJ
     have hcv:=conv_rd (HNM.out.at_ hJ.X).1
     rw [str_sby]at hcv
     clear hp hd hdt hLi hJ
     simp only [putAll,Nat.reduceAdd]
     go_wp2
     exact⟨rfl,HJ.out.keep 8 _ (by decide) (by decide) (by decide),trivial,rfl⟩
    ·intro vs w1 L hLi hd hdt hJ hp
     have q8:vs 8=_:=zd hp 8
     have H10:=zh (zd hdt 10)
     have HJ:=zh hJ
     clear hp hd hdt hLi hJ
     simp only [putAll,Nat.reduceAdd]
     go_wp2
     refine⟨rfl,?_,trivial,trivial⟩
     exact HJ.out.step6 H10.out
    ·intro vs w1 L hLi hd hdt hJ hp
     have q4:vs 4=_:=zd hp 4
     have h6:=zd hd 9
     have H6:=zh h6
     have HLi:=zh hLi
     have HD9:=zh (hJ.D h6 hLi)
     have HR9:=zh (hJ.C hLi).row
     have HJ:=zh hJ
     clear h6
     clear hp hd hdt hLi hJ
     simp only [putAll,Nat.reduceAdd]
     refine ap_one rfl (.tmp 41) (.tmp 46) 27 9 1 16 _ rfl Tryz.underlying27 info9 rfl (by decide) (v:=.slice Av k cv) (b:=slB (vs 9)) (c:=1) (ys:=[.string x]) (by simp only [evp_none,ne_eq,Nat.reduceEqDiff,not_false_eq_true,evp_ne];rw [evp_same _ _ _ (by simp [evp_size])];exact q4) HR9.out (by simp only [evp_none,ne_eq,Nat.reduceEqDiff,not_false_eq_true,evp_ne];rw [evp_same _ _ _ (by simp [evp_size])];exact HD9.out.1) rfl (fun j u hj=>(cell_of_row _ _ _ _ _ _ HD9.out.2).trans (by rw [<-Array.getElem?_toList];exact hj)) (List.all_eq_true.1 rfl) (by omega) (by decide) ?_
     intro v2 w2' hn
     refine⟨rfl,?_,trivial,trivial⟩
     rw [slot_put _ _ _ (by simp [evp_size])]
     exact HJ.out.step7 HLT.out H6.out HLi.out _ hn
    ·intro vs w1 L hLi hd hdt hJ hp
     have q0:vs 0=_:=zd hp 0
     have q1:vs 1=_:=zd hp 1
     have q2:vs 2=_:=zd hp 2
     have q3:vs 3=_:=zd hp 3
     have q4:vs 4=_:=zd hp 4
     have q5:vs 5=_:=zd hp 5
     have q6:vs 6=_:=zd hp 6
     have q7:vs 7=_:=zd hp 7
     have q8:vs 8=_:=zd hp 8
     have q12:vs 12=_:=zd hp 12
     have h7:=zd hd 10
     have H7:=zh h7
     have HLi:=zh hLi
     have hF:=hJ.F hLi
     have hc1:=zc hF 0 _ rfl
     have hf1:=free_slot hF 0
     obtain⟨A9,c9,hv9⟩:=own_slice (hJ.E h7).own
     have HV9:=zh hv9
     have HJ:=zh hJ
     clear h7 hF hv9
     clear hp hd hdt hLi hJ
     simp only [putAll,Nat.reduceAdd]
     rw [HV9.out]
     go_wp2
     refine⟨rfl,?_,trivial,trivial⟩
     exact HJ.out.step10 HLT.out H7.out HLi.out _ _ HV9.out
   ·intro vs w1 L hall hJ hp
    have q0:vs 0=_:=zd hp 0
    have q1:vs 1=_:=zd hp 1
    have q2:vs 2=_:=zd hp 2
    have q3:vs 3=_:=zd hp 3
    have q4:vs 4=_:=zd hp 4
    have q5:vs 5=_:=zd hp 5
    have q6:vs 6=_:=zd hp 6
    have q7:vs 7=_:=zd hp 7
    have q8:vs 8=_:=zd hp 8
    have q11:vs 11=_:=zd hp 11
    have q12:vs 12=_:=zd hp 12
    have HFI:=zh (And.intro hJ.X (And.intro (hJ.E (zd hall 10)) (hJ.G (zd hall 13))))
    clear hJ hp hall
    simp only [putAll,Nat.reduceAdd]
    clear q0 q1 q2 q3 q4 q5 q6 q7 q8 q11 q12
    simp only [Exit.inBlock,Exit.then]
    try go_at_K
    simp only [Act.put,List.setIfInBounds_toArray,List.set_cons_zero,List.set_cons_succ]
    go_wp2
    go_roundw
    case rel=>
     refine⟨k+1,Ap,cp,R5,by omega,rfl,vs 10,ys++ [.string x],zh ⟨HR5.out,HRP.out,HFI.out.1,HFI.out.2.2,⟨HFI.out.2.1.own,HFI.out.2.1.off⟩,HYS.out⟩⟩
    case measure=>simp only [slN];omega
  ·obtain rfl:k=ws.length:=by omega
   rw [List.drop_length,List.flatMap_nil,List.nil_append]at hS0
   have h1:R.length=1:=by rw [hS0];rfl
   rw [h1]
   clear hS0 hRR
   go_wp2
   go_ret
   have ho9:=HOW.out.own
   rw [HY.out,List.take_length]at ho9
   exact⟨rfl,HX.out,Av,cv,HBK.out,Rd1.of_ownS ho9⟩
theorem drop_numB2 (n m:Int)(k j:Nat)(r:List Int):(numB n k++(numB m j++r)).drop (k+j)=r:=by rw [<-List.drop_drop,drop_numB,drop_numB]
theorem getD_mem {l:List Int} {k:Nat} (h:k < l.length):l.getD k 0=l[k]:=by simp [List.getD,h]
theorem DrT.rdI {kd:IntKind} {l:List Int} {b g N p:Nat} {wd w w2:World} {o:Obj} {te:TypeId} {xs R:List Int} {cs:Array Value} {z0:Value} (h:DrT b g wd w o te l.length N xs p R cs (fun j u=>u=.int kd (l.getD j 0)) z0 l.length)(hl:l.length<=100000)(hg:w2.heap[g]?=some (.cells cs te (0,0))):RdI kd w2 (.slice (some ⟨g,0,none⟩) l.length l.length) l:=by
 refine⟨_,_,rfl,Nat.le_refl _,by unfold maxLen;omega,fun _=>⟨g,0,rfl,fun j hj=>?_⟩⟩
 obtain⟨u,h1,rfl⟩:=h.done j hj
 rw [Nat.zero_add]
 exact zc hg j _ h1
theorem rdi_arr {kd:IntKind} {l:List Int} {g:Nat} {w2:World} {te:TypeId} {cs:Array Value} (hg:w2.heap[g]?=some (.cells cs te (0,0)))(hd:∀j,j < l.length->∃u,cs[j]?=some u/\u=.int kd (l.getD j 0))(hl:l.length<=100000):RdI kd w2 (.slice (some ⟨g,0,none⟩) l.length l.length) l:=by
 refine⟨_,_,rfl,Nat.le_refl _,by unfold maxLen;omega,fun _=>⟨g,0,rfl,fun j hj=>?_⟩⟩
 obtain⟨u,h1,rfl⟩:=hd j hj
 rw [Nat.zero_add]
 exact zc hg j _ h1
set_option maxHeartbeats 30000000 in
theorem dek9 (n x:Int)(lf:List Int)(vls:List (Bool×List Int))(hn:0<=n/\n < 4294967296)(hx01:x=0∨x=1)(hll:lf.length<=20)(h01:∀y∈lf,y=0∨y=1)(hlv:vls.length<=20)(hgv:∀y∈vls,y.2.length<=200)(wd:World)(b:Nat)(v:Value)(hb:wd.heap[b]?=some (.cells #[.int .u32 0,.slice none 0 0,.slice none 0 0,.int .u16 0] 131 (0,0)))(hv:RdB wd v (numB n 4++(numB (lf.length:Int) 2++(lf.flatMap (fun n=>numB n 2)++(numB (vls.length:Int) 2++(vls.flatMap (fun x=>valB x.1 x.2)++numB x 2))))))(hl:(numB n 4++(numB (lf.length:Int) 2++(lf.flatMap (fun n=>numB n 2)++(numB (vls.length:Int) 2++(vls.flatMap (fun x=>valB x.1 x.2)++numB x 2))))).length<=100000)(hof:v.ownBlock≠some b):
 Calls Tryz.prog 169 #[.pointer (some ⟨b,0,none⟩),v] wd (Deced b (fun b w2=>∃A1 c1 A2 c2,w2.heap[b]?=some (.cells #[.int .u32 n,.slice A1 lf.length c1,.slice A2 vls.length c2,.int .u16 x] 131 (0,0))/\RdI .u16 w2 (.slice A1 lf.length c1) lf/\Rd1 isOpt w2 (.slice A2 vls.length c2) (vls.map optV)) wd):=by
 obtain⟨xs0,hxs0⟩:∃y,y=numB n 4++(numB (lf.length:Int) 2++(lf.flatMap (fun n=>numB n 2)++(numB (vls.length:Int) 2++(vls.flatMap (fun x=>valB x.1 x.2)++numB x 2)))):=⟨_,rfl⟩
 obtain⟨A,c,hvA⟩:=hv.len
 subst hvA
 obtain⟨RF,hRF⟩:∃R,R=lf.flatMap (fun n=>numB n 2):=⟨_,rfl⟩
 obtain⟨RV,hRV⟩:∃R,R=vls.flatMap (fun x=>valB x.1 x.2):=⟨_,rfl⟩
 rw [<-hRF,<-hRV]at hxs0
 have hfl:RF.length=lf.length * 2:=by rw [hRF];exact nums_len2 lf
 obtain⟨N,hN⟩:∃m,m=xs0.length:=⟨_,rfl⟩
 have hNl:N=4+(2+(RF.length+(2+(RV.length+2)))):=by rw [hN,hxs0];simp only [List.length_append,numB_len]
 rw [<-hRF,<-hRV,<-hxs0]at hv hl hof
 rw [<-hRF,<-hRV,<-hxs0]
 have HV:Hid (RdN b wd (.slice A N c) xs0):=zh (by rw [hN];exact⟨hv,fun _=>hof⟩)
 have HLT:=zh (zl hb)
 have HBK:=zh hb
 have hz0:=zc hb 0 _ rfl;have hy0:=free_slot hb 0;have hz1:=zc hb 1 _ rfl;have hy1:=free_slot hb 1;have hz2:=zc hb 2 _ rfl;have hy2:=free_slot hb 2;have hz3:=zc hb 3 _ rfl;have hy3:=free_slot hb 3
 have hcap:=hv.parts.2.1
 have HCM:=zh hv.parts.2.2
 rw [<-hN]at hcap hl
 rw [<-hN]
 obtain⟨b1,o1,hA⟩:∃b1 o1,A=some ⟨b1,o1,none⟩:=by
  obtain⟨A',c',hv',_,_,h3⟩:=hv
  obtain⟨rfl,_⟩:A=A'/\_:=by simpa using hv'
  obtain⟨b1,o1,hA,_⟩:=h3 (by omega)
  exact⟨b1,o1,hA⟩
 have HA:=zh hA
 have HX:Hid (ExtBut b wd wd):=zh (Ext.refl wd).but
 have HN:=zh hn
 have HLF:=zh h01
 have HGV:=zh hgv
 have HNF:Hid (0<=(lf.length:Int)/\(lf.length:Int) < 65536):=zh (by omega)
 have HNV:Hid (0<=(vls.length:Int)/\(vls.length:Int) < 65536):=zh (by omega)
 have HXX:Hid (0<=x/\x < 65536):=zh (by omega)
 obtain⟨Aa,ca,hsa,hra⟩:=sl_at A N c (0) (by omega) hcap HCM.out
 have hha:=hra b wd _ HV.out
 rw [List.drop_zero,hxs0]at hha
 have HRa:=zh hha
 clear hra hha
 rw [Nat.sub_zero]at hsa
 have HDa:Hid (RdN b wd (.slice Aa N ca) (numB n 4++(numB (lf.length:Int) 2++(RF++(numB (vls.length:Int) 2++(RV++numB x 2)))))):=zh (by have h9:=HRa.out;rwa [Nat.sub_zero]at h9)
 obtain⟨Ab,cb,hsb,hrb⟩:=sl_at A N c (4) (by omega) hcap HCM.out
 have hhb:=hrb b wd _ HV.out
 rw [hxs0,drop_numB]at hhb
 have HRb:=zh hhb
 clear hrb hhb
 obtain⟨Ad,cd,hsd,hrd⟩:=sl_at A N c (6) (by omega) hcap HCM.out
 have hhd:=hrd b wd _ HV.out
 rw [hxs0,drop_numB2 n _ 4 2]at hhd
 have HRd:=zh hhd
 clear hrd hhd
 have hlt8:¬((N:Int) < 8):=by omega
 have hN4:N - 6=lf.length * 2+(2+(RV.length+2)):=by omega
 rw [hN4]at hsd
 have hcmp:¬((lf.length:Int) * 2+(2+((RV.length:Int)+2)) < (lf.length:Int) * 2+2):=by omega
 have hwr1:IntKind.i64.wrap ((lf.length:Int) * 2)=(lf.length:Int) * 2:=by rw [IntKind.wrap_i64];omega
 have hwr2:IntKind.i64.wrap ((lf.length:Int) * 2+2)=(lf.length:Int) * 2+2:=by rw [IntKind.wrap_i64];omega
 have hmk:=mkU_run lf.length (by omega)
 have HNl:=zh hNl
 have HRF:=zh hRF
 have HRV:=zh hRV
 have HXS:=zh hxs0
 have h8N:8<=N:=by omega
 clear hv hof hb hA hn h01 hgv hN hRF hRV hxs0 HRa HRd hNl hfl hN4
 go_enter Tryz.func169,Tryz.ntmps169
 go_wp2_with (first|(go_at_call_of 138 Aa;refine(rd32n n HN.out _ _ _ (_) _ (HDa.out.at_ (by exact((((HX.out.set _ _).set _ _).set _ _).set _ _))).1).mono ?_;rintro e w6 ⟨rfl,hx3⟩;have HXn:Hid (ExtBut b wd w6):=zh ((show ExtBut b wd _ from((((HX.out.set _ _).set _ _).set _ _).set _ _)).trans hx3.but);have HBn:Hid (w6.heap[b]?=some (.cells #[.int .u32 0,.slice none 0 0,.slice none 0 0,.int .u16 0] 131 (0,0))):=zh ((hx3.block b (zl (slot_setCell (slot_setCell (slot_setCell (slot_setCell HBK.out)))))).trans (slot_setCell (slot_setCell (slot_setCell (slot_setCell HBK.out)))));clear HX HBK;have HX:=HXn;have HBK:=HBn;clear HXn HBn;(try clear hz0);(try clear hy0);have hz0:=zc HBK.out 0 _ rfl;have hy0:=free_slot HBK.out 0;(try clear hz1);(try clear hy1);have hz1:=zc HBK.out 1 _ rfl;have hy1:=free_slot HBK.out 1;(try clear hz2);(try clear hy2);have hz2:=zc HBK.out 2 _ rfl;have hy2:=free_slot HBK.out 2;(try clear hz3);(try clear hy3);have hz3:=zc HBK.out 3 _ rfl;have hy3:=free_slot HBK.out 3;clear hx3)|(go_at_call_of 137 Ab;refine(rd16n (lf.length:Int) HNF.out _ _ _ (_) _ (HRb.out.at_ (by exact(HX.out.set _ _))).1).mono ?_;rintro e w7 ⟨rfl,hx3⟩;have HXn:Hid (ExtBut b wd w7):=zh ((show ExtBut b wd _ from(HX.out.set _ _)).trans hx3.but);have HBn:Hid (w7.heap[b]?=some (.cells #[.int .u32 n,.slice none 0 0,.slice none 0 0,.int .u16 0] 131 (0,0))):=zh ((hx3.block b (zl (slot_setCell HBK.out))).trans (slot_setCell HBK.out));clear HX HBK;have HX:=HXn;have HBK:=HBn;clear HXn HBn;(try clear hz0);(try clear hy0);have hz0:=zc HBK.out 0 _ rfl;have hy0:=free_slot HBK.out 0;(try clear hz1);(try clear hy1);have hz1:=zc HBK.out 1 _ rfl;have hy1:=free_slot HBK.out 1;(try clear hz2);(try clear hy2);have hz2:=zc HBK.out 2 _ rfl;have hy2:=free_slot HBK.out 2;(try clear hz3);(try clear hy3);have hz3:=zc HBK.out 3 _ rfl;have hy3:=free_slot HBK.out 3;clear hx3))
 go_loopw [55,5] (fun i rp wr=>∃k p:Nat,k<=lf.length/\i=.int .i64 k/\rp=.int .i64 p/\∃R cs,Hid (DrT b w7.heap.size wd wr (.cells #[.int .u32 n,.slice none 0 0,.slice none 0 0,.int .u16 0] 131 (0,0)) 128 lf.length N xs0 p R cs (fun j u=>u=.int .u16 (lf.getD j 0)) (.int .u16 0) k/\R=(lf.drop k).flatMap (fun n=>numB n 2)++(numB (vls.length:Int) 2++(RV++numB x 2)))) (fun i _ _=>lf.length - (intOf i).toNat)
 case atStart=>
  refine⟨0,6,Nat.zero_le _,rfl,rfl,_,madeCells #[.int .u16 0] lf.length,zh ⟨⟨?_,rfl,HX.out.trans (mkU_ext _ _).but,((mkU_ext _ _).block b (zl HBK.out)).trans HBK.out,heap_alloc_new _ _,size_madeCells _ _,HX.out.size,fun j hj=>absurd hj (Nat.not_lt_zero _),fun j _ hj=>by simp [madeCells,hj,Nat.mod_one]⟩,?_⟩⟩
  ·rw [HXS.out,drop_numB2 n _ 4 2];simp only [List.length_append,numB_len];have:=HNl.out;omega
  ·rw [HXS.out,drop_numB2 n _ 4 2,HRF.out,List.drop_zero]
 case round=>
  clear HX HBK hz0 hy0 hz1 hy1 hz2 hy2 hz3 hy3 hsa hsb hsd hcmp hwr1 hwr2 hmk hlt8
  obtain⟨k,p,hk1,rfl,rfl,R3,cs,HHR⟩:=hrel
  have HH:=zh HHR.out.1
  have hS0:=HHR.out.2
  clear HHR
  have hNp:N - p=R3.length:=by have:=HH.out.len;omega
  have hpN:p<=N:=by have:=HH.out.len;omega
  have HX:=zh HH.out.bel
  have HBK:=zh HH.out.blk
  by_cases hlt:k < lf.length
  ·obtain⟨y,hy⟩:∃y,y=lf[k]:=⟨_,rfl⟩
   have hyr:=HLF.out _ (List.getElem_mem hlt)
   rw [<-hy]at hyr
   have hgd:lf.getD k 0=y:=by rw [hy];exact getD_mem hlt
   rw [List.drop_eq_getElem_cons hlt,List.flatMap_cons,<-hy,List.append_assoc]at hS0
   obtain⟨R4,hR4e⟩:∃R4,R4=(lf.drop (k+1)).flatMap (fun n=>numB n 2)++(numB (vls.length:Int) 2++(RV++numB x 2)):=⟨_,rfl⟩
   rw [<-hR4e]at hS0
   have HR4:=zh hS0
   have HR4e:=zh hR4e
   obtain⟨Ae,ce,hse,hre⟩:=sl_at A N c p hpN hcap HCM.out
   have hhe:=hre b wd _ HV.out
   rw [HH.out.rest,hS0,hNp]at hhe
   have HRe:=zh hhe
   rw [hNp]at hse
   have HYR:Hid (0<=y/\y < 65536):=zh (by omega)
   have HU:Hid (Value.int .u16 y=.int .u16 (lf.getD k 0)):=zh (by rw [hgd])
   clear hre hhe hS0 hR4e hy hgd
   rcases hyr with rfl|rfl
   all_goals
    go_wp2_with (go_at_call 137;refine(rd16n _ HYR.out _ _ _ R4 _ (HRe.out.at_ HX.out).1).mono ?_;rintro e w3 ⟨rfl,hx3⟩;have HX3:=zh hx3;have hg3:=(hx3.block _ (zl HH.out.arr)).trans HH.out.arr;have hcg:=zc hg3 k (.int .u16 0) (HH.out.at_ (by omega));have hfg:=free_slot hg3 k;clear hx3 hg3)
    go_roundw
    case rel=>
     refine⟨k+1,p+2,by omega,by go_num,by go_num,R4,cs.setIfInBounds k (.int .u16 (lf.getD k 0)),zh ⟨?_,HR4e.out⟩⟩
     rw [<-HU.out]
     exact(HH.out.skip HX3.out HR4.out (by rw [numB_len])).put HLT.out (by omega) HU.out
    case measure=>simp only [intOf];omega
  ·obtain rfl:k=lf.length:=by omega
   rw [List.drop_length,List.flatMap_nil,List.nil_append]at hS0
   have hl3:R3.length=2+(RV.length+2):=by rw [hS0];simp only [List.length_append,numB_len]
   have hp2:xs0.drop (p+2)=RV++numB x 2:=by rw [<-List.drop_drop,HH.out.rest,hS0,drop_numB]
   obtain⟨Af,cf,hsf,hrf⟩:=sl_at A N c (p) (by omega) hcap HCM.out
   have hhf:=hrf b wd _ HV.out
   rw [HH.out.rest,hS0]at hhf
   have HRf:=zh hhf
   clear hrf hhf
   rw [hNp]at hsf HRf
   have HP2:=zh hp2
   have HPL:Hid (p+2+(RV.length+2)=N):=zh (by have:=HH.out.len;omega)
   have hmk:=mkV_run vls.length (by omega)
   have HG7:=zh HH.out.arr
   have hb9:=HBK.out
   have hz1:=zc hb9 1 (.slice none 0 0) rfl
   have hy1:=free_slot hb9 1
   have HHI:Hid (RdI .u16 wr (.slice (some ⟨w7.heap.size,0,none⟩) lf.length lf.length) lf):=zh (HH.out.rdI (by omega) HH.out.arr)
   have HLO7:=zh HH.out.lo
   have HDN:=zh HH.out.done
   clear hS0 hl3 hp2 hb9 HH
   go_wp2_with (first|(go_at_call_of 137 Af;refine(rd16n (vls.length:Int) HNV.out _ _ _ (_) _ (HRf.out.at_ (by exact(HX.out.set _ _))).1).mono ?_;rintro e w8 ⟨rfl,hx3⟩;have HXn:Hid (ExtBut b wd w8):=zh ((show ExtBut b wd _ from(HX.out.set _ _)).trans hx3.but);have HBn:Hid (w8.heap[b]?=some (.cells #[.int .u32 n,.slice (some ⟨w7.heap.size,0,none⟩) lf.length lf.length,.slice none 0 0,.int .u16 0] 131 (0,0))):=zh ((hx3.block b (zl (slot_setCell HBK.out))).trans (slot_setCell HBK.out));clear HX HBK;have HX:=HXn;have HBK:=HBn;clear HXn HBn;(try clear hz0);(try clear hy0);have hz0:=zc HBK.out 0 _ rfl;have hy0:=free_slot HBK.out 0;(try clear hz1);(try clear hy1);have hz1:=zc HBK.out 1 _ rfl;have hy1:=free_slot HBK.out 1;(try clear hz2);(try clear hy2);have hz2:=zc HBK.out 2 _ rfl;have hy2:=free_slot HBK.out 2;(try clear hz3);(try clear hy3);have hz3:=zc HBK.out 3 _ rfl;have hy3:=free_slot HBK.out 3;have HG8:=zh ((hx3.block _ (by simpa [World.setCell]using zl HG7.out)).trans ((heap_setCell_other _ _ _ _ (by have:=HLT.out;have:=HLO7.out;simp only [ne_eq];omega)).trans HG7.out));have HL78:=zh (zl HG8.out);clear hx3))
   go_loopw [92,5] (fun i rp wr=>∃k p:Nat,k<=vls.length/\i=.int .i64 k/\rp=.int .i64 p/\∃R cs,Hid (DrT b w8.heap.size wd wr (.cells #[.int .u32 n,.slice (some ⟨w7.heap.size,0,none⟩) lf.length lf.length,.slice none 0 0,.int .u16 0] 131 (0,0)) 26 vls.length N xs0 p R cs (fun j u=>OptAt b wd (vls.getD j (true,[])) u) (.slice none 0 0) k/\R=(vls.drop k).flatMap (fun x=>valB x.1 x.2)++numB x 2/\∃cf,wr.heap[w7.heap.size]?=some (.cells cf 128 (0,0))/\∀j,j < lf.length->∃u,cf[j]?=some u/\u=.int .u16 (lf.getD j 0))) (fun i _ _=>vls.length - (intOf i).toNat)
   case atStart=>
    refine⟨0,p+2,Nat.zero_le _,rfl,by go_num,_,madeCells #[.slice none 0 0] vls.length,zh ⟨⟨?_,HP2.out,HX.out.trans (mkV_ext _ _).but,((mkV_ext _ _).block b (zl HBK.out)).trans HBK.out,heap_alloc_new _ _,size_madeCells _ _,HX.out.size,fun j hj=>absurd hj (Nat.not_lt_zero _),fun j _ hj=>by simp [madeCells,hj,Nat.mod_one]⟩,?_,_,((mkV_ext _ _).block _ HL78.out).trans HG8.out,HDN.out⟩⟩
    ·simp only [List.length_append,numB_len];have:=HPL.out;omega
    ·rw [HRV.out,List.drop_zero]
   case round=>
    clear HX HBK hz0 hy0 hz1 hy1 hz2 hy2 hz3 hy3 hsf hmk HG7 HG8
    obtain⟨k,p,hk1,rfl,rfl,R3,cs,HHR⟩:=hrel
    have HH:=zh HHR.out.1
    have hS0:=HHR.out.2.1
    obtain⟨cf,hcf,hcd⟩:=HHR.out.2.2
    have HCF:=zh hcf
    have HCD:=zh hcd
    clear HHR hcf hcd
    have hNp:N - p=R3.length:=by have:=HH.out.len;omega
    have hpN:p<=N:=by have:=HH.out.len;omega
    have HX:=zh HH.out.bel
    have HBK:=zh HH.out.blk
    by_cases hlt:k < vls.length
    ·obtain⟨y,hy⟩:∃y,y=vls[k]:=⟨_,rfl⟩
     have hxr:=HGV.out _ (List.getElem_mem hlt)
     rw [<-hy]at hxr
     have hgd:vls.getD k (true,[])=y:=by rw [hy];simp [List.getD,hlt]
     rw [List.drop_eq_getElem_cons hlt,List.flatMap_cons,<-hy,List.append_assoc]at hS0
     obtain⟨R5,hR5e⟩:∃R5,R5=(vls.drop (k+1)).flatMap (fun x=>valB x.1 x.2)++numB x 2:=⟨_,rfl⟩
     rw [<-hR5e]at hS0
     have HR5e:=zh hR5e
     obtain⟨Ae,ce,hse,hre⟩:=sl_at A N c p hpN hcap HCM.out
     have hhe:=hre b wd _ HV.out
     rw [HH.out.rest,hNp]at hhe
     rw [hNp]at hse
     have hcg0:=HH.out.arr
     have KEEP:Hid (∀(w3:World) (u:Value),Ext wr w3->(w3.setCell ⟨w8.heap.size,k,none⟩ u).heap[w7.heap.size]?=some (.cells cf 128 (0,0))):=zh (fun w3 u h3=>(heap_setCell_other _ _ _ _ (by have:=HL78.out;simp only [ne_eq];omega)).trans ((h3.block _ (zl HCF.out)).trans HCF.out))
     clear hcg0
     obtain⟨x1,x2⟩:=y
     cases x1 with
     | true=>
       have e1:valB (true,x2).1 (true,x2).2=numB 4294967295 4:=by simp only [valB,if_true];exact numB_mod4 (-1)
       rw [e1]at hS0
       rw [hS0]at hhe
       have HRe:=zh hhe
       have HR4:=zh hS0
       have h4:¬R3.length < 4:=by rw [hS0,List.length_append,numB_len];omega
       have hw:IntKind.i32.wrap 4294967295= -1:=by rw [IntKind.wrap_i32];rfl
       have HOA:Hid (OptAt b wd (vls.getD k (true,[])) (.slice none 0 0)):=zh (by rw [hgd];exact OptAt.nul)
       clear hS0 hy hxr hR5e e1 hgd hre hhe
       go_wp2_with (go_at_call 138;refine(rd32n 4294967295 (by decide) _ _ _ R5 _ (by have h9:=(HRe.out.at_ HX.out).1;rwa [<-HR4.out]at h9⊢)).mono ?_;rintro e w3 ⟨rfl,hx3⟩;have HX3:=zh hx3;have hg3:=(hx3.block _ (zl HH.out.arr)).trans HH.out.arr;have hcg:=zc hg3 k (.slice none 0 0) (HH.out.at_ (by omega));have hfg:=free_slot hg3 k;clear hx3 hg3)
       go_roundw
       case rel=>
        refine⟨k+1,p+4,by omega,by go_num,by go_num,R5,cs.setIfInBounds k (.slice none 0 0),zh ⟨?_,HR5e.out,cf,KEEP.out _ _ HX3.out,HCD.out⟩⟩
        exact(HH.out.skip HX3.out HR4.out (by rw [numB_len])).put HLT.out (by omega) HOA.out
       case measure=>simp only [intOf];omega
     | false=>
       have e1:valB (false,x2).1 (false,x2).2=numB (x2.length:Int) 4++x2:=by simp only [valB,Bool.false_eq_true,if_false]
       rw [e1,List.append_assoc]at hS0
       replace hxr:x2.length<=200:=hxr
       rw [hS0]at hhe
       have HRe:=zh hhe
       have HR4:=zh hS0
       have hl5:R3.length=4+(x2.length+R5.length):=by rw [hS0];simp only [List.length_append,numB_len]
       have h4:¬R3.length < 4:=by omega
       have hw:IntKind.i32.wrap (x2.length:Int)=(x2.length:Int):=by rw [IntKind.wrap_i32];omega
       have hm:((x2.length:Int) == -1)=false:=beq_eq_false_iff_ne.2 (by omega)
       have hm2:¬((x2.length:Int)= -1):=by omega
       have HK4:Hid (0<=(x2.length:Int)/\(x2.length:Int) < 4294967296):=zh (by omega)
       have HR5:=zh (show R3=(numB (x2.length:Int) 4++x2)++R5 by rw [hS0,List.append_assoc])
       obtain⟨Ag,cg,hsg,hrg⟩:=sl_at A N c (p+4) (by omega) hcap HCM.out
       rw [show N - (p+4)=x2.length+R5.length by omega]at hsg
       have h5n:¬((x2.length:Int)+(R5.length:Int) < (x2.length:Int)):=by omega
       obtain⟨qA,c7,hs7,hr7⟩:=sl_mids wd ⟨b1,o1,none⟩ N c (p+4) x2.length (by omega) hcap HCM.out
       rw [<-HA.out]at hs7 hr7
       have HOA:Hid (OptAt b wd (vls.getD k (true,[])) (.slice (some qA) x2.length c7)):=zh (by
        rw [hgd]
        refine OptAt.of ?_
        have h9:=hr7 b wd xs0 HV.out
        rwa [<-List.drop_drop,HH.out.rest,hS0,drop_numB,List.take_left]at h9)
       have hs77:=fun w=>hs7 ((p:Int)+4) ((p:Int)+4+(x2.length:Int)) w (by push_cast;rfl) (by push_cast;rfl)
       clear hS0 hy hR5e e1 hgd hre hhe hrg hr7 hs7 hl5
       go_wp2_with (go_at_call 138;refine(rd32n (x2.length:Int) HK4.out _ _ _ (x2++R5) _ (by have h9:=(HRe.out.at_ HX.out).1;rwa [<-HR4.out]at h9⊢)).mono ?_;rintro e w3 ⟨rfl,hx3⟩;have HX3:=zh hx3;have hg3:=(hx3.block _ (zl HH.out.arr)).trans HH.out.arr;have hcg:=zc hg3 k (.slice none 0 0) (HH.out.at_ (by omega));have hfg:=free_slot hg3 k;clear hx3 hg3)
       go_roundw
       case rel=>
        refine⟨k+1,p+(4+x2.length),by omega,by go_num,by go_num,R5,cs.setIfInBounds k (.slice (some qA) x2.length c7),zh ⟨?_,HR5e.out,cf,KEEP.out _ _ HX3.out,HCD.out⟩⟩
        exact(HH.out.skip HX3.out HR5.out (by rw [List.length_append,numB_len])).put HLT.out (by omega) HOA.out
       case measure=>simp only [intOf];omega
    ·obtain rfl:k=vls.length:=by omega
     rw [List.drop_length,List.flatMap_nil,List.nil_append]at hS0
     have hl3:R3.length=2:=by rw [hS0,numB_len]
     obtain⟨Ah,ch,hsh,hrh⟩:=sl_at A N c (p) (by omega) hcap HCM.out
     have hhh:=hrh b wd _ HV.out
     rw [HH.out.rest,hS0]at hhh
     have HRh:=zh hhh
     clear hrh hhh
     rw [show N - p=2 by omega]at hsh HRh
     have hb9:=HBK.out
     have hz2:=zc hb9 2 (.slice none 0 0) rfl
     have hy2:=free_slot hb9 2
     clear hS0 hl3 hb9
     rcases hx01 with rfl|rfl
     all_goals
      go_wp2_with (first|(go_at_call_of 137 Ah;refine(rd16n _ HXX.out _ _ _ ([]) _ (by rw [List.append_nil];exact(HRh.out.at_ (by exact(HX.out.set _ _))).1)).mono ?_;rintro e w9 ⟨rfl,hx3⟩;have HXn:Hid (ExtBut b wd w9):=zh ((show ExtBut b wd _ from(HX.out.set _ _)).trans hx3.but);have HBn:Hid (w9.heap[b]?=some (.cells #[.int .u32 n,.slice (some ⟨w7.heap.size,0,none⟩) lf.length lf.length,.slice (some ⟨w8.heap.size,0,none⟩) vls.length vls.length,.int .u16 0] 131 (0,0))):=zh ((hx3.block b (zl (slot_setCell HBK.out))).trans (slot_setCell HBK.out));clear HX HBK;have HX:=HXn;have HBK:=HBn;clear HXn HBn;(try clear hz0);(try clear hy0);have hz0:=zc HBK.out 0 _ rfl;have hy0:=free_slot HBK.out 0;(try clear hz1);(try clear hy1);have hz1:=zc HBK.out 1 _ rfl;have hy1:=free_slot HBK.out 1;(try clear hz2);(try clear hy2);have hz2:=zc HBK.out 2 _ rfl;have hy2:=free_slot HBK.out 2;(try clear hz3);(try clear hy3);have hz3:=zc HBK.out 3 _ rfl;have hy3:=free_slot HBK.out 3;have HX9:=zh hx3;clear hx3))
      go_ret
      have HG9:=zh ((HX9.out.block _ (by simpa [World.setCell]using zl HH.out.arr)).trans ((heap_setCell_other _ _ _ _ (by have:=HLT.out;have:=HH.out.lo;simp only [ne_eq];omega)).trans HH.out.arr))
      have HF9:=zh ((HX9.out.block _ (by simpa [World.setCell]using zl HCF.out)).trans ((heap_setCell_other _ _ _ _ (by have:=HLT.out;have:=HLO7.out;simp only [ne_eq];omega)).trans HCF.out))
      refine⟨rfl,HX.out.set _ _,_,_,_,_,slot_setCell HBK.out,?_,?_⟩
      ·exact rdi_arr ((heap_setCell_other _ _ _ _ (by have:=HLT.out;have:=HLO7.out;simp only [ne_eq];omega)).trans HF9.out) HCD.out (by omega)
      ·exact rd1_arr (m:=0) ((heap_setCell_other _ _ _ _ (by have:=HLT.out;have:=HH.out.lo;simp only [ne_eq];omega)).trans HG9.out) HH.out.done (HX.out.set _ _) (Nat.le_refl _) (by unfold maxLen;omega)
end Go.Proofs.YtdenjanihikolaaGreatDoor
