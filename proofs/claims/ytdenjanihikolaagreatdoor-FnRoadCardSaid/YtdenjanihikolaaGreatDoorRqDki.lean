/- Decode that can: RowDescription. -/
import Derived.Test.YtdenjanihikolaaGreatDoorRqA2
import Derived.Test.YtdenjanihikolaaGreatDoorRqA0
import Derived.Test.YtdenjanihikolaaGreatDoorRqA1
import Derived.Test.YtdenjanihikolaaGreatDoorRqDkg
import Derived.Test.YtdenjanihikolaaGreatDoorRqMkb
import Derived.Test.YtdenjanihikolaaGreatDoorRqTda
namespace Go.Proofs.YtdenjanihikolaaGreatDoor
set_option linter.unusedVariables false
set_option linter.unusedSimpArgs false
set_option maxRecDepth 100000
set_option maxHeartbeats 4000000
open Go.RowKit Og
structure RdE (b:Nat) (wd w:World) (v:Value) (k N:Nat) (ys:List Value) (xs:List Int) (p:Nat) (R T:List Int):Prop where
 len:N=p+R.length
 rest:xs.drop p=R
 pre:R=T
 bel:ExtBut b wd w
 blk:w.heap[b]?=some (.cells #[v] 236 (0,0))
 own:Own b wd w 249 7 v k ys
def FdAt (b:Nat) (wd:World) (x:Sf) (f:Nat->Value):Prop:=
 (∃A c,f 0=.slice A (sby x.name).length c/\RdN b wd (.slice A (sby x.name).length c) (sby x.name))/\f 1=.int .u32 x.tab/\f 2=.int .u16 x.col/\f 3=.int .u32 x.typ/\f 4=.int .i16 x.siz/\f 5=.int .i32 x.mdf/\f 6=.int .i16 x.fmt
theorem rdm_fd {b:Nat} {wd w:World} {v:Value} {l:List Sf} {ys:List Value} (ho:Own b wd w 249 7 v l.length ys)(he:Rws 7 (FdAt b wd) l ys)(hx:ExtBut b wd w):RdM 7 isFd w v (l.map toFd):=by
 have h1:w.ownsRow 0 249 7 v (l.map toFd).length ys:=by rw [List.length_map];exact ho.own
 refine rdm_of h1 ⟨by rw [List.length_map];exact he.1,fun j hj=>?_⟩
 have hj':j < l.length:=by simpa using hj
 obtain⟨f,hf,⟨A,c,h2,h3⟩,h4⟩:=he.2 j hj'
 refine⟨f,hf,?_⟩
 rw [List.getElem_map]
 exact⟨⟨A,c,h2,(h3.at_ hx).1⟩,h4⟩
theorem dek57 (l:List Sf)(hll:l.length<=20)(hlr:∀y∈l,plainP y.name/\y.name.size<=200/\0<=y.tab/\y.tab < 4294967296/\0<=y.typ/\y.typ < 4294967296/\0<=y.col/\y.col<=32767/\ -32768<=y.siz/\y.siz<=32767/\ -2147483648<=y.mdf/\y.mdf < 2147483648/\0<=y.fmt/\y.fmt<=1)(wd:World)(b:Nat)(v:Value)(hb:wd.heap[b]?=some (.cells #[.slice none 0 0] 236 (0,0)))(hv:RdB wd v (numB (l.length:Int) 2++l.flatMap sfB))(hl:(numB (l.length:Int) 2++l.flatMap sfB).length<=100000)(hof:v.ownBlock≠some b):
 Calls Tryz.prog 332 #[.pointer (some ⟨b,0,none⟩),v] wd (Deced b (fun b w2=>∃A c,w2.heap[b]?=some (.cells #[.slice A l.length c] 236 (0,0))/\RdM 7 isFd w2 (.slice A l.length c) (l.map toFd)) wd):=by
 obtain⟨R,hRR⟩:∃R,R=l.flatMap sfB:=⟨_,rfl⟩
 rw [<-hRR]at hv hl
 have HRR:=zh hRR
 clear hRR
 obtain⟨A,c,hvA⟩:=hv.len
 subst hvA
 have HV:Hid (RdN b wd (.slice A (numB (l.length:Int) 2++R).length c) (numB (l.length:Int) 2++R)):=zh ⟨hv,fun _=>hof⟩
 have HLT:=zh (zl hb)
 have HBK:=zh hb
 have HLR:=zh hlr
 have HX:Hid (ExtBut b wd wd):=zh (Ext.refl wd).but
 clear hof hb hlr
 obtain⟨N,hN⟩:∃m,m=(numB (l.length:Int) 2++R).length:=⟨_,rfl⟩
 have HN2:Hid (N=2+R.length):=zh (by rw [hN];simp only [List.length_append,numB_len])
 have hN2:2<=N:=by rw [HN2.out];omega
 have hcap:=hv.parts.2.1
 have HCM:=zh hv.parts.2.2
 rw [<-hN]at hcap HV hl
 rw [<-hN]
 have HNL:Hid (0<=(l.length:Int)/\(l.length:Int) < 65536):=zh (by omega)
 obtain⟨xs0,hxs0⟩:∃y,y=numB (l.length:Int) 2++R:=⟨_,rfl⟩
 have HXS:=zh hxs0.symm
 rw [<-hxs0]at HV
 clear hv hN hxs0
 go_enter Tryz.func332,Tryz.ntmps332
 go_wp2_with (first|(go_at_call 137;refine(rd16n (l.length:Int) HNL.out _ _ _ R _ (by rw [HXS.out];exact(HV.out.at_ HX.out).1)).mono ?_;rintro e w2 ⟨rfl,hx2⟩;have HX2:=zh (HX.out.trans hx2.but);clear HX;have HX:=HX2;clear HX2;have hbk:=(hx2.block b HLT.out).trans HBK.out;clear HBK;have HBK:=zh hbk;have hck0:=zc hbk 0 _ rfl;have hfk0:=free_slot hbk 0;clear hbk hx2))
 go_loopw [27,6] (fun i rp wr=>∃k p:Nat,k<=l.length/\i=.int .i64 k/\rp=.int .i64 p/\∃v ys R,Hid (RdE b wd wr v k N ys xs0 p R ((l.drop k).flatMap sfB)/\Rws 7 (FdAt b wd) (l.take k) ys)) (fun i _ _=>l.length - (intOf i).toNat)
 case atStart=>
  refine⟨0,2,Nat.zero_le _,rfl,rfl,.slice none 0 0,[],R,zh ⟨?_,Rws.nil _ _⟩⟩
  exact⟨by rw [HN2.out],by rw [<-HXS.out];exact List.drop_left' (by rw [numB_len]),HRR.out,HX.out.set 0 _,slot_setCell HBK.out,⟨World.ownsRow_nil _ _ _ _,nofun⟩⟩
 case round=>
  clear HX HBK hck0 hfk0 HNL
  obtain⟨k,p,hk1,rfl,rfl,v,ys,R3,HHE⟩:=hrel
  have HH:=zh HHE.out.1
  have HE7:=zh HHE.out.2
  clear HHE
  obtain⟨Av,cv,hv⟩:=own_slice HH.out.own.own
  subst hv
  by_cases hlt:k < l.length
  ·obtain⟨x,hx⟩:∃x,x=l[k]:=⟨_,rfl⟩
   have hxr:=HLR.out _ (List.getElem_mem hlt)
   rw [<-hx]at hxr
   have HTK:Hid (l.take (k+1)=l.take k++ [x]):=zh (by rw [List.take_succ_eq_append_getElem hlt,<-hx])
   have hS0:=HH.out.pre
   rw [List.drop_eq_getElem_cons hlt,List.flatMap_cons,<-hx,sfB_parts]at hS0
   have hNp:N - p=R3.length:=by have:=HH.out.len;omega
   have hpN:p<=N:=by have:=HH.out.len;omega
   have HX:=zh HH.out.bel
   have HPOS:=zh (plain_pos hxr.1)
   obtain⟨A4,c4,hsl,hsr⟩:=sl_at A N c p hpN hcap HCM.out
   have HD:Hid (RdN b wd (.slice A4 R3.length c4) R3):=zh (by
    have h9:=hsr b wd xs0 HV.out
    rwa [HH.out.rest,hNp]at h9)
   have HXA:Hid (ExtBut b wd (wr.alloc (.cells #[.slice none 0 0,.int .u32 0,.int .u16 0,.int .u32 0,.int .i16 0,.int .i32 0,.int .i16 0] 249))):=zh (HX.out.trans (ext_alloc _ _).but)
   rw [hNp]at hsl
   clear hsr
   obtain⟨R5,hS5⟩:∃R5,R5=(l.drop (k+1)).flatMap sfB:=⟨_,rfl⟩
   rw [<-hS5]at hS0
   obtain⟨R4,hR5⟩:∃R4,R4=(numB x.tab 4++(numB x.col 2++(numB x.typ 4++(numB x.siz 2++(numB x.mdf 4++numB x.fmt 2)))))++R5:=⟨_,rfl⟩
   rw [<-hR5]at hS0
   have hR4:=hS0
   have hS4:True:=trivial
   have HD4:Hid (RdN b wd (.slice A4 R3.length c4) (sby x.name++0 :: R4)):=zh (by rw [<-hR4];exact HD.out)
   have hl3:R3.length=(sby x.name).length+1+R4.length:=by rw [hR4];simp only [List.length_append,List.length_cons];omega
   have hla:(sby x.name).length<=200:=by rw [sby_length];exact hxr.1.1
   obtain⟨A5,c5,hsm,hsn⟩:=sl_midr A N c p (sby x.name).length (by omega) hcap HCM.out
   have HNM:Hid (RdN b wd (.slice A5 (sby x.name).length c5) (sby x.name)):=zh (by
    have h9:=hsn b wd xs0 HV.out
    rwa [HH.out.rest,hR4,List.take_left]at h9)
   clear hsn
   obtain⟨A6,c6,hs6,hr6⟩:=sl_at A N c (p+((sby x.name).length+1)) (by omega) hcap HCM.out
   have hN6:N - (p+((sby x.name).length+1))=R4.length:=by omega
   rw [hN6]at hs6
   have hl4:R4.length=18+R5.length:=by rw [hR5];simp only [List.length_append,numB_len]
   have h18:¬R4.length < 18:=by omega
   obtain⟨m4,hm4⟩:∃m,m=x.siz % 65536:=⟨_,rfl⟩
   obtain⟨m5,hm5⟩:∃m,m=x.mdf % 4294967296:=⟨_,rfl⟩
   obtain⟨m6,hm6⟩:∃m,m=x.fmt % 65536:=⟨_,rfl⟩
   rw [numB_mod2 x.siz,numB_mod4 x.mdf,numB_mod2 x.fmt,<-hm4,<-hm5,<-hm6]at hR5
   have ht0:xs0.drop (p+((sby x.name).length+1))=numB x.tab 4++(numB x.col 2++(numB x.typ 4++(numB m4 2++(numB m5 4++(numB m6 2++(R5)))))):=by
    have h9:=drop_step (B:=sby x.name++ [0]) (T:=R4) (a:=p) (m:=(sby x.name).length+1) (by rw [HH.out.rest,hR4];simp) (by simp)
    rw [h9,hR5];simp only [List.append_assoc]
   have ht1:xs0.drop (p+((sby x.name).length+1)+4)=numB x.col 2++(numB x.typ 4++(numB m4 2++(numB m5 4++(numB m6 2++(R5))))):=by
    have h9:=drop_step ht0 (m:=4) (by rw [numB_len])
    exact h9
   have ht2:xs0.drop (p+((sby x.name).length+1)+4+2)=numB x.typ 4++(numB m4 2++(numB m5 4++(numB m6 2++(R5)))):=by
    have h9:=drop_step ht1 (m:=2) (by rw [numB_len])
    exact h9
   have ht3:xs0.drop (p+((sby x.name).length+1)+4+2+4)=numB m4 2++(numB m5 4++(numB m6 2++(R5))):=by
    have h9:=drop_step ht2 (m:=4) (by rw [numB_len])
    exact h9
   have ht4:xs0.drop (p+((sby x.name).length+1)+4+2+4+2)=numB m5 4++(numB m6 2++(R5)):=by
    have h9:=drop_step ht3 (m:=2) (by rw [numB_len])
    exact h9
   have ht5:xs0.drop (p+((sby x.name).length+1)+4+2+4+2+4)=numB m6 2++(R5):=by
    have h9:=drop_step ht4 (m:=4) (by rw [numB_len])
    exact h9
   have ht6:xs0.drop (p+((sby x.name).length+1)+4+2+4+2+4+2)=R5:=by
    have h9:=drop_step ht5 (m:=2) (by rw [numB_len])
    exact h9
   have HQ0:Hid (∀w,ExtBut b wd w->RdB w (.slice A6 R4.length c6) (numB x.tab 4++(numB x.col 2++(numB x.typ 4++(numB m4 2++(numB m5 4++(numB m6 2++(R5)))))))):=zh (fun w hw=>by have h9:=(hr6 b wd xs0 HV.out).at_ hw;rw [ht0,hN6]at h9;exact h9.1)
   obtain⟨B1,d1,hs1,hr1⟩:=sl_at A N c (p+((sby x.name).length+1)+4) (by omega) hcap HCM.out
   have HQ1:Hid (∀w,ExtBut b wd w->RdB w (.slice B1 (N - (p+((sby x.name).length+1)+4)) d1) (numB x.col 2++(numB x.typ 4++(numB m4 2++(numB m5 4++(numB m6 2++(R5))))))):=zh (fun w hw=>by have h9:=(hr1 b wd xs0 HV.out).at_ hw;rw [ht1]at h9;exact h9.1)
   obtain⟨B2,d2,hs2,hr2⟩:=sl_at A N c (p+((sby x.name).length+1)+4+2) (by omega) hcap HCM.out
   have HQ2:Hid (∀w,ExtBut b wd w->RdB w (.slice B2 (N - (p+((sby x.name).length+1)+4+2)) d2) (numB x.typ 4++(numB m4 2++(numB m5 4++(numB m6 2++(R5)))))):=zh (fun w hw=>by have h9:=(hr2 b wd xs0 HV.out).at_ hw;rw [ht2]at h9;exact h9.1)
   obtain⟨B3,d3,hs3,hr3⟩:=sl_at A N c (p+((sby x.name).length+1)+4+2+4) (by omega) hcap HCM.out
   have HQ3:Hid (∀w,ExtBut b wd w->RdB w (.slice B3 (N - (p+((sby x.name).length+1)+4+2+4)) d3) (numB m4 2++(numB m5 4++(numB m6 2++(R5))))):=zh (fun w hw=>by have h9:=(hr3 b wd xs0 HV.out).at_ hw;rw [ht3]at h9;exact h9.1)
   obtain⟨B4,d4,hs4,hr4⟩:=sl_at A N c (p+((sby x.name).length+1)+4+2+4+2) (by omega) hcap HCM.out
   have HQ4:Hid (∀w,ExtBut b wd w->RdB w (.slice B4 (N - (p+((sby x.name).length+1)+4+2+4+2)) d4) (numB m5 4++(numB m6 2++(R5)))):=zh (fun w hw=>by have h9:=(hr4 b wd xs0 HV.out).at_ hw;rw [ht4]at h9;exact h9.1)
   obtain⟨B5,d5,hs5,hr5⟩:=sl_at A N c (p+((sby x.name).length+1)+4+2+4+2+4) (by omega) hcap HCM.out
   have HQ5:Hid (∀w,ExtBut b wd w->RdB w (.slice B5 (N - (p+((sby x.name).length+1)+4+2+4+2+4)) d5) (numB m6 2++(R5))):=zh (fun w hw=>by have h9:=(hr5 b wd xs0 HV.out).at_ hw;rw [ht5]at h9;exact h9.1)
   have HK0:Hid (0<=x.tab/\x.tab < 4294967296):=zh (by omega)
   have HK1:Hid (0<=x.col/\x.col < 65536):=zh (by omega)
   have HK2:Hid (0<=x.typ/\x.typ < 4294967296):=zh (by omega)
   have HK3:Hid (0<=m4/\m4 < 65536):=zh (by omega)
   have HK4:Hid (0<=m5/\m5 < 4294967296):=zh (by omega)
   have HK5:Hid (0<=m6/\m6 < 65536):=zh (by omega)
   have hw4:IntKind.i16.wrap m4=x.siz:=by rw [wrapI16];omega
   have hw5:IntKind.i32.wrap m5=x.mdf:=by rw [IntKind.wrap_i32];omega
   have hw6:IntKind.i16.wrap m6=x.fmt:=by rw [wrapI16];omega
   have hl5:N=p+((sby x.name).length+1)+4+2+4+2+4+2+R5.length:=by have:=HH.out.len;omega
   have HL5:=zh hl5
   have HT6:=zh ht6
   have HX0:=zh hx
   have HS5:=zh hS5
   have HFS:Hid (Fst b wr.heap.size wd (wr.alloc (.cells #[.slice A5 (sby x.name).length c5,.int .u32 0,.int .u16 0,.int .u32 0,.int .i16 0,.int .i32 0,.int .i16 0] 249)) (.slice Av k cv) k ys #[.slice A5 (sby x.name).length c5,.int .u32 0,.int .u16 0,.int .u32 0,.int .i16 0,.int .i32 0,.int .i16 0]):=zh (by
    have h9:=ext_alloc wr (.cells #[.slice A5 (sby x.name).length c5,.int .u32 0,.int .u16 0,.int .u32 0,.int .i16 0,.int .i32 0,.int .i16 0] 249)
    exact⟨HX.out.trans h9.but,(h9.block b (zl HH.out.blk)).trans HH.out.blk,heap_alloc_new _ _,⟨ownsRow_ext HH.out.own.own h9,fun g hg=>⟨(HH.out.own.off g hg).1,by have:=(HH.out.own.own.lt g hg).2;omega⟩⟩,HX.out.size,HLT.out⟩)
   clear hS0 hx hxr hS4 hS5 hr6 hl3 hl4 hR4 hR5 hl5 ht6 hm4 hm5 hm6 ht0 ht1 hr1 ht2 hr2 ht3 hr3 ht4 hr4 ht5 hr5
   go_wp2_with (first|(go_at_call 136;refine(idx_found _ _ _ _ _ _ (HD4.out.at_ HXA.out).1 HPOS.out).mono ?_;rintro e w3 ⟨rfl,hw3⟩;rw [hw3];clear hw3)|(go_at_call_of 138 A6;refine(rd32n x.tab HK0.out _ _ _ (numB x.col 2++(numB x.typ 4++(numB m4 2++(numB m5 4++(numB m6 2++(R5)))))) _ (HQ0.out _ (by first|exact HFS.out.bel|exact(HFS.out.set _ _).bel))).mono ?_;rintro e w3 ⟨rfl,hx3⟩;(first|have HFn:=zh (HFS.out.ext hx3)|have HFn:=zh ((HFS.out.set _ _).ext hx3));clear HFS;have HFS:=HFn;clear HFn hx3;(try clear hfc hfz);have hfc:=zc HFS.out.fd 1 _ rfl;have hfz:=free_slot HFS.out.fd 1)|(go_at_call_of 137 B1;refine(rd16n x.col HK1.out _ _ _ (numB x.typ 4++(numB m4 2++(numB m5 4++(numB m6 2++(R5))))) _ (HQ1.out _ (by first|exact HFS.out.bel|exact(HFS.out.set _ _).bel))).mono ?_;rintro e w3 ⟨rfl,hx3⟩;(first|have HFn:=zh (HFS.out.ext hx3)|have HFn:=zh ((HFS.out.set _ _).ext hx3));clear HFS;have HFS:=HFn;clear HFn hx3;(try clear hfc hfz);have hfc:=zc HFS.out.fd 2 _ rfl;have hfz:=free_slot HFS.out.fd 2)|(go_at_call_of 138 B2;refine(rd32n x.typ HK2.out _ _ _ (numB m4 2++(numB m5 4++(numB m6 2++(R5)))) _ (HQ2.out _ (by first|exact HFS.out.bel|exact(HFS.out.set _ _).bel))).mono ?_;rintro e w3 ⟨rfl,hx3⟩;(first|have HFn:=zh (HFS.out.ext hx3)|have HFn:=zh ((HFS.out.set _ _).ext hx3));clear HFS;have HFS:=HFn;clear HFn hx3;(try clear hfc hfz);have hfc:=zc HFS.out.fd 3 _ rfl;have hfz:=free_slot HFS.out.fd 3)|(go_at_call_of 137 B3;refine(rd16n m4 HK3.out _ _ _ (numB m5 4++(numB m6 2++(R5))) _ (HQ3.out _ (by first|exact HFS.out.bel|exact(HFS.out.set _ _).bel))).mono ?_;rintro e w3 ⟨rfl,hx3⟩;(first|have HFn:=zh (HFS.out.ext hx3)|have HFn:=zh ((HFS.out.set _ _).ext hx3));clear HFS;have HFS:=HFn;clear HFn hx3;(try clear hfc hfz);have hfc:=zc HFS.out.fd 4 _ rfl;have hfz:=free_slot HFS.out.fd 4)|(go_at_call_of 138 B4;refine(rd32n m5 HK4.out _ _ _ (numB m6 2++(R5)) _ (HQ4.out _ (by first|exact HFS.out.bel|exact(HFS.out.set _ _).bel))).mono ?_;rintro e w3 ⟨rfl,hx3⟩;(first|have HFn:=zh (HFS.out.ext hx3)|have HFn:=zh ((HFS.out.set _ _).ext hx3));clear HFS;have HFS:=HFn;clear HFn hx3;(try clear hfc hfz);have hfc:=zc HFS.out.fd 5 _ rfl;have hfz:=free_slot HFS.out.fd 5)|(go_at_call_of 137 B5;refine(rd16n m6 HK5.out _ _ _ (R5) _ (HQ5.out _ (by first|exact HFS.out.bel|exact(HFS.out.set _ _).bel))).mono ?_;rintro e w3 ⟨rfl,hx3⟩;(first|have HFn:=zh (HFS.out.ext hx3)|have HFn:=zh ((HFS.out.set _ _).ext hx3));clear HFS;have HFS:=HFn;clear HFn hx3;(try clear hfc hfz);have hfc:=zc HFS.out.fd 6 _ rfl;have hfz:=free_slot HFS.out.fd 6))
   have HF0:Hid (Fst b wr.heap.size wd (w3.setCell ⟨wr.heap.size,6,none⟩ (.int .i16 x.fmt)) (.slice Av k cv) k ys #[.slice A5 (sby x.name).length c5,.int .u32 x.tab,.int .u16 x.col,.int .u32 x.typ,.int .i16 x.siz,.int .i32 x.mdf,.int .i16 x.fmt]):=zh (HFS.out.set 6 (.int .i16 x.fmt))
   refine wp_region_ogL (J:=RJ b wr.heap.size wd (w3.setCell ⟨wr.heap.size,6,none⟩ (.int .i16 x.fmt)) (.slice Av k cv) k ys #[.slice A5 (sby x.name).length c5,.int .u32 x.tab,.int .u16 x.col,.int .u32 x.typ,.int .i16 x.siz,.int .i32 x.mdf,.int .i16 x.fmt]) (R:=fun _ _=>True) [Sp.eq _ (.pointer (some ⟨b,0,none⟩)),Sp.eq _ (.pointer (some ⟨b,0,none⟩)),Sp.eq _ (.pointer (some ⟨b,0,none⟩)),Sp.eq _ (.pointer (some ⟨b,0,none⟩)),Sp.eq _ (.slice Av k cv),Sp.eq _ (.agg #[.slice A5 (sby x.name).length c5,.int .u32 x.tab,.int .u16 x.col,.int .u32 x.typ,.int .i16 x.siz,.int .i32 x.mdf,.int .i16 x.fmt]),Sp.any _,Sp.any _,Sp.eq _ (.pointer (some ⟨b,0,none⟩)),Sp.eq _ (.pointer (some ⟨b,0,none⟩)),Sp.any _] (by kernel_rfl) (by kernel_rfl) ?_ ?_ ?_
   ·exact RJ.start HF0.out
   ·refine⟨zu,zu,zu,zu,?_,?_,?_,?_,zu,zu,?_,trivial⟩
    ·intro vs w1 L hLi hd hdt hJ hp
     have q3:vs 3=_:=zd hp 3
     have HJ:=zh hJ
     have hq:=zc (hJ.F (zd hdt 10)) 0 (.slice Av k cv) rfl
     clear hp hd hdt hLi hJ
     simp only [putAll,Nat.reduceAdd]
     go_wp2
     exact⟨rfl,HJ.out.keep 4 _ (by decide) (by decide) (by decide),trivial,rfl⟩
    ·intro vs w1 L hLi hd hdt hJ hp
     have HJ:=zh hJ
     have hf9:=((hJ.A (zd hdt 6)).block _ (zl HF0.out.fd)).trans HF0.out.fd
     have hq0':=zc hf9 0 (.slice A5 (sby x.name).length c5) rfl
     have hq1':=zc hf9 1 (.int .u32 x.tab) rfl
     have hq2':=zc hf9 2 (.int .u16 x.col) rfl
     have hq3':=zc hf9 3 (.int .u32 x.typ) rfl
     have hq4':=zc hf9 4 (.int .i16 x.siz) rfl
     have hq5':=zc hf9 5 (.int .i32 x.mdf) rfl
     have hq6':=zc hf9 6 (.int .i16 x.fmt) rfl
     clear hf9
     clear hp hd hdt hLi hJ
     simp only [putAll,Nat.reduceAdd]
     go_wp2
     exact⟨rfl,HJ.out.keep 5 _ (by decide) (by decide) (by decide),trivial,rfl⟩
    ·intro vs w1 L hLi hd hdt hJ hp
     have q5:vs 5=_:=zd hp 5
     have H7:=zh (zd hdt 7)
     have HJ:=zh hJ
     clear hp hd hdt hLi hJ
     simp only [putAll,Nat.reduceAdd]
     go_wp2
     refine⟨rfl,?_,trivial,trivial⟩
     exact HJ.out.step6 H7.out
    ·intro vs w1 L hLi hd hdt hJ hp
     have q4:vs 4=_:=zd hp 4
     have h6:=zd hd 6
     have H6:=zh h6
     have HLi:=zh hLi
     have HD9:=zh (hJ.D h6 hLi)
     have HR9:=zh (hJ.C hLi).row
     have HJ:=zh hJ
     clear h6
     clear hp hd hdt hLi hJ
     simp only [putAll,Nat.reduceAdd]
     refine ap_one rfl (.tmp 106) (.tmp 108) 234 249 7 48 _ rfl Tryz.underlying234 info249 rfl (by decide) (v:=.slice Av k cv) (b:=slB (vs 6)) (c:=1) (ys:=(#[.slice A5 (sby x.name).length c5,.int .u32 x.tab,.int .u16 x.col,.int .u32 x.typ,.int .i16 x.siz,.int .i32 x.mdf,.int .i16 x.fmt]:Array Value).toList) (by simp only [evp_none,ne_eq,Nat.reduceEqDiff,not_false_eq_true,evp_ne];rw [evp_same _ _ _ (by simp [evp_size])];exact q4) HR9.out (by simp only [evp_none,ne_eq,Nat.reduceEqDiff,not_false_eq_true,evp_ne];rw [evp_same _ _ _ (by simp [evp_size])];exact HD9.out.1) rfl (fun j u hj=>(cell_of_row _ _ _ _ _ _ HD9.out.2).trans (by rw [<-Array.getElem?_toList];exact hj)) (List.all_eq_true.1 rfl) (by omega) (by decide) ?_
     intro v2 w2' hn
     refine⟨rfl,?_,trivial,trivial⟩
     rw [slot_put _ _ _ (by simp [evp_size])]
     exact HJ.out.step7 HLT.out HF0.out.lo H6.out HLi.out _ hn
    ·intro vs w1 L hLi hd hdt hJ hp
     have q0:vs 0=_:=zd hp 0
     have q1:vs 1=_:=zd hp 1
     have q2:vs 2=_:=zd hp 2
     have q3:vs 3=_:=zd hp 3
     have q4:vs 4=_:=zd hp 4
     have q5:vs 5=_:=zd hp 5
     have q9:vs 9=_:=zd hp 9
     have h7:=zd hd 7
     have H7:=zh h7
     have HLi:=zh hLi
     have hF:=hJ.F hLi
     have hc1:=zc hF 0 _ rfl
     have hf1:=free_slot hF 0
     obtain⟨A9,c9,hv9⟩:=own_slice (hJ.E h7).own
     have HV9:=zh hv9
     have HJ:=zh hJ
     clear h7 hF hv9
     clear hp hd hdt hLi hJ
     simp only [putAll,Nat.reduceAdd]
     rw [HV9.out]
     go_wp2
     refine⟨rfl,?_,trivial,trivial⟩
     exact HJ.out.step10 HLT.out H7.out HLi.out _ _ HV9.out
   ·intro vs w1 L hall hJ hp
    have q0:vs 0=_:=zd hp 0
    have q1:vs 1=_:=zd hp 1
    have q2:vs 2=_:=zd hp 2
    have q3:vs 3=_:=zd hp 3
    have q4:vs 4=_:=zd hp 4
    have q5:vs 5=_:=zd hp 5
    have q8:vs 8=_:=zd hp 8
    have q9:vs 9=_:=zd hp 9
    have HFI:=zh (And.intro hJ.X (And.intro (hJ.E (zd hall 7)) (hJ.G (zd hall 10))))
    clear hJ hp hall
    simp only [putAll,Nat.reduceAdd]
    clear q0 q1 q2 q3 q4 q5 q8 q9
    simp only [Exit.inBlock,Exit.then]
    try go_at_K
    simp only [Act.put,List.setIfInBounds_toArray,List.set_cons_zero,List.set_cons_succ]
    go_wp2
    go_roundw
    case rel=>
     refine⟨k+1,p+((sby x.name).length+1)+4+2+4+2+4+2,by omega,by go_num,by go_num,vs 7,ys++(#[.slice A5 (sby x.name).length c5,.int .u32 x.tab,.int .u16 x.col,.int .u32 x.typ,.int .i16 x.siz,.int .i32 x.mdf,.int .i16 x.fmt]:Array Value).toList,R5,zh ?_⟩
     refine⟨⟨HL5.out,HT6.out,HS5.out,HFI.out.1,HFI.out.2.2,⟨HFI.out.2.1.own,fun g hg=>⟨(HFI.out.2.1.off g hg).1,by have:=(HFI.out.2.1.off g hg).1;have:=HLT.out;omega⟩⟩⟩,?_⟩
     rw [HTK.out]
     exact(HE7.out.snoc (f:=fun q=>(#[.slice A5 (sby x.name).length c5,.int .u32 x.tab,.int .u16 x.col,.int .u32 x.typ,.int .i16 x.siz,.int .i32 x.mdf,.int .i16 x.fmt]:Array Value).toList.getD q undef) rfl (fun q hq=>by match q,hq with|0,_=>rfl|1,_=>rfl|2,_=>rfl|3,_=>rfl|4,_=>rfl|5,_=>rfl|6,_=>rfl) ⟨⟨A5,c5,rfl,HNM.out⟩,rfl,rfl,rfl,rfl,rfl,rfl⟩)
    case measure=>simp only [intOf];omega
  ·obtain rfl:k=l.length:=by omega
   have HE8:=HE7.out
   rw [List.take_length]at HE8
   have HE9:=zh HE8
   clear HE8
   go_wp2
   go_ret
   exact⟨rfl,HH.out.bel,_,_,HH.out.blk,rdm_fd HH.out.own HE9.out HH.out.bel⟩
end Go.Proofs.YtdenjanihikolaaGreatDoor
