/- Decode that can: Parse. -/
import Derived.Test.YtdenjanihikolaaGreatDoorRqA2
import Derived.Test.YtdenjanihikolaaGreatDoorRqA0
import Derived.Test.YtdenjanihikolaaGreatDoorRqA1
import Derived.Test.YtdenjanihikolaaGreatDoorRqDkc
import Derived.Test.YtdenjanihikolaaGreatDoorRqPpc
namespace Go.Proofs.YtdenjanihikolaaGreatDoor
set_option linter.unusedVariables false
set_option linter.unusedSimpArgs false
set_option maxRecDepth 100000
set_option maxHeartbeats 4000000
open Go.RowKit Og
structure QJ (b bb g k:Nat) (w1 W:World) (x:Int) (T2:List Int) (L:Nat->Bool) (vs:Nat->Value) (w:World):Prop where
 ext:L 6=false->L 9=false->Ext W w
 cur:L 6=true->L 9=false->Cur b w1 bb w T2
 bel:L 9=false->ExtBut bb W w
 rd:L 6=true->vs 6=.slice (slA (vs 6)) 4 (slC (vs 6))/\RdN b w1 (vs 6) (numB x 4)
 fin:L 9=true->∃wz,Cur b w1 bb wz T2/\ExtBut bb W wz/\w=wz.setCell ⟨g,k,none⟩ (.int .u32 x)
section
variable {b bb g k : Nat} {w1 W w w2 : World} {x : Int} {T2 : List Int} {L : Nat → Bool} {vs : Nat → Value}
theorem QJ.start:QJ b bb g k w1 W x T2 (fun _=>false) vs W.drew:=
 ⟨fun _ _=>(Ext.refl W).drew,(nofun),fun _=>(Ext.refl W).drew.but,(nofun),(nofun)⟩
theorem QJ.keep (h:QJ b bb g k w1 W x T2 L vs w)(hx:Ext w w2)(i:Nat)(u:Value)(h6:6≠i)(h9:9≠i)(hL:L 9=false):QJ b bb g k w1 W x T2 (updB L i) (upd vs i u) w2:=by
 have e6:updB L i 6=L 6:=by simp [updB,h6]
 have e9:updB L i 9=L 9:=by simp [updB,h9]
 have v6:upd vs i u 6=vs 6:=by simp [upd,h6]
 refine⟨fun a c=>?_,fun a c=>?_,fun c=>?_,fun a=>?_,fun c=>?_⟩
 ·rw [e6]at a;rw [e9]at c;exact(h.ext a c).trans hx
 ·rw [e6]at a;rw [e9]at c;exact(h.cur a c).ext hx
 ·rw [e9]at c;exact(h.bel c).trans hx.but
 ·rw [e6]at a;rw [v6];exact h.rd a
 ·rw [e9,hL]at c;cases c
theorem QJ.step6 (h:QJ b bb g k w1 W x T2 L vs w)(h6:L 6=false)(h9:L 9=false) {A:Option Addr} {c:Nat} (hc:Cur b w1 bb w2 T2)(hx:ExtBut bb w w2)(hr:RdN b w1 (.slice A 4 c) (numB x 4)):QJ b bb g k w1 W x T2 (updB L 6) (upd vs 6 (.slice A 4 c)) w2:=by
 have e9:updB L 6 9=L 9:=by simp [updB]
 refine⟨fun a _=>?_,fun _ _=>hc,fun c=>(h.bel h9).trans hx,fun _=>?_,fun c=>?_⟩
 ·simp [updB]at a
 ·simp only [upd,if_true];exact⟨rfl,hr⟩
 ·rw [e9,h9]at c;cases c
theorem QJ.step9 (h:QJ b bb g k w1 W x T2 L vs w)(h6:L 6=true)(h9:L 9=false)(u:Value):QJ b bb g k w1 W x T2 (updB L 9) (upd vs 9 u) (w.setCell ⟨g,k,none⟩ (.int .u32 x)):=by
 have e6:updB L 9 6=L 6:=by simp [updB]
 have e9:updB L 9 9=true:=by simp [updB]
 refine⟨fun a c=>?_,fun a c=>?_,fun c=>?_,fun a=>?_,fun _=>⟨w,h.cur h6 h9,h.bel h9,rfl⟩⟩
 ·rw [e9]at c;cases c
 ·rw [e9]at c;cases c
 ·rw [e9]at c;cases c
 ·simp only [upd];exact h.rd h6
end
theorem dek52 (ty:List Int)(hll:ty.length<=20)(hgl:∀y∈ty,0<=y/\y < 4294967296)(wd:World)(b:Nat)(v:Value)(hb:wd.heap[b]?=some (.cells #[.slice none 0 0] 227 (0,0)))(hv:RdB wd v (numB (ty.length:Int) 2++ty.flatMap fun n=>numB n 4))(hl:(numB (ty.length:Int) 2++ty.flatMap fun n=>numB n 4).length<=100000)(hof:v.ownBlock≠some b):
 Calls Tryz.prog 323 #[.pointer (some ⟨b,0,none⟩),v] wd (Deced b (fun b w2=>∃A c,w2.heap[b]?=some (.cells #[.slice A ty.length c] 227 (0,0))/\RdI .u32 w2 (.slice A ty.length c) ty) wd):=by
 have HV:Hid (RdN b wd v (numB (ty.length:Int) 2++ty.flatMap fun n=>numB n 4)):=zh ⟨hv,fun _=>hof⟩
 have HBK:=zh hb
 have HLT:=zh (zl hb)
 clear hv hof hb
 obtain⟨R2,hR2⟩:∃R2,R2=ty.flatMap fun n=>numB n 4:=⟨_,rfl⟩
 have h2:R2.length=ty.length * 4:=by rw [hR2];exact nums_len4 ty
 rw [<-hR2]at HV hl
 have HR2:=zh hR2
 have HGL:=zh hgl
 have HBB:Hid (b < wd.heap.size):=HLT
 have hln:(numB (ty.length:Int) 2++R2).length=2+R2.length:=by simp only [List.length_append,numB_len]
 have hmk:=mkQ_run ty.length (by omega)
 have hlt3:¬((2:Int)+(R2.length:Int) < 2):=by omega
 have hqq:((ty.length:Int) * 4).tdiv 4=(ty.length:Int):=Int.mul_tdiv_cancel _ (by decide)
 clear hR2 hgl
 go_enter Tryz.func323,Tryz.ntmps323
 go_wp2_with (first|(go_at_call 165;refine(cur_new (bk:=b) (w1:=wd) HV.out HLT.out (Ext.refl wd).but).mono ?_;rintro e w2 ⟨rfl,hcu,hx⟩;have HC:=zh hcu;(first|have hbk:=upbe3 hx HLT.out HBK.out|have hbk:=upbe1 hx HLT.out HBK.out|have hbk:=upbe hx HLT.out HBK.out);(try simp only [List.setIfInBounds_toArray,List.set_cons_zero,List.set_cons_succ]at hbk);clear HBK;have HBK:=zh hbk;(try clear hz0);(try clear hy0);have hz0:=zc hbk 0 _ rfl;have hy0:=free_slot hbk 0;clear hbk;clear hcu hx)|(go_at_call 167;refine(cur_len (by first|exact HC.out|exact HC.out.but (zr.but.set _ _))).mono ?_;rintro e w4 ⟨rfl,hw4⟩;rw [hw4];clear hw4)|(go_at_call 168;refine(cur_piece (by first|exact HC.out|exact HC.out.but (zr.but.set _ _)) _ (by first|(rw [numB_len];rfl)|rfl)).mono ?_;rintro e w6 ⟨A5,c5,rfl,hrn,hcu,hx5⟩;(try clear HN);clear HC;have HC:=zh hcu;have HN:=zh hrn;simp only [Int.reduceToNat];(first|have hbk:=upb3 hx5 HLT.out HBK.out|have hbk:=upb1 hx5 HLT.out HBK.out|have hbk:=upb hx5 HLT.out HBK.out);(try simp only [List.setIfInBounds_toArray,List.set_cons_zero,List.set_cons_succ]at hbk);clear HBK;have HBK:=zh hbk;(try clear hz0);(try clear hy0);have hz0:=zc hbk 0 _ rfl;have hy0:=free_slot hbk 0;clear hbk;have hb8:=((mkQ_ext ty.length w6).block b (zl HBK.out)).trans HBK.out;have hz8:=zc hb8 0 (.slice none 0 0) rfl;have hy8:=free_slot hb8 0;clear hb8;clear hcu hrn hx5))
 have HC0:=HC
 have HB0:=HBK
 clear HC HBK HN hz0 hy0 hz8 hy8
 go_loopw [27] (fun i wr=>∃k:Nat,k<=ty.length/\i=.int .i64 k/\∃cs,Hid (ArB b wd.heap.size w6.heap.size wd wr (.cells #[.slice (some ⟨w6.heap.size,0,none⟩) ty.length ty.length] 227 (0,0)) 22 ty.length k (ty.map (Value.int .u32)) ((ty.drop k).flatMap fun n=>numB n 4) cs)) (fun i _=>ty.length - (intOf i).toNat)
 case atStart=>
  have HX0:=zh ((mkQ_ext ty.length w6).but (b:=b) |>.set 0 (.slice (some ⟨w6.heap.size,0,none⟩) ty.length ty.length))
  have HG0:Hid (b < w6.heap.size):=zh (zl HB0.out)
  refine⟨0,Nat.zero_le _,rfl,_,zh ⟨?_,slot_setCell (((mkQ_ext _ _).block b (zl HB0.out)).trans HB0.out),(heap_setCell_other _ _ _ _ (by have:=HG0.out;simp only [ne_eq];omega)).trans (heap_alloc_new _ _),size_madeCells _ _,fun j hj=>absurd hj (Nat.not_lt_zero _),HC0.out.bel.size,?_⟩⟩
  ·rw [List.drop_zero,<-HR2.out];exact HC0.out.but HX0.out
  ·obtain⟨_,_,h9,_⟩:=HC0.out.blk
   have:=zl h9
   omega
 case round=>
  obtain⟨k,hk1,rfl,cs,HH⟩:=hrel
  by_cases hlt:k < ty.length
  ·obtain⟨x,hx⟩:∃x,x=ty[k]:=⟨_,rfl⟩
   have hxr:=HGL.out _ (List.getElem_mem hlt)
   rw [<-hx]at hxr
   have HXR:=zh hxr
   have HU:Hid ((ty.map (Value.int .u32))[k]?=some (.int .u32 x)):=zh (by simp [hlt,hx])
   have hc:=HH.out.cur
   rw [List.drop_eq_getElem_cons hlt,List.flatMap_cons,<-hx]at hc
   have HC:=zh hc
   obtain⟨T2,hT2⟩:∃T2,T2=(List.drop (k+1) ty).flatMap fun n=>numB n 4:=⟨_,rfl⟩
   rw [<-hT2]at HC
   clear hc hx hxr
   go_wp2
   refine wp_region_ogL (J:=QJ b wd.heap.size w6.heap.size k wd wr x T2) (R:=fun _ _=>True) [Sp.eq _ (.pointer (some ⟨b,0,none⟩)),Sp.eq _ (.pointer (some ⟨b,0,none⟩)),Sp.eq _ (.pointer (some ⟨b,0,none⟩)),Sp.eq _ (.slice (some ⟨w6.heap.size,0,none⟩) ty.length ty.length),Sp.eq _ (.int .i64 k),Sp.eq _ (.pointer (some ⟨wd.heap.size,0,none⟩)),Sp.any _,Sp.eq _ (.int .u32 x),Sp.eq _ (.pointer (some ⟨w6.heap.size,k,none⟩)),Sp.any _] (by kernel_rfl) (by kernel_rfl) ?_ ?_ ?_
   ·exact QJ.start
   ·refine⟨?_,?_,?_,?_,?_,?_,?_,?_,?_,?_,trivial⟩
    ·intro vs w1 L hLi hd hdt hJ hp
     have HJ:=zh hJ
     have H9:=zh (zd hdt 9)
     clear hp hd hdt hLi hJ
     simp only [putAll,Nat.reduceAdd]
     go_wp2
     exact⟨rfl,HJ.out.keep zr 0 _ (by decide) (by decide) H9.out,trivial,rfl⟩
    ·intro vs w1 L hLi hd hdt hJ hp
     have q0:vs 0=_:=zd hp 0
     have HJ:=zh hJ
     have H9:=zh (zd hdt 9)
     clear hp hd hdt hLi hJ
     simp only [putAll,Nat.reduceAdd]
     go_wp2
     exact⟨rfl,HJ.out.keep zr 1 _ (by decide) (by decide) H9.out,trivial,rfl⟩
    ·intro vs w1 L hLi hd hdt hJ hp
     have q1:vs 1=_:=zd hp 1
     have HJ:=zh hJ
     have H9:=zh (zd hdt 9)
     clear hp hd hdt hLi hJ
     simp only [putAll,Nat.reduceAdd]
     go_wp2
     exact⟨rfl,HJ.out.keep zr 2 _ (by decide) (by decide) H9.out,trivial,rfl⟩
    ·intro vs w1 L hLi hd hdt hJ hp
     have q2:vs 2=_:=zd hp 2
     have h9:=zd hdt 9
     have hq:=zc (((hJ.bel h9).block b (zl HH.out.blk) (Nat.ne_of_lt HBB.out)).trans HH.out.blk) 0 _ rfl
     have HJ:=zh hJ
     have H9:=zh h9
     clear h9
     clear hp hd hdt hLi hJ
     simp only [putAll,Nat.reduceAdd]
     go_wp2
     exact⟨rfl,HJ.out.keep zr 3 _ (by decide) (by decide) H9.out,trivial,rfl⟩
    ·intro vs w1 L hLi hd hdt hJ hp
     have HJ:=zh hJ
     have H9:=zh (zd hdt 9)
     clear hp hd hdt hLi hJ
     simp only [putAll,Nat.reduceAdd]
     go_wp2
     exact⟨rfl,HJ.out.keep zr 4 _ (by decide) (by decide) H9.out,trivial,rfl⟩
    ·intro vs w1 L hLi hd hdt hJ hp
     have HJ:=zh hJ
     have H9:=zh (zd hdt 9)
     clear hp hd hdt hLi hJ
     simp only [putAll,Nat.reduceAdd]
     go_wp2
     exact⟨rfl,HJ.out.keep zr 5 _ (by decide) (by decide) H9.out,trivial,rfl⟩
    ·intro vs w1 L hLi hd hdt hJ hp
     have q5:vs 5=_:=zd hp 5
     have H9:=zh (zd hdt 9)
     have H6:=zh hLi
     have HXE:=zh (hJ.ext hLi H9.out)
     have HJ:=zh hJ
     clear hp hd hdt hLi hJ
     simp only [putAll,Nat.reduceAdd]
     go_wp2_with (go_at_call 168;refine(cur_piece (HC.out.ext HXE.out) _ (by first|(rw [numB_len];rfl)|rfl)).mono ?_;rintro e w5 ⟨A5,c5,rfl,hrn,hcu,hx5⟩;have HC5:=zh hcu;have HN:=zh hrn;have HX5:=zh hx5;simp only [Int.reduceToNat];clear hcu hrn hx5)
     exact⟨rfl,HJ.out.step6 H6.out H9.out HC5.out HX5.out HN.out,trivial,trivial⟩
    ·intro vs w1 L hLi hd hdt hJ hp
     have H9:=zh (zd hdt 9)
     have h6:=zd hd 6
     have hrd:=hJ.rd h6
     have HCU:=zh (hJ.cur h6 H9.out)
     obtain⟨S6,hS6⟩:∃y,y=slA (vs 6):=⟨_,rfl⟩
     obtain⟨T6,hT6⟩:∃y,y=slC (vs 6):=⟨_,rfl⟩
     rw [<-hS6,<-hT6]at hrd
     have hv6:=hrd.1
     have hr6:=hrd.2
     rw [hv6]at hr6
     have HR6:=zh hr6
     have HJ:=zh hJ
     have HV6:=zh hv6
     clear hS6 hT6 h6 hrd hr6 hv6
     clear hp hd hdt hLi hJ
     simp only [putAll,Nat.reduceAdd]
     rw [HV6.out]
     go_wp2_with (go_at_call 138;refine(rd32n x HXR.out _ _ _ [] _ (by rw [List.append_nil];exact(HR6.out.at_ HCU.out.bel).1)).mono ?_;rintro e w7 ⟨rfl,hx7⟩;have HX7:=zh hx7;clear hx7)
     exact⟨rfl,HJ.out.keep HX7.out 7 _ (by decide) (by decide) H9.out,trivial,rfl⟩
    ·intro vs w1 L hLi hd hdt hJ hp
     have q0:vs 0=_:=zd hp 0
     have q1:vs 1=_:=zd hp 1
     have q2:vs 2=_:=zd hp 2
     have q3:vs 3=_:=zd hp 3
     have q4:vs 4=_:=zd hp 4
     have q5:vs 5=_:=zd hp 5
     have q7:vs 7=_:=zd hp 7
     have HJ:=zh hJ
     have H9:=zh (zd hdt 9)
     clear hp hd hdt hLi hJ
     simp only [putAll,Nat.reduceAdd]
     go_wp2
     exact⟨rfl,HJ.out.keep zr 8 _ (by decide) (by decide) H9.out,trivial,rfl⟩
    ·intro vs w1 L hLi hd hdt hJ hp
     have q0:vs 0=_:=zd hp 0
     have q1:vs 1=_:=zd hp 1
     have q2:vs 2=_:=zd hp 2
     have q3:vs 3=_:=zd hp 3
     have q4:vs 4=_:=zd hp 4
     have q5:vs 5=_:=zd hp 5
     have q7:vs 7=_:=zd hp 7
     have q8:vs 8=_:=zd hp 8
     have H9:=zh hLi
     have H6:=zh (zd hd 6)
     have hg7:=((hJ.bel hLi).block _ (zl HH.out.arr) HH.out.ne).trans HH.out.arr
     have hz:=zc hg7 k (cs.getD k undef) (HH.out.at_ hlt)
     have hy:=free_slot hg7 k
     have HJ:=zh hJ
     clear hp hd hdt hLi hJ
     simp only [putAll,Nat.reduceAdd]
     clear hg7
     go_wp2
     exact⟨rfl,HJ.out.step9 H6.out H9.out _,trivial,trivial⟩
   ·intro vs w1 L hall hJ hp
    have q0:vs 0=_:=zd hp 0
    have q1:vs 1=_:=zd hp 1
    have q2:vs 2=_:=zd hp 2
    have q3:vs 3=_:=zd hp 3
    have q4:vs 4=_:=zd hp 4
    have q5:vs 5=_:=zd hp 5
    have q7:vs 7=_:=zd hp 7
    have q8:vs 8=_:=zd hp 8
    obtain⟨wz,hc,hx,rfl⟩:=hJ.fin (zd hall 9)
    have HCZ:=zh hc
    have HXZ:=zh hx
    clear hJ hp hall hc hx
    simp only [putAll,Nat.reduceAdd]
    clear q0 q1 q2 q3 q4 q5 q7 q8
    simp only [Exit.inBlock,Exit.then]
    try go_at_K
    simp only [Act.put,List.setIfInBounds_toArray,List.set_cons_zero,List.set_cons_succ]
    go_wp2
    go_roundw
    case rel=>subst hT2;exact⟨k+1,by omega,by go_num,_,zh (HH.out.next HCZ.out HXZ.out hlt HU.out)⟩
    case measure=>simp only [intOf];omega
  ·obtain rfl:k=ty.length:=by omega
   go_wp2
   go_ret
   exact⟨rfl,HH.out.cur.bel,_,_,HH.out.blk,HH.out.rdI (by omega) rfl⟩
theorem dek12 (a c:ByteArray)(l:List Int)(ha:plainP a)(hc:plainP c)(hll:l.length<=20)(hlr:∀y∈l,0<=y/\y < 4294967296)(wd:World)(b:Nat)(v:Value)(hb:wd.heap[b]?=some (.cells #[.string ⟨#[]⟩,.string ⟨#[]⟩,.slice none 0 0] 137 (0,0)))(hv:RdB wd v (sby a++0 :: (sby c++0 :: (numB (l.length:Int) 2++l.flatMap fun n=>numB n 4))))(hl:(sby a++0 :: (sby c++0 :: (numB (l.length:Int) 2++l.flatMap fun n=>numB n 4))).length<=100000)(hof:v.ownBlock≠some b):
 Calls Tryz.prog 175 #[.pointer (some ⟨b,0,none⟩),v] wd (Deced b (fun b w2=>∃A n,w2.heap[b]?=some (.cells #[.string a,.string c,.slice A l.length n] 137 (0,0))/\RdI .u32 w2 (.slice A l.length n) l) wd):=by
 obtain⟨R2,hR2⟩:∃R2,R2=l.flatMap fun n=>numB n 4:=⟨_,rfl⟩
 have h2:R2.length=l.length * 4:=by rw [hR2];exact nums_len4 l
 rw [<-hR2]at hv hl
 have HR2:=zh hR2
 have HV:=zh (And.intro hv hof)
 have HLT:=zh (zl hb)
 have HBK:=zh hb
 have HLR:=zh hlr
 have hck0:=zc hb 0 _ rfl
 have hck1:=zc hb 1 _ rfl
 have hck2:=zc hb 2 _ rfl
 have hfk0:=free_slot hb 0
 have hfk1:=free_slot hb 1
 have hfk2:=free_slot hb 2
 have HSa:=zh (plain_ne ha)
 have HSc:=zh (plain_ne hc)
 have hla:(sby a).length<=200:=by rw [sby_length];exact ha.1
 have hlc:(sby c).length<=200:=by rw [sby_length];exact hc.1
 have hln:(numB (l.length:Int) 2++R2).length=2+R2.length:=by simp only [List.length_append,numB_len]
 have HLa:Hid ((sby a++0 :: (sby c++0 :: (numB (l.length:Int) 2++R2))).length<=1000000):=zh (by omega)
 have HLc:Hid ((sby c++0 :: (numB (l.length:Int) 2++R2)).length<=1000000):=zh (by simp only [List.length_append,List.length_cons,numB_len];omega)
 have HNL:Hid (0<=(l.length:Int)/\(l.length:Int) < 65536):=zh (by omega)
 have h22:¬((2:Int)+(R2.length:Int) < 2):=by omega
 clear hv hof hb hlr hR2 hl
 go_enter Tryz.func175,Tryz.ntmps175
 go_wp2_with (first|(go_at_call 165;refine(cur_newb (bk:=b) (w1:=wd) (bb:=wd.heap.size) ⟨HV.out.1,fun _=>HV.out.2⟩ HLT.out (by first|exact(((Ext.refl wd).but.set _ _).set _ _).set _ _|exact(Ext.refl wd).but) (by simp [World.setCell])).mono ?_;rintro e w2 ⟨rfl,hcu,hx⟩;have HC:=zh hcu;(first|have hbk:=upbe3 hx HLT.out HBK.out|have hbk:=upbe1 hx HLT.out HBK.out|have hbk:=upbe hx HLT.out HBK.out);(try simp only [List.setIfInBounds_toArray,List.set_cons_zero,List.set_cons_succ]at hbk);clear HBK;have HBK:=zh hbk;(try clear hck0);(try clear hck1);(try clear hck2);(try clear hfk0);(try clear hfk1);(try clear hfk2);have hck0:=zc hbk 0 _ rfl;have hck1:=zc hbk 1 _ rfl;have hck2:=zc hbk 2 _ rfl;have hfk0:=free_slot hbk 0;have hfk1:=free_slot hbk 1;have hfk2:=free_slot hbk 2;clear hbk;clear hcu hx)|(go_at_call 166;refine(cur_text (s:=sby a) (by first|exact HC.out|exact HC.out.but (zr.but.set _ _)) HSa.out HLa.out).mono ?_;rintro e w3 ⟨A3,c3,rfl,hrd,hcu,hx3⟩;clear HC;have HC:=zh hcu;(try clear hcv);(try clear hc3);have hcv:=conv_rd (show RdB w3 (.slice A3 (sby a).length c3) (sby a)from by(have h9:=hrd.take (sby a).length (by omega);rwa [List.take_left]at h9));have hc3:(sby a).length+1<=c3:=(by have h9:=hrd.parts.2.1;simpa using h9);(first|have hbk:=upb3 hx3 HLT.out HBK.out|have hbk:=upb1 hx3 HLT.out HBK.out|have hbk:=upb hx3 HLT.out HBK.out);(try simp only [List.setIfInBounds_toArray,List.set_cons_zero,List.set_cons_succ]at hbk);clear HBK;have HBK:=zh hbk;(try clear hck0);(try clear hck1);(try clear hck2);(try clear hfk0);(try clear hfk1);(try clear hfk2);have hck0:=zc hbk 0 _ rfl;have hck1:=zc hbk 1 _ rfl;have hck2:=zc hbk 2 _ rfl;have hfk0:=free_slot hbk 0;have hfk1:=free_slot hbk 1;have hfk2:=free_slot hbk 2;clear hbk;clear hcu hx3 hrd)|(go_at_call 166;refine(cur_text (s:=sby c) (by first|exact HC.out|exact HC.out.but (zr.but.set _ _)) HSc.out HLc.out).mono ?_;rintro e w3 ⟨A3,c3,rfl,hrd,hcu,hx3⟩;clear HC;have HC:=zh hcu;(try clear hcv);(try clear hc3);have hcv:=conv_rd (show RdB w3 (.slice A3 (sby c).length c3) (sby c)from by(have h9:=hrd.take (sby c).length (by omega);rwa [List.take_left]at h9));have hc3:(sby c).length+1<=c3:=(by have h9:=hrd.parts.2.1;simpa using h9);(first|have hbk:=upb3 hx3 HLT.out HBK.out|have hbk:=upb1 hx3 HLT.out HBK.out|have hbk:=upb hx3 HLT.out HBK.out);(try simp only [List.setIfInBounds_toArray,List.set_cons_zero,List.set_cons_succ]at hbk);clear HBK;have HBK:=zh hbk;(try clear hck0);(try clear hck1);(try clear hck2);(try clear hfk0);(try clear hfk1);(try clear hfk2);have hck0:=zc hbk 0 _ rfl;have hck1:=zc hbk 1 _ rfl;have hck2:=zc hbk 2 _ rfl;have hfk0:=free_slot hbk 0;have hfk1:=free_slot hbk 1;have hfk2:=free_slot hbk 2;clear hbk;clear hcu hx3 hrd)|(go_at_call 167;refine(cur_len (by first|exact HC.out|exact HC.out.but (zr.but.set _ _))).mono ?_;rintro e w4 ⟨rfl,hw4⟩;rw [hw4];clear hw4)|(go_at_call 168;refine(cur_piece (by first|exact HC.out|exact HC.out.but (zr.but.set _ _)) _ (by first|(rw [numB_len];rfl)|rfl)).mono ?_;rintro e w5 ⟨A5,c5,rfl,hrn,hcu,hx5⟩;(try clear HN);clear HC;have HC:=zh hcu;have HN:=zh hrn;simp only [Int.reduceToNat];(first|have hbk:=upb3 hx5 HLT.out HBK.out|have hbk:=upb1 hx5 HLT.out HBK.out|have hbk:=upb hx5 HLT.out HBK.out);(try simp only [List.setIfInBounds_toArray,List.set_cons_zero,List.set_cons_succ]at hbk);clear HBK;have HBK:=zh hbk;(try clear hck0);(try clear hck1);(try clear hck2);(try clear hfk0);(try clear hfk1);(try clear hfk2);have hck0:=zc hbk 0 _ rfl;have hck1:=zc hbk 1 _ rfl;have hck2:=zc hbk 2 _ rfl;have hfk0:=free_slot hbk 0;have hfk1:=free_slot hbk 1;have hfk2:=free_slot hbk 2;clear hbk;clear hcu hrn hx5)|(go_at_call 137;refine(rd16n (l.length:Int) HNL.out _ _ _ [] _ (by rw [List.append_nil];exact(HN.out.at_ HC.out.bel).1)).mono ?_;rintro e w6 ⟨rfl,hx6⟩;have HC6:=zh (HC.out.ext hx6);clear HC;have HC:=HC6;clear HC6;(first|have hbk:=upbe3 hx6 HLT.out HBK.out|have hbk:=upbe1 hx6 HLT.out HBK.out|have hbk:=upbe hx6 HLT.out HBK.out);(try simp only [List.setIfInBounds_toArray,List.set_cons_zero,List.set_cons_succ]at hbk);clear HBK;have HBK:=zh hbk;(try clear hck0);(try clear hck1);(try clear hck2);(try clear hfk0);(try clear hfk1);(try clear hfk2);have hck0:=zc hbk 0 _ rfl;have hck1:=zc hbk 1 _ rfl;have hck2:=zc hbk 2 _ rfl;have hfk0:=free_slot hbk 0;have hfk1:=free_slot hbk 1;have hfk2:=free_slot hbk 2;clear hbk;clear hx6))
 clear hck0 hck1 hck2 hfk0 hfk1 hfk2 h2
 go_loopw [59] (fun i wr=>∃k:Nat,k<=l.length/\i=.int .i64 k/\∃v ys R,Hid (Cur b wd wd.heap.size wr R/\R=((l.drop k).flatMap fun n=>numB n 4)/\ys=(l.take k).map (Value.int .u32)/\Own wd.heap.size wd wr 22 1 v k ys/\wr.heap[b]?=some (.cells #[.string (strOf (sby a)),.string (strOf (sby c)),v] 137 (0,0)))) (fun i _=>l.length - (intOf i).toNat)
 case atStart=>exact⟨0,Nat.zero_le _,rfl,.slice none 0 0,[],R2,zh ⟨HC.out,by rw [HR2.out,List.drop_zero],rfl,⟨World.ownsRow_nil _ _ _ _,nofun⟩,HBK.out⟩⟩
 case round=>
  clear HC HBK HN
  obtain⟨k,hk1,rfl,v5,ys,R,HH⟩:=hrel
  obtain⟨hC0,hS0,hY0,hO0,hB0⟩:=HH.out
  obtain⟨Av,cv,hv5⟩:=own_slice hO0.own
  subst hv5
  by_cases hlt:k < l.length
  ·obtain⟨x,hx⟩:∃x,x=l[k]:=⟨_,rfl⟩
   have hxr:=HLR.out _ (List.getElem_mem hlt)
   rw [<-hx]at hxr
   have HXR:=zh hxr
   have hys':Hid (ys++ [Value.int .u32 x]=(l.take (k+1)).map (Value.int .u32)):=zh (by rw [hY0,List.take_succ_eq_append_getElem hlt,List.map_append,<-hx];rfl)
   rw [List.drop_eq_getElem_cons hlt,List.flatMap_cons,<-hx]at hS0
   obtain⟨R',hR'⟩:∃R',R'=((l.drop (k+1)).flatMap fun n=>numB n 4):=⟨_,rfl⟩
   rw [<-hR']at hS0
   have HR':=zh hR'
   have HO0:=zh hO0
   have HB0:=zh hB0
   subst hS0
   have HC0:=zh hC0
   have HC:=zh hC0
   have hln4:(numB x 4++R').length=4+R'.length:=by simp only [List.length_append,numB_len]
   have h44:¬((4:Int)+(R'.length:Int) < 4):=by omega
   clear hC0 hO0 hB0 hx hxr HH hR' hY0
   go_wp2_with (go_at_call 167;refine(cur_len (by first|exact HC.out|exact HC.out.but (zr.but.set _ _))).mono ?_;rintro e w4 ⟨rfl,hw4⟩;rw [hw4];clear hw4)
   refine wp_region_ogL (J:=PJ b wd.heap.size wd wr (.slice Av k cv) k ys (numB x 4) R' x (.string (strOf (sby a))) (.string (strOf (sby c)))) (R:=fun _ _=>True) [Sp.eq _ (.pointer (some ⟨b,0,none⟩)),Sp.eq _ (.pointer (some ⟨b,0,none⟩)),Sp.eq _ (.pointer (some ⟨b,0,none⟩)),Sp.eq _ (.pointer (some ⟨b,2,none⟩)),Sp.eq _ (.slice Av k cv),Sp.eq _ (.pointer (some ⟨wd.heap.size,0,none⟩)),Sp.any _,Sp.eq _ (.int .u32 x),Sp.any _,Sp.any _,Sp.eq _ (.pointer (some ⟨b,0,none⟩)),Sp.eq _ (.pointer (some ⟨b,2,none⟩)),Sp.any _] (by kernel_rfl) (by kernel_rfl) ?_ ?_ ?_
   ·exact PJ.start HC0.out HO0.out HB0.out
   ·refine⟨zu,zu,zu,zu,?_,zu,?_,?_,?_,?_,zu,zu,?_,trivial⟩
    ·intro vs w1 L hLi hd hdt hJ hp
     have q3:vs 3=_:=zd hp 3
     have HJ:=zh hJ
     have hq:=zc (hJ.F (zd hdt 12)) 2 (.slice Av k cv) rfl
     clear hp hd hdt hLi hJ
     simp only [putAll,Nat.reduceAdd]
     go_wp2
     exact⟨rfl,HJ.out.keep 4 _ (by decide) (by decide) (by decide) (by decide) (by decide),trivial,rfl⟩
    ·intro vs w1 L hLi hd hdt hJ hp
     have q5:vs 5=_:=zd hp 5
     have HJ:=zh hJ
     have HLI:=zh hLi
     have HX:=zh (hJ.A hLi)
     clear hp hd hdt hLi hJ
     simp only [putAll,Nat.reduceAdd]
     go_wp2_with (go_at_call 168;refine(cur_piece (HC0.out.ext HX.out) _ (by rw [numB_len];rfl)).mono ?_;rintro e w2' ⟨A5,c5,rfl,hrn,hcu,hx5⟩;have HRN:=zh hrn;have HCU:=zh hcu;have HX5:=zh hx5;clear hrn hcu hx5;simp only [Int.reduceToNat])
     refine⟨rfl,?_,trivial,trivial⟩
     exact HJ.out.step6 HLI.out HLT.out (Nat.le_refl _) A5 c5 HRN.out HCU.out HX5.out
    ·intro vs w1 L hLi hd hdt hJ hp
     have h6:=zd hd 6
     have H6:=zh h6
     have H8:=zh (zd hdt 8)
     have h6s:=(hJ.B2 h6).1
     have HB1:=zh (hJ.B1 h6)
     have HB2:=zh (hJ.B2 h6).2
     obtain⟨S6,hS6⟩:∃y,y=slA (vs 6):=⟨_,rfl⟩
     obtain⟨T6,hT6⟩:∃y,y=slC (vs 6):=⟨_,rfl⟩
     rw [<-hS6,<-hT6]at h6s HB2
     have HJ:=zh hJ
     clear h6 hS6 hT6
     clear hp hd hdt hLi hJ
     simp only [putAll,Nat.reduceAdd]
     rw [h6s]
     go_wp2_with (go_at_call 138;refine(rd32n x HXR.out _ _ _ [] _ (by rw [List.append_nil];exact(HB2.out.at_ HB1.out.bel).1)).mono ?_;rintro e w2' ⟨rfl,hx6⟩;have HX6:=zh hx6;clear hx6)
     refine⟨rfl,?_,trivial,rfl⟩
     exact HJ.out.step7 H6.out H8.out HX6.out _
    ·intro vs w1 L hLi hd hdt hJ hp
     have q7:vs 7=_:=zd hp 7
     have H7:=zh (zd hd 7)
     have H9:=zh (zd hdt 9)
     have HJ:=zh hJ
     clear hp hd hdt hLi hJ
     simp only [putAll,Nat.reduceAdd]
     go_wp2
     refine⟨rfl,?_,trivial,trivial⟩
     exact HJ.out.step8 H7.out H9.out
    ·intro vs w1 L hLi hd hdt hJ hp
     have q4:vs 4=_:=zd hp 4
     have q7:vs 7=_:=zd hp 7
     have h8:=zd hd 8
     have H8:=zh h8
     have HLi:=zh hLi
     have HD:=zh (hJ.D h8 hLi)
     have HR:=zh (hJ.C hLi).row
     have HJ:=zh hJ
     clear h8
     clear hp hd hdt hLi hJ
     simp only [putAll,Nat.reduceAdd]
     refine ap_one rfl (.tmp 71) (.tmp 75) 24 22 1 4 _ rfl Tryz.underlying24 info22 rfl (by decide) (v:=.slice Av k cv) (b:=slB (vs 8)) (c:=1) (ys:=[.int .u32 x]) (by simp only [evp_none,ne_eq,Nat.reduceEqDiff,not_false_eq_true,evp_ne];rw [evp_same _ _ _ (by simp [evp_size])];exact q4) HR.out (by simp only [evp_none,ne_eq,Nat.reduceEqDiff,not_false_eq_true,evp_ne];rw [evp_same _ _ _ (by simp [evp_size])];exact HD.out.1) rfl (fun j u hj=>(cell_of_row _ _ _ _ _ _ HD.out.2).trans (by rw [<-Array.getElem?_toList];exact hj)) (List.all_eq_true.1 rfl) (by omega) (by decide) ?_
     intro v2 w2' hn
     refine⟨rfl,?_,trivial,trivial⟩
     rw [slot_put _ _ _ (by simp [evp_size])]
     exact HJ.out.step9 H8.out HLi.out _ hn
    ·intro vs w1 L hLi hd hdt hJ hp
     have q0:vs 0=_:=zd hp 0
     have q1:vs 1=_:=zd hp 1
     have q2:vs 2=_:=zd hp 2
     have q3:vs 3=_:=zd hp 3
     have q4:vs 4=_:=zd hp 4
     have q5:vs 5=_:=zd hp 5
     have q7:vs 7=_:=zd hp 7
     have q11:vs 11=_:=zd hp 11
     have h9:=zd hd 9
     have H9:=zh h9
     have HLi:=zh hLi
     have hF:=hJ.F hLi
     have hc1:=zc hF 2 _ rfl
     have hf1:=free_slot hF 2
     obtain⟨A9,c9,hv9⟩:=own_slice (hJ.E h9).own
     have HV9:=zh hv9
     have HJ:=zh hJ
     clear h9 hF hv9
     clear hp hd hdt hLi hJ
     simp only [putAll,Nat.reduceAdd]
     rw [HV9.out]
     go_wp2
     refine⟨rfl,?_,trivial,trivial⟩
     exact HJ.out.step12 H9.out HLi.out _ _ HV9.out
   ·intro vs w1 L hall hJ hp
    have q0:vs 0=_:=zd hp 0
    have q1:vs 1=_:=zd hp 1
    have q2:vs 2=_:=zd hp 2
    have q3:vs 3=_:=zd hp 3
    have q4:vs 4=_:=zd hp 4
    have q5:vs 5=_:=zd hp 5
    have q7:vs 7=_:=zd hp 7
    have q10:vs 10=_:=zd hp 10
    have q11:vs 11=_:=zd hp 11
    have HFI:=zh (And.intro (hJ.B1 (zd hall 6)) (And.intro (hJ.E (zd hall 9)) (hJ.G (zd hall 12))))
    clear hJ hp hall
    simp only [putAll,Nat.reduceAdd]
    clear q0 q1 q2 q3 q4 q5 q7 q10 q11
    simp only [Exit.inBlock,Exit.then]
    try go_at_K
    simp only [Act.put,List.setIfInBounds_toArray,List.set_cons_zero,List.set_cons_succ]
    go_wp2
    go_roundw
    case rel=>exact⟨k+1,by omega,by go_num,vs 9,ys++ [.int .u32 x],R',zh ⟨HFI.out.1,HR'.out,hys'.out,HFI.out.2.1,HFI.out.2.2⟩⟩
    case measure=>simp only [intOf];omega
  ·obtain rfl:k=l.length:=by omega
   have HC:=zh hC0
   have HO:=zh hO0
   have HB:=zh hB0
   have HY:=zh hY0
   clear hC0 hO0 hB0 hS0 hY0 HH
   go_wp2
   go_ret
   have hb9:=HB.out
   rw [str_sby,str_sby]at hb9
   have ho9:=HO.out.own
   rw [HY.out,List.take_length]at ho9
   obtain⟨A9,c9,hv9,h91,h92,h93⟩:=RdI.of_own (kd:=.u32) ho9
   exact⟨rfl,HC.out.bel,Av,cv,hb9,A9,c9,hv9,h91,h92,h93⟩
end Go.Proofs.YtdenjanihikolaaGreatDoor
