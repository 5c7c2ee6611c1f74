/- told and answered by kind: Tdk. -/
import Derived.Test.YtdenjanihikolaaGreatDoorRqA2
import Derived.Test.YtdenjanihikolaaGreatDoorRqA0
import Derived.Test.YtdenjanihikolaaGreatDoorRqA1
import Derived.Test.YtdenjanihikolaaGreatDoorRqTdh
import Derived.Test.YtdenjanihikolaaGreatDoorRqDki
import Derived.Test.YtdenjanihikolaaGreatDoorRqMkn
import Derived.Test.YtdenjanihikolaaGreatDoorRqFit
import Derived.Test.YtdenjanihikolaaGreatDoorRqTa
namespace Go.Proofs.YtdenjanihikolaaGreatDoor
set_option linter.unusedVariables false
set_option linter.unusedSimpArgs false
set_option maxRecDepth 100000
set_option maxHeartbeats 4000000
open Go.RowKit Og
def c57 (v:Value):Array Value:= #[.int .i64 57,.string ⟨#[]⟩,.string ⟨#[]⟩,.int .u32 0,.int .u32 0,.slice none 0 0,.slice none 0 0,.slice none 0 0,.slice none 0 0,.slice none 0 0,.slice none 0 0,.slice none 0 0,v]
theorem info62:(Tryz.prog.info? 62).map (fun i=>(i.zero,i.size,i.bytes))=some (some (.agg #[.string ⟨#[]⟩,.int .u32 0,.int .i64 0,.int .u32 0,.int .i64 0,.int .i64 0,.int .i64 0]),7,64):=by kernel_rfl
structure FJ (b:Nat) (wd W0:World) (v:Value) (k:Nat) (ys:List Value) (cs:Array Value) (L:Nat->Bool) (vs:Nat->Value) (w:World):Prop where
 A:L 25=false->Ext W0 w
 X:ExtBut b wd w
 C:L 26=false->Own b wd w 62 7 v k ys
 D:L 25=true->L 26=false->vs 25=.slice (some ⟨slB (vs 25),0,none⟩) 1 1/\w.heap[slB (vs 25)]?=some (.cells cs 62 (0,0))
 E:L 26=true->Own b wd w 62 7 (vs 26) (k+1) (ys++cs.toList)
 F:L 29=false->w.heap[b]?=some (.cells (c57 v) 31 (0,0))
 G:L 29=true->w.heap[b]?=some (.cells (c57 (vs 26)) 31 (0,0))
 S:b < w.heap.size
 M1:L 26=true->L 25=true
 M2:L 29=true->L 26=true
 Z:W0.heap.size<=w.heap.size
 B:∀q,q < W0.heap.size->q≠b->v.ownBlock≠some q->w.heap[q]?=W0.heap[q]?
section
variable {b : Nat} {wd W0 w w2 : World} {v : Value} {k : Nat} {ys : List Value} {cs : Array Value} {L : Nat → Bool} {vs : Nat → Value}
theorem FJ.start (hb:W0.heap[b]?=some (.cells (c57 v) 31 (0,0)))(hx:ExtBut b wd W0)(ho:Own b wd W0 62 7 v k ys):FJ b wd W0 v k ys cs (fun _=>false) vs W0.drew:=
 ⟨fun _=>(Ext.refl W0).drew,hx.trans (Ext.refl W0).drew.but,fun _=>ho.ext (Ext.refl W0).drew,nofun,nofun,fun _=>hb,nofun,zl hb,nofun,nofun,Nat.le_refl _,fun q _ _ _=>rfl⟩
theorem FJ.keep (h:FJ b wd W0 v k ys cs L vs w)(i:Nat)(u:Value)(h6:25≠i)(h7:26≠i)(h10:29≠i):FJ b wd W0 v k ys cs (updB L i) (upd vs i u) w:=by
 obtain⟨A,X,C,D,E,F,G,S,M1,M2,Z,B⟩:=h
 constructor <;> (try simp only [updB,upd,h6,h7,h10,if_false,beq_eq_false_iff_ne.2,Bool.or_false,ne_eq,not_false_eq_true]) <;> assumption
theorem FJ.low (h:FJ b wd W0 v k ys cs L vs w)(e:L 26=false):L 29=false:=by
 cases e2:L 29 with
 | false=>rfl
 | true=>rw [h.M2 e2]at e;cases e
theorem FJ.step6 (h:FJ b wd W0 v k ys cs L vs w)(e7:L 26=false):FJ b wd W0 v k ys cs (updB L 25) (upd vs 25 (.slice (some ⟨w.heap.size,0,none⟩) 1 1)) (w.alloc (.cells cs 62)):=by
 have e10:=h.low e7
 have hF:=h.F e10
 have hx:=ext_alloc w (.cells cs 62)
 have hX:=h.X.trans hx.but
 constructor <;> (try simp only [updB,upd,e7,e10,Nat.reduceEqDiff,if_false,if_true,Nat.reduceBEq,Bool.or_false,Bool.or_true,Bool.false_eq_true,Bool.true_eq_false,false_implies,true_implies])
 ·exact hX
 ·exact(h.C e7).ext hx
 ·exact⟨rfl,heap_alloc_new _ _⟩
 ·exact(hx.block b (zl hF)).trans hF
 ·exact Nat.lt_of_lt_of_le h.S hx.size
 ·exact Nat.le_trans h.Z hx.size
 ·exact fun q hq h1 h2=>(hx.block q (Nat.lt_of_lt_of_le hq h.Z)).trans (h.B q hq h1 h2)
theorem FJ.step7 (h:FJ b wd W0 v k ys cs L vs w)(hb:b < wd.heap.size)(h0:0 < W0.heap.size)(hvl:v.ownBlock≠some (W0.heap.size - 1))(e6:L 25=true)(e7:L 26=false)(v2:Value)(hr:Row 62 7 (But w v) w w2 v2 (k+1) (ys++cs.toList)):FJ b wd W0 v k ys cs (updB L 26) (upd vs 26 v2) w2:=by
 have e10:=h.low e7
 have hF:=h.F e10
 have hC:=h.C e7
 have hS:=h.S
 have hX:=h.X
 have hbn:∀q,q < wd.heap.size->But w v q:=fun q hq=>⟨Nat.lt_of_lt_of_le hq hX.size,fun e=>by have:=(hC.off q e).1;omega⟩
 have hfn:But w v b:=hbn b hb
 have hsz:=hr.lt b hfn
 constructor <;> (try simp only [updB,upd,e6,e10,Nat.reduceEqDiff,if_false,if_true,Nat.reduceBEq,Bool.or_false,Bool.or_true,Bool.false_eq_true,Bool.true_eq_false,false_implies,true_implies])
 ·exact⟨hr.os.trans hX.os,hr.tape.trans hX.tape,hr.output.trans hX.output,(by have h9:=hr.lt (wd.heap.size - 1) (hbn _ (by omega));omega),fun q hq hqb=>(hr.kept q (hbn q hq)).trans (hX.block q hq hqb)⟩
 ·exact hC.step hr hS hX.size
 ·exact(hr.kept b (hbn b hb)).trans hF
 ·exact hr.lt b hfn
 ·have h9:=hr.lt (W0.heap.size - 1) ⟨by have:=h.Z;omega,hvl⟩;omega
 ·exact fun q hq h1 h2=>(hr.kept q ⟨Nat.lt_of_lt_of_le hq h.Z,h2⟩).trans (h.B q hq h1 h2)
theorem FJ.step10 (h:FJ b wd W0 v k ys cs L vs w)(hb:b < wd.heap.size)(e7:L 26=true)(e10:L 29=false)(u z:Value)(hz:vs 26=z):FJ b wd W0 v k ys cs (updB L 29) (upd vs 29 u) (w.setCell ⟨b,12,none⟩ z):=by
 subst hz
 have e6:=h.M1 e7
 have hF:=h.F e10
 have hE:=h.E e7
 have hoth:∀q,q≠b->(w.setCell ⟨b,12,none⟩ (vs 26)).heap[q]?=w.heap[q]?:=fun q hq=>heap_setCell_other w ⟨b,12,none⟩ q _ hq
 constructor <;> (try simp only [updB,upd,e6,e7,Nat.reduceEqDiff,if_false,if_true,Nat.reduceBEq,Bool.or_false,Bool.or_true,Bool.false_eq_true,Bool.true_eq_false,false_implies,true_implies])
 ·exact h.X.set 12 _
 ·exact hE.keep fun g hg _ _=>hoth g (by omega)
 ·exact slot_setCell hF
 ·have:=h.S;simpa [World.setCell]using this
 ·have:=h.Z;simpa [World.setCell]using this
 ·exact fun q hq h1 h2=>(hoth q h1).trans (h.B q hq h1 h2)
end
theorem answd57 (fs:List Sf)(Al:Option Addr)(cl:Nat)(w0 w:World)(bk mb:Nat)(hblk:w.heap[bk]?=some (.cells #[.slice Al fs.length cl] 236 (0,0)))(HL:Hid (RdM 7 isFd w0 (.slice Al (fs.map toFd).length cl) (fs.map toFd)))(hx0:Ext w0 w)(hlo:w0.heap.size<=mb)(hlf:fs.length<=20)(hgf:∀y∈fs,y.name.size<=200/\0<=y.tab/\y.tab < 4294967296/\0<=y.typ/\y.typ < 4294967296/\0<=y.col/\y.col<=32767/\ -32768<=y.siz/\y.siz<=32767/\ -2147483648<=y.mdf/\y.mdf < 2147483648/\0<=y.fmt/\y.fmt<=1)(hmb:w.heap[mb]?=some (.cells #[.int .i64 57,.string ⟨#[]⟩,.string ⟨#[]⟩,.int .u32 0,.int .u32 0,.slice none 0 0,.slice none 0 0,.slice none 0 0,.slice none 0 0,.slice none 0 0,.slice none 0 0,.slice none 0 0,.slice none 0 0] 31 (0,0)))(hne:bk≠mb):
 Calls Tryz.prog 65 #[.iface 233 (.pointer (some ⟨bk,0,none⟩)),.pointer (some ⟨mb,0,none⟩)] w (Answd 57 mb (DecP 57 ⟨#[]⟩ ⟨#[]⟩ 0 [] [] [] [] [] [] [] fs) w):=by
 have n185:=no185 233
 have n189:=no189 233
 have n191:=no191 233
 have n194:=no194 233
 have n196:=no196 233
 have n198:=no198 233
 have n200:=no200 233
 have n203:=no203 233
 have n206:=no206 233
 have n208:=no208 233
 have n210:=no210 233
 have n213:=no213 233
 have n217:=no217 233
 have n219:=no219 233
 have n222:=no222 233
 have n225:=no225 233
 have n228:=no228 233
 have n230:=no230 233
 have y233:=yes233
 have HG:=zh hgf
 have X0:=zh hx0
 have HLO:=zh hlo
 have HM:=zh hmb
 have HMB:=zh (zl hmb)
 have hq:=zc hblk 0 (.slice Al fs.length cl) rfl
 clear hgf hx0 hlo hmb hblk hne
 go_enter Tryz.func65,Tryz.ntmps65
 go_wp2
 go_loopw [281] (fun i wr=>∃k:Nat,k<=fs.length/\i=.int .i64 k/\∃v ys,Hid (ExtBut mb w wr/\wr.heap[mb]?=some (.cells (c57 v) 31 (0,0))/\Own mb w wr 62 7 v k ys/\Rws 7 (isSf w) (fs.take k) ys)) (fun i _=>fs.length - (intOf i).toNat)
 case atStart=>exact⟨0,Nat.zero_le _,rfl,.slice none 0 0,[],zh ⟨(Ext.refl w).but,HM.out,⟨World.ownsRow_nil _ _ _ _,nofun⟩,Rws.nil _ _⟩⟩
 case round=>
  clear hq
  obtain⟨k,hk1,rfl,v,ys,HS⟩:=hrel
  obtain⟨hX,hM,hO,hE⟩:=HS.out
  clear HS
  obtain⟨Av,cv,hv⟩:=own_slice hO.own
  subst hv
  have HX:=zh hX
  have HMr:=zh hM
  have HO:=zh hO
  have HE7:=zh hE
  clear hX hM hO hE
  by_cases hlt:k < fs.length
  ·obtain⟨b1,o1,f,hA1,hcell,hv⟩:=HL.out.at_ (k:=k) (by rw [List.length_map];exact hlt)
   rw [List.getElem_map]at hv
   subst hA1
   have hgx:=HG.out _ (List.getElem_mem hlt)
   obtain⟨x,hx⟩:∃x,x=fs[k]:=⟨_,rfl⟩
   rw [<-hx]at hv hgx
   have HTK:Hid (fs.take (k+1)=fs.take k++ [x]):=zh (by rw [List.take_succ_eq_append_getElem hlt,<-hx])
   obtain⟨⟨An,cn,hf0,hnm⟩,hf1,hf2,hf3,hf4,hf5,hf6⟩:=hv
   have HNM:Hid (RdB w0 (.slice An (sby x.name).length cn) (sby x.name)):=zh hnm
   replace hf0:f 0=.slice An (sby x.name).length cn:=hf0
   replace hf1:f 1=.int .u32 x.tab:=hf1
   replace hf2:f 2=.int .u16 x.col:=hf2
   replace hf3:f 3=.int .u32 x.typ:=hf3
   replace hf4:f 4=.int .i16 x.siz:=hf4
   replace hf5:f 5=.int .i32 x.mdf:=hf5
   replace hf6:f 6=.int .i16 x.fmt:=hf6
   have hd0:=(HX.out.ext X0.out HLO.out).cell (hcell 0 (by omega))
   rw [hf0,Nat.add_zero]at hd0
   have hd1:=(HX.out.ext X0.out HLO.out).cell (hcell 1 (by omega))
   rw [hf1]at hd1
   have hd2:=(HX.out.ext X0.out HLO.out).cell (hcell 2 (by omega))
   rw [hf2]at hd2
   have hd3:=(HX.out.ext X0.out HLO.out).cell (hcell 3 (by omega))
   rw [hf3]at hd3
   have hd4:=(HX.out.ext X0.out HLO.out).cell (hcell 4 (by omega))
   rw [hf4]at hd4
   have hd5:=(HX.out.ext X0.out HLO.out).cell (hcell 5 (by omega))
   rw [hf5]at hd5
   have hd6:=(HX.out.ext X0.out HLO.out).cell (hcell 6 (by omega))
   rw [hf6]at hd6
   have HXW:Hid (ExtBut mb w (wr.alloc (.cells #[.slice An (sby x.name).length cn,.int .u32 x.tab,.int .u16 x.col,.int .u32 x.typ,.int .i16 x.siz,.int .i32 x.mdf,.int .i16 x.fmt] 249))):=zh (HX.out.trans (ext_alloc wr _).but)
   have HMW:Hid ((wr.alloc (.cells #[.slice An (sby x.name).length cn,.int .u32 x.tab,.int .u16 x.col,.int .u32 x.typ,.int .i16 x.siz,.int .i32 x.mdf,.int .i16 x.fmt] 249)).heap[mb]?=some (.cells (c57 (.slice Av k cv)) 31 (0,0))):=zh (((ext_alloc wr _).block mb (zl HMr.out)).trans HMr.out)
   have HOW:Hid (Own mb w (wr.alloc (.cells #[.slice An (sby x.name).length cn,.int .u32 x.tab,.int .u16 x.col,.int .u32 x.typ,.int .i16 x.siz,.int .i32 x.mdf,.int .i16 x.fmt] 249)) 62 7 (.slice Av k cv) k ys):=zh (HO.out.ext (ext_alloc wr _))
   have HXB:Hid ((wr.alloc (.cells #[.slice An (sby x.name).length cn,.int .u32 x.tab,.int .u16 x.col,.int .u32 x.typ,.int .i16 x.siz,.int .i32 x.mdf,.int .i16 x.fmt] 249)).heap[wr.heap.size]?=some (.cells #[.slice An (sby x.name).length cn,.int .u32 x.tab,.int .u16 x.col,.int .u32 x.typ,.int .i16 x.siz,.int .i32 x.mdf,.int .i16 x.fmt] 249 (0,0))):=zh (heap_alloc_new _ _)
   have HBX:Hid (wr.heap.size < (wr.alloc (.cells #[.slice An (sby x.name).length cn,.int .u32 x.tab,.int .u16 x.col,.int .u32 x.typ,.int .i16 x.siz,.int .i32 x.mdf,.int .i16 x.fmt] 249)).heap.size/\wr.heap.size≠mb/\(.slice Av k cv:Value).ownBlock≠some wr.heap.size):=zh ⟨zl HXB.out,by have:=zl HMr.out;omega,fun e=>by have:=(HO.out.own.lt _ e).2;omega⟩
   have HW0:Hid (0 < (wr.alloc (.cells #[.slice An (sby x.name).length cn,.int .u32 x.tab,.int .u16 x.col,.int .u32 x.typ,.int .i16 x.siz,.int .i32 x.mdf,.int .i16 x.fmt] 249)).heap.size):=zh (by have:=HBX.out.1;omega)
   have HVL:Hid ((.slice Av k cv:Value).ownBlock≠some ((wr.alloc (.cells #[.slice An (sby x.name).length cn,.int .u32 x.tab,.int .u16 x.col,.int .u32 x.typ,.int .i16 x.siz,.int .i32 x.mdf,.int .i16 x.fmt] 249)).heap.size - 1)):=zh (fun e=>by have:=(HO.out.own.lt _ e).2;simp at this)
   have hw1:IntKind.i64.wrap x.col=x.col:=by rw [IntKind.wrap_i64];omega
   have hw2:IntKind.i64.wrap x.siz=x.siz:=by rw [IntKind.wrap_i64];omega
   have hw3:IntKind.i64.wrap x.mdf=x.mdf:=by rw [IntKind.wrap_i64];omega
   have hw4:IntKind.i64.wrap x.fmt=x.fmt:=by rw [IntKind.wrap_i64];omega
   have hc65:x.col % 65536=x.col:=by omega
   clear hx hcell hf0 hf1 hf2 hf3 hf4 hf5 hf6 hgx hnm
   go_wp2
   refine wp_region_ogL (J:=FJ mb w (wr.alloc (.cells #[.slice An (sby x.name).length cn,.int .u32 x.tab,.int .u16 x.col,.int .u32 x.typ,.int .i16 x.siz,.int .i32 x.mdf,.int .i16 x.fmt] 249)) (.slice Av k cv) k ys #[.string x.name,.int .u32 x.tab,.int .i64 x.col,.int .u32 x.typ,.int .i64 x.siz,.int .i64 x.mdf,.int .i64 x.fmt]) (R:=fun _ _=>True) [Sp.eq _ (.pointer (some ⟨mb,0,none⟩)),Sp.eq _ (.pointer (some ⟨mb,0,none⟩)),Sp.eq _ (.pointer (some ⟨mb,0,none⟩)),Sp.eq _ (.pointer (some ⟨mb,12,none⟩)),Sp.eq _ (.slice Av k cv),Sp.eq _ (.pointer (some ⟨wr.heap.size,0,none⟩)),Sp.eq _ (.slice An (sby x.name).length cn),Sp.eq _ (.string x.name),Sp.eq _ (.pointer (some ⟨wr.heap.size,1,none⟩)),Sp.eq _ (.int .u32 x.tab),Sp.eq _ (.pointer (some ⟨wr.heap.size,2,none⟩)),Sp.eq _ (.int .u16 x.col),Sp.eq _ (.int .i64 x.col),Sp.eq _ (.pointer (some ⟨wr.heap.size,3,none⟩)),Sp.eq _ (.int .u32 x.typ),Sp.eq _ (.pointer (some ⟨wr.heap.size,4,none⟩)),Sp.eq _ (.int .i16 x.siz),Sp.eq _ (.int .i64 x.siz),Sp.eq _ (.pointer (some ⟨wr.heap.size,5,none⟩)),Sp.eq _ (.int .i32 x.mdf),Sp.eq _ (.int .i64 x.mdf),Sp.eq _ (.pointer (some ⟨wr.heap.size,6,none⟩)),Sp.eq _ (.int .i16 x.fmt),Sp.eq _ (.int .i64 x.fmt),Sp.eq _ (.agg #[.string x.name,.int .u32 x.tab,.int .i64 x.col,.int .u32 x.typ,.int .i64 x.siz,.int .i64 x.mdf,.int .i64 x.fmt]),Sp.any _,Sp.any _,Sp.eq _ (.pointer (some ⟨mb,0,none⟩)),Sp.eq _ (.pointer (some ⟨mb,12,none⟩)),Sp.any _] (by kernel_rfl) (by kernel_rfl) ?_ ?_ ?_
   ·exact FJ.start HMW.out HXW.out HOW.out
   ·refine⟨zu,zu,zu,zu,?_,zu,?_,?_,zu,?_,zu,?_,zu,zu,?_,zu,?_,zu,zu,?_,zu,zu,?_,zu,zu,?_,?_,zu,zu,?_,trivial⟩
    ·intro vs w1 L hLi hd hdt hJ hp
     have q3:vs 3=_:=zd hp 3
     have HJ:=zh hJ
     have hq:=zc (hJ.F (zd hdt 29)) 12 (.slice Av k cv) rfl
     clear hp hd hdt hLi hJ
     simp only [putAll,Nat.reduceAdd]
     go_wp2
     exact⟨rfl,HJ.out.keep 4 _ (by decide) (by decide) (by decide),trivial,rfl⟩
    ·intro vs w1 L hLi hd hdt hJ hp
     have q5:vs 5=_:=zd hp 5
     have HJ:=zh hJ
     have hq:=zc ((hJ.B _ HBX.out.1 HBX.out.2.1 HBX.out.2.2).trans HXB.out) 0 (.slice An (sby x.name).length cn) rfl
     clear hp hd hdt hLi hJ
     simp only [putAll,Nat.reduceAdd]
     go_wp2
     exact⟨rfl,HJ.out.keep 6 _ (by decide) (by decide) (by decide),trivial,rfl⟩
    ·intro vs w1 L hLi hd hdt hJ hp
     have q6:vs 6=_:=zd hp 6
     have HJ:=zh hJ
     have hcv:=conv_rd (HNM.out.ext (hJ.X.ext X0.out HLO.out))
     rw [str_sby]at hcv
     clear hp hd hdt hLi hJ
     simp only [putAll,Nat.reduceAdd]
     go_wp2
     exact⟨rfl,HJ.out.keep 7 _ (by decide) (by decide) (by decide),trivial,rfl⟩
    ·intro vs w1 L hLi hd hdt hJ hp
     have q8:vs 8=_:=zd hp 8
     have HJ:=zh hJ
     have hq:=zc ((hJ.B _ HBX.out.1 HBX.out.2.1 HBX.out.2.2).trans HXB.out) 1 (.int .u32 x.tab) rfl
     clear hp hd hdt hLi hJ
     simp only [putAll,Nat.reduceAdd]
     go_wp2
     exact⟨rfl,HJ.out.keep 9 _ (by decide) (by decide) (by decide),trivial,rfl⟩
    ·intro vs w1 L hLi hd hdt hJ hp
     have q10:vs 10=_:=zd hp 10
     have HJ:=zh hJ
     have hq:=zc ((hJ.B _ HBX.out.1 HBX.out.2.1 HBX.out.2.2).trans HXB.out) 2 (.int .u16 x.col) rfl
     clear hp hd hdt hLi hJ
     simp only [putAll,Nat.reduceAdd]
     go_wp2
     exact⟨rfl,HJ.out.keep 11 _ (by decide) (by decide) (by decide),trivial,rfl⟩
    ·intro vs w1 L hLi hd hdt hJ hp
     have q13:vs 13=_:=zd hp 13
     have HJ:=zh hJ
     have hq:=zc ((hJ.B _ HBX.out.1 HBX.out.2.1 HBX.out.2.2).trans HXB.out) 3 (.int .u32 x.typ) rfl
     clear hp hd hdt hLi hJ
     simp only [putAll,Nat.reduceAdd]
     go_wp2
     exact⟨rfl,HJ.out.keep 14 _ (by decide) (by decide) (by decide),trivial,rfl⟩
    ·intro vs w1 L hLi hd hdt hJ hp
     have q15:vs 15=_:=zd hp 15
     have HJ:=zh hJ
     have hq:=zc ((hJ.B _ HBX.out.1 HBX.out.2.1 HBX.out.2.2).trans HXB.out) 4 (.int .i16 x.siz) rfl
     clear hp hd hdt hLi hJ
     simp only [putAll,Nat.reduceAdd]
     go_wp2
     exact⟨rfl,HJ.out.keep 16 _ (by decide) (by decide) (by decide),trivial,rfl⟩
    ·intro vs w1 L hLi hd hdt hJ hp
     have q18:vs 18=_:=zd hp 18
     have HJ:=zh hJ
     have hq:=zc ((hJ.B _ HBX.out.1 HBX.out.2.1 HBX.out.2.2).trans HXB.out) 5 (.int .i32 x.mdf) rfl
     clear hp hd hdt hLi hJ
     simp only [putAll,Nat.reduceAdd]
     go_wp2
     exact⟨rfl,HJ.out.keep 19 _ (by decide) (by decide) (by decide),trivial,rfl⟩
    ·intro vs w1 L hLi hd hdt hJ hp
     have q21:vs 21=_:=zd hp 21
     have HJ:=zh hJ
     have hq:=zc ((hJ.B _ HBX.out.1 HBX.out.2.1 HBX.out.2.2).trans HXB.out) 6 (.int .i16 x.fmt) rfl
     clear hp hd hdt hLi hJ
     simp only [putAll,Nat.reduceAdd]
     go_wp2
     exact⟨rfl,HJ.out.keep 22 _ (by decide) (by decide) (by decide),trivial,rfl⟩
    ·intro vs w1 L hLi hd hdt hJ hp
     have q24:vs 24=_:=zd hp 24
     have H26:=zh (zd hdt 26)
     have HJ:=zh hJ
     clear hp hd hdt hLi hJ
     simp only [putAll,Nat.reduceAdd]
     go_wp2
     refine⟨rfl,?_,trivial,trivial⟩
     exact HJ.out.step6 H26.out
    ·intro vs w1 L hLi hd hdt hJ hp
     have q4:vs 4=_:=zd hp 4
     have h6:=zd hd 25
     have H6:=zh h6
     have HLi:=zh hLi
     have HD9:=zh (hJ.D h6 hLi)
     have HR9:=zh (hJ.C hLi).row
     have HJ:=zh hJ
     clear h6
     clear hp hd hdt hLi hJ
     simp only [putAll,Nat.reduceAdd]
     refine ap_one rfl (.tmp 289) (.tmp 310) 29 62 7 64 _ rfl Tryz.underlying29 info62 rfl (by decide) (v:=.slice Av k cv) (b:=slB (vs 25)) (c:=1) (ys:=(#[.string x.name,.int .u32 x.tab,.int .i64 x.col,.int .u32 x.typ,.int .i64 x.siz,.int .i64 x.mdf,.int .i64 x.fmt]:Array Value).toList) (by simp only [evp_none,ne_eq,Nat.reduceEqDiff,not_false_eq_true,evp_ne];rw [evp_same _ _ _ (by simp [evp_size])];exact q4) HR9.out (by simp only [evp_none,ne_eq,Nat.reduceEqDiff,not_false_eq_true,evp_ne];rw [evp_same _ _ _ (by simp [evp_size])];exact HD9.out.1) rfl (fun j u hj=>(cell_of_row _ _ _ _ _ _ HD9.out.2).trans (by rw [<-Array.getElem?_toList];exact hj)) (List.all_eq_true.1 rfl) (by omega) (by decide) ?_
     intro v2 w2' hn
     refine⟨rfl,?_,trivial,trivial⟩
     rw [slot_put _ _ _ (by simp [evp_size])]
     exact HJ.out.step7 HMB.out HW0.out HVL.out H6.out HLi.out _ hn
    ·intro vs w1 L hLi hd hdt hJ hp
     have q0:vs 0=_:=zd hp 0
     have q1:vs 1=_:=zd hp 1
     have q2:vs 2=_:=zd hp 2
     have q3:vs 3=_:=zd hp 3
     have q4:vs 4=_:=zd hp 4
     have q5:vs 5=_:=zd hp 5
     have q6:vs 6=_:=zd hp 6
     have q7:vs 7=_:=zd hp 7
     have q8:vs 8=_:=zd hp 8
     have q9:vs 9=_:=zd hp 9
     have q10:vs 10=_:=zd hp 10
     have q11:vs 11=_:=zd hp 11
     have q12:vs 12=_:=zd hp 12
     have q13:vs 13=_:=zd hp 13
     have q14:vs 14=_:=zd hp 14
     have q15:vs 15=_:=zd hp 15
     have q16:vs 16=_:=zd hp 16
     have q17:vs 17=_:=zd hp 17
     have q18:vs 18=_:=zd hp 18
     have q19:vs 19=_:=zd hp 19
     have q20:vs 20=_:=zd hp 20
     have q21:vs 21=_:=zd hp 21
     have q22:vs 22=_:=zd hp 22
     have q23:vs 23=_:=zd hp 23
     have q24:vs 24=_:=zd hp 24
     have q28:vs 28=_:=zd hp 28
     have h7:=zd hd 26
     have H7:=zh h7
     have HLi:=zh hLi
     have hF:=hJ.F hLi
     have hc1:=zc hF 12 _ rfl
     have hf1:=free_slot hF 12
     obtain⟨A9,c9,hv9⟩:=own_slice (hJ.E h7).own
     have HV9:=zh hv9
     have HJ:=zh hJ
     clear h7 hF hv9
     clear hp hd hdt hLi hJ
     simp only [putAll,Nat.reduceAdd]
     rw [HV9.out]
     go_wp2
     refine⟨rfl,?_,trivial,trivial⟩
     exact HJ.out.step10 HMB.out H7.out HLi.out _ _ HV9.out
   ·intro vs w1 L hall hJ hp
    have q0:vs 0=_:=zd hp 0
    have q1:vs 1=_:=zd hp 1
    have q2:vs 2=_:=zd hp 2
    have q3:vs 3=_:=zd hp 3
    have q4:vs 4=_:=zd hp 4
    have q5:vs 5=_:=zd hp 5
    have q6:vs 6=_:=zd hp 6
    have q7:vs 7=_:=zd hp 7
    have q8:vs 8=_:=zd hp 8
    have q9:vs 9=_:=zd hp 9
    have q10:vs 10=_:=zd hp 10
    have q11:vs 11=_:=zd hp 11
    have q12:vs 12=_:=zd hp 12
    have q13:vs 13=_:=zd hp 13
    have q14:vs 14=_:=zd hp 14
    have q15:vs 15=_:=zd hp 15
    have q16:vs 16=_:=zd hp 16
    have q17:vs 17=_:=zd hp 17
    have q18:vs 18=_:=zd hp 18
    have q19:vs 19=_:=zd hp 19
    have q20:vs 20=_:=zd hp 20
    have q21:vs 21=_:=zd hp 21
    have q22:vs 22=_:=zd hp 22
    have q23:vs 23=_:=zd hp 23
    have q24:vs 24=_:=zd hp 24
    have q27:vs 27=_:=zd hp 27
    have q28:vs 28=_:=zd hp 28
    have HFI:=zh (And.intro hJ.X (And.intro (hJ.E (zd hall 26)) (hJ.G (zd hall 29))))
    clear hJ hp hall
    simp only [putAll,Nat.reduceAdd]
    clear q0 q1 q2 q3 q4 q5 q6 q7 q8 q9 q10 q11 q12 q13 q14 q15 q16 q17 q18 q19 q20 q21 q22 q23 q24 q27 q28
    simp only [Exit.inBlock,Exit.then]
    try go_at_K
    simp only [Act.put,List.setIfInBounds_toArray,List.set_cons_zero,List.set_cons_succ]
    go_wp2
    go_roundw
    case rel=>
     refine⟨k+1,by omega,by go_num,vs 26,ys++(#[.string x.name,.int .u32 x.tab,.int .i64 x.col,.int .u32 x.typ,.int .i64 x.siz,.int .i64 x.mdf,.int .i64 x.fmt]:Array Value).toList,zh ⟨HFI.out.1,HFI.out.2.2,HFI.out.2.1,?_⟩⟩
     rw [HTK.out]
     exact HE7.out.snoc (f:=fun q=>(#[.string x.name,.int .u32 x.tab,.int .i64 x.col,.int .u32 x.typ,.int .i64 x.siz,.int .i64 x.mdf,.int .i64 x.fmt]:Array Value).toList.getD q undef) rfl (fun q hq=>by match q,hq with|0,_=>rfl|1,_=>rfl|2,_=>rfl|3,_=>rfl|4,_=>rfl|5,_=>rfl|6,_=>rfl) ⟨rfl,rfl,rfl,rfl,rfl,rfl,rfl⟩
    case measure=>simp only [intOf];omega
  ·obtain rfl:k=fs.length:=by omega
   have h1:=HE7.out
   rw [List.take_length]at h1
   have HE8:=zh h1
   clear h1
   go_wp2
   (try simp only [Exit.inBlock,Exit.then]);first|refine bodyPost_end (results_none rfl _ _ _) rfl ?_|refine bodyPost_ret (results_none rfl _ _ _) rfl ?_
   refine⟨⟨#[]⟩,⟨#[]⟩,0,0,none,0,0,none,0,0,none,0,0,none,0,0,none,0,0,none,0,0,none,0,0,Av,fs.length,cv,rfl,HX.out,HMr.out,fun w3 h3=>⟨none,none,none,none,none,none,none,Av,0,0,0,0,0,0,0,cv,?_⟩⟩
   have hrl:RdM 7 isSf w3 (.slice Av fs.length cv) fs:=rdm_of (own_stay (w:=w) (w':=wr) HO.out.own (fun g hg=>by have:=(HO.out.off g hg).1;omega) h3) HE8.out
   exact⟨rfl,rdi_nil _ _,rdi_nil _ _,rdi_nil _ _,rdm_nil _ _ _,RdB.nil _,rd1_nil _ _,rdm_nil _ _ _,hrl,⟨by decide,by decide⟩,⟨by decide,by decide⟩,nofun,nofun,nofun,fun x hx=>⟨(HG.out x hx).2.1,(HG.out x hx).2.2.1,(HG.out x hx).2.2.2.1,(HG.out x hx).2.2.2.2.1⟩⟩
end Go.Proofs.YtdenjanihikolaaGreatDoor
