/- Helpers of told: values of a row of bytes; values that stay while one block turns. -/
import Derived.Test.YtdenjanihikolaaGreatDoorRqA2
import Derived.Test.YtdenjanihikolaaGreatDoorRqA0
import Derived.Test.YtdenjanihikolaaGreatDoorRqA1
import Derived.Test.YtdenjanihikolaaGreatDoorRqTda
import Derived.Test.YtdenjanihikolaaGreatDoorRqDok
namespace Go.Proofs.YtdenjanihikolaaGreatDoor
set_option linter.unusedVariables false
set_option linter.unusedSimpArgs false
set_option maxRecDepth 100000
set_option maxHeartbeats 4000000
open Go.RowKit Og
theorem wrap_i16 (x:Int):IntKind.i16.wrap x=(x+32768) % 65536 - 32768:=by unfold IntKind.wrap;simp [IntKind.bits,IntKind.signed];omega
theorem ColJ.step29z {bk:Nat} {W0 w:World} {v z z2:Value} {n:Nat} {xs:List Value} {x:Sf} {L:Nat->Bool} {vs:Nat->Value} (h:ColJ bk W0 v n xs x L vs w)(e26:L 26=true)(hbk:w.heap[bk]?=some (.cells #[z] 236 (0,0)))(hW:bk < W0.heap.size)(u:Value)(hz:vs 26=z2):ColJ bk W0 v n xs x (updB L 29) (upd vs 29 u) (w.setCell ⟨bk,0,none⟩ z2):=by
 subst hz;exact h.step29 e26 hbk hW u
theorem ExtBut.cell {b:Nat} {w w':World} (h:ExtBut b w w') {g j:Nat} {v:Value} (hc:w.cell? ⟨g,j,none⟩=some v)(hne:g≠b):w'.cell? ⟨g,j,none⟩=some v:=
 (cell_of_heap (h.block g (lt_of_cell hc) hne) j).trans hc
theorem ans57 (a b:ByteArray)(n:Int)(v4 v5 v6 v7 v8 v9 v10 v11:Value)(fs:List Sf)(A12:Option Addr)(c12:Nat)(w wa:World)(bk:Nat)(HL:Hid (RdM 7 isSf w (.slice A12 fs.length c12) fs))(hlf:fs.length<=20)(hgf:∀y∈fs,y.name.size<=200/\0<=y.tab/\y.tab < 4294967296/\0<=y.typ/\y.typ < 4294967296/\0<=y.col/\y.col<=32767/\ -32768<=y.siz/\y.siz<=32767/\ -2147483648<=y.mdf/\y.mdf < 2147483648/\0<=y.fmt/\y.fmt<=1)(hx:Ext w wa)(hbk:w.heap.size<=bk)(hblk:wa.heap[bk]?=some (.cells #[.slice none 0 0] 236 (0,0)))(R:List Int)(HR:Hid (R=msgB 84 (b16 fs.length++(fs.map toFd).flatMap fdB))):
 Calls Tryz.prog 60 #[.iface 233 (.pointer (some ⟨bk,0,none⟩)),.agg #[.int .i64 57,.string a,.string b,.int .u32 n,v4,v5,v6,v7,v8,v9,v10,v11,.slice A12 fs.length c12],.bool true] wa (Ans 233 333 bk w R):=by
 have HG:=zh hgf
 clear hgf
 have n185:=no185 233
 have n189:=no189 233
 have n191:=no191 233
 have n194:=no194 233
 have n196:=no196 233
 have n198:=no198 233
 have n200:=no200 233
 have n203:=no203 233
 have n206:=no206 233
 have n208:=no208 233
 have n210:=no210 233
 have n213:=no213 233
 have n217:=no217 233
 have n219:=no219 233
 have n222:=no222 233
 have n225:=no225 233
 have n228:=no228 233
 have n230:=no230 233
 have y233:=yes233
 obtain⟨W2,hW2⟩:∃W2,W2=wa.alloc (.cells #[.int .i64 57,.string a,.string b,.int .u32 n,v4,v5,v6,v7,v8,v9,v10,v11,.slice A12 fs.length c12] 31):=⟨_,rfl⟩
 have X1:Hid (Ext wa W2):=zh (by rw [hW2];exact ext_alloc wa _)
 have XW:Hid (Ext w W2):=zh (hx.trans X1.out)
 have HB:Hid (W2.heap[bk]?=some (.cells #[.slice none 0 0] 236 (0,0))):=zh ((X1.out.block _ (zl hblk)).trans hblk)
 have hO:W2.heap[wa.heap.size]?=some (.cells #[.int .i64 57,.string a,.string b,.int .u32 n,v4,v5,v6,v7,v8,v9,v10,v11,.slice A12 fs.length c12] 31 (0,0)):=by rw [hW2];exact heap_alloc_new _ _
 have hX12:=zc hO 12 (.slice A12 fs.length c12) rfl
 have HBK:=zh hbk
 clear hx hbk hblk hO
 go_enter Tryz.func60,Tryz.ntmps60
 go_wp2_with (first|(go_at_call 54;rw [<-hW2];clear hW2;refine(let54 n _).mono ?_;rintro e w54 ⟨rfl,hw54⟩;rw [hw54];clear hw54))
 go_loopw [240] (fun i wr=>∃k:Nat,k<=fs.length/\i=.int .i64 k/\∃v xs,Hid (Cols bk W2 wr v (fs.take k) xs)) (fun i _=>fs.length - (intOf i).toNat)
 case atStart=>exact⟨0,Nat.zero_le _,rfl,_,_,zh (Cols.start HB.out)⟩
 case round=>
  obtain⟨k,hk1,rfl,v,xs,HS⟩:=hrel
  obtain⟨Av,cv,hv⟩:=own_slice HS.out.row.own
  rw [show (fs.take k).length=k by rw [List.length_take];omega]at hv
  subst hv
  by_cases hlt:k < fs.length
  ·obtain⟨b1,o1,f,rfl,hcell,hv⟩:=HL.out.at_ hlt
   have hgx:=HG.out _ (List.getElem_mem hlt)
   obtain⟨x,hx⟩:∃x,x=fs[k]:=⟨_,rfl⟩
   rw [<-hx]at hv hgx
   have HX:=zh hx
   obtain⟨hf0,hf1,hf2,hf3,hf4,hf5,hf6⟩:=hv
   have HBN:Hid (b1≠bk):=zh (by have:=lt_of_cell (hcell 0 (by omega));have:=HBK.out;omega)
   have hd0:=(HS.out.extBut.cell (XW.out.cell (hcell 0 (by omega))) HBN.out)
   rw [hf0,Nat.add_zero]at hd0
   have hd1:=(HS.out.extBut.cell (XW.out.cell (hcell 1 (by omega))) HBN.out)
   rw [hf1]at hd1
   have hd2:=(HS.out.extBut.cell (XW.out.cell (hcell 2 (by omega))) HBN.out)
   rw [hf2]at hd2
   have hd3:=(HS.out.extBut.cell (XW.out.cell (hcell 3 (by omega))) HBN.out)
   rw [hf3]at hd3
   have hd4:=(HS.out.extBut.cell (XW.out.cell (hcell 4 (by omega))) HBN.out)
   rw [hf4]at hd4
   have hd5:=(HS.out.extBut.cell (XW.out.cell (hcell 5 (by omega))) HBN.out)
   rw [hf5]at hd5
   have hd6:=(HS.out.extBut.cell (XW.out.cell (hcell 6 (by omega))) HBN.out)
   rw [hf6]at hd6
   have HKK:Hid ((fs.take k).length=k):=zh (by rw [List.length_take];omega)
   have HBL:Hid (bk < (wr.alloc (.cells #[.string x.name,.int .u32 x.tab,.int .i64 x.col,.int .u32 x.typ,.int .i64 x.siz,.int .i64 x.mdf,.int .i64 x.fmt] 62)).heap.size):=zh (Nat.lt_of_lt_of_le (zl HS.out.blk) (ext_alloc wr _).size)
   have HB0:Hid ((wr.alloc (.cells #[.string x.name,.int .u32 x.tab,.int .i64 x.col,.int .u32 x.typ,.int .i64 x.siz,.int .i64 x.mdf,.int .i64 x.fmt] 62)).heap[bk]?=some (.cells #[.slice Av k cv] 236 (0,0))):=zh (((ext_alloc wr _).block bk (zl HS.out.blk)).trans HS.out.blk)
   have HXB:Hid ((wr.alloc (.cells #[.string x.name,.int .u32 x.tab,.int .i64 x.col,.int .u32 x.typ,.int .i64 x.siz,.int .i64 x.mdf,.int .i64 x.fmt] 62)).heap[wr.heap.size]?=some (.cells #[.string x.name,.int .u32 x.tab,.int .i64 x.col,.int .u32 x.typ,.int .i64 x.siz,.int .i64 x.mdf,.int .i64 x.fmt] 62 (0,0))):=zh (heap_alloc_new _ _)
   have HV:Hid (∀g,(.slice Av k cv:Value).ownBlock=some g->g < (wr.alloc (.cells #[.string x.name,.int .u32 x.tab,.int .i64 x.col,.int .u32 x.typ,.int .i64 x.siz,.int .i64 x.mdf,.int .i64 x.fmt] 62)).heap.size):=zh (fun g hg=>Nat.lt_of_lt_of_le (HS.out.row.own.lt g hg).2 (ext_alloc wr _).size)
   have HOF:Hid ((.slice Av k cv:Value).ownBlock≠some bk):=zh (fun e=>HS.out.off bk e rfl)
   have HBX:Hid (But (wr.alloc (.cells #[.string x.name,.int .u32 x.tab,.int .i64 x.col,.int .u32 x.typ,.int .i64 x.siz,.int .i64 x.mdf,.int .i64 x.fmt] 62)) (.slice Av k cv) wr.heap.size/\wr.heap.size≠bk):=zh ⟨⟨zl HXB.out,fun e=>by have:=(HS.out.row.own.lt _ e).2;omega⟩,fun e=>by have:=zl HS.out.blk;omega⟩
   have HNS:Hid (x.name.size<=maxLen):=zh (by have:=hgx.1;unfold maxLen;omega)
   have hw1:IntKind.u16.wrap x.col=x.col:=by rw [IntKind.wrap_u16];omega
   have hw2:x.col % 65536=x.col:=by omega
   have hw3:IntKind.i16.wrap x.siz=x.siz:=by rw [wrap_i16];omega
   have hw4:IntKind.i32.wrap x.mdf=x.mdf:=by rw [IntKind.wrap_i32];omega
   have hw5:IntKind.i16.wrap x.fmt=x.fmt:=by rw [wrap_i16];omega
   clear hx hcell hf0 hf1 hf2 hf3 hf4 hf5 hf6 hgx hX12
   go_wp2
   refine wp_region_ogL (J:=ColJ bk (wr.alloc (.cells #[.string x.name,.int .u32 x.tab,.int .i64 x.col,.int .u32 x.typ,.int .i64 x.siz,.int .i64 x.mdf,.int .i64 x.fmt] 62)) (.slice Av k cv) (fs.take k).length xs x) (R:=fun _ _=>True) [Sp.eq _ (.pointer (some ⟨bk,0,none⟩)),Sp.eq _ (.pointer (some ⟨bk,0,none⟩)),Sp.eq _ (.pointer (some ⟨bk,0,none⟩)),Sp.eq _ (.pointer (some ⟨bk,0,none⟩)),Sp.eq _ (.slice Av k cv),Sp.eq _ (.pointer (some ⟨wr.heap.size,0,none⟩)),Sp.eq _ (.string x.name),Sp.any _,Sp.eq _ (.pointer (some ⟨wr.heap.size,1,none⟩)),Sp.eq _ (.int .u32 x.tab),Sp.eq _ (.pointer (some ⟨wr.heap.size,2,none⟩)),Sp.eq _ (.int .i64 x.col),Sp.eq _ (.int .u16 x.col),Sp.eq _ (.pointer (some ⟨wr.heap.size,3,none⟩)),Sp.eq _ (.int .u32 x.typ),Sp.eq _ (.pointer (some ⟨wr.heap.size,4,none⟩)),Sp.eq _ (.int .i64 x.siz),Sp.eq _ (.int .i16 x.siz),Sp.eq _ (.pointer (some ⟨wr.heap.size,5,none⟩)),Sp.eq _ (.int .i64 x.mdf),Sp.eq _ (.int .i32 x.mdf),Sp.eq _ (.pointer (some ⟨wr.heap.size,6,none⟩)),Sp.eq _ (.int .i64 x.fmt),Sp.eq _ (.int .i16 x.fmt),Sp.any _,Sp.any _,Sp.any _,Sp.eq _ (.pointer (some ⟨bk,0,none⟩)),Sp.eq _ (.pointer (some ⟨bk,0,none⟩)),Sp.any _] (by kernel_rfl) (by kernel_rfl) ?_ ?_ ?_
   ·exact ColJ.start bk (wr.alloc (.cells #[.string x.name,.int .u32 x.tab,.int .i64 x.col,.int .u32 x.typ,.int .i64 x.siz,.int .i64 x.mdf,.int .i64 x.fmt] 62)) (.slice Av k cv) (fs.take k).length xs x _
   ·refine⟨zu,zu,zu,zu,?_,zu,?_,?_,zu,?_,zu,?_,zu,zu,?_,zu,?_,zu,zu,?_,zu,zu,?_,zu,?_,?_,?_,zu,zu,?_,trivial⟩
    ·intro vs w1 L hLi hd hdt hJ hp
     have q3:vs 3=_:=zd hp 3
     have HJ:=zh hJ
     have hX:=hJ.A (zd hdt 26)
     have hq:=zc ((hX.block bk HBL.out).trans HB0.out) 0 (.slice Av k cv) rfl
     clear hX
     clear hp hd hdt hLi hJ
     simp only [putAll,Nat.reduceAdd]
     go_wp2
     exact⟨rfl,HJ.out.keep 4 _ (by decide) (by decide) (by decide) (by decide) (by decide),trivial,rfl⟩
    ·intro vs w1 L hLi hd hdt hJ hp
     have q5:vs 5=_:=zd hp 5
     have HJ:=zh hJ
     have hq:=zc ((hJ.box HBX.out.1 HBX.out.2).trans HXB.out) 0 (.string x.name) rfl
     clear hp hd hdt hLi hJ
     simp only [putAll,Nat.reduceAdd]
     go_wp2
     exact⟨rfl,HJ.out.keep 6 _ (by decide) (by decide) (by decide) (by decide) (by decide),trivial,rfl⟩
    ·intro vs w1 L hLi hd hdt hJ hp
     have q6:vs 6=_:=zd hp 6
     have HJ:=zh hJ
     have H24:=zh (zd hdt 24)
     clear hp hd hdt hLi hJ
     simp only [putAll,Nat.reduceAdd]
     have hrb:=run_bytes x.name w1
     go_wp2
     refine⟨rfl,?_,trivial,trivial⟩
     exact HJ.out.step7 H24.out (ext_bytes w1 x.name) _ HBL.out (str_keeps w1 x.name HNS.out) (by rw [sby_length];rfl) HV.out
    ·intro vs w1 L hLi hd hdt hJ hp
     have q8:vs 8=_:=zd hp 8
     have HJ:=zh hJ
     have hq:=zc ((hJ.box HBX.out.1 HBX.out.2).trans HXB.out) 1 (.int .u32 x.tab) rfl
     clear hp hd hdt hLi hJ
     simp only [putAll,Nat.reduceAdd]
     go_wp2
     exact⟨rfl,HJ.out.keep 9 _ (by decide) (by decide) (by decide) (by decide) (by decide),trivial,rfl⟩
    ·intro vs w1 L hLi hd hdt hJ hp
     have q10:vs 10=_:=zd hp 10
     have HJ:=zh hJ
     have hq:=zc ((hJ.box HBX.out.1 HBX.out.2).trans HXB.out) 2 (.int .i64 x.col) rfl
     clear hp hd hdt hLi hJ
     simp only [putAll,Nat.reduceAdd]
     go_wp2
     exact⟨rfl,HJ.out.keep 11 _ (by decide) (by decide) (by decide) (by decide) (by decide),trivial,rfl⟩
    ·intro vs w1 L hLi hd hdt hJ hp
     have q13:vs 13=_:=zd hp 13
     have HJ:=zh hJ
     have hq:=zc ((hJ.box HBX.out.1 HBX.out.2).trans HXB.out) 3 (.int .u32 x.typ) rfl
     clear hp hd hdt hLi hJ
     simp only [putAll,Nat.reduceAdd]
     go_wp2
     exact⟨rfl,HJ.out.keep 14 _ (by decide) (by decide) (by decide) (by decide) (by decide),trivial,rfl⟩
    ·intro vs w1 L hLi hd hdt hJ hp
     have q15:vs 15=_:=zd hp 15
     have HJ:=zh hJ
     have hq:=zc ((hJ.box HBX.out.1 HBX.out.2).trans HXB.out) 4 (.int .i64 x.siz) rfl
     clear hp hd hdt hLi hJ
     simp only [putAll,Nat.reduceAdd]
     go_wp2
     exact⟨rfl,HJ.out.keep 16 _ (by decide) (by decide) (by decide) (by decide) (by decide),trivial,rfl⟩
    ·intro vs w1 L hLi hd hdt hJ hp
     have q18:vs 18=_:=zd hp 18
     have HJ:=zh hJ
     have hq:=zc ((hJ.box HBX.out.1 HBX.out.2).trans HXB.out) 5 (.int .i64 x.mdf) rfl
     clear hp hd hdt hLi hJ
     simp only [putAll,Nat.reduceAdd]
     go_wp2
     exact⟨rfl,HJ.out.keep 19 _ (by decide) (by decide) (by decide) (by decide) (by decide),trivial,rfl⟩
    ·intro vs w1 L hLi hd hdt hJ hp
     have q21:vs 21=_:=zd hp 21
     have HJ:=zh hJ
     have hq:=zc ((hJ.box HBX.out.1 HBX.out.2).trans HXB.out) 6 (.int .i64 x.fmt) rfl
     clear hp hd hdt hLi hJ
     simp only [putAll,Nat.reduceAdd]
     go_wp2
     exact⟨rfl,HJ.out.keep 22 _ (by decide) (by decide) (by decide) (by decide) (by decide),trivial,rfl⟩
    ·intro vs w1 L hLi hd hdt hJ hp
     have q9:vs 9=_:=zd hp 9
     have q12:vs 12=_:=zd hp 12
     have q14:vs 14=_:=zd hp 14
     have q17:vs 17=_:=zd hp 17
     have q20:vs 20=_:=zd hp 20
     have q23:vs 23=_:=zd hp 23
     have h7:=zd hd 7
     have h25:=zd hdt 25
     have H7:=zh h7
     have H25:=zh h25
     have h7s:=(hJ.B h7 (hJ.L25 h25)).1
     rw [sby_length]at h7s
     obtain⟨S7,hS7⟩:∃y,y=slA (vs 7):=⟨_,rfl⟩
     obtain⟨T7,hT7⟩:∃y,y=slC (vs 7):=⟨_,rfl⟩
     have HS7:=zh hS7
     have HT7:=zh hT7
     rw [<-hS7,<-hT7]at h7s
     clear hS7 hT7 h7 h25
     have HJ:=zh hJ
     clear hp hd hdt hLi hJ
     simp only [putAll,Nat.reduceAdd]
     rw [h7s]
     go_wp2
     refine⟨rfl,?_,trivial,trivial⟩
     exact HJ.out.step24 H7.out H25.out _ (by unfold cells7;rw [<-HS7.out,<-HT7.out];rfl)
    ·intro vs w1 L hLi hd hdt hJ hp
     have h24:=zd hd 24
     have H24:=zh h24
     have H26:=zh (zd hdt 26)
     have q24:=hJ.C h24
     unfold cells7 at q24
     have HJ:=zh hJ
     clear h24
     clear hp hd hdt hLi hJ
     simp only [putAll,Nat.reduceAdd]
     rw [q24]
     go_wp2
     refine⟨rfl,?_,trivial,trivial⟩
     exact HJ.out.step25 H24.out H26.out HBL.out
    ·intro vs w1 L hLi hd hdt hJ hp
     have q4:vs 4=_:=zd hp 4
     have h25:=zd hd 25
     have H25:=zh h25
     have HD:=zh (hJ.D h25 hLi)
     have HX1:=zh (hJ.A hLi)
     have HLi:=zh hLi
     have HR:=zh (((HS.out.row.ext (ext_alloc wr _)).ext HX1.out).but)
     have HJ:=zh hJ
     clear h25
     clear hp hd hdt hLi hJ
     simp only [putAll,Nat.reduceAdd]
     refine ap_one rfl (.tmp 248) (.tmp 269) 234 249 7 48 _ rfl Tryz.underlying234 info249 rfl (by decide) (v:=.slice Av k cv) (b:=slB (vs 25)) (c:=1) (ys:=(cells7 x (vs 7)).toList) (by simp only [evp_none,ne_eq,Nat.reduceEqDiff,not_false_eq_true,evp_ne];rw [evp_same _ _ _ (by simp [evp_size])];exact q4) HR.out (by simp only [evp_none,ne_eq,Nat.reduceEqDiff,not_false_eq_true,evp_ne];rw [evp_same _ _ _ (by simp [evp_size])];exact HD.out.1) rfl (fun j u hj=>(cell_of_row _ _ _ _ _ _ HD.out.2).trans (by rw [<-Array.getElem?_toList];exact hj)) (List.all_eq_true.1 rfl) (by have:=HKK.out;omega) (by decide) ?_
     intro v2 w2 hn
     refine⟨rfl,?_,trivial,trivial⟩
     rw [slot_put _ _ _ (by simp [evp_size])]
     exact HJ.out.step26 H25.out HLi.out HBL.out HOF.out HV.out hn
    ·intro vs w1 L hLi hd hdt hJ hp
     have q0:vs 0=_:=zd hp 0
     have q1:vs 1=_:=zd hp 1
     have q2:vs 2=_:=zd hp 2
     have q3:vs 3=_:=zd hp 3
     have q4:vs 4=_:=zd hp 4
     have q5:vs 5=_:=zd hp 5
     have q6:vs 6=_:=zd hp 6
     have q8:vs 8=_:=zd hp 8
     have q9:vs 9=_:=zd hp 9
     have q10:vs 10=_:=zd hp 10
     have q11:vs 11=_:=zd hp 11
     have q12:vs 12=_:=zd hp 12
     have q13:vs 13=_:=zd hp 13
     have q14:vs 14=_:=zd hp 14
     have q15:vs 15=_:=zd hp 15
     have q16:vs 16=_:=zd hp 16
     have q17:vs 17=_:=zd hp 17
     have q18:vs 18=_:=zd hp 18
     have q19:vs 19=_:=zd hp 19
     have q20:vs 20=_:=zd hp 20
     have q21:vs 21=_:=zd hp 21
     have q22:vs 22=_:=zd hp 22
     have q23:vs 23=_:=zd hp 23
     have q28:vs 28=_:=zd hp 28
     have h26:=zd hd 26
     have H26:=zh h26
     have hF:=(hJ.F hLi).trans HB0.out
     have HFF:=zh hF
     have hc1:=zc hF 0 _ rfl
     have hf1:=free_slot hF 0
     have HJ:=zh hJ
     obtain⟨A26,c26,hv26⟩:=own_slice (hJ.E h26).1.own
     rw [HKK.out]at hv26
     have HV26:=zh hv26
     clear h26 hF hv26
     clear hp hd hdt hLi hJ
     simp only [putAll,Nat.reduceAdd]
     rw [HV26.out]
     go_wp2
     refine⟨rfl,?_,trivial,trivial⟩
     exact HJ.out.step29z H26.out HFF.out HBL.out _ HV26.out
   ·intro vs w1 L hall hJ hp
    have q0:vs 0=_:=zd hp 0
    have q1:vs 1=_:=zd hp 1
    have q2:vs 2=_:=zd hp 2
    have q3:vs 3=_:=zd hp 3
    have q4:vs 4=_:=zd hp 4
    have q5:vs 5=_:=zd hp 5
    have q6:vs 6=_:=zd hp 6
    have q8:vs 8=_:=zd hp 8
    have q9:vs 9=_:=zd hp 9
    have q10:vs 10=_:=zd hp 10
    have q11:vs 11=_:=zd hp 11
    have q12:vs 12=_:=zd hp 12
    have q13:vs 13=_:=zd hp 13
    have q14:vs 14=_:=zd hp 14
    have q15:vs 15=_:=zd hp 15
    have q16:vs 16=_:=zd hp 16
    have q17:vs 17=_:=zd hp 17
    have q18:vs 18=_:=zd hp 18
    have q19:vs 19=_:=zd hp 19
    have q20:vs 20=_:=zd hp 20
    have q21:vs 21=_:=zd hp 21
    have q22:vs 22=_:=zd hp 22
    have q23:vs 23=_:=zd hp 23
    have q27:vs 27=_:=zd hp 27
    have q28:vs 28=_:=zd hp 28
    have HJ:=zh (HS.out.round hJ (zd hall 26) (zd hall 29) rfl)
    clear hJ hp hall
    simp only [putAll,Nat.reduceAdd]
    clear q0 q1 q2 q3 q4 q5 q6 q8 q9 q10 q11 q12 q13 q14 q15 q16 q17 q18 q19 q20 q21 q22 q23 q27 q28
    simp only [Exit.inBlock,Exit.then]
    try go_at_K
    simp only [Act.put,List.setIfInBounds_toArray,List.set_cons_zero,List.set_cons_succ]
    go_wp2
    go_roundw
    case rel=>
     refine⟨k+1,by omega,by go_num,vs 26,xs++(cells7 x (vs 7)).toList,zh ?_⟩
     rw [List.take_succ_eq_append_getElem hlt,<-HX.out]
     exact HJ.out
    case measure=>simp only [intOf];omega
  ·obtain rfl:k=fs.length:=by omega
   have h1:=HS.out
   rw [List.take_length]at h1
   have HS1:=zh h1
   clear h1
   go_wp2
   go_ret2
   refine⟨rfl,HS1.out.extBut.ext XW.out HBK.out,?_⟩
   exact encRowDescription bk Av cv (fs.map toFd) _ (by rw [List.length_map];exact zc HS1.out.blk 0 _ rfl) (by rw [List.length_map];exact HS1.out.rd) (by rw [List.length_map];omega) (by
    intro y hy
    obtain⟨x,hx,rfl⟩:=List.mem_map.1 hy
    have hg:=HG.out x hx
    refine⟨?_,⟨hg.2.1,hg.2.2.1⟩,⟨hg.2.2.2.2.2.1,?_⟩,⟨hg.2.2.2.1,hg.2.2.2.2.1⟩⟩
    ·show(sby x.name).length<=300
     rw [sby_length];omega
    ·show x.col < 65536
     omega) R (by rw [List.length_map];exact HR)
def BdK (w wr:World) (v:Value) (d:List Int) (u:Value):Prop:=∀w3:World,(∀q,w.heap.size<=q->q < wr.heap.size->v.ownBlock≠some q->w3.heap[q]?=wr.heap[q]?)->RdB w3 u d
theorem BdK.step {w wr w2 w3:World} {v v2:Value} {d:List Int} {u:Value} {e size m:Nat} {ys:List Value} (h:BdK w wr v d u)(hx:Ext wr w2)(h2:Row e size (But w2 v) w2 w3 v2 m ys):BdK w w3 v2 d u:=by
 refine fun w4 h4=>h w4 fun q h1 h3 h5=>?_
 have hq:But w2 v q:=⟨Nat.lt_of_lt_of_le h3 hx.size,h5⟩
 have h6:=h4 q h1 (h2.lt q hq) fun e=>h2.off q e hq
 exact h6.trans ((h2.kept q hq).trans (hx.block q h3))
theorem BdK.new {w wr w2 w3:World} {v v2:Value} {d:List Int} {u:Value} {e size m:Nat} {ys:List Value} (h:Keeps wr w2 (fun w3=>RdB w3 u d))(hw:w.heap.size<=wr.heap.size)(hv:∀g,v.ownBlock=some g->g < wr.heap.size)(h2:Row e size (But w2 v) w2 w3 v2 m ys):BdK w w3 v2 d u:=by
 refine fun w4 h4=>h w4 fun q h1 h3=>?_
 have hq:But w2 v q:=⟨h3,fun e=>by have:=hv q e;omega⟩
 exact(h4 q (by omega) (h2.lt q hq) fun e=>h2.off q e hq).trans (h2.kept q hq)
def Vls (w wr:World) (v:Value) (l:List (Bool×List Int)) (xs:List Value):Prop:=xs.length=l.length * 2/\∀j (h:j < l.length),∃A c,xs[j * 2]?=some (.bool l[j].1)/\xs[j * 2+1]?=some (.slice A l[j].2.length c)/\BdK w wr v l[j].2 (.slice A l[j].2.length c)
theorem Vls.snoc {w wr w2 w3:World} {v v2:Value} {l:List (Bool×List Int)} {xs:List Value} {x:Bool×List Int} {A:Option Addr} {c e size m:Nat} {ys:List Value} (h:Vls w wr v l xs)(hx:Ext wr w2)(h2:Row e size (But w2 v) w2 w3 v2 m ys)(hu:BdK w w3 v2 x.2 (.slice A x.2.length c)):Vls w w3 v2 (l++ [x]) (xs++ [.bool x.1,.slice A x.2.length c]):=by
 refine⟨by simp [h.1];omega,fun j hj=>?_⟩
 have hxl:=h.1
 rcases Nat.lt_or_ge j l.length with hl|hl
 ·obtain⟨A',c',h1,h3,h4⟩:=h.2 j hl
  rw [List.getElem_append_left hl]
  exact⟨A',c',by rw [List.getElem?_append_left (by omega)];exact h1,by rw [List.getElem?_append_left (by omega)];exact h3,h4.step hx h2⟩
 ·have hj2:j=l.length:=by simp at hj;omega
  subst hj2
  refine⟨A,c,?_,?_,by simpa using hu⟩
  ·rw [List.getElem?_append_right (by omega),hxl];simp
  ·rw [List.getElem?_append_right (by omega),hxl];simp
theorem Vls.rd {w wr:World} {v:Value} {l:List (Bool×List Int)} {xs:List Value} (h:Vls w wr v l xs)(hb:Row 58 2 (Lt w.heap.size) w wr v l.length xs):Keeps w wr (fun w3=>RdM 2 isVal w3 v l):=by
 intro w3 h3
 have hown:=own_stay hb.own hb.off h3
 refine rdm_of hown ⟨h.1,fun j hj=>?_⟩
 obtain⟨A,c,h1,h2,h4⟩:=h.2 j hj
 refine⟨fun k=>if k=0 then .bool l[j].1 else .slice A l[j].2.length c,fun k hk=>?_,rfl,A,c,rfl,h4 w3 fun q a1 a2 _=>h3 q a1 a2⟩
 rcases k with _|_|k
 ·exact h1
 ·exact h2
 ·omega
theorem valuesOfK (l:List (Bool×List Int))(A_l:Option Addr)(c_l:Nat)(w:World)(hr:Rd1 isOpt w (.slice A_l l.length c_l) (l.map optV))(hl:l.length<=1000)(hg:∀y∈l,y.2.length<=2000/\(y.1=true->y.2.length=0)):
 Calls Tryz.prog 62 #[.slice A_l l.length c_l] w (GaveR (fun v w=>RdM 2 isVal w v l) l.length w):=by
 have HR:=zh hr
 clear hr
 go_enter Tryz.func62,Tryz.ntmps62
 go_wp2
 go_loopw [3,8] (fun v i wr=>∃k:Nat,k<=l.length/\i=.int .i64 k/\∃xs,Hid (Row 58 2 (Lt w.heap.size) w wr v k xs/\Vls w wr v (l.take k) xs)) (fun _ i _=>l.length - (intOf i).toNat)
 case atStart=>exact⟨0,Nat.zero_le _,rfl,[],zh ⟨Row.start 58 2 w,by simp,fun j h=>by simp at h⟩⟩
 case round=>
  obtain⟨k,hk1,rfl,xs,HS⟩:=hrel
  obtain⟨Av,cv,hv⟩:=own_slice HS.out.1.own
  subst hv
  by_cases hlt:k < l.length
  ·have hgx:=hg _ (List.getElem_mem hlt)
   obtain⟨b1,o1,u,hA1,hcell,hv⟩:=Rd1.at_ (k:=k) HR.out (by rw [List.length_map];exact hlt)
   rw [List.getElem_map]at hv
   subst hA1
   obtain⟨⟨x1,x2⟩,hx⟩:∃x,x=l[k]:=⟨_,rfl⟩
   rw [<-hx]at hv hgx
   replace hgx:x2.length<=2000/\(x1=true->x2.length=0):=hgx
   have hd0:=HS.out.1.bel.cell hcell
   have HX:=zh hx
   clear hx hcell
   cases x1
   ·obtain⟨p,cx,hu,hrd⟩:=hv
    subst hu
    have HD:=zh (hrd.ext HS.out.1.bel)
    clear hrd
    go_wp2_with (first|(go_at_call 69;refine(valueOfK x2 p cx _ HD.out (by omega)).mono ?_;rintro e w2 ⟨A2,c2,rfl,hx2,hk2⟩;have HX2:=zh hx2;have HK2:=zh hk2;clear hx2 hk2;have HB2:=zh ((HS.out.1.ext HX2.out).but))|(at_builtin;refine ap_built rfl (.tmp 12) (.tmp 15) 25 58 2 32 _ _ _ rfl Tryz.underlying25 info58 rfl (by decide) rfl rfl HB2.out rfl rfl (List.all_eq_true.1 rfl) (by omega) (by decide) ?_;intro v3 w3 hn;obtain⟨A3,c3,hv3⟩:=own_slice hn.own;subst hv3;have HN:=zh hn;clear hn))
    go_roundw
    case rel=>
     refine⟨k+1,by omega,by go_num,_,zh ⟨(HS.out.1.ext HX2.out).unbut HN.out,?_⟩⟩
     rw [List.take_succ_eq_append_getElem hlt,<-HX.out]
     exact HS.out.2.snoc (x:=(false,x2)) HX2.out HN.out (BdK.new HK2.out HS.out.1.bel.size (fun g hg=>(HS.out.1.own.lt g hg).2) HN.out)
    case measure=>simp only [intOf];omega
   ·have hu:u=.slice none 0 0:=hv
    subst hu
    have h0:x2=[]:=List.eq_nil_of_length_eq_zero (hgx.2 rfl)
    subst h0
    go_wp2_with (first|(go_at_call 69;refine(valueOfN _).mono ?_;rintro e w2 ⟨A2,c2,rfl,hx2,hk2⟩;have HX2:=zh hx2;have HK2:=zh hk2;clear hx2 hk2;have HB2:=zh ((HS.out.1.ext HX2.out).but))|(at_builtin;refine ap_built rfl (.tmp 12) (.tmp 15) 25 58 2 32 _ _ _ rfl Tryz.underlying25 info58 rfl (by decide) rfl rfl HB2.out rfl rfl (List.all_eq_true.1 rfl) (by omega) (by decide) ?_;intro v3 w3 hn;obtain⟨A3,c3,hv3⟩:=own_slice hn.own;subst hv3;have HN:=zh hn;clear hn))
    go_roundw
    case rel=>
     refine⟨k+1,by omega,by go_num,_,zh ⟨(HS.out.1.ext HX2.out).unbut HN.out,?_⟩⟩
     rw [List.take_succ_eq_append_getElem hlt,<-HX.out]
     exact HS.out.2.snoc (x:=(true,[])) HX2.out HN.out (BdK.new HK2.out HS.out.1.bel.size (fun g hg=>(HS.out.1.own.lt g hg).2) HN.out)
    case measure=>simp only [intOf];omega
  ·obtain rfl:k=l.length:=by omega
   go_wp2
   go_ret
   have h1:=HS.out
   rw [List.take_length]at h1
   exact⟨_,_,rfl,h1.1.bel,h1.2.rd h1.1⟩
theorem PR.but {R:Value->World->Prop} {n b:Nat} {W1 x y:World} {u:Value} (h:PR R n W1 u x)(hx:ExtBut b x y)(hb:b < W1.heap.size):PR R n W1 u y:=
 ⟨h.1,fun w3 h3=>h.2 w3 fun k h1 h2=>(h3 k h1 (Nat.lt_of_lt_of_le h2 hx.size)).trans (hx.block k h2 (by omega))⟩
theorem PR.made {R:Value->World->Prop} {n:Nat} {W1 x y:World} {A:Option Addr} {c:Nat} (h:Keeps x y (R (.slice A n c)))(hs:W1.heap.size<=x.heap.size):PR R n W1 (.slice A n c) y:=
 ⟨rfl,fun w3 h3=>h w3 fun k h1 h2=>h3 k (Nat.le_trans hs h1) h2⟩
def spB (R:Value->World->Prop) (n b:Nat) (W1:World) (hb:b < W1.heap.size):Sp (ExtBut b):=⟨PR R n W1,fun _ _ _ h k=>PR.but k h hb⟩
def cellsT (base:Array Value) (l:List (Nat×Nat×((Nat->Value)->Value))) (L:Nat->Bool) (vs:Nat->Value):Array Value:=l.foldl (fun c e=>if L e.1=true then c.setIfInBounds e.2.1 (e.2.2 vs)else c) base
structure TJ (mb:Nat) (W:World) (base:Array Value) (l:List (Nat×Nat×((Nat->Value)->Value))) (L:Nat->Bool) (vs:Nat->Value) (w:World):Prop where
 ext:ExtBut mb W w
 blk:w.heap[mb]?=some (.cells (cellsT base l L vs) 31 (0,0))
theorem cellsT_off {l:List (Nat×Nat×((Nat->Value)->Value))} {L:Nat->Bool} {vs:Nat->Value} (i:Nat)(u:Value)(h:∀e∈l,e.1≠i/\(L e.1=true->e.2.2 (upd vs i u)=e.2.2 vs)):∀base,cellsT base l (updB L i) (upd vs i u)=cellsT base l L vs:=by
 unfold cellsT
 induction l with
 | nil=>intro base;rfl
 | cons e r ih=>
   intro base
   obtain⟨h1,h2⟩:=h e (by simp)
   have e1:updB L i e.1=L e.1:=by simp [updB,h1]
   simp only [List.foldl_cons,e1]
   rw [ih fun f hf=>h f (by simp [hf])]
   by_cases hL:L e.1=true
   ·rw [if_pos hL,if_pos hL,h2 hL]
   ·rw [if_neg hL,if_neg hL]
theorem TJ.start {mb:Nat} {W:World} {base:Array Value} {l:List (Nat×Nat×((Nat->Value)->Value))} {vs:Nat->Value} (h:W.heap[mb]?=some (.cells base 31 (0,0))):TJ mb W base l (fun _=>false) vs W.drew:=by
 refine⟨(Ext.refl W).drew.but,?_⟩
 have e:cellsT base l (fun _=>false) vs=base:=by
  unfold cellsT
  induction l with
  | nil=>rfl
  | cons e r ih=>simpa using ih
 rw [e]
 exact h
theorem TJ.keep {mb:Nat} {W w w2:World} {base:Array Value} {l:List (Nat×Nat×((Nat->Value)->Value))} {L:Nat->Bool} {vs:Nat->Value} (h:TJ mb W base l L vs w)(hx:Ext w w2)(i:Nat)(u:Value)(hi:∀e∈l,e.1≠i/\(L e.1=true->e.2.2 (upd vs i u)=e.2.2 vs)):TJ mb W base l (updB L i) (upd vs i u) w2:=by
 refine⟨h.ext.trans hx.but,?_⟩
 rw [cellsT_off i u hi]
 exact(hx.block mb (zl h.blk)).trans h.blk
end Go.Proofs.YtdenjanihikolaaGreatDoor
