/- Encode of the thin package, over the method's contract. -/
import Derived.Test.YtdenjanihikolaaGreatDoorRqA2
import Derived.Test.YtdenjanihikolaaGreatDoorRqA0
import Derived.Test.YtdenjanihikolaaGreatDoorRqWra
import Derived.Defers
import Derived.Recover
namespace Go.Proofs.YtdenjanihikolaaGreatDoor
set_option linter.unusedVariables false
set_option linter.unusedSimpArgs false
set_option maxRecDepth 100000
set_option maxHeartbeats 4000000
open Go.RowKit Og
/-- What a region keeps that appends to the writer and stores. -/
def AppJ (K:Nat->Prop) (w0 W:World) (pb:Nat) (ys:List Int) (s a:Nat) (L:Nat->Bool) (vs:Nat->Value) (w:World):Prop:=
 if L s=true then∃v',Wr K w0 w pb v' ys else if L a=true then Buf (fun k=>K k∨k=pb) W w (vs a) ys else w=W
theorem AppJ.keep {K:Nat->Prop} {w0 W:World} {pb:Nat} {ys:List Int} {s a:Nat} {L:Nat->Bool} {vs:Nat->Value} {w:World} (h:AppJ K w0 W pb ys s a L vs w)(i:Nat)(u:Value)(h1:a≠i)(h2:s≠i):AppJ K w0 W pb ys s a (updB L i) (upd vs i u) w:=by
 unfold AppJ at *
 simpa [updB,upd,h1,h2]using h
/-- the bytes of a value of the reference -/
def valB (nul:Bool) (d:List Int):List Int:=if nul then numB (-1) 4 else numB d.length 4++d
theorem Wr.box {K:Nat->Prop} {w0 w:World} {pb:Nat} {v:Value} {xs:List Int} (h:Wr K w0 w pb v xs)(o:Obj):Wr (fun k=>K k∨k=w.heap.size) (w.alloc o) (w.alloc o) pb v xs:=
 ⟨fun hk=>hk.elim h.out fun e=>Nat.lt_irrefl _ (e▸lt_of_block h.blk),(h.ext (ext_alloc w o)).blk,h.buf.box o,h.off⟩
theorem Wr.unbox {K:Nat->Prop} {w0 w w':World} {pb:Nat} {v v':Value} {xs ys:List Int} {o:Obj} (h:Wr K w0 w pb v xs)(h':Wr (fun k=>K k∨k=w.heap.size) (w.alloc o) w' pb v' ys):Wr K w0 w' pb v' ys:=
 ⟨h.out,h'.blk,h.buf.unbox h'.buf,h'.off⟩
theorem value_w (nul:Bool)(A:Option Addr)(c:Nat)(d:List Int) {w0 w:World} {pb:Nat} {v:Value} {xs:List Int} (h:Wr (Lt w0.heap.size) w0 w pb v xs)(hr:RdB w0 (.slice A d.length c) d)(hl:xs.length+d.length+4<=1099511627776):
 Calls Tryz.prog 42 #[.pointer (some ⟨pb,0,none⟩),.agg #[.bool nul,.slice A d.length c]] w (Wrote (Lt w0.heap.size) w0 pb (xs++valB nul d)):=by
 have H0:=zh h
 have H:=zh (h.box (.cells #[.bool nul,.slice A d.length c] 59))
 clear h
 have HR:=zh hr
 clear hr
 cases nul
 ·go_enter Tryz.func42,Tryz.ntmps42
  go_wp2_with (go_at_call 36;refine(number_w 4 (by omega) _ H.out (by omega)).mono ?_;rintro e w1 ⟨rfl,v1,hn⟩;have hb1:=(hn.buf.boxed 1);simp only [List.getElem?_toArray,List.getElem?_cons_succ,List.getElem?_cons_zero]at hb1;have HN:=zh (H0.out.unbox hn);clear hn H)
  have HR1:=zh (HR.out.ext HN.out.drew.buf.bel)
  have hcW:=HN.out.drew.cell
  have HX:=zh HN.out.drew
  have hbW:w1.drew.cell? ⟨w.heap.size,1,none⟩=some (.slice A d.length c):=hb1
  clear hb1 HN HR H0
  refine wp_region_ogL (J:=AppJ (Lt w0.heap.size) w0 w1.drew pb (xs++numB (d.length:Int) 4++d) 8 6) (R:=fun _ _=>True) [Sp.eq _ (.pointer (some ⟨pb,0,none⟩)),Sp.eq _ (.pointer (some ⟨pb,0,none⟩)),Sp.eq _ (.pointer (some ⟨pb,0,none⟩)),Sp.eq _ (v1),Sp.eq _ (.pointer (some ⟨w.heap.size,1,none⟩)),Sp.eq _ (.slice A d.length c),Sp.any _,Sp.eq _ (.pointer (some ⟨pb,0,none⟩)),Sp.any _] (by kernel_rfl) (by kernel_rfl) ?_ ?_ ?_
  ·rfl
  ·refine⟨zu,zu,zu,?_,zu,?_,?_,zu,?_,trivial⟩
   ·intro vs w1 L hLi hd hdt hJ hp
    have q2:vs 2=_:=zd hp 2
    have HJ:=zh hJ
    have hL6:L 6=false:=zd hdt 6
    have hL8:L 8=false:=zd hdt 8
    unfold AppJ at hJ
    rw [hL8,hL6]at hJ
    simp only [Bool.false_eq_true,if_false]at hJ
    subst hJ
    clear hp hd hdt hLi hL6 hL8
    simp only [putAll,Nat.reduceAdd]
    go_wp2
    exact⟨rfl,HJ.out.keep 3 _ (by decide) (by decide),trivial,rfl⟩
   ·intro vs w1 L hLi hd hdt hJ hp
    have q4:vs 4=_:=zd hp 4
    have HJ:=zh hJ
    have hL6:L 6=false:=zd hdt 6
    have hL8:L 8=false:=zd hdt 8
    unfold AppJ at hJ
    rw [hL8,hL6]at hJ
    simp only [Bool.false_eq_true,if_false]at hJ
    subst hJ
    clear hp hd hdt hLi hL6 hL8
    simp only [putAll,Nat.reduceAdd]
    go_wp2
    exact⟨rfl,HJ.out.keep 5 _ (by decide) (by decide),trivial,rfl⟩
   ·intro vs w1 L hLi hd hdt hJ hp
    have q3:vs 3=_:=zd hp 3
    have q5:vs 5=_:=zd hp 5
    have hL8:L 8=false:=zd hdt 8
    unfold AppJ at hJ
    rw [hL8,hLi]at hJ
    simp only [Bool.false_eq_true,if_false]at hJ
    subst hJ
    have HL8:=zh hL8
    clear hp hd hdt hLi hL8
    simp only [putAll,Nat.reduceAdd]
    refine ap_row (v:=v1) (vx:=.slice A d.length c) (ys:=d) rfl (.tmp 16) (.tmp 18) 79 26 rfl Tryz.underlying79 Tryz.underlying26 (by simp only [evp_none,ne_eq,Nat.reduceEqDiff,not_false_eq_true,evp_ne];rw [evp_same _ _ _ (by simp [evp_size])];exact q3) HX.out.open (by simp only [evp_none,ne_eq,Nat.reduceEqDiff,not_false_eq_true,evp_ne];rw [evp_same _ _ _ (by simp [evp_size])];exact q5) HR1.out (by simp only [List.length_append,numB_len];omega) ?_
    intro v2 w2 hn
    refine⟨rfl,?_,trivial,trivial⟩
    unfold AppJ
    simp only [updB,upd,HL8.out,Bool.false_or,Nat.reduceBEq,Bool.false_eq_true,if_false,beq_self_eq_true,Bool.or_true,if_true]
    rw [slot_put _ _ _ (by simp [evp_size])]
    exact hn
   ·intro vs w1 L hLi hd hdt hJ hp
    have q0:vs 0=_:=zd hp 0
    have q1:vs 1=_:=zd hp 1
    have q2:vs 2=_:=zd hp 2
    have q3:vs 3=_:=zd hp 3
    have q4:vs 4=_:=zd hp 4
    have q5:vs 5=_:=zd hp 5
    have q7:vs 7=_:=zd hp 7
    have hL6:L 6=true:=zd hd 6
    unfold AppJ at hJ
    rw [hLi,hL6]at hJ
    simp only [Bool.false_eq_true,if_false,if_true]at hJ
    have HJ:=zh hJ
    have hc1:=cell_of_one (HX.out.in_ hJ)
    have hf1:=free_of_one (HX.out.in_ hJ)
    obtain⟨A2,n2,c2,hv2⟩:=hJ.sl
    have HV:=zh hv2
    clear hp hd hdt hLi hJ hL6 hv2
    simp only [putAll,Nat.reduceAdd]
    rw [HV.out]
    go_wp2
    refine⟨rfl,?_,trivial,trivial⟩
    unfold AppJ
    simp only [updB,Nat.reduceAdd,beq_self_eq_true,Bool.or_true,if_true]
    have hz:=HX.out.close HJ.out
    rw [HV.out]at hz
    exact⟨_,hz⟩
  ·intro vs w1 L hall hJ hp
   have q0:vs 0=_:=zd hp 0
   have q1:vs 1=_:=zd hp 1
   have q2:vs 2=_:=zd hp 2
   have q3:vs 3=_:=zd hp 3
   have q4:vs 4=_:=zd hp 4
   have q5:vs 5=_:=zd hp 5
   have q7:vs 7=_:=zd hp 7
   have hL8:=zd hall 8
   unfold AppJ at hJ
   rw [hL8]at hJ
   simp only [if_true]at hJ
   obtain⟨v2,hw2⟩:=hJ
   have HN:=zh hw2
   clear hw2 hp hall hL8
   simp only [putAll]
   go_wp2
   go_end0
   refine⟨rfl,v2,?_⟩
   have hz:=HN.out
   rw [List.append_assoc]at hz
   exact hz
 ·go_enter Tryz.func42,Tryz.ntmps42
  go_wp2_with (go_at_call 36;refine(number_w 4 (by omega) _ H.out (by omega)).mono ?_;rintro e w1 ⟨rfl,v1,hn⟩;have HN:=zh (H0.out.unbox hn);clear hn)
  go_end0
  exact⟨rfl,_,HN.out⟩
/-- A value of the reference in its two cells. -/
def isVal (w:World) (x:Bool×List Int) (f:Nat->Value):Prop:=f 0=.bool x.1/\∃A c,f 1=.slice A x.2.length c/\RdB w (.slice A x.2.length c) x.2
theorem isVal.ext {w w':World} (hx:Ext w w'):∀x f,isVal w x f->isVal w' x f:=fun _ _ ⟨h0,A,c,h1,h2⟩=>⟨h0,A,c,h1,h2.ext hx⟩
theorem valB_len (x:Bool×List Int):(valB x.1 x.2).length<=4+x.2.length:=by
 unfold valB
 split <;> simp only [List.length_append,numB_len] <;> omega
theorem values_w (l:List (Bool×List Int)) {w0 w:World} {pb:Nat} {v vl:Value} {xs:List Int} (h:Wr (Lt w0.heap.size) w0 w pb v xs)(hr:RdM 2 isVal w0 vl l)(hm:∀y∈l,y.2.length<=2000)(hl:xs.length+2004 * l.length+5000<=1099511627776):
 Calls Tryz.prog 40 #[.pointer (some ⟨pb,0,none⟩),vl] w (Wrote (Lt w0.heap.size) w0 pb (xs++(numB l.length 2++l.flatMap fun x=>valB x.1 x.2))):=by
 obtain⟨A_l,c_l,rfl, -⟩:=id hr
 have HR:=zh hr
 clear hr
 have hc:=h.cell
 have H:=zh h
 clear h
 have HM:=zh hm
 clear hm
 go_enter Tryz.func40,Tryz.ntmps40
 go_wp2_with (go_at_call 36;refine(number_w 2 (by omega) _ H.out (by omega)).mono ?_;rintro e w1 ⟨rfl,v1,hn⟩;clear hc;have hc:=hn.cell;have HB:=zh hn;clear hn)
 go_loopw [12] (fun i wr=>∃k:Nat,k<=l.length/\i=.int .i64 k/\∃v',Hid (Wr (Lt w0.heap.size) w0 wr pb v' (xs++(numB l.length 2++(l.take k).flatMap fun x=>valB x.1 x.2)))) (fun i _=>l.length - (intOf i).toNat)
 case atStart=>exact⟨0,Nat.zero_le _,rfl,_,by simpa using HB⟩
 case round=>
  clear HB hc
  obtain⟨k,hk1,rfl,v2,HB⟩:=hrel
  by_cases hlt:k < l.length
  ·have hfl:=flat_take_len (fun x:Bool×List Int=>valB x.1 x.2) 2004 k l (fun y hy=>Nat.le_trans (valB_len y) (by have:=HM.out y hy;omega))
   obtain⟨b1,o1,f,rfl,hcell,hv⟩:=HR.out.at_ hlt
   have hxl:=HM.out _ (List.getElem_mem hlt)
   obtain⟨x,hx⟩:∃x,x=l[k]:=⟨_,rfl⟩
   rw [<-hx]at hv hxl
   obtain⟨hf0,A1,c1,hf1,hrd⟩:=hv
   have hd0:=HB.out.buf.bel.cell (hcell 0 (by omega))
   have hd1:=HB.out.buf.bel.cell (hcell 1 (by omega))
   rw [hf0,Nat.add_zero]at hd0
   rw [hf1]at hd1
   have HX:=zh hx
   have HD:=zh hrd
   clear hx hrd hf0 hf1 hcell
   go_wp2_with (go_at_call 42;refine(value_w x.1 A1 c1 x.2 (HB.out.ext (ext_alloc _ _)) HD.out (by simp only [List.length_append,numB_len];omega)).mono ?_;rintro e w1 ⟨rfl,v1,hn⟩;have HN:=zh hn;clear hn HB)
   go_roundw
   case rel=>
    refine⟨k+1,by omega,by go_num,v1,?_⟩
    rw [take_flat _ l k hlt,<-HX.out]
    have hz:=HN.out
    simp only [List.append_assoc]at hz⊢
    exact zh hz
   case measure=>simp [intOf];omega
  ·obtain rfl:k=l.length:=by omega
   rw [List.take_length]at HB
   go_wp2
   go_end0
   exact⟨rfl,_,HB.out⟩
/-- A row of bytes that the call gives. -/
def Gave (w:World) (xs:List Int):Ending->World->Prop:=fun e w'=>∃v,e=.returned v/\Buf (Lt w.heap.size) w w' v xs
theorem Wr.start (W:World):Wr (Lt W.heap.size) W ((W.alloc (.cells #[] 5)).alloc (.cells #[.slice (some ⟨W.heap.size,0,none⟩) 0 0] 79)) (W.heap.size+1) (.slice (some ⟨W.heap.size,0,none⟩) 0 0) []:=by
 have hs:(W.alloc (.cells #[] 5)).heap.size=W.heap.size+1:=by simp
 have e1:Ext W ((W.alloc (.cells #[] 5)).alloc (.cells #[.slice (some ⟨W.heap.size,0,none⟩) 0 0] 79)):=(ext_alloc W _).alloc _
 refine⟨fun h=>Nat.lt_irrefl _ (Nat.lt_trans (Nat.lt_succ_self _) h),?_,⟨?_,?_,fun k hk=>e1.block k hk,fun k hk=>Nat.lt_of_lt_of_le hk e1.size,e1.os,e1.tape,e1.output⟩,?_⟩
 ·rw [<-hs];exact heap_alloc_new _ _
 ·refine⟨by simp [bys],.inr ⟨W.heap.size,0, #[],rfl,Nat.zero_le _,?_,Nat.le_refl _,by unfold maxLen;omega,rfl,rfl⟩⟩
  exact((ext_alloc (W.alloc (.cells #[] 5)) (.cells #[.slice (some ⟨W.heap.size,0,none⟩) 0 0] 79)).block W.heap.size (by omega)).trans (heap_alloc_new _ _)
 ·intro g hg hk
  have:W.heap.size=g:=by simpa [Value.ownBlock]using hg
  exact Nat.lt_irrefl _ (this▸hk)
 ·intro g hg e
  have:W.heap.size=g:=by simpa [Value.ownBlock]using hg
  omega
theorem Wr.start_at (W:World)(m:Nat)(hm:W.heap.size=m):Wr (Lt W.heap.size) W ((W.alloc (.cells #[] 5)).alloc (.cells #[.slice (some ⟨m,0,none⟩) 0 0] 79)) (m+1) (.slice (some ⟨m,0,none⟩) 0 0) []:=by
 subst hm
 exact Wr.start W
theorem Wr.start1 (w:World)(o:Obj):Wr (Lt (w.alloc o).heap.size) (w.alloc o) (((w.alloc o).alloc (.cells #[] 5)).alloc (.cells #[.slice (some ⟨w.heap.size+1,0,none⟩) 0 0] 79)) (w.heap.size+1+1) (.slice (some ⟨w.heap.size+1,0,none⟩) 0 0) []:=
 Wr.start_at _ _ (by simp)
theorem box_at {w w1:World} {cs:Array Value} {t:TypeId} (e:Ext (w.alloc (.cells cs t)) w1)(j:Nat)(v:Value)(h:cs[j]?=some v):w1.cell? ⟨w.heap.size,j,none⟩=some v:=by
 have h1:=e.block w.heap.size (by simp)
 rw [heap_alloc_new]at h1
 exact(cell_of_row _ _ _ _ _ _ h1).trans h
theorem gave_of {w w':World} {o:Obj} {pb:Nat} {v:Value} {xs ys:List Int} (h:Wr (Lt (w.alloc o).heap.size) (w.alloc o) w' pb v xs)(he:xs=ys):Gave w ys (.returned v) w':=by
 subst he
 refine⟨v,rfl,?_⟩
 have hs:(w.alloc o).heap.size=w.heap.size+1:=by simp
 have e:=(ext_alloc w o).trans h.buf.bel
 exact⟨h.buf.own,fun g hg hk=>h.buf.off g hg (by show g < _;have:g < w.heap.size:=hk;omega),fun k hk=>e.block k hk,fun k hk=>Nat.lt_of_lt_of_le hk e.size,e.os,e.tape,e.output⟩
theorem number_v (kk:Int)(k:Nat)(hkk:kk=(k:Int))(hk:k<=4)(n:Int) {K:Nat->Prop} {w0 w:World} {pb:Nat} {v:Value} {xs:List Int} (h:Wr K w0 w pb v xs)(hl:xs.length<=1099511627776):
 Calls Tryz.prog 36 #[.pointer (some ⟨pb,0,none⟩),.int .i64 n,.int .i64 kk] w (Wrote K w0 pb (xs++numB n k)):=by
 subst hkk
 exact number_any k hk n h hl
/-- A column of the reference. -/
structure Sf where
 name:ByteArray
 tab:Int
 col:Int
 typ:Int
 siz:Int
 mdf:Int
 fmt:Int
def sfB (x:Sf):List Int:=txt x.name++numB x.tab 4++numB x.col 2++numB x.typ 4++numB x.siz 2++numB x.mdf 4++numB x.fmt 2
def isSf (_:World) (x:Sf) (f:Nat->Value):Prop:=
 f 0=.string x.name/\f 1=.int .u32 x.tab/\f 2=.int .i64 x.col/\f 3=.int .u32 x.typ/\f 4=.int .i64 x.siz/\f 5=.int .i64 x.mdf/\f 6=.int .i64 x.fmt
/-- A pair of the reference. -/
def isPr (_:World) (x:ByteArray×ByteArray) (f:Nat->Value):Prop:=f 0=.string x.1/\f 1=.string x.2
def prB (x:ByteArray×ByteArray):List Int:=txt x.1++txt x.2
def erB (x:ByteArray×ByteArray):List Int:=sby x.1++txt x.2
/-- the bytes of a message with its type -/
def allB (L:Int) (body:List Int):List Int:=(if L=0 then []else numB L 1)++(numB ((body.length:Int)+4) 4++body)
theorem Gave.elim {w:World} {xs:List Int} {e:Ending} {w':World} (h:Gave w xs e w'):∃A c,e=.returned (.slice A xs.length c)/\Ext w w'/\RdB w' (.slice A xs.length c) xs:=by
 obtain⟨v,rfl,hb⟩:=h
 obtain⟨A,c,rfl⟩:=hb.len
 exact⟨A,c,rfl,hb.bel,RdB.of_own hb.own⟩
theorem own_keep {w w2:World} {B e size n:Nat} {v:Value} {xs:List Value} (h:w.ownsRow B e size v n xs)(hk:∀g,v.ownBlock=some g->w2.heap[g]?=w.heap[g]?):w2.ownsRow B e size v n xs:=by
 refine⟨h.1,?_⟩
 rcases h.2 with hn|⟨g,cap,cur,hv,hb,hg,rest⟩
 ·exact .inl hn
 ·exact .inr ⟨g,cap,cur,hv,hb,(hk g (by rw [hv];rfl)).trans hg,rest⟩
/-- The blocks that are kept beside a second row. -/
def Two (K:Nat->Prop) (wa wb:World) (k:Nat):Prop:=K k∨(wa.heap.size<=k/\k < wb.heap.size)
theorem Wr.two {K:Nat->Prop} {w0 wa wb:World} {pb:Nat} {v vb:Value} {xs ys:List Int} (h:Wr K w0 wa pb v xs)(hb:Buf (Lt wa.heap.size) wa wb vb ys):Wr (Two K wa wb) wb wb pb v xs:=by
 have h1:=h.ext hb.bel
 refine⟨fun hk=>hk.elim h.out fun e=>Nat.lt_irrefl _ (Nat.lt_of_lt_of_le (lt_of_block h.blk) e.1),h1.blk,h1.buf.rebase ?_ ?_,h.off⟩
 ·intro k hk
  exact hk.elim (h1.buf.lt k) fun e=>e.2
 ·intro g hg hk
  exact hk.elim (h.buf.off g hg) fun e=>Nat.lt_irrefl _ (Nat.lt_of_lt_of_le (h.buf.own_lt g hg) e.1)
theorem Wr.untwo {K:Nat->Prop} {w0 wa wb w':World} {pb:Nat} {v v' vb:Value} {xs ys zs:List Int} (h:Wr K w0 wa pb v xs)(hb:Buf (Lt wa.heap.size) wa wb vb ys)(h':Wr (Two K wa wb) wb w' pb v' zs):Wr K w0 w' pb v' zs:=
 ⟨h.out,h'.blk,Buf.unbase (h.ext hb.bel).buf h'.buf (fun _ hk=> .inl hk),h'.off⟩
theorem Wr.two_rd {K:Nat->Prop} {wa wb w':World} {pb:Nat} {v' vb:Value} {ys zs:List Int} (hb:Buf (Lt wa.heap.size) wa wb vb ys)(h':Wr (Two K wa wb) wb w' pb v' zs):RdB w' vb ys:=by
 refine RdB.of_own (own_keep hb.own fun g hg=>h'.buf.kept g (.inr ⟨?_,hb.own_lt g hg⟩))
 exact Nat.le_of_not_lt fun hl=>hb.off g hg hl
theorem bytes_gen (kd:Int)(a b:ByteArray)(n:Int)(vf vr vt vv vd vw vp vl:Value)(w:World)(L:Int)(body:List Int)(hb:body.length<=100000000000)(hLb:0<=L/\L < 256)
 (hL:∀w,Calls Tryz.prog 35 #[.int .i64 kd] w (fun e w'=>e=.returned (.int .u8 L)/\w'=w))
 (hB:∀w',Ext w w'->Calls Tryz.prog 16 #[.agg #[.int .i64 kd,.string a,.string b,.int .u32 n,vf,vr,vt,vv,vd,vw,vp,vl]] w' (Gave w' body)):
 Calls Tryz.prog 15 #[.agg #[.int .i64 kd,.string a,.string b,.int .u32 n,vf,vr,vt,vv,vd,vw,vp,vl]] w (Gave w (allB L body)):=by
 have h0:=Wr.start1 w (.cells #[.int .i64 kd,.string a,.string b,.int .u32 n,vf,vr,vt,vv,vd,vw,vp,vl] 37)
 have hc:=h0.cell
 have HB:=zh h0
 clear h0
 have HL:=zh hL
 clear hL
 have HBo:=zh hB
 clear hB
 have hx0:True:=trivial
 have hx1:True:=trivial
 have hx2:True:=trivial
 have hx3:True:=trivial
 have hx4:True:=trivial
 have hx5:True:=trivial
 have hx6:True:=trivial
 have hx7:True:=trivial
 have hx8:True:=trivial
 have hx9:True:=trivial
 have hx10:True:=trivial
 have hx11:True:=trivial
 have hwn:wrap64 L=L:=by unfold wrap64;omega
 by_cases hz:L=0
 ·subst hz
  go_enter Tryz.func15,Tryz.ntmps15
  go_wp2_with (first|(go_at_call 35;refine(HL.out _).mono ?_;rintro e w1 ⟨rfl,rfl⟩)|(go_at_call 16;refine(HBo.out _ (((ext_alloc w _).alloc _).alloc _)).mono ?_;rintro e w1 ⟨vb,rfl,hg⟩;obtain⟨A1,c1,rfl⟩:=hg.len;have HG:=zh hg;clear hg;have HK:=HB;replace HB:=zh (HK.out.two HG.out);clear hc;have hc:=HB.out.cell)|(go_at_call 37;refine(bytes_w HB.out (Wr.two_rd HG.out HB.out) (by simp [numB_len];omega)).mono ?_;rintro e w1 ⟨rfl,v1,hn⟩;clear hc;have hc:=hn.cell;replace HB:=zh hn;clear hn)|(go_at_call 36;refine(number_v _ 4 (by decide) (by omega) _ HB.out (by simp)).mono ?_;rintro e w1 ⟨rfl,v1,hn⟩;clear hc;have hc:=hn.cell;replace HB:=zh hn;clear hn))
  go_ret
  exact gave_of (HK.out.untwo HG.out HB.out) (by simp [allB])
 ·go_enter Tryz.func15,Tryz.ntmps15
  go_wp2_with (first|(go_at_call 35;refine(HL.out _).mono ?_;rintro e w1 ⟨rfl,rfl⟩)|(go_at_call 16;refine(HBo.out _ ((ext_alloc w _).trans HB.out.buf.bel)).mono ?_;rintro e w1 ⟨vb,rfl,hg⟩;obtain⟨A1,c1,rfl⟩:=hg.len;have HG:=zh hg;clear hg;have HK:=HB;replace HB:=zh (HK.out.two HG.out);clear hc;have hc:=HB.out.cell)|(go_at_call 37;refine(bytes_w HB.out (Wr.two_rd HG.out HB.out) (by simp [numB_len];omega)).mono ?_;rintro e w1 ⟨rfl,v1,hn⟩;clear hc;have hc:=hn.cell;replace HB:=zh hn;clear hn)|(go_at_call 36;refine(number_v _ 1 (by decide) (by omega) _ HB.out (by simp)).mono ?_;rintro e w1 ⟨rfl,v1,hn⟩;clear hc;have hc:=hn.cell;clear hx0;have hx0:=box_at hn.buf.bel 0 (.int .i64 kd) rfl;clear hx1;have hx1:=box_at hn.buf.bel 1 (.string a) rfl;clear hx2;have hx2:=box_at hn.buf.bel 2 (.string b) rfl;clear hx3;have hx3:=box_at hn.buf.bel 3 (.int .u32 n) rfl;clear hx4;have hx4:=box_at hn.buf.bel 4 (vf) rfl;clear hx5;have hx5:=box_at hn.buf.bel 5 (vr) rfl;clear hx6;have hx6:=box_at hn.buf.bel 6 (vt) rfl;clear hx7;have hx7:=box_at hn.buf.bel 7 (vv) rfl;clear hx8;have hx8:=box_at hn.buf.bel 8 (vd) rfl;clear hx9;have hx9:=box_at hn.buf.bel 9 (vw) rfl;clear hx10;have hx10:=box_at hn.buf.bel 10 (vp) rfl;clear hx11;have hx11:=box_at hn.buf.bel 11 (vl) rfl;replace HB:=zh hn;clear hn)|(go_at_call 36;refine(number_v _ 4 (by decide) (by omega) _ HB.out (by simp [numB_len])).mono ?_;rintro e w1 ⟨rfl,v1,hn⟩;clear hc;have hc:=hn.cell;replace HB:=zh hn;clear hn))
  go_ret
  exact gave_of (HK.out.untwo HG.out HB.out) (by simp [allB,hz])
open Go.RowKit
theorem info59:(Tryz.prog.info? 59).map (fun i=>(i.zero,i.size,i.bytes))=some (some (.agg #[.bool false,.slice none 0 0]),2,32):=by kernel_rfl
theorem info48:(Tryz.prog.info? 48).map (fun i=>(i.zero,i.size,i.bytes))=some (some (.agg #[.string ⟨#[]⟩,.string ⟨#[]⟩]),2,32):=by kernel_rfl
theorem info63:(Tryz.prog.info? 63).map (fun i=>(i.zero,i.size,i.bytes))=some (some (.agg #[.string ⟨#[]⟩,.int .u32 0,.int .i64 0,.int .u32 0,.int .i64 0,.int .i64 0,.int .i64 0]),7,64):=by kernel_rfl
/-- A row that the call owns, in a world that keeps the blocks K of the world w0. -/
structure Row (e size:Nat) (K:Nat->Prop) (w0 w:World) (v:Value) (n:Nat) (cs:List Value):Prop where
 own:w.ownsRow 0 e size v n cs
 off:∀g,v.ownBlock=some g->¬K g
 kept:∀k,K k->w.heap[k]?=w0.heap[k]?
 lt:∀k,K k->k < w.heap.size
 os:w.os=w0.os
 tape:w.tape=w0.tape
 output:w.output=w0.output
theorem Row.step {e size:Nat} {K:Nat->Prop} {w0 w w':World} {v v':Value} {n m:Nat} {xs ys:List Value} (h:Row e size K w0 w v n xs)(hg:w.grownBy w' v.ownBlock)(hown:w'.ownsRow 0 e size v' m ys)
 (hv:∀g,v'.ownBlock=some g->v.ownBlock=some g∨w.heap.size<=g):Row e size K w0 w' v' m ys:=by
 refine⟨hown,?_,?_,fun k hk=>Nat.lt_of_lt_of_le (h.lt k hk) hg.size,hg.os.trans h.os,hg.tape.trans h.tape,hg.output.trans h.output⟩
 ·intro g hgv hK
  rcases hv g hgv with h1|h1
  ·exact h.off g h1 hK
  ·have:=h.lt g hK;omega
 ·intro k hk
  rw [hg.block k (h.lt k hk) (fun e=>h.off k e.symm hk),h.kept k hk]
/-- append of one struct that was just built, in the walk's form. -/
theorem ap_one {ops:Array Oper} {rest:List Oper} {o:Oper} {a:Act} {Q:Exit->Act->World->Prop} {w:World} (hgd:o.guard=none)(s x:Operand)(t e size bytes:Nat)(z:Value)
 (ho:o.op=.call {callee:=.builtin .append,args:= #[s,x],argTypes:= #[t,t]})
 (ht:Tryz.prog.underlying t=some (.slice e)) (hi:(Tryz.prog.info? e).map (fun i=>(i.zero,i.size,i.bytes))=some (some z,size,bytes)) (hzs:z.cells.size=size) (hsz:0 < size)
 {K:Nat->Prop} {w0:World} {v:Value} {n b c:Nat} {xs ys:List Value} (hs:a.eval s=v) (hb:Row e size K w0 w v n xs) (hx:a.eval x=.slice (some ⟨b,0,none⟩) 1 c) (hl:ys.length=size) (hcell:∀j u,ys[j]?=some u->w.cell? ⟨b,j,none⟩=some u) (h1:∀u∈ys,u.oneCell'=true) (hn:n < 1000000000000) (hby:bytes<=100)
 (h:∀v' w',Row e size K w0 w' v' (n+1) (xs++ys)->wpList Tryz.prog ops Q rest (a.put o.dst v') w'):wpList Tryz.prog ops Q (o :: rest) a w:=by
 obtain⟨i0,hi,hz0,hz1,hz2⟩:=info_parts hi
 refine wpList_plain hgd fun C hC=>?_
 have hbb:(n+1) * bytes<=140737488355328:=Nat.le_trans (Nat.mul_le_mul (show n+1<=1000000000000 by omega) hby) (by omega)
 obtain⟨v',w',hr,h2,h3,h4,h5⟩:=run_append_own_at (P:=Tryz.prog) w 0 t o.type e i0 z size bytes ht hi hz0 hz1 hz2 hzs hsz v n xs hb.own ⟨b,0,none⟩ 1 c ys (by rw [hl,Nat.one_mul]) (by
  intro j u hj
  rw [add_lit0]
  simpa using hcell j u hj) h1 (by unfold maxLen;omega) hbb (Nat.zero_le _)
 unfold Oper.wp execOp
 simp only [ho,resolve,invoke,builtin,Sem.run_bind,Sem.run_pure,Result.andThen_ok,List.map_toArray,List.map_cons,List.map_nil,hs,hx,hr]
 refine hC _ _ (h v' w' (hb.step h3 h2 fun g hg=>?_))
 rcases h5 with h5|h5
 ·exact .inl (h5▸hg)
 ·exact .inr (by rw [h5]at hg;cases hg;exact Nat.le_refl _)
theorem slot_setCell {w:World} {b j:Nat} {cs:Array Value} {u:Value} {t:TypeId} (h:w.heap[b]?=some (.cells cs t (0,0))):(w.setCell ⟨b,j,none⟩ u).heap[b]?=some (.cells (cs.setIfInBounds j u) t (0,0)):=by
 have hlt:=lt_of_block h
 have h':w.heap[b]=.cells cs t (0,0):=by simpa [Array.getElem?_eq_getElem hlt]using h
 show(w.heap.modify b _)[b]?=_
 rw [Array.getElem?_eq_getElem (by simpa using hlt),Array.getElem_modify_self,h']
 rfl
/-- A struct in block pb, whose slot holds an own row; all older blocks but pb stand. -/
structure Slot (e size:Nat) (W w:World) (pb:Nat) (c:Value->Array Value) (v:Value) (n:Nat) (xs:List Value):Prop where
 blk:w.heap[pb]?=some (.cells (c v) 37 (0,0))
 row:Row e size (fun k=>k < W.heap.size/\k≠pb) W w v n xs
 off:∀g,v.ownBlock=some g->g≠pb
 lt:pb < W.heap.size
theorem Slot.close {e size:Nat} {W w w1:World} {pb j:Nat} {c:Value->Array Value} {v v1:Value} {n m:Nat} {xs ys:List Value} (h:Slot e size W w pb c v n xs)(hblk:w1.heap[pb]?=some (.cells (c v) 37 (0,0)))
 (hr:Row e size (fun k=>k < W.heap.size/\k≠pb) W w1 v1 m ys) (hoff:∀g,v1.ownBlock=some g->g≠pb) (hc:(c v).setIfInBounds j v1=c v1):Slot e size W (w1.setCell ⟨pb,j,none⟩ v1) pb c v1 m ys:=by
 have hsz:(w1.setCell ⟨pb,j,none⟩ v1).heap.size=w1.heap.size:=by simp [World.setCell]
 have hoth:∀k,k≠pb->(w1.setCell ⟨pb,j,none⟩ v1).heap[k]?=w1.heap[k]?:=fun k hk=>heap_setCell_other w1 ⟨pb,j,none⟩ k v1 hk
 refine⟨hc▸slot_setCell hblk,⟨?_,hr.off,fun k hk=>(hoth k hk.2).trans (hr.kept k hk),fun k hk=>by rw [hsz];exact hr.lt k hk,hr.os,hr.tape,hr.output⟩,hoff,h.lt⟩
 refine ownsRow_setCell_other hr.own ?_ _
 intro e;exact hoff pb e rfl
theorem Row.ext {e size:Nat} {K:Nat->Prop} {w0 w w':World} {v:Value} {n:Nat} {xs:List Value} (h:Row e size K w0 w v n xs)(hx:Ext w w'):Row e size K w0 w' v n xs:=
 h.step ⟨hx.os,hx.tape,hx.output,hx.size,fun k hk _=>hx.block k hk⟩ (ownsRow_ext h.own hx) (fun g hg=> .inl hg)
/-- The cells of a row, element by element. -/
def Rws {α:Type} (size:Nat) (R:α->(Nat->Value)->Prop) (l:List α) (xs:List Value):Prop:=
 xs.length=l.length * size/\∀j (h:j < l.length),∃f:Nat->Value,(∀k,k < size->xs[j * size+k]?=some (f k))/\R l[j] f
theorem Rws.nil {α:Type} (size:Nat)(R:α->(Nat->Value)->Prop):Rws size R ([]:List α) []:=⟨by simp,fun j h=>absurd h (Nat.not_lt_zero j)⟩
theorem Rws.snoc {α:Type} {size:Nat} {R:α->(Nat->Value)->Prop} {l:List α} {xs ys:List Value} {x:α} {f:Nat->Value} (h:Rws size R l xs)(hy:ys.length=size)(hf:∀k,k < size->ys[k]?=some (f k))(hr:R x f):Rws size R (l++ [x]) (xs++ys):=by
 refine⟨by simp [h.1,hy,Nat.add_mul],fun j hj=>?_⟩
 rcases Nat.lt_or_ge j l.length with hl|hl
 ·obtain⟨g,hg,hR⟩:=h.2 j hl
  refine⟨g,fun k hk=>?_,by rw [List.getElem_append_left hl];exact hR⟩
  rw [List.getElem?_append_left]
  ·exact hg k hk
  ·rw [h.1]
   exact Nat.lt_of_lt_of_le (show j * size+k < (j+1) * size by rw [Nat.add_mul];omega) (Nat.mul_le_mul_right size hl)
 ·have hj2:j=l.length:=by simp at hj;omega
  subst hj2
  refine⟨f,fun k hk=>?_,by simpa using hr⟩
  rw [List.getElem?_append_right (by rw [h.1];omega),h.1]
  simpa using hf k hk
theorem rdm_of {α:Type} {size e:Nat} {R:World->α->(Nat->Value)->Prop} {w:World} {v:Value} {l:List α} {xs:List Value} (h:w.ownsRow 0 e size v l.length xs)(hx:Rws size (R w) l xs):RdM size R w v l:=by
 rcases h.2 with ⟨rfl,hn⟩|⟨g,cap,cur,rfl,_,hg,hnc,hcm,hcs,ht⟩
 ·exact⟨none,0,by rw [hn],by omega,by unfold maxLen;omega,fun h0=>by omega⟩
 ·refine⟨some ⟨g,0,none⟩,cap,rfl,hnc,hcm,fun _=>⟨g,0,rfl,fun j hj=>?_⟩⟩
  obtain⟨f,hf,hR⟩:=hx.2 j hj
  refine⟨f,fun k hk=>?_,hR⟩
  have h1:=hf k hk
  rw [<-ht,List.getElem?_take]at h1
  split at h1
  ·refine(cell_of_row _ _ _ _ _ _ hg).trans ?_
   rw [Nat.zero_add,<-Array.getElem?_toList]
   exact h1
  ·cases h1
theorem Slot.ext {e size:Nat} {W w w':World} {pb:Nat} {c:Value->Array Value} {v:Value} {n:Nat} {xs:List Value} (h:Slot e size W w pb c v n xs)(hx:Ext w w'):Slot e size W w' pb c v n xs:=
 ⟨(hx.block pb (lt_of_block h.blk)).trans h.blk,h.row.ext hx,h.off,h.lt⟩
theorem Slot.size_le {e size:Nat} {W w:World} {pb:Nat} {c:Value->Array Value} {v:Value} {n:Nat} {xs:List Value} (h:Slot e size W w pb c v n xs):∀k,k < W.heap.size->k < w.heap.size:=by
 intro k hk
 by_cases he:k=pb
 ·exact he▸lt_of_block h.blk
 ·exact h.row.lt k ⟨hk,he⟩
theorem Slot.open {e size:Nat} {W w:World} {pb:Nat} {c:Value->Array Value} {v:Value} {n:Nat} {xs:List Value} (h:Slot e size W w pb c v n xs):Row e size (fun k=>k < W.heap.size) w w v n xs:=by
 refine⟨h.row.own,fun g hg hk=>h.row.off g hg ⟨hk,h.off g hg⟩,fun _ _=>rfl,h.size_le,rfl,rfl,rfl⟩
theorem Slot.in_ {e size:Nat} {W w w1:World} {pb:Nat} {c:Value->Array Value} {v v1:Value} {n m:Nat} {xs ys:List Value} (h:Slot e size W w pb c v n xs)(h1:Row e size (fun k=>k < W.heap.size) w w1 v1 m ys):w1.heap[pb]?=some (.cells (c v) 37 (0,0)):=
 (h1.kept pb h.lt).trans h.blk
theorem Slot.shut {e size:Nat} {W w w1:World} {pb j:Nat} {c:Value->Array Value} {v v1:Value} {n m:Nat} {xs ys:List Value} (h:Slot e size W w pb c v n xs)(h1:Row e size (fun k=>k < W.heap.size) w w1 v1 m ys)(hc:(c v).setIfInBounds j v1=c v1):Slot e size W (w1.setCell ⟨pb,j,none⟩ v1) pb c v1 m ys:=
 h.close (h.in_ h1) ⟨h1.own,fun g hg hk=>h1.off g hg hk.1,fun k hk=>(h1.kept k hk.1).trans (h.row.kept k hk),fun k hk=>h1.lt k hk.1,h1.os.trans h.row.os,h1.tape.trans h.row.tape,h1.output.trans h.row.output⟩ (fun g hg e=>h1.off g hg (e▸h.lt)) hc
theorem free_slot {w:World} {b:Nat} {cs:Array Value} {t:TypeId} (h:w.heap[b]?=some (.cells cs t (0,0)))(j:Nat):w.frozen? ⟨b,j,none⟩=false:=by simp [World.frozen?,h]
theorem cell_slot {w:World} {b:Nat} {cs:Array Value} {t:TypeId} (h:w.heap[b]?=some (.cells cs t (0,0)))(j:Nat)(v:Value)(hv:cs[j]?=some v):w.cell? ⟨b,j,none⟩=some v:=(cell_of_row _ _ _ _ _ _ h).trans hv
/-- append of one struct that was built in the newest block. -/
theorem ap_built {ops:Array Oper} {rest:List Oper} {o:Oper} {a:Act} {Q:Exit->Act->World->Prop} {W:World} (hgd:o.guard=none)(s x:Operand)(t e size bytes m:Nat)(z:Value)(cs:Array Value)
 (ho:o.op=.call {callee:=.builtin .append,args:= #[s,x],argTypes:= #[t,t]})
 (ht:Tryz.prog.underlying t=some (.slice e)) (hi:(Tryz.prog.info? e).map (fun i=>(i.zero,i.size,i.bytes))=some (some z,size,bytes)) (hzs:z.cells.size=size) (hsz:0 < size) (hm:W.heap.size=m)
 {K:Nat->Prop} {w0:World} {v:Value} {n:Nat} {xs:List Value} (hs:a.eval s=v) (hb:Row e size K w0 W v n xs) (hx:a.eval x=.slice (some ⟨m,0,none⟩) 1 1) (hl:cs.toList.length=size) (h1:∀u∈cs.toList,u.oneCell'=true) (hn:n < 1000000000000) (hby:bytes<=100)
 (h:∀v' w',Row e size K w0 w' v' (n+1) (xs++cs.toList)->wpList Tryz.prog ops Q rest (a.put o.dst v') w'):wpList Tryz.prog ops Q (o :: rest) a (W.alloc (.cells cs e)):=by
 subst hm
 refine ap_one hgd s x t e size bytes z ho ht hi hzs hsz hs (hb.ext (ext_alloc _ _)) hx hl ?_ h1 hn hby h
 intro j u hj
 refine(cell_of_row _ _ _ _ _ _ (heap_alloc_new _ _)).trans ?_
 rw [<-Array.getElem?_toList]
 exact hj
theorem Slot.start {e size:Nat} {W:World} {pb:Nat} (c:Value->Array Value)(h:W.heap[pb]?=some (.cells (c (.slice none 0 0)) 37 (0,0))):Slot e size W W pb c (.slice none 0 0) 0 []:=
 ⟨h,⟨World.ownsRow_nil _ _ _ _,fun g hg=>by simp [Value.ownBlock]at hg,fun _ _=>rfl,fun k hk=>hk.1,rfl,rfl,rfl⟩,fun g hg=>by simp [Value.ownBlock]at hg,lt_of_block h⟩
theorem Slot.below {e size:Nat} {w W wr:World} {pb:Nat} {c:Value->Array Value} {v:Value} {n:Nat} {xs:List Value} (h:Slot e size W wr pb c v n xs)(hW:Ext w W)(hp:w.heap.size<=pb):Ext w wr:=
 ⟨h.row.os.trans hW.os,h.row.tape.trans hW.tape,h.row.output.trans hW.output,Nat.le_of_not_lt fun hl=>Nat.lt_irrefl _ (h.size_le _ (Nat.lt_of_lt_of_le hl hW.size)),
   fun k hk=>(h.row.kept k ⟨Nat.lt_of_lt_of_le hk hW.size,by omega⟩).trans (hW.block k hk)⟩
/-- a block that the loop does not turn -/
theorem Slot.old {e size:Nat} {W wr:World} {pb:Nat} {c:Value->Array Value} {v:Value} {n:Nat} {xs:List Value} (h:Slot e size W wr pb c v n xs) {k:Nat} (hk:k < W.heap.size)(hp:k≠pb):wr.heap[k]?=W.heap[k]?:=h.row.kept k ⟨hk,hp⟩
theorem Slot.cell {e size:Nat} {W wr:World} {pb:Nat} {c:Value->Array Value} {v:Value} {n:Nat} {xs:List Value} (h:Slot e size W wr pb c v n xs)(o:Obj)(j:Nat)(u:Value)(hu:(c v)[j]?=some u):(wr.alloc o).cell? ⟨pb,j,none⟩=some u:=(ext_alloc _ _).cell ((cell_of_row _ _ _ _ _ _ h.blk).trans hu)
/-- a row of the loop before is kept by the next loop -/
theorem Slot.keep {e size e' size':Nat} {W wr wr2:World} {pb:Nat} {c c':Value->Array Value} {v v':Value} {n n':Nat} {xs xs':List Value} (h:Slot e size W wr pb c v n xs)(h2:Slot e' size' wr wr2 pb c' v' n' xs'):wr2.ownsRow 0 e size v n xs:=
 own_keep h.row.own fun g hg=>h2.old (h.row.own.lt g hg).2 (h.off g hg)
theorem Slot.own {e size:Nat} {W wr:World} {pb:Nat} {c:Value->Array Value} {v:Value} {n:Nat} {xs:List Value} (h:Slot e size W wr pb c v n xs):wr.ownsRow 0 e size v n xs:=h.row.own
theorem Slot.le {e size:Nat} {W wr:World} {pb:Nat} {c:Value->Array Value} {v:Value} {n:Nat} {xs:List Value} (h:Slot e size W wr pb c v n xs):W.heap.size<=wr.heap.size:=Nat.le_of_not_lt fun hl=>Nat.lt_irrefl _ (h.size_le _ hl)
/-- One block alone may have turned. -/
structure Same (b:Nat) (W W':World):Prop where
 other:∀k,k≠b->W'.heap[k]?=W.heap[k]?
 size:W'.heap.size=W.heap.size
 os:W'.os=W.os
 tape:W'.tape=W.tape
 output:W'.output=W.output
theorem Same.refl (b:Nat)(W:World):Same b W W:=⟨fun _ _=>rfl,rfl,rfl,rfl,rfl⟩
theorem Same.set {b:Nat} {W W1:World} (h:Same b W W1)(j:Nat)(v:Value):Same b W (W1.setCell ⟨b,j,none⟩ v):=
 ⟨fun k hk=>(heap_setCell_other W1 ⟨b,j,none⟩ k v hk).trans (h.other k hk),by rw [<-h.size];simp [World.setCell],h.os,h.tape,h.output⟩
theorem Same.ext {b:Nat} {w W W':World} (h:Same b W W')(hx:Ext w W)(hb:w.heap.size<=b):Ext w W':=
 ⟨h.os.trans hx.os,h.tape.trans hx.tape,h.output.trans hx.output,by rw [h.size];exact hx.size,fun k hk=>(h.other k (by omega)).trans (hx.block k hk)⟩
theorem Rws.mono {α:Type} {size:Nat} {R R':α->(Nat->Value)->Prop} {l:List α} {xs:List Value} (h:Rws size R l xs)(hR:∀x f,R x f->R' x f):Rws size R' l xs:=
 ⟨h.1,fun j hj=>by obtain⟨f,h1,h2⟩:=h.2 j hj;exact⟨f,h1,hR _ _ h2⟩⟩
theorem size37:(Tryz.prog.info? 37).map (·.size)=some 12:=by kernel_rfl
theorem set12 (z0 z1 z2 z3 z4 z5 z6 z7 z8 z9 z10 z11 a0 a1 a2 a3 a4 a5 a6 a7 a8 a9 a10 a11:Value):((((((((((((#[z0,z1,z2,z3,z4,z5,z6,z7,z8,z9,z10,z11].setIfInBounds 0 a0).setIfInBounds 1 a1).setIfInBounds 2 a2).setIfInBounds 3 a3).setIfInBounds 4 a4).setIfInBounds 5 a5).setIfInBounds 6 a6).setIfInBounds 7 a7).setIfInBounds 8 a8).setIfInBounds 9 a9).setIfInBounds 10 a10).setIfInBounds 11 a11)= #[a0,a1,a2,a3,a4,a5,a6,a7,a8,a9,a10,a11]:=by
 simp only [List.setIfInBounds_toArray,List.set_cons_zero,List.set_cons_succ]
theorem Ext.set {w W:World} (h:Ext w W) {b:Nat} (hb:w.heap.size<=b)(j:Nat)(v:Value):Ext w (W.setCell ⟨b,j,none⟩ v):=
 ((Same.refl b W).set j v).ext h hb
theorem cell_of_heap {w w':World} {b:Nat} (h:w'.heap[b]?=w.heap[b]?)(j:Nat):w'.cell? ⟨b,j,none⟩=w.cell? ⟨b,j,none⟩:=by
 simp only [World.cell?,h]
theorem RdB.set {w:World} {v:Value} {xs:List Int} (h:RdB w v xs) {b:Nat} {u0:Value} {t:TypeId} (hb:w.heap[b]?=some (.cells #[u0] t (0,0)))(hn:∀x,u0≠.int .u8 x)(u:Value):RdB (w.setCell ⟨b,0,none⟩ u) v xs:=by
 obtain⟨A,c,hv,h1,h2,h3⟩:=h
 refine⟨A,c,hv,h1,h2,fun hp=>?_⟩
 obtain⟨b',off,hA,hc⟩:=h3 hp
 refine⟨b',off,hA,fun j hj=>?_⟩
 by_cases he:b'=b
 ·subst he
  have h4:=hc j hj
  rw [cell_of_row _ _ _ _ _ _ hb]at h4
  rcases hq:off+j with _|q
  ·rw [hq]at h4
   exact absurd (Option.some.inj h4) (hn _)
  ·rw [hq]at h4
   simp at h4
 ·rw [cell_of_heap (heap_setCell_other w ⟨b,0,none⟩ b' u he)]
  exact hc j hj
theorem idle33 (p q:Addr)(w:World):CallsD Tryz.prog 33 #[.pointer (some p),.pointer (some q)] .returning w fun e u' w'=>e=.returned (.tuple #[])/\u'=.returning/\w'=w:=by
 refine callsD_of_wpS Tryz.func33 rfl fun c₀ cs hu=>?_
 apply wpS_seq
 apply wpS_region
 simp [wpOpsS,go_sem,recoverD,hu,Tryz.ntmps33,Exit.thenS]
 refine wpS_cond (t:=false) (by simp [Act.eval,Array.replicate]) ?_
 simp only [Bool.false_eq_true,if_false]
 refine wpS_of_wp (wp_skip ?_)
 cases c₀
 simp_all [bodyPostS,results,Tryz.results33]
/-- What Encode of the thin package hands back where it can. -/
def Encs (w:World) (R:List Int):Ending->World->Prop:=fun e w'=>∃A c,e=.returned (.tuple #[.slice A R.length c,.bool true])/\Ext w w'/\RdB w' (.slice A R.length c) R
/-- What made hands back: a message, whose method has its contract. -/
def Made (T FN:Nat) (w:World) (R:List Int):Ending->World->Prop:=fun e w2=>∃b,e=.returned (.tuple #[.iface T (.pointer (some ⟨b,0,none⟩)),.bool true])/\Ext w w2/\Calls Tryz.prog FN #[.pointer (some ⟨b,0,none⟩),.slice none 0 0] w2 (Gives w2 R)
theorem enc14 (T FN:Nat)(v0 v1 v2 v3 v4 v5 v6 v7 v8 v9 v10 v11 v12:Value)(w:World)(R:List Int)
 (hmeth:∀b w,(method 480 T (.pointer (some ⟨b,0,none⟩)) "Encode").run Tryz.prog w=.ok (FN,.pointer (some ⟨b,0,none⟩)) w)
 (hcall:∀args w,(callFunc FN args).run Tryz.prog w=.ok (.enter FN args) w)
 (hM:∀w',Ext w w'->Calls Tryz.prog 34 #[.agg #[v0,v1,v2,v3,v4,v5,v6,v7,v8,v9,v10,v11,v12]] w' (Made T FN w' R)):
  Calls Tryz.prog 14 #[.agg #[v0,v1,v2,v3,v4,v5,v6,v7,v8,v9,v10,v11,v12]] w (Encs w R):=by
 have hmf:∀(fn:Fn) (first cap:Array Value) (w:World),(Instr.makeFunc fn first cap).run Tryz.prog w=.ok (.func fn first cap) w:=fun _ _ _ _=>rfl
 have HM:=zh hM
 clear hM
 obtain⟨W3,hW3⟩:∃W3,W3=(((w.alloc (.cells #[v0,v1,v2,v3,v4,v5,v6,v7,v8,v9,v10,v11,v12] 31)).alloc (.cells #[.slice none 0 0] 26)).alloc (.cells #[.bool false] 4)):=⟨_,rfl⟩
 have E3:Hid (Ext w W3):=zh (by rw [hW3];exact((ext_alloc w _).alloc _).alloc _)
 have B2:Hid (W3.heap[w.heap.size+1]?=some (.cells #[.slice none 0 0] 26 (0,0))):=zh (by
  rw [hW3]
  have e1:=(ext_alloc ((w.alloc (.cells #[v0,v1,v2,v3,v4,v5,v6,v7,v8,v9,v10,v11,v12] 31)).alloc (.cells #[.slice none 0 0] 26)) (.cells #[.bool false] 4)).block (w.heap.size+1) (by simp)
  rw [e1]
  have:=heap_alloc_new (w.alloc (.cells #[v0,v1,v2,v3,v4,v5,v6,v7,v8,v9,v10,v11,v12] 31)) (.cells #[.slice none 0 0] 26)
  simpa using this)
 have B3:Hid (W3.heap[w.heap.size+1+1]?=some (.cells #[.bool false] 4 (0,0))):=zh (by
  rw [hW3]
  have:=heap_alloc_new ((w.alloc (.cells #[v0,v1,v2,v3,v4,v5,v6,v7,v8,v9,v10,v11,v12] 31)).alloc (.cells #[.slice none 0 0] 26)) (.cells #[.bool false] 4)
  simpa using this)
 go_enter_defers Tryz.func14,Tryz.ntmps14
 go_wp2_with (first|(go_at_call 34;rw [<-hW3];refine(HM.out _ E3.out).mono ?_;rintro e w1 ⟨b,rfl,hx,hcc⟩;have HX:=zh hx;have HC:=zh hcc;clear hx hcc)|(refine(HC.out).mono ?_;rintro e w2 ⟨vb,rfl,hx2,hrb⟩;have HX2:=zh (HX.out.trans hx2);have HR:=zh hrb;obtain⟨A1,c1,rfl⟩:∃A c,vb=.slice A R.length c:=(match hrb with|⟨A,c,hv,_⟩=>⟨A,c,hv⟩);clear hx2 hrb;have hb2:=HX2.out.cell (cell_slot B2.out 0 _ rfl);have hf2:=free_slot ((HX2.out.block _ (lt_of_block B2.out)).trans B2.out) 0;have hb3:=HX2.out.cell (cell_slot B3.out 0 _ rfl);have hf3:=free_slot ((HX2.out.block _ (lt_of_block B3.out)).trans B3.out) 0))
 refine leaves_cons (f:=33) (args:= #[.pointer (some ⟨w.heap.size+1,0,none⟩),.pointer (some ⟨w.heap.size+1+1,0,none⟩)]) (by simp) (by simp [go_sem]) ?_
 refine(idle33 _ _ _).mono ?_
 rintro e u' w'' ⟨rfl,rfl,rfl⟩
 have hfin:Encs w R (.returned (.tuple #[.slice A1 R.length c1,.bool true])) (((w2.setCell ⟨w.heap.size+1,0,none⟩ (.slice A1 R.length c1)).setCell ⟨w.heap.size+1,0,none⟩ (.slice A1 R.length c1)).setCell ⟨w.heap.size+1+1,0,none⟩ (.bool true)):=by
  have k2:=(HX2.out.block _ (lt_of_block B2.out)).trans B2.out
  have k3:=(HX2.out.block _ (lt_of_block B3.out)).trans B3.out
  have s1:=slot_setCell (j:=0) (u:=.slice A1 R.length c1) k2
  have s3:=((Same.refl (w.heap.size+1) w2).set 0 (.slice A1 R.length c1)).set 0 (.slice A1 R.length c1)
  refine⟨A1,c1,rfl,?_,?_⟩
  ·exact(((E3.out.trans HX2.out).set (by omega) _ _).set (by omega) _ _).set (by omega) _ _
  ·refine RdB.set (RdB.set (RdB.set HR.out k2 (fun x h=>by cases h) _) s1 (fun x h=>by cases h) _) (t:=4) (u0:=.bool false) ?_ (fun x h=>by cases h) _
   exact(s3.other _ (by omega)).trans k3
 have HF:=zh hfin
 clear hfin
 simp [Leaves,settle,results,Tryz.results14,go_sem,hb2,hb3]
 exact HF.out
end Go.Proofs.YtdenjanihikolaaGreatDoor
