/- The writer of the reference: rows of numbers, by contract. -/
import Derived.Test.YtdenjanihikolaaGreatDoorRqA2
import Derived.Test.YtdenjanihikolaaGreatDoorRqA0
import Derived.Test.YtdenjanihikolaaGreatDoorRqBase
import Derived.Test.YtdenjanihikolaaGreatDoorRqOg
namespace Go.Proofs.YtdenjanihikolaaGreatDoor
set_option linter.unusedVariables false
set_option linter.unusedSimpArgs false
set_option maxRecDepth 100000
set_option maxHeartbeats 4000000
open Go.RowKit Og
/-- the low bytes of a number, the highest one first -/
def numB (n:Int):Nat->List Int
 | 0=>[]
 | k+1=>n / 256 ^ k % 256 :: numB n k
/-- A writer: a variable that holds a row of bytes. -/
structure Wr (K:Nat->Prop) (w0 w:World) (pb:Nat) (v:Value) (xs:List Int):Prop where
 out:¬K pb
 blk:w.heap[pb]?=some (.cells #[v] 79 (0,0))
 buf:Buf K w0 w v xs
 off:∀g,v.ownBlock=some g->g≠pb
theorem Wr.cell {K:Nat->Prop} {w0 w:World} {pb:Nat} {v:Value} {xs:List Int} (h:Wr K w0 w pb v xs):w.cell? ⟨pb,0,none⟩=some v:=cell_of_one h.blk
theorem Wr.drew {K:Nat->Prop} {w0 w:World} {pb:Nat} {v:Value} {xs:List Int} (h:Wr K w0 w pb v xs):Wr K w0 w.drew pb v xs:=⟨h.out,h.blk,h.buf.ext (Ext.refl w).drew,h.off⟩
theorem Wr.open {K:Nat->Prop} {w0 w:World} {pb:Nat} {v:Value} {xs:List Int} (h:Wr K w0 w pb v xs):Buf (fun k=>K k∨k=pb) w w v xs:=
 h.buf.rebase (fun k hk=>hk.elim (h.buf.lt k) (fun e=>e▸lt_of_block h.blk)) (fun g hg hk=>hk.elim (h.buf.off g hg) (h.off g hg))
theorem Wr.in_ {K:Nat->Prop} {w0 w w1:World} {pb:Nat} {v v1:Value} {xs ys:List Int} (h:Wr K w0 w pb v xs)(h1:Buf (fun k=>K k∨k=pb) w w1 v1 ys):w1.heap[pb]?=some (.cells #[v] 79 (0,0)):=(h1.kept pb (.inr rfl)).trans h.blk
theorem Wr.close {K:Nat->Prop} {w0 w w1:World} {pb:Nat} {v v1:Value} {xs ys:List Int} (h:Wr K w0 w pb v xs)(h1:Buf (fun k=>K k∨k=pb) w w1 v1 ys):Wr K w0 (w1.setCell ⟨pb,0,none⟩ v1) pb v1 ys:=by
 have hb:=h.in_ h1
 have hne:∀g,v1.ownBlock=some g->g≠pb:=fun g hg e=>h1.off g hg (.inr e)
 have hoth:∀k,k≠pb->(w1.setCell ⟨pb,0,none⟩ v1).heap[k]?=w1.heap[k]?:=fun k hk=>heap_setCell_other w1 ⟨pb,0,none⟩ k v1 hk
 have hsz:(w1.setCell ⟨pb,0,none⟩ v1).heap.size=w1.heap.size:=by simp [World.setCell]
 refine⟨h.out,one_setCell hb,⟨?_,fun g hg hk=>h1.off g hg (.inl hk),?_,?_,h1.os.trans h.buf.os,h1.tape.trans h.buf.tape,h1.output.trans h.buf.output⟩,hne⟩
 ·refine ownsRow_setCell_other h1.own ?_ _
  intro e;exact hne pb e rfl
 ·intro k hk
  rw [hoth k (fun e=>h.out (e▸hk)),h1.kept k (.inl hk),h.buf.kept k hk]
 ·intro k hk
  rw [hsz];exact h1.lt k (.inl hk)
/-- What the region of 'number' keeps. -/
def NumJ (K:Nat->Prop) (w0 W:World) (pb:Nat) (v:Value) (xs:List Int) (x:Int) (L:Nat->Bool) (vs:Nat->Value) (w:World):Prop:=
 if L 12=true then∃v',Wr K w0 w pb v' (xs++ [x])else if L 10=true then Buf (fun k=>K k∨k=pb) W w (vs 10) (xs++ [x])else Buf (fun k=>K k∨k=pb) W w v xs/\(L 9=true->RdB w (vs 9) [x])
theorem evp_none (a:Act)(v:Value)(x:Operand):(a.put none v).eval x=a.eval x:=rfl
theorem evp_size (a:Act)(d:Option Tmp)(v:Value):(a.put d v).tmps.size=a.tmps.size:=by
 cases d <;> simp [Act.put]
theorem evp_same (a:Act)(d:Nat)(v:Value)(h:d < a.tmps.size):(a.put (some d) v).eval (.tmp d)=v:=by
 simp [Act.put,Act.eval,Array.getD,h]
theorem slot_put (a:Act)(d:Nat)(v:Value)(h:d < a.tmps.size):slotOf (some d) (a.put (some d) v)=v:=by
 show(a.put (some d) v).eval (.tmp d)=v
 exact evp_same a d v h
theorem evp_ne (a:Act)(d j:Nat)(v:Value)(h:d≠j):(a.put (some d) v).eval (.tmp j)=a.eval (.tmp j):=by
 simp only [Act.put,Act.eval,Array.getD_eq_getD_getElem?]
 rw [Array.getElem?_setIfInBounds_ne h]
theorem NumJ.keep {K:Nat->Prop} {w0 W:World} {pb:Nat} {v:Value} {xs:List Int} {x:Int} {L:Nat->Bool} {vs:Nat->Value} {w:World} (h:NumJ K w0 W pb v xs x L vs w)(i:Nat)(u:Value)(h9:9≠i)(h10:10≠i)(h12:12≠i):NumJ K w0 W pb v xs x (updB L i) (upd vs i u) w:=by
 unfold NumJ at *
 simpa [updB,upd,h9,h10,h12]using h
theorem number_any (k:Nat)(hk:k<=4)(n:Int) {K:Nat->Prop} {w0 w:World} {pb:Nat} {v:Value} {xs:List Int} (h:Wr K w0 w pb v xs)(hl:xs.length<=1099511627776):
 Calls Tryz.prog 36 #[.pointer (some ⟨pb,0,none⟩),.int .i64 n,.int .i64 k] w fun e w'=>e=.returned (.tuple #[])/\∃v',Wr K w0 w' pb v' (xs++numB n k):=by
 have H:=zh h
 clear h
 go_enter Tryz.func36,Tryz.ntmps36
 go_wp2
 go_loopw [6] (fun i wr=>∃j:Nat,i=.int .i64 ((j:Int) - 1)/\j<=4/\∃v',∃done,Hid (done++numB n j=numB n k/\done.length+j<=4/\Wr K w0 wr pb v' (xs++done))) (fun i _=>(intOf i+1).toNat)
 case atStart=>exact⟨k,rfl,hk,v,[],zh ⟨rfl,by simpa using hk,by simpa using H.out⟩⟩
 case round=>
  obtain⟨j,rfl,hj,v',done,HH⟩:=hrel
  obtain⟨hdn,hdl,hw⟩:=HH.out
  have HV:=zh hw
  have HW:=zh hw.drew
  have HD:=zh hdn
  clear hw hdn HH H
  have hjj:j=0∨j=1∨j=2∨j=3∨j=4:=by omega
  rcases hjj with rfl|rfl|rfl|rfl|rfl
  ·go_wp2
   go_end0
   exact⟨rfl,v',by have:=HD.out;simp only [numB,List.append_nil]at this;rw [<-this];exact HV.out⟩
  ·go_wp2
   refine wp_region_ogL (J:=NumJ K w0 wr.drew pb v' (xs++done) (n % 256)) (R:=fun _ _=>True) [Sp.eq _ (.pointer (some ⟨pb,0,none⟩)),Sp.eq _ (.pointer (some ⟨pb,0,none⟩)),Sp.eq _ (.pointer (some ⟨pb,0,none⟩)),Sp.eq _ (v'),Sp.eq _ (.int .i64 n),Sp.eq _ (.int .i64 0),Sp.eq _ (.int .i64 0),Sp.eq _ (.int .i64 (n)),Sp.eq _ (.int .u8 (n % 256)),Sp.any _,Sp.any _,Sp.eq _ (.pointer (some ⟨pb,0,none⟩)),Sp.any _] (by kernel_rfl) (by kernel_rfl) ?_ ?_ ?_
   ·exact⟨HW.out.open,fun h=>by cases h⟩
   ·refine⟨zu,zu,zu,?_,zu,zu,zu,zu,zu,?_,?_,zu,?_,trivial⟩
    ·intro vs w1 L hLi hd hdt hJ hp
     have q2:vs 2=_:=zd hp 2
     have HJ:=zh hJ
     have hL10:L 10=false:=zd hdt 10
     have hL12:L 12=false:=zd hdt 12
     unfold NumJ at hJ
     rw [hL12,hL10]at hJ
     simp only [Bool.false_eq_true,if_false]at hJ
     have hc1:=cell_of_one (HW.out.in_ hJ.1)
     clear hp hd hdt hLi hJ hL10 hL12
     simp only [putAll,Nat.reduceAdd]
     go_wp2
     exact⟨rfl,HJ.out.keep 3 _ (by decide) (by decide) (by decide),trivial,rfl⟩
    ·intro vs w1 L hLi hd hdt hJ hp
     have q8:vs 8=_:=zd hp 8
     have hL10:L 10=false:=zd hdt 10
     have hL12:L 12=false:=zd hdt 12
     unfold NumJ at hJ
     rw [hL12,hL10]at hJ
     simp only [Bool.false_eq_true,if_false]at hJ
     have HJ:=zh hJ.1
     have HL10:=zh hL10
     have HL12:=zh hL12
     clear hp hd hdt hLi hJ hL10 hL12
     simp only [putAll,Nat.reduceAdd]
     go_wp2
     refine⟨rfl,?_,trivial,trivial⟩
     unfold NumJ
     simp only [updB,upd,HL10.out,HL12.out]
     exact⟨HJ.out.ext (ext_alloc _ _),fun _=>RdB.lit1 _ (n % 256)⟩
    ·intro vs w1 L hLi hd hdt hJ hp
     have q3:vs 3=_:=zd hp 3
     have hL9:L 9=true:=zd hd 9
     have hL12:L 12=false:=zd hdt 12
     unfold NumJ at hJ
     rw [hL12,hLi]at hJ
     simp only [Bool.false_eq_true,if_false]at hJ
     have HJ:=zh hJ.1
     have HR:=zh (hJ.2 hL9)
     have HL12:=zh hL12
     clear hp hd hdt hLi hJ hL9 hL12
     simp only [putAll,Nat.reduceAdd]
     refine ap_row (v:=v') (vx:=vs 9) (ys:=[n % 256]) rfl (.tmp 16) (.tmp 22) 79 79 rfl Tryz.underlying79 Tryz.underlying79 (by simp only [evp_none,ne_eq,Nat.reduceEqDiff,not_false_eq_true,evp_ne];rw [evp_same _ _ _ (by simp [evp_size])];exact q3) HJ.out (by simp only [evp_none,ne_eq,Nat.reduceEqDiff,not_false_eq_true,evp_ne];rw [evp_same _ _ _ (by simp [evp_size])]) HR.out (by simp;omega) ?_
     intro v2 w2 hn
     refine⟨rfl,?_,trivial,trivial⟩
     unfold NumJ
     simp only [updB,upd,HL12.out,Bool.false_or,Nat.reduceBEq,Bool.false_eq_true,if_false,beq_self_eq_true,Bool.or_true,if_true]
     rw [slot_put _ _ _ (by simp [evp_size])]
     exact hn
    ·intro vs w1 L hLi hd hdt hJ hp
     have q0:vs 0=_:=zd hp 0
     have q1:vs 1=_:=zd hp 1
     have q2:vs 2=_:=zd hp 2
     have q3:vs 3=_:=zd hp 3
     have q4:vs 4=_:=zd hp 4
     have q5:vs 5=_:=zd hp 5
     have q6:vs 6=_:=zd hp 6
     have q7:vs 7=_:=zd hp 7
     have q8:vs 8=_:=zd hp 8
     have q11:vs 11=_:=zd hp 11
     have hL10:L 10=true:=zd hd 10
     unfold NumJ at hJ
     rw [hLi,hL10]at hJ
     simp only [Bool.false_eq_true,if_false,if_true]at hJ
     have HJ:=zh hJ
     have hc1:=cell_of_one (HW.out.in_ hJ)
     have hf1:=free_of_one (HW.out.in_ hJ)
     obtain⟨A2,c2,hv2⟩:=hJ.len
     have HV:=zh hv2
     clear hp hd hdt hLi hJ hL10
     simp only [putAll,Nat.reduceAdd]
     rw [HV.out]
     go_wp2
     refine⟨rfl,?_,trivial,trivial⟩
     unfold NumJ
     simp only [updB,Nat.reduceAdd,beq_self_eq_true,Bool.or_true,if_true]
     have hz:=HW.out.close HJ.out
     rw [HV.out]at hz
     simp only [List.length_append,List.length_cons,List.length_nil,Nat.zero_add,Nat.add_assoc]at hz
     exact⟨_,hz⟩
   ·intro vs w1 L hall hJ hp
    have q0:vs 0=_:=zd hp 0
    have q1:vs 1=_:=zd hp 1
    have q2:vs 2=_:=zd hp 2
    have q3:vs 3=_:=zd hp 3
    have q4:vs 4=_:=zd hp 4
    have q5:vs 5=_:=zd hp 5
    have q6:vs 6=_:=zd hp 6
    have q7:vs 7=_:=zd hp 7
    have q8:vs 8=_:=zd hp 8
    have q11:vs 11=_:=zd hp 11
    have hL12:=zd hall 12
    unfold NumJ at hJ
    rw [hL12]at hJ
    simp only [if_true]at hJ
    obtain⟨v2,hw2⟩:=hJ
    have HN:=zh hw2
    clear hw2 hp hall hL12
    simp only [putAll,Nat.reduceAdd]
    go_wp2
    go_roundw
    case rel=>exact⟨0,rfl,by omega,v2,done++ [n % 256],zh ⟨by rw [List.append_assoc];simpa [numB]using HD.out,by simp only [List.length_append,List.length_cons,List.length_nil];omega,by rw [<-List.append_assoc];exact HN.out⟩⟩
    case measure=>simp [intOf]
  ·go_wp2
   refine wp_region_ogL (J:=NumJ K w0 wr.drew pb v' (xs++done) (n / 256 % 256)) (R:=fun _ _=>True) [Sp.eq _ (.pointer (some ⟨pb,0,none⟩)),Sp.eq _ (.pointer (some ⟨pb,0,none⟩)),Sp.eq _ (.pointer (some ⟨pb,0,none⟩)),Sp.eq _ (v'),Sp.eq _ (.int .i64 n),Sp.eq _ (.int .i64 1),Sp.eq _ (.int .i64 8),Sp.eq _ (.int .i64 (n / 256)),Sp.eq _ (.int .u8 (n / 256 % 256)),Sp.any _,Sp.any _,Sp.eq _ (.pointer (some ⟨pb,0,none⟩)),Sp.any _] (by kernel_rfl) (by kernel_rfl) ?_ ?_ ?_
   ·exact⟨HW.out.open,fun h=>by cases h⟩
   ·refine⟨zu,zu,zu,?_,zu,zu,zu,zu,zu,?_,?_,zu,?_,trivial⟩
    ·intro vs w1 L hLi hd hdt hJ hp
     have q2:vs 2=_:=zd hp 2
     have HJ:=zh hJ
     have hL10:L 10=false:=zd hdt 10
     have hL12:L 12=false:=zd hdt 12
     unfold NumJ at hJ
     rw [hL12,hL10]at hJ
     simp only [Bool.false_eq_true,if_false]at hJ
     have hc1:=cell_of_one (HW.out.in_ hJ.1)
     clear hp hd hdt hLi hJ hL10 hL12
     simp only [putAll,Nat.reduceAdd]
     go_wp2
     exact⟨rfl,HJ.out.keep 3 _ (by decide) (by decide) (by decide),trivial,rfl⟩
    ·intro vs w1 L hLi hd hdt hJ hp
     have q8:vs 8=_:=zd hp 8
     have hL10:L 10=false:=zd hdt 10
     have hL12:L 12=false:=zd hdt 12
     unfold NumJ at hJ
     rw [hL12,hL10]at hJ
     simp only [Bool.false_eq_true,if_false]at hJ
     have HJ:=zh hJ.1
     have HL10:=zh hL10
     have HL12:=zh hL12
     clear hp hd hdt hLi hJ hL10 hL12
     simp only [putAll,Nat.reduceAdd]
     go_wp2
     refine⟨rfl,?_,trivial,trivial⟩
     unfold NumJ
     simp only [updB,upd,HL10.out,HL12.out]
     exact⟨HJ.out.ext (ext_alloc _ _),fun _=>RdB.lit1 _ (n / 256 % 256)⟩
    ·intro vs w1 L hLi hd hdt hJ hp
     have q3:vs 3=_:=zd hp 3
     have hL9:L 9=true:=zd hd 9
     have hL12:L 12=false:=zd hdt 12
     unfold NumJ at hJ
     rw [hL12,hLi]at hJ
     simp only [Bool.false_eq_true,if_false]at hJ
     have HJ:=zh hJ.1
     have HR:=zh (hJ.2 hL9)
     have HL12:=zh hL12
     clear hp hd hdt hLi hJ hL9 hL12
     simp only [putAll,Nat.reduceAdd]
     refine ap_row (v:=v') (vx:=vs 9) (ys:=[n / 256 % 256]) rfl (.tmp 16) (.tmp 22) 79 79 rfl Tryz.underlying79 Tryz.underlying79 (by simp only [evp_none,ne_eq,Nat.reduceEqDiff,not_false_eq_true,evp_ne];rw [evp_same _ _ _ (by simp [evp_size])];exact q3) HJ.out (by simp only [evp_none,ne_eq,Nat.reduceEqDiff,not_false_eq_true,evp_ne];rw [evp_same _ _ _ (by simp [evp_size])]) HR.out (by simp;omega) ?_
     intro v2 w2 hn
     refine⟨rfl,?_,trivial,trivial⟩
     unfold NumJ
     simp only [updB,upd,HL12.out,Bool.false_or,Nat.reduceBEq,Bool.false_eq_true,if_false,beq_self_eq_true,Bool.or_true,if_true]
     rw [slot_put _ _ _ (by simp [evp_size])]
     exact hn
    ·intro vs w1 L hLi hd hdt hJ hp
     have q0:vs 0=_:=zd hp 0
     have q1:vs 1=_:=zd hp 1
     have q2:vs 2=_:=zd hp 2
     have q3:vs 3=_:=zd hp 3
     have q4:vs 4=_:=zd hp 4
     have q5:vs 5=_:=zd hp 5
     have q6:vs 6=_:=zd hp 6
     have q7:vs 7=_:=zd hp 7
     have q8:vs 8=_:=zd hp 8
     have q11:vs 11=_:=zd hp 11
     have hL10:L 10=true:=zd hd 10
     unfold NumJ at hJ
     rw [hLi,hL10]at hJ
     simp only [Bool.false_eq_true,if_false,if_true]at hJ
     have HJ:=zh hJ
     have hc1:=cell_of_one (HW.out.in_ hJ)
     have hf1:=free_of_one (HW.out.in_ hJ)
     obtain⟨A2,c2,hv2⟩:=hJ.len
     have HV:=zh hv2
     clear hp hd hdt hLi hJ hL10
     simp only [putAll,Nat.reduceAdd]
     rw [HV.out]
     go_wp2
     refine⟨rfl,?_,trivial,trivial⟩
     unfold NumJ
     simp only [updB,Nat.reduceAdd,beq_self_eq_true,Bool.or_true,if_true]
     have hz:=HW.out.close HJ.out
     rw [HV.out]at hz
     simp only [List.length_append,List.length_cons,List.length_nil,Nat.zero_add,Nat.add_assoc]at hz
     exact⟨_,hz⟩
   ·intro vs w1 L hall hJ hp
    have q0:vs 0=_:=zd hp 0
    have q1:vs 1=_:=zd hp 1
    have q2:vs 2=_:=zd hp 2
    have q3:vs 3=_:=zd hp 3
    have q4:vs 4=_:=zd hp 4
    have q5:vs 5=_:=zd hp 5
    have q6:vs 6=_:=zd hp 6
    have q7:vs 7=_:=zd hp 7
    have q8:vs 8=_:=zd hp 8
    have q11:vs 11=_:=zd hp 11
    have hL12:=zd hall 12
    unfold NumJ at hJ
    rw [hL12]at hJ
    simp only [if_true]at hJ
    obtain⟨v2,hw2⟩:=hJ
    have HN:=zh hw2
    clear hw2 hp hall hL12
    simp only [putAll,Nat.reduceAdd]
    go_wp2
    go_roundw
    case rel=>exact⟨1,rfl,by omega,v2,done++ [n / 256 % 256],zh ⟨by rw [List.append_assoc];simpa [numB]using HD.out,by simp only [List.length_append,List.length_cons,List.length_nil];omega,by rw [<-List.append_assoc];exact HN.out⟩⟩
    case measure=>simp [intOf]
  ·go_wp2
   refine wp_region_ogL (J:=NumJ K w0 wr.drew pb v' (xs++done) (n / 65536 % 256)) (R:=fun _ _=>True) [Sp.eq _ (.pointer (some ⟨pb,0,none⟩)),Sp.eq _ (.pointer (some ⟨pb,0,none⟩)),Sp.eq _ (.pointer (some ⟨pb,0,none⟩)),Sp.eq _ (v'),Sp.eq _ (.int .i64 n),Sp.eq _ (.int .i64 2),Sp.eq _ (.int .i64 16),Sp.eq _ (.int .i64 (n / 65536)),Sp.eq _ (.int .u8 (n / 65536 % 256)),Sp.any _,Sp.any _,Sp.eq _ (.pointer (some ⟨pb,0,none⟩)),Sp.any _] (by kernel_rfl) (by kernel_rfl) ?_ ?_ ?_
   ·exact⟨HW.out.open,fun h=>by cases h⟩
   ·refine⟨zu,zu,zu,?_,zu,zu,zu,zu,zu,?_,?_,zu,?_,trivial⟩
    ·intro vs w1 L hLi hd hdt hJ hp
     have q2:vs 2=_:=zd hp 2
     have HJ:=zh hJ
     have hL10:L 10=false:=zd hdt 10
     have hL12:L 12=false:=zd hdt 12
     unfold NumJ at hJ
     rw [hL12,hL10]at hJ
     simp only [Bool.false_eq_true,if_false]at hJ
     have hc1:=cell_of_one (HW.out.in_ hJ.1)
     clear hp hd hdt hLi hJ hL10 hL12
     simp only [putAll,Nat.reduceAdd]
     go_wp2
     exact⟨rfl,HJ.out.keep 3 _ (by decide) (by decide) (by decide),trivial,rfl⟩
    ·intro vs w1 L hLi hd hdt hJ hp
     have q8:vs 8=_:=zd hp 8
     have hL10:L 10=false:=zd hdt 10
     have hL12:L 12=false:=zd hdt 12
     unfold NumJ at hJ
     rw [hL12,hL10]at hJ
     simp only [Bool.false_eq_true,if_false]at hJ
     have HJ:=zh hJ.1
     have HL10:=zh hL10
     have HL12:=zh hL12
     clear hp hd hdt hLi hJ hL10 hL12
     simp only [putAll,Nat.reduceAdd]
     go_wp2
     refine⟨rfl,?_,trivial,trivial⟩
     unfold NumJ
     simp only [updB,upd,HL10.out,HL12.out]
     exact⟨HJ.out.ext (ext_alloc _ _),fun _=>RdB.lit1 _ (n / 65536 % 256)⟩
    ·intro vs w1 L hLi hd hdt hJ hp
     have q3:vs 3=_:=zd hp 3
     have hL9:L 9=true:=zd hd 9
     have hL12:L 12=false:=zd hdt 12
     unfold NumJ at hJ
     rw [hL12,hLi]at hJ
     simp only [Bool.false_eq_true,if_false]at hJ
     have HJ:=zh hJ.1
     have HR:=zh (hJ.2 hL9)
     have HL12:=zh hL12
     clear hp hd hdt hLi hJ hL9 hL12
     simp only [putAll,Nat.reduceAdd]
     refine ap_row (v:=v') (vx:=vs 9) (ys:=[n / 65536 % 256]) rfl (.tmp 16) (.tmp 22) 79 79 rfl Tryz.underlying79 Tryz.underlying79 (by simp only [evp_none,ne_eq,Nat.reduceEqDiff,not_false_eq_true,evp_ne];rw [evp_same _ _ _ (by simp [evp_size])];exact q3) HJ.out (by simp only [evp_none,ne_eq,Nat.reduceEqDiff,not_false_eq_true,evp_ne];rw [evp_same _ _ _ (by simp [evp_size])]) HR.out (by simp;omega) ?_
     intro v2 w2 hn
     refine⟨rfl,?_,trivial,trivial⟩
     unfold NumJ
     simp only [updB,upd,HL12.out,Bool.false_or,Nat.reduceBEq,Bool.false_eq_true,if_false,beq_self_eq_true,Bool.or_true,if_true]
     rw [slot_put _ _ _ (by simp [evp_size])]
     exact hn
    ·intro vs w1 L hLi hd hdt hJ hp
     have q0:vs 0=_:=zd hp 0
     have q1:vs 1=_:=zd hp 1
     have q2:vs 2=_:=zd hp 2
     have q3:vs 3=_:=zd hp 3
     have q4:vs 4=_:=zd hp 4
     have q5:vs 5=_:=zd hp 5
     have q6:vs 6=_:=zd hp 6
     have q7:vs 7=_:=zd hp 7
     have q8:vs 8=_:=zd hp 8
     have q11:vs 11=_:=zd hp 11
     have hL10:L 10=true:=zd hd 10
     unfold NumJ at hJ
     rw [hLi,hL10]at hJ
     simp only [Bool.false_eq_true,if_false,if_true]at hJ
     have HJ:=zh hJ
     have hc1:=cell_of_one (HW.out.in_ hJ)
     have hf1:=free_of_one (HW.out.in_ hJ)
     obtain⟨A2,c2,hv2⟩:=hJ.len
     have HV:=zh hv2
     clear hp hd hdt hLi hJ hL10
     simp only [putAll,Nat.reduceAdd]
     rw [HV.out]
     go_wp2
     refine⟨rfl,?_,trivial,trivial⟩
     unfold NumJ
     simp only [updB,Nat.reduceAdd,beq_self_eq_true,Bool.or_true,if_true]
     have hz:=HW.out.close HJ.out
     rw [HV.out]at hz
     simp only [List.length_append,List.length_cons,List.length_nil,Nat.zero_add,Nat.add_assoc]at hz
     exact⟨_,hz⟩
   ·intro vs w1 L hall hJ hp
    have q0:vs 0=_:=zd hp 0
    have q1:vs 1=_:=zd hp 1
    have q2:vs 2=_:=zd hp 2
    have q3:vs 3=_:=zd hp 3
    have q4:vs 4=_:=zd hp 4
    have q5:vs 5=_:=zd hp 5
    have q6:vs 6=_:=zd hp 6
    have q7:vs 7=_:=zd hp 7
    have q8:vs 8=_:=zd hp 8
    have q11:vs 11=_:=zd hp 11
    have hL12:=zd hall 12
    unfold NumJ at hJ
    rw [hL12]at hJ
    simp only [if_true]at hJ
    obtain⟨v2,hw2⟩:=hJ
    have HN:=zh hw2
    clear hw2 hp hall hL12
    simp only [putAll,Nat.reduceAdd]
    go_wp2
    go_roundw
    case rel=>exact⟨2,rfl,by omega,v2,done++ [n / 65536 % 256],zh ⟨by rw [List.append_assoc];simpa [numB]using HD.out,by simp only [List.length_append,List.length_cons,List.length_nil];omega,by rw [<-List.append_assoc];exact HN.out⟩⟩
    case measure=>simp [intOf]
  ·go_wp2
   refine wp_region_ogL (J:=NumJ K w0 wr.drew pb v' (xs++done) (n / 16777216 % 256)) (R:=fun _ _=>True) [Sp.eq _ (.pointer (some ⟨pb,0,none⟩)),Sp.eq _ (.pointer (some ⟨pb,0,none⟩)),Sp.eq _ (.pointer (some ⟨pb,0,none⟩)),Sp.eq _ (v'),Sp.eq _ (.int .i64 n),Sp.eq _ (.int .i64 3),Sp.eq _ (.int .i64 24),Sp.eq _ (.int .i64 (n / 16777216)),Sp.eq _ (.int .u8 (n / 16777216 % 256)),Sp.any _,Sp.any _,Sp.eq _ (.pointer (some ⟨pb,0,none⟩)),Sp.any _] (by kernel_rfl) (by kernel_rfl) ?_ ?_ ?_
   ·exact⟨HW.out.open,fun h=>by cases h⟩
   ·refine⟨zu,zu,zu,?_,zu,zu,zu,zu,zu,?_,?_,zu,?_,trivial⟩
    ·intro vs w1 L hLi hd hdt hJ hp
     have q2:vs 2=_:=zd hp 2
     have HJ:=zh hJ
     have hL10:L 10=false:=zd hdt 10
     have hL12:L 12=false:=zd hdt 12
     unfold NumJ at hJ
     rw [hL12,hL10]at hJ
     simp only [Bool.false_eq_true,if_false]at hJ
     have hc1:=cell_of_one (HW.out.in_ hJ.1)
     clear hp hd hdt hLi hJ hL10 hL12
     simp only [putAll,Nat.reduceAdd]
     go_wp2
     exact⟨rfl,HJ.out.keep 3 _ (by decide) (by decide) (by decide),trivial,rfl⟩
    ·intro vs w1 L hLi hd hdt hJ hp
     have q8:vs 8=_:=zd hp 8
     have hL10:L 10=false:=zd hdt 10
     have hL12:L 12=false:=zd hdt 12
     unfold NumJ at hJ
     rw [hL12,hL10]at hJ
     simp only [Bool.false_eq_true,if_false]at hJ
     have HJ:=zh hJ.1
     have HL10:=zh hL10
     have HL12:=zh hL12
     clear hp hd hdt hLi hJ hL10 hL12
     simp only [putAll,Nat.reduceAdd]
     go_wp2
     refine⟨rfl,?_,trivial,trivial⟩
     unfold NumJ
     simp only [updB,upd,HL10.out,HL12.out]
     exact⟨HJ.out.ext (ext_alloc _ _),fun _=>RdB.lit1 _ (n / 16777216 % 256)⟩
    ·intro vs w1 L hLi hd hdt hJ hp
     have q3:vs 3=_:=zd hp 3
     have hL9:L 9=true:=zd hd 9
     have hL12:L 12=false:=zd hdt 12
     unfold NumJ at hJ
     rw [hL12,hLi]at hJ
     simp only [Bool.false_eq_true,if_false]at hJ
     have HJ:=zh hJ.1
     have HR:=zh (hJ.2 hL9)
     have HL12:=zh hL12
     clear hp hd hdt hLi hJ hL9 hL12
     simp only [putAll,Nat.reduceAdd]
     refine ap_row (v:=v') (vx:=vs 9) (ys:=[n / 16777216 % 256]) rfl (.tmp 16) (.tmp 22) 79 79 rfl Tryz.underlying79 Tryz.underlying79 (by simp only [evp_none,ne_eq,Nat.reduceEqDiff,not_false_eq_true,evp_ne];rw [evp_same _ _ _ (by simp [evp_size])];exact q3) HJ.out (by simp only [evp_none,ne_eq,Nat.reduceEqDiff,not_false_eq_true,evp_ne];rw [evp_same _ _ _ (by simp [evp_size])]) HR.out (by simp;omega) ?_
     intro v2 w2 hn
     refine⟨rfl,?_,trivial,trivial⟩
     unfold NumJ
     simp only [updB,upd,HL12.out,Bool.false_or,Nat.reduceBEq,Bool.false_eq_true,if_false,beq_self_eq_true,Bool.or_true,if_true]
     rw [slot_put _ _ _ (by simp [evp_size])]
     exact hn
    ·intro vs w1 L hLi hd hdt hJ hp
     have q0:vs 0=_:=zd hp 0
     have q1:vs 1=_:=zd hp 1
     have q2:vs 2=_:=zd hp 2
     have q3:vs 3=_:=zd hp 3
     have q4:vs 4=_:=zd hp 4
     have q5:vs 5=_:=zd hp 5
     have q6:vs 6=_:=zd hp 6
     have q7:vs 7=_:=zd hp 7
     have q8:vs 8=_:=zd hp 8
     have q11:vs 11=_:=zd hp 11
     have hL10:L 10=true:=zd hd 10
     unfold NumJ at hJ
     rw [hLi,hL10]at hJ
     simp only [Bool.false_eq_true,if_false,if_true]at hJ
     have HJ:=zh hJ
     have hc1:=cell_of_one (HW.out.in_ hJ)
     have hf1:=free_of_one (HW.out.in_ hJ)
     obtain⟨A2,c2,hv2⟩:=hJ.len
     have HV:=zh hv2
     clear hp hd hdt hLi hJ hL10
     simp only [putAll,Nat.reduceAdd]
     rw [HV.out]
     go_wp2
     refine⟨rfl,?_,trivial,trivial⟩
     unfold NumJ
     simp only [updB,Nat.reduceAdd,beq_self_eq_true,Bool.or_true,if_true]
     have hz:=HW.out.close HJ.out
     rw [HV.out]at hz
     simp only [List.length_append,List.length_cons,List.length_nil,Nat.zero_add,Nat.add_assoc]at hz
     exact⟨_,hz⟩
   ·intro vs w1 L hall hJ hp
    have q0:vs 0=_:=zd hp 0
    have q1:vs 1=_:=zd hp 1
    have q2:vs 2=_:=zd hp 2
    have q3:vs 3=_:=zd hp 3
    have q4:vs 4=_:=zd hp 4
    have q5:vs 5=_:=zd hp 5
    have q6:vs 6=_:=zd hp 6
    have q7:vs 7=_:=zd hp 7
    have q8:vs 8=_:=zd hp 8
    have q11:vs 11=_:=zd hp 11
    have hL12:=zd hall 12
    unfold NumJ at hJ
    rw [hL12]at hJ
    simp only [if_true]at hJ
    obtain⟨v2,hw2⟩:=hJ
    have HN:=zh hw2
    clear hw2 hp hall hL12
    simp only [putAll,Nat.reduceAdd]
    go_wp2
    go_roundw
    case rel=>exact⟨3,rfl,by omega,v2,done++ [n / 16777216 % 256],zh ⟨by rw [List.append_assoc];simpa [numB]using HD.out,by simp only [List.length_append,List.length_cons,List.length_nil];omega,by rw [<-List.append_assoc];exact HN.out⟩⟩
    case measure=>simp [intOf]
theorem Wr.ext {K:Nat->Prop} {w0 w w':World} {pb:Nat} {v:Value} {xs:List Int} (h:Wr K w0 w pb v xs)(hx:Ext w w'):Wr K w0 w' pb v xs:=
 ⟨h.out,(hx.block pb (lt_of_block h.blk)).trans h.blk,h.buf.ext hx,h.off⟩
theorem Buf.sl {K:Nat->Prop} {w0 w:World} {v:Value} {xs:List Int} (h:Buf K w0 w v xs):∃A n c,v=.slice A n c:=by
 obtain⟨A,c,hv⟩:=h.len
 exact⟨A,_,c,hv⟩
/-- What a method of the writer leaves. -/
def Wrote (K:Nat->Prop) (w0:World) (pb:Nat) (ys:List Int):Ending->World->Prop:=fun e w'=>e=.returned (.tuple #[])/\∃v',Wr K w0 w' pb v' ys
theorem number_w (k:Nat)(hk:k<=4)(n:Int) {K:Nat->Prop} {w0 w:World} {pb:Nat} {v:Value} {xs:List Int} (h:Wr K w0 w pb v xs)(hl:xs.length<=1099511627776):
 Calls Tryz.prog 36 #[.pointer (some ⟨pb,0,none⟩),.int .i64 n,.int .i64 k] w (Wrote K w0 pb (xs++numB n k)):=number_any k hk n h hl
theorem bytes_w {K:Nat->Prop} {w0 w:World} {pb:Nat} {v vb:Value} {xs ys:List Int} (h:Wr K w0 w pb v xs)(hr:RdB w vb ys)(hl:xs.length+ys.length<=1099511627776):
 Calls Tryz.prog 37 #[.pointer (some ⟨pb,0,none⟩),vb] w (Wrote K w0 pb (xs++ys)):=by
 have hc:=h.cell
 have H:=zh h
 clear h
 have HR:=zh hr
 clear hr
 go_enter Tryz.func37,Tryz.ntmps37
 go_wp2_with (at_builtin;refine ap_row (v:=v) (vx:=vb) (ys:=ys) rfl _ _ 79 26 rfl Tryz.underlying79 Tryz.underlying26 rfl H.out.open rfl HR.out (by omega) ?_;intro v1 w1 hn;obtain⟨A2,n2,c2,hv2⟩:=hn.sl;subst hv2;have hc1:=cell_of_one (H.out.in_ hn);have hf1:=free_of_one (H.out.in_ hn);have HN:=zh hn;clear hn hc)
 go_end0
 exact⟨rfl,_,H.out.close HN.out⟩
theorem text_w (s:ByteArray) {K:Nat->Prop} {w0 w:World} {pb:Nat} {v:Value} {xs:List Int} (h:Wr K w0 w pb v xs)(hl:xs.length+s.size<=1099511627776):
 Calls Tryz.prog 38 #[.pointer (some ⟨pb,0,none⟩),.string s] w (Wrote K w0 pb (xs++txt s)):=by
 have hc:=h.cell
 have H:=zh h
 clear h
 go_enter Tryz.func38,Tryz.ntmps38
 go_wp2_with (first|(at_builtin;refine ap_str (st:=s) rfl _ _ 79 rfl Tryz.underlying79 rfl rfl H.out.open (by omega) ?_;intro v1 w1 hn;have HB:=zh hn;clear hn)|(at_builtin;refine ap_lit1 rfl _ _ 79 79 rfl Tryz.underlying79 Tryz.underlying79 rfl rfl HB.out (by simp only [List.length_append,sby_length];omega) ?_;intro v2 w2 hn;obtain⟨A2,n2,c2,hv2⟩:=hn.sl;subst hv2;have hc1:=cell_of_one (H.out.in_ hn);have hf1:=free_of_one (H.out.in_ hn);have HN:=zh hn;clear hn hc))
 go_end0
 have hz:=H.out.close HN.out
 rw [List.append_assoc]at hz
 exact⟨rfl,_,hz⟩
theorem numB_len (n:Int):∀k,(numB n k).length=k
 | 0=>rfl
 | k+1=>by simp only [numB,List.length_cons,numB_len n k]
theorem shorts_w (l:List Int) {w0 w:World} {pb:Nat} {v vl:Value} {xs:List Int} (h:Wr (Lt w0.heap.size) w0 w pb v xs)(hr:RdI .i64 w0 vl l)(hl:xs.length+2 * l.length+2<=1099511627776):
 Calls Tryz.prog 39 #[.pointer (some ⟨pb,0,none⟩),vl] w (Wrote (Lt w0.heap.size) w0 pb (xs++(numB l.length 2++l.flatMap fun n=>numB n 2))):=by
 obtain⟨A_l,c_l,rfl, -⟩:=id hr
 have HR:=zh hr
 clear hr
 have hc:=h.cell
 have H:=zh h
 clear h
 have hm:∀y∈l,(numB y 2).length<=2:=fun y _=>Nat.le_of_eq (numB_len y 2)
 have HM:=zh hm
 clear hm
 go_enter Tryz.func39,Tryz.ntmps39
 go_wp2_with (go_at_call 36;refine(number_w 2 (by omega) _ H.out (by omega)).mono ?_;rintro e w1 ⟨rfl,v1,hn⟩;clear hc;have hc:=hn.cell;have HB:=zh hn;clear hn)
 go_loopw [12] (fun i wr=>∃k:Nat,k<=l.length/\i=.int .i64 k/\∃v',Hid (Wr (Lt w0.heap.size) w0 wr pb v' (xs++(numB l.length 2++(l.take k).flatMap fun n=>numB n 2)))) (fun i _=>l.length - (intOf i).toNat)
 case atStart=>exact⟨0,Nat.zero_le _,rfl,_,by simpa using HB⟩
 case round=>
  clear HB hc
  obtain⟨k,hk1,rfl,v2,HB⟩:=hrel
  by_cases hlt:k < l.length
  ·have hfl:=flat_take_len (fun n=>numB n 2) 2 k l HM.out
   obtain⟨b1,o1,rfl,hcell⟩:=(HR.out.ext HB.out.buf.bel).at_ hlt
   rw [getD_at hlt]at hcell
   obtain⟨x,hx⟩:∃x,x=l[k]:=⟨_,rfl⟩
   rw [<-hx]at hcell
   have HX:=zh hx
   clear hx
   go_wp2_with (go_at_call 36;refine(number_w 2 (by omega) _ HB.out (by simp only [List.length_append,numB_len];omega)).mono ?_;rintro e w1 ⟨rfl,v1,hn⟩;have HN:=zh hn;clear hn HB)
   go_roundw
   case rel=>
    refine⟨k+1,by omega,by go_num,v1,?_⟩
    rw [take_flat _ l k hlt,<-HX.out]
    have hz:=HN.out
    simp only [List.append_assoc]at hz⊢
    exact zh hz
   case measure=>simp [intOf];omega
  ·obtain rfl:k=l.length:=by omega
   rw [List.take_length]at HB
   go_wp2
   go_end0
   exact⟨rfl,_,HB.out⟩
theorem types_w (l:List Int) {w0 w:World} {pb:Nat} {v vl:Value} {xs:List Int} (h:Wr (Lt w0.heap.size) w0 w pb v xs)(hr:RdI .u32 w0 vl l)(hl:xs.length+4 * l.length+2<=1099511627776)(hg:∀y∈l,0<=y/\y < 4294967296):
 Calls Tryz.prog 41 #[.pointer (some ⟨pb,0,none⟩),vl] w (Wrote (Lt w0.heap.size) w0 pb (xs++(numB l.length 2++l.flatMap fun n=>numB n 4))):=by
 obtain⟨A_l,c_l,rfl, -⟩:=id hr
 have HR:=zh hr
 clear hr
 have HG:=zh hg
 clear hg
 have hc:=h.cell
 have H:=zh h
 clear h
 have hm:∀y∈l,(numB y 4).length<=4:=fun y _=>Nat.le_of_eq (numB_len y 4)
 have HM:=zh hm
 clear hm
 go_enter Tryz.func41,Tryz.ntmps41
 go_wp2_with (go_at_call 36;refine(number_w 2 (by omega) _ H.out (by omega)).mono ?_;rintro e w1 ⟨rfl,v1,hn⟩;clear hc;have hc:=hn.cell;have HB:=zh hn;clear hn)
 go_loopw [12] (fun i wr=>∃k:Nat,k<=l.length/\i=.int .i64 k/\∃v',Hid (Wr (Lt w0.heap.size) w0 wr pb v' (xs++(numB l.length 2++(l.take k).flatMap fun n=>numB n 4)))) (fun i _=>l.length - (intOf i).toNat)
 case atStart=>exact⟨0,Nat.zero_le _,rfl,_,by simpa using HB⟩
 case round=>
  clear HB hc
  obtain⟨k,hk1,rfl,v2,HB⟩:=hrel
  by_cases hlt:k < l.length
  ·have hfl:=flat_take_len (fun n=>numB n 4) 4 k l HM.out
   obtain⟨b1,o1,rfl,hcell⟩:=(HR.out.ext HB.out.buf.bel).at_ hlt
   rw [getD_at hlt]at hcell
   have h1:=HG.out _ (List.getElem_mem hlt)
   obtain⟨x,hx⟩:∃x,x=l[k]:=⟨_,rfl⟩
   rw [<-hx]at hcell h1
   have HX:=zh hx
   clear hx
   go_wp2_with (go_at_call 36;refine(number_w 4 (by omega) _ HB.out (by simp only [List.length_append,numB_len];omega)).mono ?_;rintro e w1 ⟨rfl,v1,hn⟩;have HN:=zh hn;clear hn HB)
   go_roundw
   case rel=>
    refine⟨k+1,by omega,by go_num,v1,?_⟩
    rw [take_flat _ l k hlt,<-HX.out]
    have hz:=HN.out
    simp only [List.append_assoc]at hz⊢
    exact zh hz
   case measure=>simp [intOf];omega
  ·obtain rfl:k=l.length:=by omega
   rw [List.take_length]at HB
   go_wp2
   go_end0
   exact⟨rfl,_,HB.out⟩
end Go.Proofs.YtdenjanihikolaaGreatDoor
