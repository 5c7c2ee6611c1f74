/- told and answered by kind: Tdi. -/
import Derived.Test.YtdenjanihikolaaGreatDoorDqA0
import Derived.Test.YtdenjanihikolaaGreatDoorDqA1
import Derived.Test.YtdenjanihikolaaGreatDoorDqSrf
import Derived.Test.YtdenjanihikolaaGreatDoorDqDkf
import Derived.Test.YtdenjanihikolaaGreatDoorDqErb
import Derived.Test.YtdenjanihikolaaGreatDoorDqLtr
import Derived.Test.YtdenjanihikolaaGreatDoorDqTa
namespace Go.Proofs.YtdenjanihikolaaGreatDoor
set_option linter.unusedVariables false
set_option linter.unusedSimpArgs false
set_option maxRecDepth 100000
open Go.RowKit Go.Maps Go.Sort Og
def prE (T:Nat->ByteArray) (e:Nat×Int×Nat):List Pr:=if (T e.2.2).size=0 then []else [(nmJ e.2.2,T e.2.2)]
def outE (T:Nat->ByteArray) (es:List (Nat×Int×Nat)):List Pr:=es.flatMap (prE T)
theorem outE_snoc (T:Nat->ByteArray)(es:List (Nat×Int×Nat))(e:Nat×Int×Nat):outE T (es++ [e])=outE T es++prE T e:=by
 simp [outE,List.flatMap_append]
structure GotE (tab:List (Nat×Int×Nat)) (left:Lit->Bool) (es:List (Nat×Int×Nat)):Prop where
 nd:es.Nodup
 sub:∀e∈es,e∈tab
 iff:∀e∈tab,(e∈es↔left (.int .u8 e.2.1)=false)
theorem apart_inj {tab:List (Nat×Int×Nat)} (ha:Apart tab):∀e∈tab,∀f∈tab,e.2.1=f.2.1->e=f:=by
 induction tab with
 | nil=>intro e he;cases he
 | cons a r ih=>
   have h1:=List.pairwise_cons.1 ha
   intro e he f hf hef
   rcases List.mem_cons.1 he with rfl|he'
   ·rcases List.mem_cons.1 hf with rfl|hf'
    ·rfl
    ·exact absurd hef (h1.1 f hf').2
   ·rcases List.mem_cons.1 hf with rfl|hf'
    ·exact absurd hef.symm (h1.1 e he').2
    ·exact ih h1.2 e he' f hf' hef
theorem GotE.step {tab:List (Nat×Int×Nat)} {left:Lit->Bool} {es:List (Nat×Int×Nat)} (h:GotE tab left es) {e:Nat×Int×Nat} (he:e∈tab)(hl:left (.int .u8 e.2.1)=true)(ha:Apart tab):GotE tab (fun z=>left z && !z.sameKey (.int .u8 e.2.1)) (es++ [e]):=by
 have hn:e∉es:=fun h1=>by have:=(h.iff e he).1 h1;rw [hl]at this;cases this
 refine⟨List.nodup_append.2 ⟨h.nd,by simp,fun a ha b hb=>by simp at hb;subst hb;exact fun e=>hn (e▸ha)⟩,fun f hf=>?_,fun f hf=>?_⟩
 ·rcases List.mem_append.1 hf with h1|h1
  ·exact h.sub f h1
  ·rw [List.mem_singleton.1 h1];exact he
 ·rw [List.mem_append,List.mem_singleton]
  by_cases e2:f=e
  ·subst e2;simp [Lit.sameKey]
  ·have e3:f.2.1≠e.2.1:=fun e3=>e2 (apart_inj ha f hf e he e3)
   have e4:(Lit.int .u8 f.2.1).sameKey (.int .u8 e.2.1)=false:=by simp [Lit.sameKey,e3]
   simp only [e4,Bool.not_false,Bool.and_true,e2,or_false]
   exact h.iff f hf
theorem perm_nodup {α:Type} [DecidableEq α]:∀(l m:List α),l.Nodup->m.Nodup->(∀x,x∈l↔x∈m)->l.Perm m
 | [],m,_,_,h=>by
   cases m with
   | nil=>exact List.Perm.refl _
   | cons a r=>exact absurd ((h a).2 (List.mem_cons_self ..)) (by simp)
 | p :: l,m,hl,hm,h=>by
   have hp:p∈m:=(h p).1 (List.mem_cons_self ..)
   have h1:=List.perm_cons_erase hp
   rw [List.nodup_cons]at hl
   have hme:(p :: m.erase p).Nodup:=h1.nodup_iff.1 hm
   rw [List.nodup_cons]at hme
   have h2:l.Perm (m.erase p):=perm_nodup l (m.erase p) hl.2 hme.2 (fun x=>by
    constructor
    ·intro hx
     have h3:x∈m:=(h x).1 (List.mem_cons_of_mem _ hx)
     exact(List.mem_erase_of_ne (fun e=>hl.1 (by rw [<-e];exact hx))).2 h3
    ·intro hx
     have h3:x∈m:=List.mem_of_mem_erase hx
     rcases List.mem_cons.1 ((h x).2 h3)with rfl|h4
     ·exact absurd hx hme.1
     ·exact h4)
   exact(h2.cons p).trans h1.symm
theorem GotE.perm {tab:List (Nat×Int×Nat)} {left:Lit->Bool} {es:List (Nat×Int×Nat)} (h:GotE tab left es)(hl:∀kl,left kl=false)(hn:tab.Nodup):es.Perm tab:=
 perm_nodup es tab h.nd hn fun x=>⟨h.sub x,fun hx=>(h.iff x hx).2 (hl _)⟩
theorem nodup_le {α:Type} [DecidableEq α]:∀(l m:List α),l.Nodup->(∀x∈l,x∈m)->l.length<=m.length
 | [],m,_,_=>Nat.zero_le _
 | p :: l,m,hl,h=>by
   have hp:p∈m:=h p (List.mem_cons_self ..)
   rw [List.nodup_cons]at hl
   have h2:=nodup_le l (m.erase p) hl.2 (fun x hx=>(List.mem_erase_of_ne (fun e=>hl.1 (by rw [<-e];exact hx))).2 (h x (List.mem_cons_of_mem _ hx)))
   rw [List.length_erase_of_mem hp]at h2
   have h3:0 < m.length:=List.length_pos_of_mem hp
   rw [List.length_cons]
   omega
theorem GotE.le {tab:List (Nat×Int×Nat)} {left:Lit->Bool} {es:List (Nat×Int×Nat)} (h:GotE tab left es) {k:Nat} (hk:tab.length<=k):es.length<=k:=Nat.le_trans (nodup_le es tab h.nd h.sub) hk
theorem pick_all {L:Nat->Bool} {tab:List (Nat×Int×Nat)} (hL:∀e∈tab,L e.1=true):∀e∈tab,∃y:DataW Unit,∀z,pick L e.2.1 z tab=y:=by
 induction tab with
 | nil=>intro e he;cases he
 | cons a r ih=>
   intro e he
   by_cases h1:a.2.1=e.2.1
   ·exact⟨.lit (.int .i64 a.2.2),fun z=>by unfold pick;rw [hL a (List.mem_cons_self ..),h1];simp⟩
   ·have h2:e∈r:=by
     rcases List.mem_cons.1 he with rfl|h3
     ·exact absurd rfl h1
     ·exact h3
    obtain⟨y,hy⟩:=ih (fun f hf=>hL f (List.mem_cons_of_mem _ hf)) e h2
    refine⟨y,fun z=>?_⟩
    unfold pick
    rw [hL a (List.mem_cons_self ..)]
    simp only [Bool.true_and,beq_eq_false_iff_ne.2 h1,Bool.false_eq_true,if_false]
    exact hy z
theorem GotE.start {tab:List (Nat×Int×Nat)} {L:Nat->Bool} {D:DataW Unit} (hL:∀e∈tab,L e.1=true)(hat:∀(c:Int) (z:DataW Unit),D.atKey (.int .u8 c) z=pick L c z tab):GotE tab (Maps.has D) []:=by
 refine⟨List.nodup_nil,fun e he=>absurd he List.not_mem_nil,fun e he=>?_⟩
 obtain⟨y,hy⟩:=pick_all hL e he
 have h1:Maps.has D (.int .u8 e.2.1)=true:=has_true_of_atKey (y:=y) fun z=>(hat _ z).trans (hy z)
 simp [h1]
theorem pick_some {L:Nat->Bool} {c:Int} {y:DataW Unit} :∀{tab:List (Nat×Int×Nat)},(∀z,pick L c z tab=y)->∃e∈tab,e.2.1=c/\y=.lit (.int .i64 e.2.2)
 | [],h=>by
   have h1:=h .nil
   have h2:=h (.lit (.bool true))
   simp only [pick]at h1 h2
   rw [<-h2]at h1
   cases h1
 | e :: r,h=>by
   by_cases he:(L e.1 && e.2.1 == c)=true
   ·refine⟨e,List.mem_cons_self ..,?_,?_⟩
    ·have h1:=(Bool.and_eq_true _ _▸he:_/\_).2
     exact eq_of_beq h1
    ·have h1:=h .nil
     unfold pick at h1
     rw [if_pos he]at h1
     exact h1.symm
   ·obtain⟨f,hf,h1,h2⟩:=pick_some (tab:=r) (fun z=>by
     have h1:=h z
     unfold pick at h1
     rwa [if_neg he]at h1)
    exact⟨f,List.mem_cons_of_mem _ hf,h1,h2⟩
theorem rdP_ptr {eb:Nat} {v:Value} {y:DataW Unit×List MemPlace} (h:rdP eb v=some y):∃p,v=Value.pointer p:=by
 unfold rdP at h
 split at h
 ·exact⟨_,rfl⟩
 ·exact⟨_,rfl⟩
 ·cases h
theorem tab73_lt:∀e∈tab73,e.2.2 < 18:=by decide
theorem tab74_lt:∀e∈tab74,e.2.2 < 18:=by decide
theorem tab73_num:∀e∈tab73,¬numJ e.2.2:=by decide
theorem tab74_num:∀e∈tab74,numJ e.2.2:=by decide
theorem tab73_key:∀e∈tab73,e.2.1=ls18.getD e.2.2 0:=by decide
theorem tab74_key:∀e∈tab74,e.2.1=ls18.getD e.2.2 0:=by decide
theorem tab73_nd:tab73.Nodup:=by decide
theorem tab74_nd:tab74.Nodup:=by decide
theorem tabs_perm:((tab73++tab74).map fun e=>e.2.2).Perm (List.range 18):=by decide
theorem outs_perm (T:Nat->ByteArray) {es1 es2:List (Nat×Int×Nat)} (h1:es1.Perm tab73)(h2:es2.Perm tab74):(outE T es1++outE T es2).Perm (qsOf T):=by
 have h3:(outE T es1++outE T es2).Perm (outE T tab73++outE T tab74):=(h1.flatMap_right _).append (h2.flatMap_right _)
 have h4:outE T tab73++outE T tab74=((tab73++tab74).map fun e=>e.2.2).flatMap fun i=>if (T i).size=0 then []else [(nmJ i,T i)]:=by
  unfold outE
  rw [<-List.flatMap_append,List.flatMap_map]
  rfl
 rw [h4]at h3
 exact h3.trans (tabs_perm.flatMap_right _)
theorem rd_one {w:World} {g:Nat} {x:Int} (h:w.heap[g]?=some (.cells #[.int .u8 x] 5 (0,0))):RdB w (.slice (some ⟨g,0,none⟩) 1 1) [x]:=
 ⟨_,1,rfl,Nat.le_refl _,by unfold maxLen;omega,fun _=>⟨g,0,rfl,fun k hk=>by
   obtain rfl:k=0:=by simp at hk;omega
   exact zc h 0 _ rfl⟩⟩
theorem row_ne_map {P:Program} {k:TypeId} {R:Value->Option (DataW Unit×List MemPlace)} {w:World} {b n base e size m:Nat} {D:DataW Unit} {v:Value} {xs:List Value} (h:w.ownsRow base e size v m xs)(hm:w.ownsMap P k R b n D):some b≠v.ownBlock:=by
 obtain⟨es,clock,hb,_⟩:=hm
 rcases h.2 with ⟨rfl,_⟩|⟨g,cap,cur,rfl,_,hg,_⟩
 ·simp [Value.ownBlock]
 ·intro e1
  have:b=g:=by simpa [Value.ownBlock]using e1
  subst this
  rw [hb]at hg
  cases hg
theorem Ext.turned {W w w':World} {row:Option Nat} (h:Ext W w)(hg:w.grownBy w' row)(hlo:∀g,row=some g->W.heap.size<=g):Ext W w':=
 ⟨hg.os.trans h.os,hg.tape.trans h.tape,hg.output.trans h.output,Nat.le_trans h.size hg.size,fun k hk=>(hg.block k (Nat.lt_of_lt_of_le hk h.size) (fun e=>by have:=hlo k e.symm;omega)).trans (h.block k hk)⟩
theorem ext_grown {w w':World} (h:Ext w w'):w.grownBy w' none:=⟨h.os,h.tape,h.output,h.size,fun k hk _=>h.block k hk⟩
def PairsP (ps:List Pr) (w:World):Ending->World->Prop:=fun e w'=>∃A c,e=.returned (.slice A ps.length c)/\Ext w w'/\w'.ownsRow w.heap.size 60 2 (.slice A ps.length c) ps.length (ps.flatMap prV)
set_option maxHeartbeats 20000000 in
theorem pairs72 (T:Nat->ByteArray)(ps:List Pr)(hN:∀i,numJ i->T i=⟨#[]⟩∨digP (T i))(hp:(qsOf T).Perm ps)(hs:Srt ps)(w:World)(htab:Tab w):
 Calls Tryz.prog 72 #[.agg (errCells T)] w (PairsP ps w):=by
 have HN:=zh hN
 have HQP:=zh hp
 have HSR:=zh hs
 obtain⟨w1,hw1⟩:∃w1,w1=w.alloc (.cells #[.string (T 0),.string (T 1),.string (T 2),.string (T 3),.string (T 4),.string (T 5),.int .i32 (numS (T 6)),.int .i32 (numS (T 7)),.string (T 8),.string (T 9),.string (T 10),.string (T 11),.string (T 12),.string (T 13),.string (T 14),.string (T 15),.int .i32 (numS (T 16)),.string (T 17),.map none] 216):=⟨_,rfl⟩
 have HX1:Hid (Ext w w1):=zh (by rw [hw1];exact ext_alloc _ _)
 have HBE:Hid (w1.heap[w.heap.size]?=some (.cells (errCells T) 216 (0,0))):=zh (by rw [hw1];exact heap_alloc_new _ _)
 have HTAB:Hid (Tab w1):=zh (htab.ext HX1.out)
 obtain⟨i0,hi,hz0,hz1,hz2⟩:=info_parts info60
 clear hN hp hs htab
 unfold errCells
 go_enter Tryz.func72,Tryz.ntmps72
 go_wp2_with (first|(go_at_call 73;rw [<-hw1];refine(map73 _ _).mono ?_;rintro e W2 ⟨m1,rfl,hx2,hlo2,L1,hL1,hm1⟩;obtain⟨n1,D1,hn1,hown1,hIM1,hat1⟩:=hm1;have HX2:=zh hx2;have HAT1:=zh hat1;have HL1:=zh hL1;have HO1:=zh hown1;clear hx2 hlo2 hL1 hn1 hown1 hIM1 hat1)|(at_range;refine wpList_range_own _ rfl _ 254 rfl 5 258 lawB Tryz.underlying254 _ m1 n1 _ rfl HO1.out ?_;intro w0 hrg0 hg0 hs0)|go_in)
 clear hw1
 go_frame
 have HBASE1:Hid (w1.heap.size<=W2.heap.size):=zh HX2.out.size
 go_loopw [3] (fun v wr=>∃(left:Lit->Bool) (cnt:Nat) (es:List (Nat×Int×Nat)) (A:Option Addr) (c:Nat) (out:List Pr),v=.slice A out.length c/\wr.ranges Tryz.prog 5 (rdP (w.heap.size)) m1 W2.heap.size n1 D1 left cnt/\Hid (GotE tab73 left es/\Ext w1 wr/\out.length<=es.length/\out=outE T es)/\wr.ownsRow w1.heap.size 60 2 (.slice A out.length c) out.length (out.flatMap prV)) (fun _ wr=>wr.rangeLeft m1 W2.heap.size)
 case atStart=>exact⟨_,_,[],none,0,[],rfl,hrg0,zh ⟨GotE.start HL1.out HAT1.out,HX2.out.turned hg0 (by simp),by simp,rfl⟩,World.ownsRow_nil _ _ _ _⟩
 case round=>
  obtain⟨left,cnt,es,A,c,out,rfl,hrg,HH,hrow⟩:=hrel
  clear hrg0 hg0 hs0
  go_wp2_with (first|(at_next;refine wpList_next_ranges _ rfl _ rfl 5 lawB (rdP (w.heap.size)) (Value.int .u8) Value.pointer (fun key kl hk=>by obtain⟨x,hx,_⟩:=Maps.keyOf_int_inv Tryz.underlying5 hk;exact⟨x,hx⟩) (fun v y hv=>rdP_ptr hv) m1 W2.heap.size n1 _ _ _ rfl hrg ?_ ?_)|go_in)
  ·intro hc0 hl0
   obtain⟨X1,rfl⟩:∃X1,X1=out:=⟨_,rfl⟩
   have HE1:Hid (∃es1:List (Nat×Int×Nat),es1.Perm tab73/\X1=outE T es1):=zh ⟨es,HH.out.1.perm hl0 tab73_nd,HH.out.2.2.2⟩
   have HXR:=zh HH.out.2.1
   have HRR:=zh hrow
   have HLX:Hid (X1.length<=20):=zh (by have:=HH.out.2.2.1;have:=HH.out.1.le (by decide:tab73.length<=20);omega)
   clear hrow hrg HH hl0 hc0
   go_wp2_with (first|(go_at_call 74;refine(map74 _ _).mono ?_;rintro e W3 ⟨m2,rfl,hx3,hlo3,L2,hL2,hm2⟩;obtain⟨n2,D2,hn2,hown2,hIM2,hat2⟩:=hm2;have HX3:=zh hx3;have HAT2:=zh hat2;have HL2:=zh hL2;have HO2:=zh hown2;clear hx3 hlo3 hL2 hn2 hown2 hIM2 hat2)|(at_range;refine wpList_range_own _ rfl _ 256 rfl 5 259 lawB Tryz.underlying256 _ m2 n2 _ rfl HO2.out ?_;intro w0' hrg0' hg0' hs0')|go_in)
   go_frame
   have HXR3:Hid (Ext w1 W3):=zh (HXR.out.trans HX3.out)
   have HBASE2:Hid (w1.heap.size<=W3.heap.size):=zh HXR3.out.size
   go_loopw [3] (fun v wr=>∃(left:Lit->Bool) (cnt:Nat) (es:List (Nat×Int×Nat)) (A:Option Addr) (c:Nat) (out:List Pr),v=.slice A out.length c/\wr.ranges Tryz.prog 5 (rdP (w.heap.size)) m2 W3.heap.size n2 D2 left cnt/\Hid (GotE tab74 left es/\Ext w1 wr/\out.length<=20+es.length/\out=X1++outE T es)/\wr.ownsRow w1.heap.size 60 2 (.slice A out.length c) out.length (out.flatMap prV)) (fun _ wr=>wr.rangeLeft m2 W3.heap.size)
   case atStart=>exact⟨_,_,[],A,c,X1,rfl,hrg0',zh ⟨GotE.start HL2.out HAT2.out,HXR3.out.turned hg0' (by simp),by have:=HLX.out;simpa using this,by simp [outE]⟩,(ownsRow_ext HRR.out HX3.out).kept hg0' (by cases (Value.slice A X1.length c).ownBlock <;> simp)⟩
   case round=>
    obtain⟨left,cnt,es,A,c,out,rfl,hrg,HH,hrow⟩:=hrel
    clear hrg0' hg0' hs0'
    go_wp2_with (first|(at_next;refine wpList_next_ranges _ rfl _ rfl 5 lawB (rdP (w.heap.size)) (Value.int .u8) Value.pointer (fun key kl hk=>by obtain⟨x,hx,_⟩:=Maps.keyOf_int_inv Tryz.underlying5 hk;exact⟨x,hx⟩) (fun v y hv=>rdP_ptr hv) m2 W3.heap.size n2 _ _ _ rfl hrg ?_ ?_)|go_in)
    ·intro hc0 hl0
     obtain⟨X2,rfl⟩:∃X2,X2=out:=⟨_,rfl⟩
     have HPM:Hid (X2.Perm ps):=zh (by
      obtain⟨es1,h1,h2⟩:=HE1.out
      rw [HH.out.2.2.2,h2]
      exact(outs_perm T h1 (HH.out.1.perm hl0 tab74_nd)).trans HQP.out)
     have HXR4:=zh HH.out.2.1
     have HL18:Hid (X2.length<=100):=zh (by have:=HH.out.2.2.1;have:=HH.out.1.le (by decide:tab74.length<=20);omega)
     have HRR4:=zh hrow
     have hc18:=zc ((HH.out.2.1.block _ (zl HBE.out)).trans HBE.out) 18 (.map none) rfl
     have hrgN:=run_range_nilMap (P:=Tryz.prog) wr 214 5 9 Tryz.underlying214
     have hnxN:∀ty,(Instr.next (.pointer (some ⟨wr.heap.size,0,none⟩)) false ty).run Tryz.prog (wr.alloc (.mapIter none 0 #[] 0))=_:=fun ty=>run_next_nilMap wr ty 0 0 #[]
     clear hrow hrg HH hl0 hc0
     go_wp2
     refine wp_loop_rounds 1 ?_
     rw [rounds_succ]
     have HRR5:=zh (HRR4.out.alloc (.mapIter none 0 #[] 0))
     have HX5:=zh (HXR4.out.alloc (.mapIter none 0 #[] 0))
     have HSO:=zh (sorted64 X2 A c w1.heap.size _ HRR5.out (by have:=HL18.out;omega))
     go_wp2_with (go_at_call 64;refine HSO.out.mono ?_;rintro e w5 ⟨rfl,hg5,l,hl5,hs5,hr5⟩;have HG5:=zh hg5;have HR5:=zh hr5;have HLE5:=zh (sort_unique l ps (hl5.trans HPM.out) hs5 (srt_lt HSR.out));clear hg5 hl5 hs5 hr5)
     go_ret
     have hlen:X2.length=ps.length:=HPM.out.length_eq
     have h9:=HR5.out
     rw [HLE5.out,hlen]at h9
     rw [hlen]
     exact⟨A,c,rfl,HX1.out.trans (HX5.out.turned HG5.out (fun g hg=>(HRR5.out.lt g hg).1)),ownsRow_low h9 HX1.out.size⟩
    ·intro x p kl yd yp Wk cnt2 hkey hlk hv hat hrg2 hlt hg2 hs2 hen
     obtain⟨x',ex,rfl,_⟩:=Maps.keyOf_int_inv Tryz.underlying5 hkey
     obtain rfl:x=x':=by simpa using ex
     obtain⟨e,he,hex,hyd⟩:=pick_some (fun z=>(HAT2.out x z).symm.trans (hat z))
     obtain⟨j,hej⟩:∃j,j=e.2.2:=⟨_,rfl⟩
     have HEJ:=zh hej.symm
     have hpp:Value.pointer p=.pointer (some ⟨w.heap.size,j,none⟩):=rdP_lit (eb:=w.heap.size) (j:=j) (by rw [hv,hyd,hej])
     obtain rfl:p=some ⟨w.heap.size,j,none⟩:=by simpa using hpp
     have hj18:j < 18:=by rw [hej];exact tab74_lt e he
     have hjn:numJ j:=by rw [hej];exact tab74_num e he
     have hxj:x=ls18.getD j 0:=by rw [<-hex,hej];exact tab74_key e he
     have HNM:Hid (strOf [x]=nmJ j):=zh (by rw [hxj,<-sby_nm hj18,str_sby])
     have HGS:=zh (HH.out.1.step he (by rw [hex];exact hlk) apart74)
     rw [hex]at HGS
     have hxk:=HH.out.2.1.turned hg2 (fun g hg=>by have h9:=Option.some.inj hg;have:=HBASE2.out;omega)
     have HXK:=zh hxk
     have HRK:=zh (hrow.kept hg2 (Or.inr (row_ne_iter hrow hrg).symm))
     have HRG:=zh hrg
     have HRG2:=zh hrg2
     obtain⟨s,hsv⟩:∃s,s=T j:=⟨_,rfl⟩
     have HSV:=zh hsv.symm
     have HNI:=zh (HN.out j hjn)
     rw [<-hsv]at HNI
     have hcb:=zc ((hxk.block _ (zl HBE.out)).trans HBE.out) j _ (cell_num T hjn)
     rw [<-hsv]at hcb
     have HLE:Hid (out.length+1<=101/\out.length<=20+es.length):=zh (by have:=HH.out.2.2.1;have:=HH.out.1.le (by decide:tab74.length<=20);omega)
     clear hkey hv hat hs2 ex hpp hxk hrow hrg hrg2 hg2 hlk he hex hyd hej hj18 hjn hxj hsv
     rcases HNI.out with hse|hdg
     ·have hnz0:numS s=0:=by rw [hse];rfl
      have HPE:Hid (prE T e=[]):=zh (by unfold prE;rw [HEJ.out,HSV.out,hse];rfl)
      rw [hnz0]at hcb
      clear hse hnz0
      go_wp2
      go_roundw
      case rel=>
       have hOe:out=X1++outE T (es++ [e]):=by rw [outE_snoc,HPE.out,List.append_nil];exact HH.out.2.2.2
       exact⟨_,cnt2,es++ [e],A,c,out,rfl,HRG2.out,zh ⟨HGS.out,HXK.out,by rw [List.length_append];have:=HH.out.2.2.1;omega,hOe⟩,HRK.out⟩
      case measure=>rw [HRG2.out.left_eq,HRG.out.left_eq];exact hlt
     ·have HDG:=zh hdg
      have HPE:Hid (prE T e=[(nmJ j,s)]):=zh (by unfold prE;rw [HEJ.out,HSV.out,if_neg hdg.1])
      have HCB:=zh hcb
      have HNU:Hid (0 < numS s/\numS s < 1000000000):=zh ⟨(num_facts hdg).2.1,(num_facts hdg).2.2.1⟩
      have hnz:(numS s == 0)=false:=beq_eq_false_iff_ne.2 (by have:=HNU.out;omega)
      have hnz2:(numS s != 0)=true:=by rw [bne,hnz];rfl
      have hnz3:¬(numS s=0):=by have:=HNU.out;omega
      clear hdg
      go_wp2
      refine wp_region_cutT (J:=fun x=>Ext Wk x) (R:=Ext) 11 [Sp.eq _ (.slice A out.length c),Sp.eq _ (.int .u8 x),spBox Wk #[.int .u8 x] 5,Sp.eq _ (.string (nmJ j)),Sp.eq _ (.pointer (some ⟨w.heap.size,j,none⟩)),Sp.eq _ (.pointer (some ⟨w.heap.size,j,none⟩)),Sp.eq _ (.int .i32 (numS s)),Sp.eq _ (.int .i64 (numS s)),Sp.eq _ (.string s),Sp.eq _ (.agg #[.string (nmJ j),.string s]),spBox Wk #[.string (nmJ j),.string s] 60] (by kernel_rfl) (by kernel_rfl) ?_ ?_ ?_
      ·exact(Ext.refl Wk).drew
      ·refine⟨?_,?_,?_,?_,?_,?_,?_,?_,?_,?_,?_,trivial⟩
       ·intro vs w1' hJ hp
        have HJ:=zh hJ
        clear hp hJ
        simp only [List.take_succ_cons,List.take_zero,putAll,Nat.reduceAdd]
        go_wp2
        exact⟨rfl,HJ.out,zr,rfl⟩
       ·intro vs w1' hJ hp
        have HJ:=zh hJ
        clear hp hJ
        simp only [List.take_succ_cons,List.take_zero,putAll,Nat.reduceAdd]
        go_wp2
        exact⟨rfl,HJ.out,zr,rfl⟩
       ·intro vs w1' hJ hp
        have q1:vs 1=.int .u8 x:=zd hp 1
        have HJ:=zh hJ
        clear hp hJ
        simp only [List.take_succ_cons,List.take_zero,putAll,Nat.reduceAdd]
        go_wp2
        exact⟨rfl,HJ.out.alloc _,ext_alloc _ _,rfl,HJ.out.size,heap_alloc_new _ _⟩
       ·intro vs w1' hJ hp
        have q2:(spBox Wk #[.int .u8 x] 5).p (vs 2) w1':=zd hp 2
        have HJ:=zh hJ
        obtain⟨g2,hv2,hlo2,hb2⟩:∃g,vs 2=.slice (some ⟨g,0,none⟩) 1 1/\Wk.heap.size<=g/\w1'.heap[g]?=some (.cells #[.int .u8 x] 5 (0,0)):=⟨_,q2⟩
        have hcv:=conv_rd (rd_one hb2)
        rw [HNM.out]at hcv
        clear q2
        clear hp hJ
        simp only [List.take_succ_cons,List.take_zero,putAll,Nat.reduceAdd]
        rw [hv2]
        go_wp2
        exact⟨rfl,HJ.out,zr,rfl⟩
       ·intro vs w1' hJ hp
        have HJ:=zh hJ
        clear hp hJ
        simp only [List.take_succ_cons,List.take_zero,putAll,Nat.reduceAdd]
        go_wp2
        exact⟨rfl,HJ.out,zr,rfl⟩
       ·intro vs w1' hJ hp
        have q4:vs 4=.pointer (some ⟨w.heap.size,j,none⟩):=zd hp 4
        have HJ:=zh hJ
        clear hp hJ
        simp only [List.take_succ_cons,List.take_zero,putAll,Nat.reduceAdd]
        go_wp2
        exact⟨rfl,HJ.out,zr,rfl⟩
       ·intro vs w1' hJ hp
        have q5:vs 5=.pointer (some ⟨w.heap.size,j,none⟩):=zd hp 5
        have HJ:=zh hJ
        have hq:=hJ.cell HCB.out
        clear hp hJ
        simp only [List.take_succ_cons,List.take_zero,putAll,Nat.reduceAdd]
        go_wp2
        exact⟨rfl,HJ.out,zr,rfl⟩
       ·intro vs w1' hJ hp
        have q6:vs 6=.int .i32 (numS s):=zd hp 6
        have hw64:IntKind.i64.wrap (numS s)=numS s:=by have:=HNU.out;rw [IntKind.wrap_i64];omega
        have HJ:=zh hJ
        clear hp hJ
        simp only [List.take_succ_cons,List.take_zero,putAll,Nat.reduceAdd]
        go_wp2
        exact⟨rfl,HJ.out,zr,rfl⟩
       ·intro vs w1' hJ hp
        have q7:vs 7=.int .i64 (numS s):=zd hp 7
        have HJ:=zh hJ
        clear hp hJ
        simp only [List.take_succ_cons,List.take_zero,putAll,Nat.reduceAdd]
        go_wp2_with (go_at_call 78;refine(itoa78 s HDG.out _ (HTAB.out.ext (HXK.out.trans HJ.out))).mono ?_;rintro e w2' ⟨rfl,hx2⟩;have HX2:=zh hx2;clear hx2)
        exact⟨rfl,HJ.out.trans HX2.out,HX2.out,rfl⟩
       ·intro vs w1' hJ hp
        have q3:vs 3=.string (nmJ j):=zd hp 3
        have q8:vs 8=.string s:=zd hp 8
        have HJ:=zh hJ
        clear hp hJ
        simp only [List.take_succ_cons,List.take_zero,putAll,Nat.reduceAdd]
        go_wp2
        exact⟨rfl,HJ.out,zr,rfl⟩
       ·intro vs w1' hJ hp
        have q9:vs 9=.agg #[.string (nmJ j),.string s]:=zd hp 9
        have HJ:=zh hJ
        clear hp hJ
        simp only [List.take_succ_cons,List.take_zero,putAll,Nat.reduceAdd]
        go_wp2
        exact⟨rfl,HJ.out.alloc _,ext_alloc _ _,rfl,HJ.out.size,heap_alloc_new _ _⟩
      ·intro vs w1' hJ hp
       have q0:vs 0=.slice A out.length c:=zd hp 0
       have q1:vs 1=.int .u8 x:=zd hp 1
       have q2:(spBox Wk #[.int .u8 x] 5).p (vs 2) w1':=zd hp 2
       have q3:vs 3=.string (nmJ j):=zd hp 3
       have q4:vs 4=.pointer (some ⟨w.heap.size,j,none⟩):=zd hp 4
       have q5:vs 5=.pointer (some ⟨w.heap.size,j,none⟩):=zd hp 5
       have q6:vs 6=.int .i32 (numS s):=zd hp 6
       have q7:vs 7=.int .i64 (numS s):=zd hp 7
       have q8:vs 8=.string s:=zd hp 8
       have q9:vs 9=.agg #[.string (nmJ j),.string s]:=zd hp 9
       have q10:(spBox Wk #[.string (nmJ j),.string s] 60).p (vs 10) w1':=zd hp 10
       have HJ:=zh hJ
       obtain⟨g8,hv8,hlo8,hb8⟩:∃g,vs 10=.slice (some ⟨g,0,none⟩) 1 1/\Wk.heap.size<=g/\w1'.heap[g]?=some (.cells #[.string (nmJ j),.string s] 60 (0,0)):=⟨_,q10⟩
       obtain⟨v2,hv2⟩:∃v,vs 2=v:=⟨_,rfl⟩
       have HB8:=zh hb8
       have HRW:=zh (ownsRow_ext HRK.out hJ)
       have HBS:=zh (Nat.le_trans (HXK.out.size) hJ.size)
       clear hp hJ q2 q10 hb8
       simp only [List.take_succ_cons,List.take_zero,List.drop_succ_cons,List.drop_zero,putAll,Nat.reduceAdd,Act.put,q0,q1,q3,q4,q5,q6,q7,q8,q9,hv2,hv8,List.setIfInBounds_toArray,List.set_cons_zero,List.set_cons_succ]
       refine wpList_append_own _ rfl (.tmp 42) (.tmp 52) 28 rfl w1.heap.size 60 i0 _ 2 32 Tryz.underlying28 hi hz0 hz1 hz2 rfl (by decide) _ _ _ rfl HRW.out ⟨g8,0,none⟩ 1 1 [.string (nmJ j),.string s] rfl rfl (fun k u hu=>by rw [add_lit0,Nat.zero_add];exact zc HB8.out k u (by simpa using hu)) (by simp [Value.oneCell']) (by have:=HLE.out;unfold maxLen;omega) (by have:=HLE.out;omega) HBS.out ?_
       intro v' w3 hown' hg3 hnil3
       obtain⟨A9,c9,hv9⟩:=own_slice (own_zero hown')
       subst hv9
       have HOW:=zh hown'
       have HG3:=zh hg3
       clear hown' hg3 hnil3
       simp only [Act.put,List.setIfInBounds_toArray,List.set_cons_zero,List.set_cons_succ]
       go_wp2
       have hrgJ:=HRG2.out.kept (ext_grown HJ.out) (by simp) (by simp)
       have hrg3:=hrgJ.kept HG3.out (row_ne_map HRW.out hrgJ.owns) (row_ne_iter HRW.out hrgJ)
       go_roundw
       case rel=>
        have hOe:out++ [(nmJ j,s)]=X1++outE T (es++ [e]):=by rw [outE_snoc,HPE.out,HH.out.2.2.2];simp only [List.append_assoc]
        refine⟨_,cnt2,es++ [e],A9,c9,out++ [(nmJ j,s)],by rw [List.length_append];rfl,hrg3,zh ⟨HGS.out,(HXK.out.trans HJ.out).turned HG3.out (fun g hg=>(HRW.out.lt g hg).1),?_,hOe⟩,?_⟩
        ·rw [List.length_append,List.length_append];have:=HLE.out;simp only [List.length_cons,List.length_nil];omega
        ·rw [List.length_append,List.flatMap_append];exact HOW.out
       case measure=>rw [hrg3.left_eq,HRG.out.left_eq];exact hlt
  ·intro x p kl yd yp Wk cnt2 hkey hlk hv hat hrg2 hlt hg2 hs2 hen
   obtain⟨x',ex,rfl,_⟩:=Maps.keyOf_int_inv Tryz.underlying5 hkey
   obtain rfl:x=x':=by simpa using ex
   obtain⟨e,he,hex,hyd⟩:=pick_some (fun z=>(HAT1.out x z).symm.trans (hat z))
   obtain⟨j,hej⟩:∃j,j=e.2.2:=⟨_,rfl⟩
   have HEJ:=zh hej.symm
   have hpp:Value.pointer p=.pointer (some ⟨w.heap.size,j,none⟩):=rdP_lit (eb:=w.heap.size) (j:=j) (by rw [hv,hyd,hej])
   obtain rfl:p=some ⟨w.heap.size,j,none⟩:=by simpa using hpp
   have hj18:j < 18:=by rw [hej];exact tab73_lt e he
   have hjn:¬numJ j:=by rw [hej];exact tab73_num e he
   have hxj:x=ls18.getD j 0:=by rw [<-hex,hej];exact tab73_key e he
   have HNM:Hid (strOf [x]=nmJ j):=zh (by rw [hxj,<-sby_nm hj18,str_sby])
   have HGS:=zh (HH.out.1.step he (by rw [hex];exact hlk) apart73)
   rw [hex]at HGS
   have hxk:=HH.out.2.1.turned hg2 (fun g hg=>by have h9:=Option.some.inj hg;have:=HBASE1.out;omega)
   have HXK:=zh hxk
   have HRK:=zh (hrow.kept hg2 (Or.inr (row_ne_iter hrow hrg).symm))
   have HRG:=zh hrg
   have HRG2:=zh hrg2
   obtain⟨s,hsv⟩:∃s,s=T j:=⟨_,rfl⟩
   have HSV:=zh hsv.symm
   skip
   skip
   have hcb:=zc ((hxk.block _ (zl HBE.out)).trans HBE.out) j _ (cell_txt T hj18 hjn)
   rw [<-hsv]at hcb
   have HLE:Hid (out.length+1<=101/\out.length<=es.length):=zh (by have:=HH.out.2.2.1;have:=HH.out.1.le (by decide:tab73.length<=20);omega)
   clear hkey hv hat hs2 ex hpp hxk hrow hrg hrg2 hg2 hlk he hex hyd hej hj18 hjn hxj hsv
   rcases empty_or s with hse|⟨hne,hnz⟩
   ·have hem:s.toList.isEmpty=true:=by rw [hse];exact empty_is
    have HPE:Hid (prE T e=[]):=zh (by unfold prE;rw [HEJ.out,HSV.out,hse];rfl)
    clear hse
    skip
    go_wp2
    go_roundw
    case rel=>
     have hOe:out=outE T (es++ [e]):=by rw [outE_snoc,HPE.out,List.append_nil];exact HH.out.2.2.2
     exact⟨_,cnt2,es++ [e],A,c,out,rfl,HRG2.out,zh ⟨HGS.out,HXK.out,by rw [List.length_append];have:=HH.out.2.2.1;omega,hOe⟩,HRK.out⟩
    case measure=>rw [HRG2.out.left_eq,HRG.out.left_eq];exact hlt
   ·have HPE:Hid (prE T e=[(nmJ j,s)]):=zh (by unfold prE;rw [HEJ.out,HSV.out,if_neg hnz])
    have HCB:=zh hcb
    clear hnz
    go_wp2
    refine wp_region_cutT (J:=fun x=>Ext Wk x) (R:=Ext) 9 [Sp.eq _ (.slice A out.length c),Sp.eq _ (.int .u8 x),spBox Wk #[.int .u8 x] 5,Sp.eq _ (.string (nmJ j)),Sp.eq _ (.pointer (some ⟨w.heap.size,j,none⟩)),Sp.eq _ (.pointer (some ⟨w.heap.size,j,none⟩)),Sp.eq _ (.string s),Sp.eq _ (.agg #[.string (nmJ j),.string s]),spBox Wk #[.string (nmJ j),.string s] 60] (by kernel_rfl) (by kernel_rfl) ?_ ?_ ?_
    ·exact(Ext.refl Wk).drew
    ·refine⟨?_,?_,?_,?_,?_,?_,?_,?_,?_,trivial⟩
     ·intro vs w1' hJ hp
      have HJ:=zh hJ
      clear hp hJ
      simp only [List.take_succ_cons,List.take_zero,putAll,Nat.reduceAdd]
      go_wp2
      exact⟨rfl,HJ.out,zr,rfl⟩
     ·intro vs w1' hJ hp
      have HJ:=zh hJ
      clear hp hJ
      simp only [List.take_succ_cons,List.take_zero,putAll,Nat.reduceAdd]
      go_wp2
      exact⟨rfl,HJ.out,zr,rfl⟩
     ·intro vs w1' hJ hp
      have q1:vs 1=.int .u8 x:=zd hp 1
      have HJ:=zh hJ
      clear hp hJ
      simp only [List.take_succ_cons,List.take_zero,putAll,Nat.reduceAdd]
      go_wp2
      exact⟨rfl,HJ.out.alloc _,ext_alloc _ _,rfl,HJ.out.size,heap_alloc_new _ _⟩
     ·intro vs w1' hJ hp
      have q2:(spBox Wk #[.int .u8 x] 5).p (vs 2) w1':=zd hp 2
      have HJ:=zh hJ
      obtain⟨g2,hv2,hlo2,hb2⟩:∃g,vs 2=.slice (some ⟨g,0,none⟩) 1 1/\Wk.heap.size<=g/\w1'.heap[g]?=some (.cells #[.int .u8 x] 5 (0,0)):=⟨_,q2⟩
      have hcv:=conv_rd (rd_one hb2)
      rw [HNM.out]at hcv
      clear q2
      clear hp hJ
      simp only [List.take_succ_cons,List.take_zero,putAll,Nat.reduceAdd]
      rw [hv2]
      go_wp2
      exact⟨rfl,HJ.out,zr,rfl⟩
     ·intro vs w1' hJ hp
      have HJ:=zh hJ
      clear hp hJ
      simp only [List.take_succ_cons,List.take_zero,putAll,Nat.reduceAdd]
      go_wp2
      exact⟨rfl,HJ.out,zr,rfl⟩
     ·intro vs w1' hJ hp
      have q4:vs 4=.pointer (some ⟨w.heap.size,j,none⟩):=zd hp 4
      have HJ:=zh hJ
      clear hp hJ
      simp only [List.take_succ_cons,List.take_zero,putAll,Nat.reduceAdd]
      go_wp2
      exact⟨rfl,HJ.out,zr,rfl⟩
     ·intro vs w1' hJ hp
      have q5:vs 5=.pointer (some ⟨w.heap.size,j,none⟩):=zd hp 5
      have HJ:=zh hJ
      have hq:=hJ.cell HCB.out
      clear hp hJ
      simp only [List.take_succ_cons,List.take_zero,putAll,Nat.reduceAdd]
      go_wp2
      exact⟨rfl,HJ.out,zr,rfl⟩
     ·intro vs w1' hJ hp
      have q3:vs 3=.string (nmJ j):=zd hp 3
      have q6:vs 6=.string s:=zd hp 6
      have HJ:=zh hJ
      clear hp hJ
      simp only [List.take_succ_cons,List.take_zero,putAll,Nat.reduceAdd]
      go_wp2
      exact⟨rfl,HJ.out,zr,rfl⟩
     ·intro vs w1' hJ hp
      have q7:vs 7=.agg #[.string (nmJ j),.string s]:=zd hp 7
      have HJ:=zh hJ
      clear hp hJ
      simp only [List.take_succ_cons,List.take_zero,putAll,Nat.reduceAdd]
      go_wp2
      exact⟨rfl,HJ.out.alloc _,ext_alloc _ _,rfl,HJ.out.size,heap_alloc_new _ _⟩
    ·intro vs w1' hJ hp
     have q0:vs 0=.slice A out.length c:=zd hp 0
     have q1:vs 1=.int .u8 x:=zd hp 1
     have q2:(spBox Wk #[.int .u8 x] 5).p (vs 2) w1':=zd hp 2
     have q3:vs 3=.string (nmJ j):=zd hp 3
     have q4:vs 4=.pointer (some ⟨w.heap.size,j,none⟩):=zd hp 4
     have q5:vs 5=.pointer (some ⟨w.heap.size,j,none⟩):=zd hp 5
     have q6:vs 6=.string s:=zd hp 6
     have q7:vs 7=.agg #[.string (nmJ j),.string s]:=zd hp 7
     have q8:(spBox Wk #[.string (nmJ j),.string s] 60).p (vs 8) w1':=zd hp 8
     have HJ:=zh hJ
     obtain⟨g8,hv8,hlo8,hb8⟩:∃g,vs 8=.slice (some ⟨g,0,none⟩) 1 1/\Wk.heap.size<=g/\w1'.heap[g]?=some (.cells #[.string (nmJ j),.string s] 60 (0,0)):=⟨_,q8⟩
     obtain⟨v2,hv2⟩:∃v,vs 2=v:=⟨_,rfl⟩
     have HB8:=zh hb8
     have HRW:=zh (ownsRow_ext HRK.out hJ)
     have HBS:=zh (Nat.le_trans (HXK.out.size) hJ.size)
     clear hp hJ q2 q8 hb8
     simp only [List.take_succ_cons,List.take_zero,List.drop_succ_cons,List.drop_zero,putAll,Nat.reduceAdd,Act.put,q0,q1,q3,q4,q5,q6,q7,hv2,hv8,List.setIfInBounds_toArray,List.set_cons_zero,List.set_cons_succ]
     refine wpList_append_own _ rfl (.tmp 21) (.tmp 29) 28 rfl w1.heap.size 60 i0 _ 2 32 Tryz.underlying28 hi hz0 hz1 hz2 rfl (by decide) _ _ _ rfl HRW.out ⟨g8,0,none⟩ 1 1 [.string (nmJ j),.string s] rfl rfl (fun k u hu=>by rw [add_lit0,Nat.zero_add];exact zc HB8.out k u (by simpa using hu)) (by simp [Value.oneCell']) (by have:=HLE.out;unfold maxLen;omega) (by have:=HLE.out;omega) HBS.out ?_
     intro v' w3 hown' hg3 hnil3
     obtain⟨A9,c9,hv9⟩:=own_slice (own_zero hown')
     subst hv9
     have HOW:=zh hown'
     have HG3:=zh hg3
     clear hown' hg3 hnil3
     simp only [Act.put,List.setIfInBounds_toArray,List.set_cons_zero,List.set_cons_succ]
     go_wp2
     have hrgJ:=HRG2.out.kept (ext_grown HJ.out) (by simp) (by simp)
     have hrg3:=hrgJ.kept HG3.out (row_ne_map HRW.out hrgJ.owns) (row_ne_iter HRW.out hrgJ)
     go_roundw
     case rel=>
      have hOe:out++ [(nmJ j,s)]=outE T (es++ [e]):=by rw [outE_snoc,HPE.out,HH.out.2.2.2]
      refine⟨_,cnt2,es++ [e],A9,c9,out++ [(nmJ j,s)],by rw [List.length_append];rfl,hrg3,zh ⟨HGS.out,(HXK.out.trans HJ.out).turned HG3.out (fun g hg=>(HRW.out.lt g hg).1),?_,hOe⟩,?_⟩
      ·rw [List.length_append,List.length_append];have:=HLE.out;simp only [List.length_cons,List.length_nil];omega
      ·rw [List.length_append,List.flatMap_append];exact HOW.out
     case measure=>rw [hrg3.left_eq,HRG.out.left_eq];exact hlt
open Go.RowKit Og
set_option maxHeartbeats 4000000 in
theorem told_dflt (T:Nat)(kd:Int)(P:Value->World->Prop)(w:World)(bk:Nat)(hT:T∉[101,108,111,114,116,119,122,125,132,134,138,141,144,147,149])
 (hA:∀W2,Ext w W2->W2.heap[w.heap.size+1]?=some (.cells #[.int .i64 kd,.string ⟨#[]⟩,.string ⟨#[]⟩,.int .u32 0,.int .u32 0,.slice none 0 0,.slice none 0 0,.slice none 0 0,.slice none 0 0,.slice none 0 0,.slice none 0 0,.slice none 0 0,.slice none 0 0] 31 (0,0))->Calls Tryz.prog 65 #[.iface T (.pointer (some ⟨bk,0,none⟩)),.pointer (some ⟨w.heap.size+1,0,none⟩)] W2 (Answd kd (w.heap.size+1) P W2)):
 Calls Tryz.prog 48 #[.int .i64 kd,.iface T (.pointer (some ⟨bk,0,none⟩))] w (Tells kd P w):=by
 have n101:=no101 T (fun e=>hT (by simp [e]))
 have n108:=no108 T (fun e=>hT (by simp [e]))
 have n111:=no111 T (fun e=>hT (by simp [e]))
 have n114:=no114 T (fun e=>hT (by simp [e]))
 have n116:=no116 T (fun e=>hT (by simp [e]))
 have n119:=no119 T (fun e=>hT (by simp [e]))
 have n122:=no122 T (fun e=>hT (by simp [e]))
 have n125:=no125 T (fun e=>hT (by simp [e]))
 have n132:=no132 T (fun e=>hT (by simp [e]))
 have n134:=no134 T (fun e=>hT (by simp [e]))
 have n138:=no138 T (fun e=>hT (by simp [e]))
 have n141:=no141 T (fun e=>hT (by simp [e]))
 have n144:=no144 T (fun e=>hT (by simp [e]))
 have n147:=no147 T (fun e=>hT (by simp [e]))
 have n149:=no149 T (fun e=>hT (by simp [e]))
 have HA:=zh hA
 clear hA hT
 obtain⟨W2,hW2⟩:∃W2,W2=((w.alloc (.cells #[.int .i64 0,.string ⟨#[]⟩,.string ⟨#[]⟩,.int .u32 0,.int .u32 0,.slice none 0 0,.slice none 0 0,.slice none 0 0,.slice none 0 0,.slice none 0 0,.slice none 0 0,.slice none 0 0,.slice none 0 0] 31)).alloc (.cells #[.int .i64 kd,.string ⟨#[]⟩,.string ⟨#[]⟩,.int .u32 0,.int .u32 0,.slice none 0 0,.slice none 0 0,.slice none 0 0,.slice none 0 0,.slice none 0 0,.slice none 0 0,.slice none 0 0,.slice none 0 0] 31)):=⟨_,rfl⟩
 have XW:Hid (Ext w W2):=zh (by rw [hW2];exact(ext_alloc w _).alloc _)
 have HM:Hid (W2.heap[w.heap.size+1]?=some (.cells #[.int .i64 kd,.string ⟨#[]⟩,.string ⟨#[]⟩,.int .u32 0,.int .u32 0,.slice none 0 0,.slice none 0 0,.slice none 0 0,.slice none 0 0,.slice none 0 0,.slice none 0 0,.slice none 0 0,.slice none 0 0] 31 (0,0))):=zh (by
  have e:(w.alloc (.cells #[.int .i64 0,.string ⟨#[]⟩,.string ⟨#[]⟩,.int .u32 0,.int .u32 0,.slice none 0 0,.slice none 0 0,.slice none 0 0,.slice none 0 0,.slice none 0 0,.slice none 0 0,.slice none 0 0,.slice none 0 0] 31)).heap.size=w.heap.size+1:=by simp
  rw [hW2,<-e]
  exact heap_alloc_new _ _)
 have HO:Hid (W2.heap[w.heap.size]?=some (.cells #[.int .i64 0,.string ⟨#[]⟩,.string ⟨#[]⟩,.int .u32 0,.int .u32 0,.slice none 0 0,.slice none 0 0,.slice none 0 0,.slice none 0 0,.slice none 0 0,.slice none 0 0,.slice none 0 0,.slice none 0 0] 31 (0,0))):=zh (by
  rw [hW2,(ext_alloc (w.alloc (.cells #[.int .i64 0,.string ⟨#[]⟩,.string ⟨#[]⟩,.int .u32 0,.int .u32 0,.slice none 0 0,.slice none 0 0,.slice none 0 0,.slice none 0 0,.slice none 0 0,.slice none 0 0,.slice none 0 0,.slice none 0 0] 31)) (.cells #[.int .i64 kd,.string ⟨#[]⟩,.string ⟨#[]⟩,.int .u32 0,.int .u32 0,.slice none 0 0,.slice none 0 0,.slice none 0 0,.slice none 0 0,.slice none 0 0,.slice none 0 0,.slice none 0 0,.slice none 0 0] 31)).block w.heap.size (by simp)]
  exact heap_alloc_new _ _)
 have HOB:Hid (w.heap.size < W2.heap.size):=zh (zl HO.out)
 go_enter Tryz.func48,Tryz.ntmps48
 go_wp2_with (first|(go_at_call 65;rw [<-hW2];clear hW2;refine(HA.out _ XW.out HM.out).mono ?_;rintro e w3 ⟨a',b',n',m',E5,e5,f5,E6,e6,f6,E7,e7,f7,E8,e8,f8,E9,e9,f9,E10,e10,f10,E11,e11,f11,E12,e12,f12,rfl,hx3,hm3,hk3⟩;have HX3:=zh hx3;have HM3:=zh hm3;have HK3:=zh hk3;have HO3:=zh ((hx3.block w.heap.size HOB.out (by omega)).trans HO.out);clear hx3 hm3 hk3)|(refine wpList_load_row rfl 31 (.tmp 5) rfl (w.heap.size+1) rfl 31 #[.int .i64 kd,.string a',.string b',.int .u32 n',.int .u32 m',.slice E5 e5 f5,.slice E6 e6 f6,.slice E7 e7 f7,.slice E8 e8 f8,.slice E9 e9 f9,.slice E10 e10 f10,.slice E11 e11 f11,.slice E12 e12 f12] (0,0) _ HM3.out Tryz.underlying31 rfl size31 ?_)|(refine wpList_store_row rfl 31 (.tmp 4) (.tmp 256) rfl w.heap.size #[.int .i64 kd,.string a',.string b',.int .u32 n',.int .u32 m',.slice E5 e5 f5,.slice E6 e6 f6,.slice E7 e7 f7,.slice E8 e8 f8,.slice E9 e9 f9,.slice E10 e10 f10,.slice E11 e11 f11,.slice E12 e12 f12] (by simp only [evp_none,ne_eq,Nat.reduceEqDiff,not_false_eq_true,evp_ne];rfl) (by rw [evp_same _ _ _ (by simp [evp_size])]) 31 _ HO3.out size31 rfl one13 ?_))
 (try simp only [Exit.inBlock,Exit.then])
 refine bodyPost_end (results_cell_row (P:=Tryz.prog) rfl _ _ w.heap.size 31 #[.int .i64 kd,.string a',.string b',.int .u32 n',.int .u32 m',.slice E5 e5 f5,.slice E6 e6 f6,.slice E7 e7 f7,.slice E8 e8 f8,.slice E9 e9 f9,.slice E10 e10 f10,.slice E11 e11 f11,.slice E12 e12 f12] (0,0) _ rfl (setRow_heap _ _ _ _ _ _ HO3.out) Tryz.underlying31 rfl size31) rfl ?_
 exact⟨a',b',n',m',E5,e5,f5,E6,e6,f6,E7,e7,f7,E8,e8,f8,E9,e9,f9,E10,e10,f10,E11,e11,f11,E12,e12,f12,rfl,((Ext.refl w3).but.row _).ext (HX3.out.ext XW.out (by omega)) (Nat.le_refl _),fun w4 h4=>HK3.out w4 (fun k h1 h2=>(h4 k (Nat.le_trans XW.out.size h1) (by simpa [World.setRow]using h2)).trans (setRow_other _ _ _ _ (by have:=HOB.out;omega)))⟩
set_option maxHeartbeats 4000000 in
theorem answd_triv (T:Nat)(kd:Int)(w:World)(v:Value)(mb:Nat)(hT:T∉[185,189,191,194,196,198,200,203,206,208,210,213,217,219,222,225,228,230,233])(hkd: -9223372036854775808<=kd/\kd<=9223372036854775807)(hm:w.heap[mb]?=some (.cells #[.int .i64 kd,.string ⟨#[]⟩,.string ⟨#[]⟩,.int .u32 0,.int .u32 0,.slice none 0 0,.slice none 0 0,.slice none 0 0,.slice none 0 0,.slice none 0 0,.slice none 0 0,.slice none 0 0,.slice none 0 0] 31 (0,0))):
 Calls Tryz.prog 65 #[.iface T v,.pointer (some ⟨mb,0,none⟩)] w (Answd kd mb (DecP kd ⟨#[]⟩ ⟨#[]⟩ 0 [] [] [] [] [] [] [] []) w):=by
 have n185:=no185 T (fun e=>hT (by simp [e]))
 have n189:=no189 T (fun e=>hT (by simp [e]))
 have n191:=no191 T (fun e=>hT (by simp [e]))
 have n194:=no194 T (fun e=>hT (by simp [e]))
 have n196:=no196 T (fun e=>hT (by simp [e]))
 have n198:=no198 T (fun e=>hT (by simp [e]))
 have n200:=no200 T (fun e=>hT (by simp [e]))
 have n203:=no203 T (fun e=>hT (by simp [e]))
 have n206:=no206 T (fun e=>hT (by simp [e]))
 have n208:=no208 T (fun e=>hT (by simp [e]))
 have n210:=no210 T (fun e=>hT (by simp [e]))
 have n213:=no213 T (fun e=>hT (by simp [e]))
 have n217:=no217 T (fun e=>hT (by simp [e]))
 have n219:=no219 T (fun e=>hT (by simp [e]))
 have n222:=no222 T (fun e=>hT (by simp [e]))
 have n225:=no225 T (fun e=>hT (by simp [e]))
 have n228:=no228 T (fun e=>hT (by simp [e]))
 have n230:=no230 T (fun e=>hT (by simp [e]))
 have n233:=no233 T (fun e=>hT (by simp [e]))
 have HM:=zh hm
 clear hm hT
 go_enter Tryz.func65,Tryz.ntmps65
 go_wp2
 (try simp only [Exit.inBlock,Exit.then]);first|refine bodyPost_end (results_none rfl _ _ _) rfl ?_|refine bodyPost_ret (results_none rfl _ _ _) rfl ?_
 exact answd_of (Ext.refl w).but HM.out (fun _ _=>rdi_nil _ _) (fun _ _=>rdi_nil _ _) (fun _ _=>rdi_nil _ _) (fun _ _=>rdm_nil _ _ _) (fun _ _=>RdB.nil _) (fun _ _=>rd1_nil _ _) ⟨by decide,by decide⟩ (nofun) (nofun) (nofun) hkd
end Go.Proofs.YtdenjanihikolaaGreatDoor
