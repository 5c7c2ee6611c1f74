/- Decode that can: a message that starts. -/
import Derived.Test.YtdenjanihikolaaGreatDoorRqA2
import Derived.Test.YtdenjanihikolaaGreatDoorRqA0
import Derived.Test.YtdenjanihikolaaGreatDoorRqA1
import Derived.Test.YtdenjanihikolaaGreatDoorRqTdl
import Derived.Test.YtdenjanihikolaaGreatDoorRqSmu
import Derived.Test.YtdenjanihikolaaGreatDoorRqDcj
import Derived.Test.YtdenjanihikolaaGreatDoorRqDkj
import Derived.Test.YtdenjanihikolaaGreatDoorRqStp
namespace Go.Proofs.YtdenjanihikolaaGreatDoor
set_option linter.unusedVariables false
set_option linter.unusedSimpArgs false
set_option maxRecDepth 100000
set_option maxHeartbeats 4000000
open Go.RowKit Go.Maps Go.Sort Og
def prE (T:Nat->ByteArray) (e:Nat×Int×Nat):List Pr:=if (T e.2.2).size=0 then []else [(nmJ e.2.2,T e.2.2)]
def outE (T:Nat->ByteArray) (es:List (Nat×Int×Nat)):List Pr:=es.flatMap (prE T)
theorem outE_snoc (T:Nat->ByteArray)(es:List (Nat×Int×Nat))(e:Nat×Int×Nat):outE T (es++ [e])=outE T es++prE T e:=by
 simp [outE,List.flatMap_append]
structure GotE (tab:List (Nat×Int×Nat)) (left:Lit->Bool) (es:List (Nat×Int×Nat)):Prop where
 nd:es.Nodup
 sub:∀e∈es,e∈tab
 iff:∀e∈tab,(e∈es↔left (.int .u8 e.2.1)=false)
theorem apart_inj {tab:List (Nat×Int×Nat)} (ha:Apart tab):∀e∈tab,∀f∈tab,e.2.1=f.2.1->e=f:=by
 induction tab with
 | nil=>intro e he;cases he
 | cons a r ih=>
   have h1:=List.pairwise_cons.1 ha
   intro e he f hf hef
   rcases List.mem_cons.1 he with rfl|he'
   ·rcases List.mem_cons.1 hf with rfl|hf'
    ·rfl
    ·exact absurd hef (h1.1 f hf').2
   ·rcases List.mem_cons.1 hf with rfl|hf'
    ·exact absurd hef.symm (h1.1 e he').2
    ·exact ih h1.2 e he' f hf' hef
theorem GotE.step {tab:List (Nat×Int×Nat)} {left:Lit->Bool} {es:List (Nat×Int×Nat)} (h:GotE tab left es) {e:Nat×Int×Nat} (he:e∈tab)(hl:left (.int .u8 e.2.1)=true)(ha:Apart tab):GotE tab (fun z=>left z && !z.sameKey (.int .u8 e.2.1)) (es++ [e]):=by
 have hn:e∉es:=fun h1=>by have:=(h.iff e he).1 h1;rw [hl]at this;cases this
 refine⟨List.nodup_append.2 ⟨h.nd,by simp,fun a ha b hb=>by simp at hb;subst hb;exact fun e=>hn (e▸ha)⟩,fun f hf=>?_,fun f hf=>?_⟩
 ·rcases List.mem_append.1 hf with h1|h1
  ·exact h.sub f h1
  ·rw [List.mem_singleton.1 h1];exact he
 ·rw [List.mem_append,List.mem_singleton]
  by_cases e2:f=e
  ·subst e2;simp [Lit.sameKey]
  ·have e3:f.2.1≠e.2.1:=fun e3=>e2 (apart_inj ha f hf e he e3)
   have e4:(Lit.int .u8 f.2.1).sameKey (.int .u8 e.2.1)=false:=by simp [Lit.sameKey,e3]
   simp only [e4,Bool.not_false,Bool.and_true,e2,or_false]
   exact h.iff f hf
theorem perm_nodup {α:Type} [DecidableEq α]:∀(l m:List α),l.Nodup->m.Nodup->(∀x,x∈l↔x∈m)->l.Perm m
 | [],m,_,_,h=>by
   cases m with
   | nil=>exact List.Perm.refl _
   | cons a r=>exact absurd ((h a).2 (List.mem_cons_self ..)) (by simp)
 | p :: l,m,hl,hm,h=>by
   have hp:p∈m:=(h p).1 (List.mem_cons_self ..)
   have h1:=List.perm_cons_erase hp
   rw [List.nodup_cons]at hl
   have hme:(p :: m.erase p).Nodup:=h1.nodup_iff.1 hm
   rw [List.nodup_cons]at hme
   have h2:l.Perm (m.erase p):=perm_nodup l (m.erase p) hl.2 hme.2 (fun x=>by
    constructor
    ·intro hx
     have h3:x∈m:=(h x).1 (List.mem_cons_of_mem _ hx)
     exact(List.mem_erase_of_ne (fun e=>hl.1 (by rw [<-e];exact hx))).2 h3
    ·intro hx
     have h3:x∈m:=List.mem_of_mem_erase hx
     rcases List.mem_cons.1 ((h x).2 h3)with rfl|h4
     ·exact absurd hx hme.1
     ·exact h4)
   exact(h2.cons p).trans h1.symm
theorem GotE.perm {tab:List (Nat×Int×Nat)} {left:Lit->Bool} {es:List (Nat×Int×Nat)} (h:GotE tab left es)(hl:∀kl,left kl=false)(hn:tab.Nodup):es.Perm tab:=
 perm_nodup es tab h.nd hn fun x=>⟨h.sub x,fun hx=>(h.iff x hx).2 (hl _)⟩
theorem nodup_le {α:Type} [DecidableEq α]:∀(l m:List α),l.Nodup->(∀x∈l,x∈m)->l.length<=m.length
 | [],m,_,_=>Nat.zero_le _
 | p :: l,m,hl,h=>by
   have hp:p∈m:=h p (List.mem_cons_self ..)
   rw [List.nodup_cons]at hl
   have h2:=nodup_le l (m.erase p) hl.2 (fun x hx=>(List.mem_erase_of_ne (fun e=>hl.1 (by rw [<-e];exact hx))).2 (h x (List.mem_cons_of_mem _ hx)))
   rw [List.length_erase_of_mem hp]at h2
   have h3:0 < m.length:=List.length_pos_of_mem hp
   rw [List.length_cons]
   omega
theorem GotE.le {tab:List (Nat×Int×Nat)} {left:Lit->Bool} {es:List (Nat×Int×Nat)} (h:GotE tab left es) {k:Nat} (hk:tab.length<=k):es.length<=k:=Nat.le_trans (nodup_le es tab h.nd h.sub) hk
theorem pick_all {L:Nat->Bool} {tab:List (Nat×Int×Nat)} (hL:∀e∈tab,L e.1=true):∀e∈tab,∃y:DataW Unit,∀z,pick L e.2.1 z tab=y:=by
 induction tab with
 | nil=>intro e he;cases he
 | cons a r ih=>
   intro e he
   by_cases h1:a.2.1=e.2.1
   ·exact⟨.lit (.int .i64 a.2.2),fun z=>by unfold pick;rw [hL a (List.mem_cons_self ..),h1];simp⟩
   ·have h2:e∈r:=by
     rcases List.mem_cons.1 he with rfl|h3
     ·exact absurd rfl h1
     ·exact h3
    obtain⟨y,hy⟩:=ih (fun f hf=>hL f (List.mem_cons_of_mem _ hf)) e h2
    refine⟨y,fun z=>?_⟩
    unfold pick
    rw [hL a (List.mem_cons_self ..)]
    simp only [Bool.true_and,beq_eq_false_iff_ne.2 h1,Bool.false_eq_true,if_false]
    exact hy z
theorem GotE.start {tab:List (Nat×Int×Nat)} {L:Nat->Bool} {D:DataW Unit} (hL:∀e∈tab,L e.1=true)(hat:∀(c:Int) (z:DataW Unit),D.atKey (.int .u8 c) z=pick L c z tab):GotE tab (Maps.has D) []:=by
 refine⟨List.nodup_nil,fun e he=>absurd he List.not_mem_nil,fun e he=>?_⟩
 obtain⟨y,hy⟩:=pick_all hL e he
 have h1:Maps.has D (.int .u8 e.2.1)=true:=has_true_of_atKey (y:=y) fun z=>(hat _ z).trans (hy z)
 simp [h1]
theorem pick_some {L:Nat->Bool} {c:Int} {y:DataW Unit} :∀{tab:List (Nat×Int×Nat)},(∀z,pick L c z tab=y)->∃e∈tab,e.2.1=c/\y=.lit (.int .i64 e.2.2)
 | [],h=>by
   have h1:=h .nil
   have h2:=h (.lit (.bool true))
   simp only [pick]at h1 h2
   rw [<-h2]at h1
   cases h1
 | e :: r,h=>by
   by_cases he:(L e.1 && e.2.1 == c)=true
   ·refine⟨e,List.mem_cons_self ..,?_,?_⟩
    ·have h1:=(Bool.and_eq_true _ _▸he:_/\_).2
     exact eq_of_beq h1
    ·have h1:=h .nil
     unfold pick at h1
     rw [if_pos he]at h1
     exact h1.symm
   ·obtain⟨f,hf,h1,h2⟩:=pick_some (tab:=r) (fun z=>by
     have h1:=h z
     unfold pick at h1
     rwa [if_neg he]at h1)
    exact⟨f,List.mem_cons_of_mem _ hf,h1,h2⟩
theorem rdP_ptr {eb:Nat} {v:Value} {y:DataW Unit×List MemPlace} (h:rdP eb v=some y):∃p,v=Value.pointer p:=by
 unfold rdP at h
 split at h
 ·exact⟨_,rfl⟩
 ·exact⟨_,rfl⟩
 ·cases h
theorem tab73_lt:∀e∈tab73,e.2.2 < 18:=by decide
theorem tab74_lt:∀e∈tab74,e.2.2 < 18:=by decide
theorem tab73_num:∀e∈tab73,¬numJ e.2.2:=by decide
theorem tab74_num:∀e∈tab74,numJ e.2.2:=by decide
theorem tab73_key:∀e∈tab73,e.2.1=ls18.getD e.2.2 0:=by decide
theorem tab74_key:∀e∈tab74,e.2.1=ls18.getD e.2.2 0:=by decide
theorem tab73_nd:tab73.Nodup:=by decide
theorem tab74_nd:tab74.Nodup:=by decide
theorem tabs_perm:((tab73++tab74).map fun e=>e.2.2).Perm (List.range 18):=by decide
theorem outs_perm (T:Nat->ByteArray) {es1 es2:List (Nat×Int×Nat)} (h1:es1.Perm tab73)(h2:es2.Perm tab74):(outE T es1++outE T es2).Perm (qsOf T):=by
 have h3:(outE T es1++outE T es2).Perm (outE T tab73++outE T tab74):=(h1.flatMap_right _).append (h2.flatMap_right _)
 have h4:outE T tab73++outE T tab74=((tab73++tab74).map fun e=>e.2.2).flatMap fun i=>if (T i).size=0 then []else [(nmJ i,T i)]:=by
  unfold outE
  rw [<-List.flatMap_append,List.flatMap_map]
  rfl
 rw [h4]at h3
 exact h3.trans (tabs_perm.flatMap_right _)
theorem rd_one {w:World} {g:Nat} {x:Int} (h:w.heap[g]?=some (.cells #[.int .u8 x] 5 (0,0))):RdB w (.slice (some ⟨g,0,none⟩) 1 1) [x]:=
 ⟨_,1,rfl,Nat.le_refl _,by unfold maxLen;omega,fun _=>⟨g,0,rfl,fun k hk=>by
   obtain rfl:k=0:=by simp at hk;omega
   exact zc h 0 _ rfl⟩⟩
theorem row_ne_map {P:Program} {k:TypeId} {R:Value->Option (DataW Unit×List MemPlace)} {w:World} {b n base e size m:Nat} {D:DataW Unit} {v:Value} {xs:List Value} (h:w.ownsRow base e size v m xs)(hm:w.ownsMap P k R b n D):some b≠v.ownBlock:=by
 obtain⟨es,clock,hb,_⟩:=hm
 rcases h.2 with ⟨rfl,_⟩|⟨g,cap,cur,rfl,_,hg,_⟩
 ·simp [Value.ownBlock]
 ·intro e1
  have:b=g:=by simpa [Value.ownBlock]using e1
  subst this
  rw [hb]at hg
  cases hg
theorem Ext.turned {W w w':World} {row:Option Nat} (h:Ext W w)(hg:w.grownBy w' row)(hlo:∀g,row=some g->W.heap.size<=g):Ext W w':=
 ⟨hg.os.trans h.os,hg.tape.trans h.tape,hg.output.trans h.output,Nat.le_trans h.size hg.size,fun k hk=>(hg.block k (Nat.lt_of_lt_of_le hk h.size) (fun e=>by have:=hlo k e.symm;omega)).trans (h.block k hk)⟩
theorem ext_grown {w w':World} (h:Ext w w'):w.grownBy w' none:=⟨h.os,h.tape,h.output,h.size,fun k hk _=>h.block k hk⟩
def PairsP (ps:List Pr) (w:World):Ending->World->Prop:=fun e w'=>∃A c,e=.returned (.slice A ps.length c)/\Ext w w'/\w'.ownsRow w.heap.size 60 2 (.slice A ps.length c) ps.length (ps.flatMap prV)
set_option maxHeartbeats 20000000 in
theorem pairs72 (T:Nat->ByteArray)(ps:List Pr)(hN:∀i,numJ i->T i=⟨#[]⟩∨digP (T i))(hp:(qsOf T).Perm ps)(hs:Srt ps)(w:World)(htab:Tab w):
 Calls Tryz.prog 72 #[.agg (errCells T)] w (PairsP ps w):=by
 have HN:=zh hN
 have HQP:=zh hp
 have HSR:=zh hs
 obtain⟨w1,hw1⟩:∃w1,w1=w.alloc (.cells #[.string (T 0),.string (T 1),.string (T 2),.string (T 3),.string (T 4),.string (T 5),.int .i32 (numS (T 6)),.int .i32 (numS (T 7)),.string (T 8),.string (T 9),.string (T 10),.string (T 11),.string (T 12),.string (T 13),.string (T 14),.string (T 15),.int .i32 (numS (T 16)),.string (T 17),.map none] 216):=⟨_,rfl⟩
 have HX1:Hid (Ext w w1):=zh (by rw [hw1];exact ext_alloc _ _)
 have HBE:Hid (w1.heap[w.heap.size]?=some (.cells (errCells T) 216 (0,0))):=zh (by rw [hw1];exact heap_alloc_new _ _)
 have HTAB:Hid (Tab w1):=zh (htab.ext HX1.out)
 obtain⟨i0,hi,hz0,hz1,hz2⟩:=info_parts info60
 clear hN hp hs htab
 unfold errCells
 go_enter Tryz.func72,Tryz.ntmps72
 go_wp2_with (first|(go_at_call 73;rw [<-hw1];refine(map73 _ _).mono ?_;rintro e W2 ⟨m1,rfl,hx2,hlo2,L1,hL1,hm1⟩;obtain⟨n1,D1,hn1,hown1,hIM1,hat1⟩:=hm1;have HX2:=zh hx2;have HAT1:=zh hat1;have HL1:=zh hL1;have HO1:=zh hown1;clear hx2 hlo2 hL1 hn1 hown1 hIM1 hat1)|(at_range;refine wpList_range_own _ rfl _ 254 rfl 5 258 lawB Tryz.underlying254 _ m1 n1 _ rfl HO1.out ?_;intro w0 hrg0 hg0 hs0)|go_in)
 clear hw1
 go_frame
 have HBASE1:Hid (w1.heap.size<=W2.heap.size):=zh HX2.out.size
 go_loopw [3] (fun v wr=>∃(left:Lit->Bool) (cnt:Nat) (es:List (Nat×Int×Nat)) (A:Option Addr) (c:Nat) (out:List Pr),v=.slice A out.length c/\wr.ranges Tryz.prog 5 (rdP (w.heap.size)) m1 W2.heap.size n1 D1 left cnt/\Hid (GotE tab73 left es/\Ext w1 wr/\out.length<=es.length/\out=outE T es)/\wr.ownsRow w1.heap.size 60 2 (.slice A out.length c) out.length (out.flatMap prV)) (fun _ wr=>wr.rangeLeft m1 W2.heap.size)
 case atStart=>exact⟨_,_,[],none,0,[],rfl,hrg0,zh ⟨GotE.start HL1.out HAT1.out,HX2.out.turned hg0 (by simp),by simp,rfl⟩,World.ownsRow_nil _ _ _ _⟩
 case round=>
  obtain⟨left,cnt,es,A,c,out,rfl,hrg,HH,hrow⟩:=hrel
  clear hrg0 hg0 hs0
  go_wp2_with (first|(at_next;refine wpList_next_ranges _ rfl _ rfl 5 lawB (rdP (w.heap.size)) (Value.int .u8) Value.pointer (fun key kl hk=>by obtain⟨x,hx,_⟩:=Maps.keyOf_int_inv Tryz.underlying5 hk;exact⟨x,hx⟩) (fun v y hv=>rdP_ptr hv) m1 W2.heap.size n1 _ _ _ rfl hrg ?_ ?_)|go_in)
  ·intro hc0 hl0
   obtain⟨X1,rfl⟩:∃X1,X1=out:=⟨_,rfl⟩
   have HE1:Hid (∃es1:List (Nat×Int×Nat),es1.Perm tab73/\X1=outE T es1):=zh ⟨es,HH.out.1.perm hl0 tab73_nd,HH.out.2.2.2⟩
   have HXR:=zh HH.out.2.1
   have HRR:=zh hrow
   have HLX:Hid (X1.length<=20):=zh (by have:=HH.out.2.2.1;have:=HH.out.1.le (by decide:tab73.length<=20);omega)
   clear hrow hrg HH hl0 hc0
   go_wp2_with (first|(go_at_call 74;refine(map74 _ _).mono ?_;rintro e W3 ⟨m2,rfl,hx3,hlo3,L2,hL2,hm2⟩;obtain⟨n2,D2,hn2,hown2,hIM2,hat2⟩:=hm2;have HX3:=zh hx3;have HAT2:=zh hat2;have HL2:=zh hL2;have HO2:=zh hown2;clear hx3 hlo3 hL2 hn2 hown2 hIM2 hat2)|(at_range;refine wpList_range_own _ rfl _ 256 rfl 5 259 lawB Tryz.underlying256 _ m2 n2 _ rfl HO2.out ?_;intro w0' hrg0' hg0' hs0')|go_in)
   go_frame
   have HXR3:Hid (Ext w1 W3):=zh (HXR.out.trans HX3.out)
   have HBASE2:Hid (w1.heap.size<=W3.heap.size):=zh HXR3.out.size
   go_loopw [3] (fun v wr=>∃(left:Lit->Bool) (cnt:Nat) (es:List (Nat×Int×Nat)) (A:Option Addr) (c:Nat) (out:List Pr),v=.slice A out.length c/\wr.ranges Tryz.prog 5 (rdP (w.heap.size)) m2 W3.heap.size n2 D2 left cnt/\Hid (GotE tab74 left es/\Ext w1 wr/\out.length<=20+es.length/\out=X1++outE T es)/\wr.ownsRow w1.heap.size 60 2 (.slice A out.length c) out.length (out.flatMap prV)) (fun _ wr=>wr.rangeLeft m2 W3.heap.size)
   case atStart=>exact⟨_,_,[],A,c,X1,rfl,hrg0',zh ⟨GotE.start HL2.out HAT2.out,HXR3.out.turned hg0' (by simp),by have:=HLX.out;simpa using this,by simp [outE]⟩,(ownsRow_ext HRR.out HX3.out).kept hg0' (by cases (Value.slice A X1.length c).ownBlock <;> simp)⟩
   case round=>
    obtain⟨left,cnt,es,A,c,out,rfl,hrg,HH,hrow⟩:=hrel
    clear hrg0' hg0' hs0'
    go_wp2_with (first|(at_next;refine wpList_next_ranges _ rfl _ rfl 5 lawB (rdP (w.heap.size)) (Value.int .u8) Value.pointer (fun key kl hk=>by obtain⟨x,hx,_⟩:=Maps.keyOf_int_inv Tryz.underlying5 hk;exact⟨x,hx⟩) (fun v y hv=>rdP_ptr hv) m2 W3.heap.size n2 _ _ _ rfl hrg ?_ ?_)|go_in)
    ·intro hc0 hl0
     obtain⟨X2,rfl⟩:∃X2,X2=out:=⟨_,rfl⟩
     have HPM:Hid (X2.Perm ps):=zh (by
      obtain⟨es1,h1,h2⟩:=HE1.out
      rw [HH.out.2.2.2,h2]
      exact(outs_perm T h1 (HH.out.1.perm hl0 tab74_nd)).trans HQP.out)
     have HXR4:=zh HH.out.2.1
     have HL18:Hid (X2.length<=100):=zh (by have:=HH.out.2.2.1;have:=HH.out.1.le (by decide:tab74.length<=20);omega)
     have HRR4:=zh hrow
     have hc18:=zc ((HH.out.2.1.block _ (zl HBE.out)).trans HBE.out) 18 (.map none) rfl
     have hrgN:=run_range_nilMap (P:=Tryz.prog) wr 214 5 9 Tryz.underlying214
     have hnxN:∀ty,(Instr.next (.pointer (some ⟨wr.heap.size,0,none⟩)) false ty).run Tryz.prog (wr.alloc (.mapIter none 0 #[] 0))=_:=fun ty=>run_next_nilMap wr ty 0 0 #[]
     clear hrow hrg HH hl0 hc0
     go_wp2
     refine wp_loop_rounds 1 ?_
     rw [rounds_succ]
     have HRR5:=zh (HRR4.out.alloc (.mapIter none 0 #[] 0))
     have HX5:=zh (HXR4.out.alloc (.mapIter none 0 #[] 0))
     have HSO:=zh (sorted64 X2 A c w1.heap.size _ HRR5.out (by have:=HL18.out;omega))
     go_wp2_with (go_at_call 64;refine HSO.out.mono ?_;rintro e w5 ⟨rfl,hg5,l,hl5,hs5,hr5⟩;have HG5:=zh hg5;have HR5:=zh hr5;have HLE5:=zh (sort_unique l ps (hl5.trans HPM.out) hs5 (srt_lt HSR.out));clear hg5 hl5 hs5 hr5)
     go_ret
     have hlen:X2.length=ps.length:=HPM.out.length_eq
     have h9:=HR5.out
     rw [HLE5.out,hlen]at h9
     rw [hlen]
     exact⟨A,c,rfl,HX1.out.trans (HX5.out.turned HG5.out (fun g hg=>(HRR5.out.lt g hg).1)),ownsRow_low h9 HX1.out.size⟩
    ·intro x p kl yd yp Wk cnt2 hkey hlk hv hat hrg2 hlt hg2 hs2 hen
     obtain⟨x',ex,rfl,_⟩:=Maps.keyOf_int_inv Tryz.underlying5 hkey
     obtain rfl:x=x':=by simpa using ex
     obtain⟨e,he,hex,hyd⟩:=pick_some (fun z=>(HAT2.out x z).symm.trans (hat z))
     obtain⟨j,hej⟩:∃j,j=e.2.2:=⟨_,rfl⟩
     have HEJ:=zh hej.symm
     have hpp:Value.pointer p=.pointer (some ⟨w.heap.size,j,none⟩):=rdP_lit (eb:=w.heap.size) (j:=j) (by rw [hv,hyd,hej])
     obtain rfl:p=some ⟨w.heap.size,j,none⟩:=by simpa using hpp
     have hj18:j < 18:=by rw [hej];exact tab74_lt e he
     have hjn:numJ j:=by rw [hej];exact tab74_num e he
     have hxj:x=ls18.getD j 0:=by rw [<-hex,hej];exact tab74_key e he
     have HNM:Hid (strOf [x]=nmJ j):=zh (by rw [hxj,<-sby_nm hj18,str_sby])
     have HGS:=zh (HH.out.1.step he (by rw [hex];exact hlk) apart74)
     rw [hex]at HGS
     have hxk:=HH.out.2.1.turned hg2 (fun g hg=>by have h9:=Option.some.inj hg;have:=HBASE2.out;omega)
     have HXK:=zh hxk
     have HRK:=zh (hrow.kept hg2 (Or.inr (row_ne_iter hrow hrg).symm))
     have HRG:=zh hrg
     have HRG2:=zh hrg2
     obtain⟨s,hsv⟩:∃s,s=T j:=⟨_,rfl⟩
     have HSV:=zh hsv.symm
     have HNI:=zh (HN.out j hjn)
     rw [<-hsv]at HNI
     have hcb:=zc ((hxk.block _ (zl HBE.out)).trans HBE.out) j _ (cell_num T hjn)
     rw [<-hsv]at hcb
     have HLE:Hid (out.length+1<=101/\out.length<=20+es.length):=zh (by have:=HH.out.2.2.1;have:=HH.out.1.le (by decide:tab74.length<=20);omega)
     clear hkey hv hat hs2 ex hpp hxk hrow hrg hrg2 hg2 hlk he hex hyd hej hj18 hjn hxj hsv
     rcases HNI.out with hse|hdg
     ·have hnz0:numS s=0:=by rw [hse];rfl
      have HPE:Hid (prE T e=[]):=zh (by unfold prE;rw [HEJ.out,HSV.out,hse];rfl)
      rw [hnz0]at hcb
      clear hse hnz0
      go_wp2
      go_roundw
      case rel=>
       have hOe:out=X1++outE T (es++ [e]):=by rw [outE_snoc,HPE.out,List.append_nil];exact HH.out.2.2.2
       exact⟨_,cnt2,es++ [e],A,c,out,rfl,HRG2.out,zh ⟨HGS.out,HXK.out,by rw [List.length_append];have:=HH.out.2.2.1;omega,hOe⟩,HRK.out⟩
      case measure=>rw [HRG2.out.left_eq,HRG.out.left_eq];exact hlt
     ·have HDG:=zh hdg
      have HPE:Hid (prE T e=[(nmJ j,s)]):=zh (by unfold prE;rw [HEJ.out,HSV.out,if_neg hdg.1])
      have HCB:=zh hcb
      have HNU:Hid (0 < numS s/\numS s < 1000000000):=zh ⟨(num_facts hdg).2.1,(num_facts hdg).2.2.1⟩
      have hnz:(numS s == 0)=false:=beq_eq_false_iff_ne.2 (by have:=HNU.out;omega)
      have hnz2:(numS s != 0)=true:=by rw [bne,hnz];rfl
      have hnz3:¬(numS s=0):=by have:=HNU.out;omega
      clear hdg
      go_wp2
      refine wp_region_cutT (J:=fun x=>Ext Wk x) (R:=Ext) 11 [Sp.eq _ (.slice A out.length c),Sp.eq _ (.int .u8 x),spBox Wk #[.int .u8 x] 5,Sp.eq _ (.string (nmJ j)),Sp.eq _ (.pointer (some ⟨w.heap.size,j,none⟩)),Sp.eq _ (.pointer (some ⟨w.heap.size,j,none⟩)),Sp.eq _ (.int .i32 (numS s)),Sp.eq _ (.int .i64 (numS s)),Sp.eq _ (.string s),Sp.eq _ (.agg #[.string (nmJ j),.string s]),spBox Wk #[.string (nmJ j),.string s] 60] (by kernel_rfl) (by kernel_rfl) ?_ ?_ ?_
      ·exact(Ext.refl Wk).drew
      ·refine⟨zj,zj,?_,?_,zj,zj,?_,?_,?_,zj,?_,trivial⟩
       ·intro vs w1' hJ hp
        have q1:vs 1=_:=zd hp 1
        have HJ:=zh hJ
        clear hp hJ
        simp only [List.take_succ_cons,List.take_zero,putAll,Nat.reduceAdd]
        go_wp2
        exact⟨rfl,HJ.out.alloc _,ext_alloc _ _,rfl,HJ.out.size,heap_alloc_new _ _⟩
       ·intro vs w1' hJ hp
        have q2:(spBox Wk #[.int .u8 x] 5).p (vs 2) w1':=zd hp 2
        have HJ:=zh hJ
        obtain⟨g2,hv2,hlo2,hb2⟩:∃g,vs 2=.slice (some ⟨g,0,none⟩) 1 1/\Wk.heap.size<=g/\w1'.heap[g]?=some (.cells #[.int .u8 x] 5 (0,0)):=⟨_,q2⟩
        have hcv:=conv_rd (rd_one hb2)
        rw [HNM.out]at hcv
        clear q2
        clear hp hJ
        simp only [List.take_succ_cons,List.take_zero,putAll,Nat.reduceAdd]
        rw [hv2]
        go_wp2
        exact⟨rfl,HJ.out,zr,rfl⟩
       ·intro vs w1' hJ hp
        have q5:vs 5=_:=zd hp 5
        have HJ:=zh hJ
        have hq:=hJ.cell HCB.out
        clear hp hJ
        simp only [List.take_succ_cons,List.take_zero,putAll,Nat.reduceAdd]
        go_wp2
        exact⟨rfl,HJ.out,zr,rfl⟩
       ·intro vs w1' hJ hp
        have q6:vs 6=_:=zd hp 6
        have hw64:IntKind.i64.wrap (numS s)=numS s:=by have:=HNU.out;rw [IntKind.wrap_i64];omega
        have HJ:=zh hJ
        clear hp hJ
        simp only [List.take_succ_cons,List.take_zero,putAll,Nat.reduceAdd]
        go_wp2
        exact⟨rfl,HJ.out,zr,rfl⟩
       ·intro vs w1' hJ hp
        have q7:vs 7=_:=zd hp 7
        have HJ:=zh hJ
        clear hp hJ
        simp only [List.take_succ_cons,List.take_zero,putAll,Nat.reduceAdd]
        go_wp2_with (go_at_call 78;refine(itoa78 s HDG.out _ (HTAB.out.ext (HXK.out.trans HJ.out))).mono ?_;rintro e w2' ⟨rfl,hx2⟩;have HX2:=zh hx2;clear hx2)
        exact⟨rfl,HJ.out.trans HX2.out,HX2.out,rfl⟩
       ·intro vs w1' hJ hp
        have q9:vs 9=_:=zd hp 9
        have HJ:=zh hJ
        clear hp hJ
        simp only [List.take_succ_cons,List.take_zero,putAll,Nat.reduceAdd]
        go_wp2
        exact⟨rfl,HJ.out.alloc _,ext_alloc _ _,rfl,HJ.out.size,heap_alloc_new _ _⟩
      ·intro vs w1' hJ hp
       have q0:vs 0=_:=zd hp 0
       have q1:vs 1=_:=zd hp 1
       have q2:(spBox Wk #[.int .u8 x] 5).p (vs 2) w1':=zd hp 2
       have q3:vs 3=_:=zd hp 3
       have q4:vs 4=_:=zd hp 4
       have q5:vs 5=_:=zd hp 5
       have q6:vs 6=_:=zd hp 6
       have q7:vs 7=_:=zd hp 7
       have q8:vs 8=_:=zd hp 8
       have q9:vs 9=_:=zd hp 9
       have q10:(spBox Wk #[.string (nmJ j),.string s] 60).p (vs 10) w1':=zd hp 10
       have HJ:=zh hJ
       obtain⟨g8,hv8,hlo8,hb8⟩:∃g,vs 10=.slice (some ⟨g,0,none⟩) 1 1/\Wk.heap.size<=g/\w1'.heap[g]?=some (.cells #[.string (nmJ j),.string s] 60 (0,0)):=⟨_,q10⟩
       obtain⟨v2,hv2⟩:∃v,vs 2=v:=⟨_,rfl⟩
       have HB8:=zh hb8
       have HRW:=zh (ownsRow_ext HRK.out hJ)
       have HBS:=zh (Nat.le_trans (HXK.out.size) hJ.size)
       clear hp hJ q2 q10 hb8
       simp only [List.take_succ_cons,List.take_zero,List.drop_succ_cons,List.drop_zero,putAll,Nat.reduceAdd,Act.put,q0,q1,q3,q4,q5,q6,q7,q8,q9,hv2,hv8,List.setIfInBounds_toArray,List.set_cons_zero,List.set_cons_succ]
       refine wpList_append_own _ rfl (.tmp 42) (.tmp 52) 28 rfl w1.heap.size 60 i0 _ 2 32 Tryz.underlying28 hi hz0 hz1 hz2 rfl (by decide) _ _ _ rfl HRW.out ⟨g8,0,none⟩ 1 1 [.string (nmJ j),.string s] rfl rfl (fun k u hu=>by rw [add_lit0,Nat.zero_add];exact zc HB8.out k u (by simpa using hu)) (by simp [Value.oneCell']) (by have:=HLE.out;unfold maxLen;omega) (by have:=HLE.out;omega) HBS.out ?_
       intro v' w3 hown' hg3 hnil3
       obtain⟨A9,c9,hv9⟩:=own_slice (own_zero hown')
       subst hv9
       have HOW:=zh hown'
       have HG3:=zh hg3
       clear hown' hg3 hnil3
       simp only [Act.put,List.setIfInBounds_toArray,List.set_cons_zero,List.set_cons_succ]
       go_wp2
       have hrgJ:=HRG2.out.kept (ext_grown HJ.out) (by simp) (by simp)
       have hrg3:=hrgJ.kept HG3.out (row_ne_map HRW.out hrgJ.owns) (row_ne_iter HRW.out hrgJ)
       go_roundw
       case rel=>
        have hOe:out++ [(nmJ j,s)]=X1++outE T (es++ [e]):=by rw [outE_snoc,HPE.out,HH.out.2.2.2];simp only [List.append_assoc]
        refine⟨_,cnt2,es++ [e],A9,c9,out++ [(nmJ j,s)],by rw [List.length_append];rfl,hrg3,zh ⟨HGS.out,(HXK.out.trans HJ.out).turned HG3.out (fun g hg=>(HRW.out.lt g hg).1),?_,hOe⟩,?_⟩
        ·rw [List.length_append,List.length_append];have:=HLE.out;simp only [List.length_cons,List.length_nil];omega
        ·rw [List.length_append,List.flatMap_append];exact HOW.out
       case measure=>rw [hrg3.left_eq,HRG.out.left_eq];exact hlt
  ·intro x p kl yd yp Wk cnt2 hkey hlk hv hat hrg2 hlt hg2 hs2 hen
   obtain⟨x',ex,rfl,_⟩:=Maps.keyOf_int_inv Tryz.underlying5 hkey
   obtain rfl:x=x':=by simpa using ex
   obtain⟨e,he,hex,hyd⟩:=pick_some (fun z=>(HAT1.out x z).symm.trans (hat z))
   obtain⟨j,hej⟩:∃j,j=e.2.2:=⟨_,rfl⟩
   have HEJ:=zh hej.symm
   have hpp:Value.pointer p=.pointer (some ⟨w.heap.size,j,none⟩):=rdP_lit (eb:=w.heap.size) (j:=j) (by rw [hv,hyd,hej])
   obtain rfl:p=some ⟨w.heap.size,j,none⟩:=by simpa using hpp
   have hj18:j < 18:=by rw [hej];exact tab73_lt e he
   have hjn:¬numJ j:=by rw [hej];exact tab73_num e he
   have hxj:x=ls18.getD j 0:=by rw [<-hex,hej];exact tab73_key e he
   have HNM:Hid (strOf [x]=nmJ j):=zh (by rw [hxj,<-sby_nm hj18,str_sby])
   have HGS:=zh (HH.out.1.step he (by rw [hex];exact hlk) apart73)
   rw [hex]at HGS
   have hxk:=HH.out.2.1.turned hg2 (fun g hg=>by have h9:=Option.some.inj hg;have:=HBASE1.out;omega)
   have HXK:=zh hxk
   have HRK:=zh (hrow.kept hg2 (Or.inr (row_ne_iter hrow hrg).symm))
   have HRG:=zh hrg
   have HRG2:=zh hrg2
   obtain⟨s,hsv⟩:∃s,s=T j:=⟨_,rfl⟩
   have HSV:=zh hsv.symm
   skip
   skip
   have hcb:=zc ((hxk.block _ (zl HBE.out)).trans HBE.out) j _ (cell_txt T hj18 hjn)
   rw [<-hsv]at hcb
   have HLE:Hid (out.length+1<=101/\out.length<=es.length):=zh (by have:=HH.out.2.2.1;have:=HH.out.1.le (by decide:tab73.length<=20);omega)
   clear hkey hv hat hs2 ex hpp hxk hrow hrg hrg2 hg2 hlk he hex hyd hej hj18 hjn hxj hsv
   rcases empty_or s with hse|⟨hne,hnz⟩
   ·have hem:s.toList.isEmpty=true:=by rw [hse];exact empty_is
    have HPE:Hid (prE T e=[]):=zh (by unfold prE;rw [HEJ.out,HSV.out,hse];rfl)
    clear hse
    skip
    go_wp2
    go_roundw
    case rel=>
     have hOe:out=outE T (es++ [e]):=by rw [outE_snoc,HPE.out,List.append_nil];exact HH.out.2.2.2
     exact⟨_,cnt2,es++ [e],A,c,out,rfl,HRG2.out,zh ⟨HGS.out,HXK.out,by rw [List.length_append];have:=HH.out.2.2.1;omega,hOe⟩,HRK.out⟩
    case measure=>rw [HRG2.out.left_eq,HRG.out.left_eq];exact hlt
   ·have HPE:Hid (prE T e=[(nmJ j,s)]):=zh (by unfold prE;rw [HEJ.out,HSV.out,if_neg hnz])
    have HCB:=zh hcb
    clear hnz
    go_wp2
    refine wp_region_cutT (J:=fun x=>Ext Wk x) (R:=Ext) 9 [Sp.eq _ (.slice A out.length c),Sp.eq _ (.int .u8 x),spBox Wk #[.int .u8 x] 5,Sp.eq _ (.string (nmJ j)),Sp.eq _ (.pointer (some ⟨w.heap.size,j,none⟩)),Sp.eq _ (.pointer (some ⟨w.heap.size,j,none⟩)),Sp.eq _ (.string s),Sp.eq _ (.agg #[.string (nmJ j),.string s]),spBox Wk #[.string (nmJ j),.string s] 60] (by kernel_rfl) (by kernel_rfl) ?_ ?_ ?_
    ·exact(Ext.refl Wk).drew
    ·refine⟨zj,zj,?_,?_,zj,zj,?_,zj,?_,trivial⟩
     ·intro vs w1' hJ hp
      have q1:vs 1=_:=zd hp 1
      have HJ:=zh hJ
      clear hp hJ
      simp only [List.take_succ_cons,List.take_zero,putAll,Nat.reduceAdd]
      go_wp2
      exact⟨rfl,HJ.out.alloc _,ext_alloc _ _,rfl,HJ.out.size,heap_alloc_new _ _⟩
     ·intro vs w1' hJ hp
      have q2:(spBox Wk #[.int .u8 x] 5).p (vs 2) w1':=zd hp 2
      have HJ:=zh hJ
      obtain⟨g2,hv2,hlo2,hb2⟩:∃g,vs 2=.slice (some ⟨g,0,none⟩) 1 1/\Wk.heap.size<=g/\w1'.heap[g]?=some (.cells #[.int .u8 x] 5 (0,0)):=⟨_,q2⟩
      have hcv:=conv_rd (rd_one hb2)
      rw [HNM.out]at hcv
      clear q2
      clear hp hJ
      simp only [List.take_succ_cons,List.take_zero,putAll,Nat.reduceAdd]
      rw [hv2]
      go_wp2
      exact⟨rfl,HJ.out,zr,rfl⟩
     ·intro vs w1' hJ hp
      have q5:vs 5=_:=zd hp 5
      have HJ:=zh hJ
      have hq:=hJ.cell HCB.out
      clear hp hJ
      simp only [List.take_succ_cons,List.take_zero,putAll,Nat.reduceAdd]
      go_wp2
      exact⟨rfl,HJ.out,zr,rfl⟩
     ·intro vs w1' hJ hp
      have q7:vs 7=_:=zd hp 7
      have HJ:=zh hJ
      clear hp hJ
      simp only [List.take_succ_cons,List.take_zero,putAll,Nat.reduceAdd]
      go_wp2
      exact⟨rfl,HJ.out.alloc _,ext_alloc _ _,rfl,HJ.out.size,heap_alloc_new _ _⟩
    ·intro vs w1' hJ hp
     have q0:vs 0=_:=zd hp 0
     have q1:vs 1=_:=zd hp 1
     have q2:(spBox Wk #[.int .u8 x] 5).p (vs 2) w1':=zd hp 2
     have q3:vs 3=_:=zd hp 3
     have q4:vs 4=_:=zd hp 4
     have q5:vs 5=_:=zd hp 5
     have q6:vs 6=_:=zd hp 6
     have q7:vs 7=_:=zd hp 7
     have q8:(spBox Wk #[.string (nmJ j),.string s] 60).p (vs 8) w1':=zd hp 8
     have HJ:=zh hJ
     obtain⟨g8,hv8,hlo8,hb8⟩:∃g,vs 8=.slice (some ⟨g,0,none⟩) 1 1/\Wk.heap.size<=g/\w1'.heap[g]?=some (.cells #[.string (nmJ j),.string s] 60 (0,0)):=⟨_,q8⟩
     obtain⟨v2,hv2⟩:∃v,vs 2=v:=⟨_,rfl⟩
     have HB8:=zh hb8
     have HRW:=zh (ownsRow_ext HRK.out hJ)
     have HBS:=zh (Nat.le_trans (HXK.out.size) hJ.size)
     clear hp hJ q2 q8 hb8
     simp only [List.take_succ_cons,List.take_zero,List.drop_succ_cons,List.drop_zero,putAll,Nat.reduceAdd,Act.put,q0,q1,q3,q4,q5,q6,q7,hv2,hv8,List.setIfInBounds_toArray,List.set_cons_zero,List.set_cons_succ]
     refine wpList_append_own _ rfl (.tmp 21) (.tmp 29) 28 rfl w1.heap.size 60 i0 _ 2 32 Tryz.underlying28 hi hz0 hz1 hz2 rfl (by decide) _ _ _ rfl HRW.out ⟨g8,0,none⟩ 1 1 [.string (nmJ j),.string s] rfl rfl (fun k u hu=>by rw [add_lit0,Nat.zero_add];exact zc HB8.out k u (by simpa using hu)) (by simp [Value.oneCell']) (by have:=HLE.out;unfold maxLen;omega) (by have:=HLE.out;omega) HBS.out ?_
     intro v' w3 hown' hg3 hnil3
     obtain⟨A9,c9,hv9⟩:=own_slice (own_zero hown')
     subst hv9
     have HOW:=zh hown'
     have HG3:=zh hg3
     clear hown' hg3 hnil3
     simp only [Act.put,List.setIfInBounds_toArray,List.set_cons_zero,List.set_cons_succ]
     go_wp2
     have hrgJ:=HRG2.out.kept (ext_grown HJ.out) (by simp) (by simp)
     have hrg3:=hrgJ.kept HG3.out (row_ne_map HRW.out hrgJ.owns) (row_ne_iter HRW.out hrgJ)
     go_roundw
     case rel=>
      have hOe:out++ [(nmJ j,s)]=outE T (es++ [e]):=by rw [outE_snoc,HPE.out,HH.out.2.2.2]
      refine⟨_,cnt2,es++ [e],A9,c9,out++ [(nmJ j,s)],by rw [List.length_append];rfl,hrg3,zh ⟨HGS.out,(HXK.out.trans HJ.out).turned HG3.out (fun g hg=>(HRW.out.lt g hg).1),?_,hOe⟩,?_⟩
      ·rw [List.length_append,List.length_append];have:=HLE.out;simp only [List.length_cons,List.length_nil];omega
      ·rw [List.length_append,List.flatMap_append];exact HOW.out
     case measure=>rw [hrg3.left_eq,HRG.out.left_eq];exact hlt
open Go.RowKit Go.Maps Og
structure StS (b mb:Nat) (wd w:World) (N p:Nat) (xs R:List Int) (k:Nat) (ps:List Pr):Prop where
 len:N=p+R.length
 rest:xs.drop p=R
 tl:R=(ps.drop k).flatMap prB++ [0]
 bel:ExtBut b wd w
 blk:w.heap[b]?=some (.cells #[.int .u32 196608,.map (some mb)] 152 (0,0))
 own:w.ownsMap Tryz.prog 9 (plainElem (H:=Unit) Tryz.prog 9) mb k (mapOf (ps.take k))
 lo:wd.heap.size<=mb
theorem prB_lenS (p:Pr):(prB p).length=(sby p.1).length+1+((sby p.2).length+1):=by
 simp only [prB,txt,List.length_append,List.length_cons,List.length_nil]
theorem prB_lenT:∀(l:List Pr),2 * l.length<=(l.flatMap prB).length
 | []=>Nat.le_refl _
 | p :: r=>by
   rw [List.flatMap_cons,List.length_append,prB_lenS,List.length_cons]
   have:=prB_lenT r
   omega
theorem ExtBut.grown2 {b mb:Nat} {wd w w':World} (h:ExtBut b wd w)(hg:w.grownBy w' (some mb))(hlo:wd.heap.size<=mb):ExtBut b wd w':=
 ⟨hg.os.trans h.os,hg.tape.trans h.tape,hg.output.trans h.output,Nat.le_trans h.size hg.size,fun k hk hkb=>(hg.block k (Nat.lt_of_lt_of_le hk h.size) (fun e=>by have:=Option.some.inj e;omega)).trans (h.block k hk hkb)⟩
set_option maxHeartbeats 8000000 in
theorem dek18 (ps:List Pr)(hlp:ps.length<=20)(hm:∀y∈ps,plainP y.1/\plainP y.2)(hne:ps≠[])(wd:World)(b:Nat)(v:Value)(hb:wd.heap[b]?=some (.cells #[.int .u32 0,.map none] 152 (0,0)))(hv:RdB wd v (numB 196608 4++(ps.flatMap prB++ [0])))(hl:(numB 196608 4++(ps.flatMap prB++ [0])).length<=100000)(hof:v.ownBlock≠some b):
 Calls Tryz.prog 190 #[.pointer (some ⟨b,0,none⟩),v] wd (Deced b (fun b w2=>∃mb nn,w2.heap[b]?=some (.cells #[.int .u32 196608,.map (some mb)] 152 (0,0))/\w2.ownsMap Tryz.prog 9 (plainElem (H:=Unit) Tryz.prog 9) mb nn (mapOf ps)/\nn<=20) wd):=by
 obtain⟨R0,hR0⟩:∃R,R=ps.flatMap prB++ [0]:=⟨_,rfl⟩
 rw [<-hR0]at hv hl
 obtain⟨xs0,hxs0⟩:∃y,y=numB 196608 4++R0:=⟨_,rfl⟩
 rw [<-hxs0]at hv hl
 obtain⟨A,c9,hvA⟩:=hv.len
 subst hvA
 obtain⟨N,hN⟩:∃m,m=xs0.length:=⟨_,rfl⟩
 have hNl:N=4+R0.length:=by rw [hN,hxs0,List.length_append,numB_len]
 have HV:Hid (RdN b wd (.slice A N c9) xs0):=zh (by rw [hN];exact⟨hv,fun _=>hof⟩)
 have HLT:=zh (zl hb)
 have HBK:=zh hb
 have HX:Hid (ExtBut b wd wd):=zh (Ext.refl wd).but
 have HM:=zh hm
 have HR0:=zh hR0
 have hps0:0 < ps.length:=List.length_pos_iff.2 hne
 have hck0:=zc hb 0 _ rfl
 have hfk0:=free_slot hb 0
 have hck1:=zc hb 1 _ rfl
 have hfk1:=free_slot hb 1
 have hcap:=hv.parts.2.1
 have HCM:=zh hv.parts.2.2
 rw [<-hN]at hcap hl
 rw [<-hN]
 obtain⟨b1,o1,hA⟩:∃b1 o1,A=some ⟨b1,o1,none⟩:=by
  obtain⟨A',c',hv',_,_,h3⟩:=hv
  obtain⟨rfl,_⟩:A=A'/\_:=by simpa using hv'
  obtain⟨b1,o1,hA,_⟩:=h3 (by omega)
  exact⟨b1,o1,hA⟩
 subst hA
 have HVa:Hid (RdN b wd (.slice (some ⟨b1,o1,none⟩) N c9) (numB 196608 4++R0)):=zh (by have h9:=HV.out;rwa [hxs0]at h9)
 have HP4:Hid (xs0.drop 4=R0):=zh (by rw [hxs0];exact drop_numB _ _ _)
 have HLP:Hid (N=4+R0.length):=zh hNl
 have h4:¬N < 4:=by omega
 have hmk:=fun w=>run_makeMap (P:=Tryz.prog) 150 w
 clear hv hof hb hm hN hxs0 hR0 hNl hne
 go_enter Tryz.func190,Tryz.ntmps190
 go_wp2_with (go_at_call 138;refine(rd32n 196608 (by decide) _ _ _ R0 _ (HVa.out.at_ HX.out).1).mono ?_;rintro e w3 ⟨rfl,hx3⟩;have HXn:Hid (ExtBut b wd w3):=zh (HX.out.trans hx3.but);have HBn:Hid (w3.heap[b]?=some (.cells #[.int .u32 0,.map none] 152 (0,0))):=zh ((hx3.block b HLT.out).trans HBK.out);clear HX HBK hck0 hck1 hfk0 hfk1 hx3;have HX:=HXn;have HBK:=HBn;clear HXn HBn;have hck0:=zc HBK.out 0 _ rfl;have hfk0:=free_slot HBK.out 0;have hbm:=((ext_alloc (w3.setCell ⟨b,0,none⟩ (.int .u32 196608)) (.map #[] 0)).block b (zl (slot_setCell HBK.out))).trans (slot_setCell HBK.out);have hmk1:=zc hbm 1 (.map none) rfl;have hmf1:=free_slot hbm 1;clear hbm)
 go_loopw [5] (fun rp wr=>∃k p:Nat,k < ps.length/\rp=.int .i64 p/\∃R,Hid (StS b w3.heap.size wd wr N p xs0 R k ps)) (fun rp _=>N - (intOf rp).toNat)
 case atStart=>
  refine⟨0,4,hps0,rfl,R0,zh ⟨HLP.out,HP4.out,HR0.out,?_,?_,?_,HX.out.size⟩⟩
  ·exact((HX.out.set 0 (.int .u32 196608)).trans (ext_alloc _ _).but).set 1 _
  ·exact slot_setCell (j:=1) (((ext_alloc (w3.setCell ⟨b,0,none⟩ (.int .u32 196608)) (.map #[] 0)).block b (zl (slot_setCell HBK.out))).trans (slot_setCell (j:=0) HBK.out))
  ·have h9:=own_map (World.ownsMap_made (w3.setCell ⟨b,0,none⟩ (.int .u32 196608)) _ _ _) (w':=((w3.setCell ⟨b,0,none⟩ (.int .u32 196608)).alloc (.map #[] 0)).setCell ⟨b,1,none⟩ (.map (some w3.heap.size))) (heap_setCell_other _ _ _ _ (by have:=zl HBK.out;simp [World.setCell];omega))
   have hsz:(w3.setCell ⟨b,0,none⟩ (.int .u32 196608)).heap.size=w3.heap.size:=by simp [World.setCell]
   rw [hsz]at h9
   exact h9
 case round=>
  clear HX HBK hck0 hfk0 hmk1 hmf1 hmk h4
  obtain⟨k,p,hk1,rfl,R,HH⟩:=hrel
  have hpp:=HM.out _ (List.getElem_mem hk1)
  obtain⟨⟨x1,x2⟩,hx⟩:∃x,x=ps[k]:=⟨_,rfl⟩
  rw [<-hx]at hpp
  have HXX:=zh hx
  have hS0:=HH.out.tl
  rw [List.drop_eq_getElem_cons hk1,List.flatMap_cons,<-hx]at hS0
  obtain⟨R2,hR2⟩:∃R2,R2=(ps.drop (k+1)).flatMap prB++ [0]:=⟨_,rfl⟩
  obtain⟨R1,hR1⟩:∃R1,R1=sby x2++0 :: R2:=⟨_,rfl⟩
  have hRe:R=sby x1++0 :: R1:=by rw [hS0,hR1,hR2];simp only [prB,txt,List.append_assoc,List.cons_append,List.nil_append]
  have hl1:R.length=(sby x1).length+1+R1.length:=by rw [hRe];simp only [List.length_append,List.length_cons];omega
  have hl2:R1.length=(sby x2).length+1+R2.length:=by rw [hR1];simp only [List.length_append,List.length_cons];omega
  have HLE:=zh HH.out.len
  have HS1:Hid (x1.size<=maxLen):=zh (by have:=hpp.1.1;simp only []at this;unfold maxLen;omega)
  have HS2:Hid (x2.size<=maxLen):=zh (by have:=hpp.2.1;simp only []at this;unfold maxLen;omega)
  have HP1:=zh (plain_pos hpp.1)
  have HP2:=zh (plain_pos hpp.2)
  have hpN:p<=N:=by have:=HLE.out;omega
  have hNp:N - p=R.length:=by have:=HLE.out;omega
  obtain⟨A3,c3,hs3,hr3⟩:=sl_at (some ⟨b1,o1,none⟩) N c9 p hpN hcap HCM.out
  have HQ3:Hid (RdB wr (.slice A3 R.length c3) (sby x1++0 :: R1)):=zh (by have h9:=(hr3 b wd xs0 HV.out).at_ HH.out.bel;rw [HH.out.rest,hNp]at h9;rw [<-hRe];exact h9.1)
  rw [hNp]at hs3
  obtain⟨A4,c4,hs4,hr4⟩:=sl_midr (some ⟨b1,o1,none⟩) N c9 p (sby x1).length (by have:=HLE.out;omega) hcap HCM.out
  have hcv1:(convert 26 9 (.slice A4 (sby x1).length c4)).run Tryz.prog wr=.ok (.string x1) wr:=by
   have h9:=(hr4 b wd xs0 HV.out).at_ HH.out.bel
   rw [HH.out.rest,hRe,List.take_left]at h9
   have h8:=conv_rd h9.1
   rwa [str_sby]at h8
  have hd1:xs0.drop (p+((sby x1).length+1))=R1:=drop_step (B:=sby x1++ [0]) (by rw [HH.out.rest,hRe];simp) (by simp)
  have hN1:N - (p+((sby x1).length+1))=R1.length:=by have:=HLE.out;omega
  obtain⟨A5,c5,hs5,hr5⟩:=sl_at (some ⟨b1,o1,none⟩) N c9 (p+((sby x1).length+1)) (by have:=HLE.out;omega) hcap HCM.out
  have HQ5:Hid (RdB wr (.slice A5 R1.length c5) (sby x2++0 :: R2)):=zh (by have h9:=(hr5 b wd xs0 HV.out).at_ HH.out.bel;rw [hd1,hN1]at h9;rw [<-hR1];exact h9.1)
  rw [hN1]at hs5
  obtain⟨A6,c6,hs6,hr6⟩:=sl_midr (some ⟨b1,o1,none⟩) N c9 (p+((sby x1).length+1)) (sby x2).length (by have:=HLE.out;omega) hcap HCM.out
  have hcv2:(convert 26 9 (.slice A6 (sby x2).length c6)).run Tryz.prog wr=.ok (.string x2) wr:=by
   have h9:=(hr6 b wd xs0 HV.out).at_ HH.out.bel
   rw [hd1,hR1,List.take_left]at h9
   have h8:=conv_rd h9.1
   rwa [str_sby]at h8
  have hd2:xs0.drop (p+((sby x1).length+1)+((sby x2).length+1))=R2:=drop_step (B:=sby x2++ [0]) (by rw [hd1,hR1];simp) (by simp)
  have HD2:=zh hd2
  have hN2:N - (p+((sby x1).length+1)+((sby x2).length+1))=R2.length:=by have:=HLE.out;omega
  obtain⟨A7,c7,hs7,hr7⟩:=sl_at (some ⟨b1,o1,none⟩) N c9 (p+((sby x1).length+1)+((sby x2).length+1)) (by have:=HLE.out;omega) hcap HCM.out
  rw [hN2]at hs7
  have hcp1:p+(sby x1).length<=c9:=by have:=HLE.out;omega
  have hcp2:p+((sby x1).length+1)+(sby x2).length<=c9:=by have:=HLE.out;omega
  have HL2:Hid (N=p+((sby x1).length+1)+((sby x2).length+1)+R2.length):=zh (by have:=HLE.out;omega)
  have HOWN:=zh HH.out.own
  have hbl1:=zc HH.out.blk 1 (.map (some w3.heap.size)) rfl
  have HNX:Hid (∀w9,wr.grownBy w9 (some w3.heap.size)->w9.ownsMap Tryz.prog 9 (plainElem (H:=Unit) Tryz.prog 9) w3.heap.size (k+1) ((mapOf (ps.take k)).put (.string (kb x1)) (.lit (.string (kb x2))))->k+1<=ps.length/\StS b w3.heap.size wd w9 N (p+((sby x1).length+1)+((sby x2).length+1)) xs0 R2 (k+1) ps):=zh (fun w9 hg h9=>⟨hk1,HL2.out,HD2.out,hR2,HH.out.bel.grown2 hg HH.out.lo,(hg.block b (zl HH.out.blk) (fun e=>by have h7:=Option.some.inj e;have:=HLT.out;have:=HH.out.lo;omega)).trans HH.out.blk,by rw [take_snoc1 ps k hk1,<-HXX.out,mapOf_snoc];exact h9,HH.out.lo⟩)
  by_cases hlast:k+1=ps.length
  ·have hR20:R2=[0]:=by rw [hR2,hlast,List.drop_length];rfl
   have heq:((R2.length:Int) == 1)=true:=by rw [hR20];rfl
   have heq2:R2.length=1:=by rw [hR20];rfl
   have HCZ:Hid (∀w',ExtBut b wd w'->w'.cell? ⟨b1,o1+(p+((sby x1).length+1)+((sby x2).length+1)),none⟩=some (.int .u8 0)):=zh (fun w' hw=>by
    obtain⟨A',c',hv',_,_,h3⟩:=(HV.out.at_ hw).1
    obtain⟨rfl,_⟩:(some ⟨b1,o1,none⟩)=A'/\_:=by simpa using hv'
    have hlt:p+((sby x1).length+1)+((sby x2).length+1) < xs0.length:=by
     have h8:=congrArg List.length hd2
     rw [List.length_drop,hR20]at h8
     simp at h8
     omega
    obtain⟨b2,o2,hA2,h4⟩:=h3 (by omega)
    obtain⟨rfl,rfl⟩:b1=b2/\o1=o2:=by simpa using hA2
    rw [h4 _ hlt]
    have h7:xs0.getD (p+((sby x1).length+1)+((sby x2).length+1)) 0=0:=by
     have h8:=congrArg (fun l=>l.getD 0 0) hd2
     simp only [hR20]at h8
     rw [List.getD_eq_getElem?_getD,List.getElem?_drop,Nat.add_zero]at h8
     simpa using h8
    rw [h7])
   have hpc:p+((sby x1).length+1)+((sby x2).length+1) < N:=by have:=HL2.out;omega
   clear hS0 hx hR2 hR1 hRe hl1 hl2 hr3 hr4 hr5 hr6 hr7 hd1 hd2 hR20 hpp heq2 hNp hN1 hN2
   go_wp2_with (first|(go_at_call_of 136 A3;refine(idx_found _ _ _ _ _ _ HQ3.out HP1.out).mono ?_;rintro e w4 ⟨rfl,hw4⟩;rw [hw4];clear hw4)|(go_at_call_of 136 A5;refine(idx_found _ _ _ _ _ _ HQ5.out HP2.out).mono ?_;rintro e w4 ⟨rfl,hw4⟩;rw [hw4];clear hw4)|(at_mapUpdate;refine wpList_mapUpdate_own _ rfl _ _ _ 150 rfl 9 9 lawS Tryz.underlying150 _ w3.heap.size k _ rfl HOWN.out (by unfold maxLen;omega) _ _ (.string (kb x1)) rfl rfl (key_of _ HS1.out) (.lit (.string (kb x2))) [] (elem_of _ HS2.out) ?_;intro w9 hown9 hg9;have HST:=zh (HNX.out w9 hg9 hown9);clear hown9 hg9;have hcz:=HCZ.out w9 HST.out.2.bel))
   go_ret
   refine⟨rfl,HST.out.2.bel,_,_,HST.out.2.blk,?_,by omega⟩
   have h9:=HST.out.2.own
   rwa [hlast,List.take_length]at h9
  ·have hge:3<=R2.length:=by
    rw [hR2,List.length_append]
    have h9:=prB_lenT (ps.drop (k+1))
    rw [List.length_drop]at h9
    simp only [List.length_cons,List.length_nil]
    omega
   have heq:((R2.length:Int) == 1)=false:=beq_eq_false_iff_ne.2 (by omega)
   have heq2:¬((R2.length:Int)=1):=by omega
   have HKL:Hid (k+1 < ps.length):=zh (by omega)
   have hpc:p+((sby x1).length+1)+((sby x2).length+1) < N:=by have:=HL2.out;omega
   clear hS0 hx hR2 hR1 hRe hl1 hl2 hr3 hr4 hr5 hr6 hr7 hd1 hd2 hpp hNp hN1 hN2
   go_wp2_with (first|(go_at_call_of 136 A3;refine(idx_found _ _ _ _ _ _ HQ3.out HP1.out).mono ?_;rintro e w4 ⟨rfl,hw4⟩;rw [hw4];clear hw4)|(go_at_call_of 136 A5;refine(idx_found _ _ _ _ _ _ HQ5.out HP2.out).mono ?_;rintro e w4 ⟨rfl,hw4⟩;rw [hw4];clear hw4)|(at_mapUpdate;refine wpList_mapUpdate_own _ rfl _ _ _ 150 rfl 9 9 lawS Tryz.underlying150 _ w3.heap.size k _ rfl HOWN.out (by unfold maxLen;omega) _ _ (.string (kb x1)) rfl rfl (key_of _ HS1.out) (.lit (.string (kb x2))) [] (elem_of _ HS2.out) ?_;intro w9 hown9 hg9;have HST:=zh (HNX.out w9 hg9 hown9);clear hown9 hg9))
   go_roundw
   case rel=>exact⟨k+1,p+((sby x1).length+1)+((sby x2).length+1),HKL.out,by go_num,R2,zh HST.out.2⟩
   case measure=>have:=HL2.out;simp only [intOf];omega
end Go.Proofs.YtdenjanihikolaaGreatDoor
