/- ReadPairs, by contract: the pairs of a body, in the order of their names. -/
import Derived.Test.YtdenjanihikolaaGreatDoorRqA0
import Derived.Test.YtdenjanihikolaaGreatDoorRqA1
import Derived.Test.YtdenjanihikolaaGreatDoorRqMkb
import Derived.Test.YtdenjanihikolaaGreatDoorRqDok
import Derived.Test.YtdenjanihikolaaGreatDoorRqSmu
import Derived.Test.YtdenjanihikolaaGreatDoorRqOg
import Derived.BigQuiet
import Derived.Test.YtdenjanihikolaaGreatDoorRqPpc
namespace Go.Proofs.YtdenjanihikolaaGreatDoor
set_option linter.unusedVariables false
set_option linter.unusedSimpArgs false
set_option maxRecDepth 100000
open Go.RowKit Og
theorem sl_midr (A:Option Addr)(N c p n:Nat)(hp:p+n<=N)(hN:N<=c)(hc:c<=maxLen):∃A' c',(∀(i j:Int) (w:World),i=(p:Int)->j=(p:Int)+(n:Int)->(Instr.slice 26 (.slice A N c) (some (.int .i64 i)) (some (.int .i64 j)) none).run Tryz.prog w=.ok (.slice A' n c') w)/\∀(b:Nat) (w:World) (xs:List Int),RdN b w (.slice A N c) xs->RdN b w (.slice A' n c') ((xs.drop p).take n):=by
 obtain⟨A1,c1,h1,h2⟩:=sl_at A N c p (by omega) hN hc
 have h3:∃A' c',(∀(i j:Int) (w:World),i=(p:Int)->j=(p:Int)+(n:Int)->(Instr.slice 26 (.slice A N c) (some (.int .i64 i)) (some (.int .i64 j)) none).run Tryz.prog w=.ok (.slice A' n c') w)/\((c=p/\A'=A/\c'=c - p)∨(A'=A.map (·.add p)/\c'=c - p)):=by
  refine⟨if c=p then A else A.map (·.add p),c - p,fun i j w hi hj=>?_,?_⟩
  ·subst hi;subst hj
   rw [run_slice_lh (P:=Tryz.prog) w 26 A N c Tryz.underlying26 .i64 .i64 p ((p:Int)+(n:Int)) (by omega) (by omega) (by omega)]
   have hs:(sizeOf (Tryz.prog.elem 26)).run Tryz.prog w=.ok 1 w:=by
    obtain⟨i0,hi,hz0,hz1,hz2⟩:=info_parts info5
    simp [sizeOf,typeInfo,show Tryz.prog.elem 26=5 from by kernel_rfl,hi,hz1]
   rw [hs]
   have h9:((p:Int)+(n:Int)).toNat=p+n:=by omega
   simp [Result.andThen,sliced,h9]
  ·by_cases e:c=p
   ·rw [if_pos e];exact .inl ⟨e,rfl,rfl⟩
   ·rw [if_neg e];exact .inr ⟨rfl,rfl⟩
 obtain⟨A',c',h4,h5⟩:=h3
 refine⟨A',c',h4,fun b w xs h=>?_⟩
 obtain⟨rfl,h6,h7⟩:=h.1.parts
 rcases h5 with ⟨e,rfl,rfl⟩|⟨rfl,rfl⟩
 ·exact RdN.none A' n (c - p) _ (by rw [show n=0 by omega];rfl) (by omega) (by omega)
 ·exact h.sub (l:=p) (n:=n) (by omega) (fun _=>rfl) (c - p) (by omega)
def mkH (m:Nat) (w:World):World:=w.alloc (.cells (madeCells #[.int .i16 0] m) 243)
def mkV (m:Nat) (w:World):World:=w.alloc (.cells (madeCells #[.slice none 0 0] m) 26)
theorem mkH_run (m:Nat)(hm:m<=1000)(w:World):(Instr.makeSlice 102 (.int .i64 m) (.int .i64 m)).run Tryz.prog w=.ok (.slice (some ⟨w.heap.size,0,none⟩) m m) (mkH m w):=by
 obtain⟨i0,hi,hz0,hz1,hz2⟩:=info_parts info243
 have h9:=run_makeSlice (P:=Tryz.prog) w 102 243 i0 _ Tryz.underlying102 hi hz0 .i64 .i64 (m:Int) (m:Int) (by omega) (by omega) (by rw [hz1];omega) (by rw [hz2];omega) (by omega)
 rw [h9,hz1]
 simp only [Int.toNat_natCast,Nat.mul_one]
 rfl
theorem mkV_run (m:Nat)(hm:m<=1000)(w:World):(Instr.makeSlice 104 (.int .i64 m) (.int .i64 m)).run Tryz.prog w=.ok (.slice (some ⟨w.heap.size,0,none⟩) m m) (mkV m w):=by
 obtain⟨i0,hi,hz0,hz1,hz2⟩:=info_parts info26
 have h9:=run_makeSlice (P:=Tryz.prog) w 104 26 i0 _ Tryz.underlying104 hi hz0 .i64 .i64 (m:Int) (m:Int) (by omega) (by omega) (by rw [hz1];omega) (by rw [hz2];omega) (by omega)
 rw [h9,hz1]
 simp only [Int.toNat_natCast,Nat.mul_one]
 rfl
theorem mkH_ext (m:Nat)(w:World):Ext w (mkH m w):=ext_alloc w _
theorem mkV_ext (m:Nat)(w:World):Ext w (mkV m w):=ext_alloc w _
section
variable {b g : Nat} {wd w w2 : World} {cs0 : Array Value} {te : TypeId} {m N : Nat} {xs : List Int} {p : Nat} {R R2 B T T2 : List Int} {cs : Array Value}
end
open Go.RowKit
abbrev Pr:Type:=ByteArray×ByteArray
def nmJ (i:Nat):ByteArray:=⟨#[UInt8.ofNat (ls18.getD i 0).toNat]⟩
def qsOf (T:Nat->ByteArray):List Pr:=(List.range 18).flatMap fun i=>if (T i).size=0 then []else [(nmJ i,T i)]
theorem sby_nm {i:Nat} (h:i < 18):sby (nmJ i)=[ls18.getD i 0]:=by
 rcases cases18 h with rfl|rfl|rfl|rfl|rfl|rfl|rfl|rfl|rfl|rfl|rfl|rfl|rfl|rfl|rfl|rfl|rfl|rfl <;> rfl
theorem flT_qs (T:Nat->ByteArray):flT T=(qsOf T).flatMap erB:=by
 unfold flT qsOf
 rw [List.flatMap_assoc]
 have h:∀l:List Nat,(∀i∈l,i < 18)->(l.flatMap fun i=>flB (ls18.getD i 0) (T i))=l.flatMap fun i=>(if (T i).size=0 then []else [(nmJ i,T i)]).flatMap erB:=by
  intro l
  induction l with
  | nil=>intro _;rfl
  | cons a r ih=>
    intro hl
    simp only [List.flatMap_cons]
    rw [ih fun i hi=>hl i (by simp [hi])]
    congr 1
    by_cases e:(T a).size=0
    ·rw [if_pos e];unfold flB;rw [if_pos e];rfl
    ·rw [if_neg e,flB_some _ _ e]
     simp only [List.flatMap_cons,List.flatMap_nil,List.append_nil,erB,txt]
     rw [sby_nm (hl a (by simp)),List.append_assoc]
 exact h _ fun i hi=>List.mem_range.1 hi
theorem name_of {x:ByteArray} (h:letP x) {j:Nat} (hj:slotC (cOf x)=j):x=nmJ j:=by
 obtain⟨i,hi,he⟩:=h
 have e2:x.data.toList=[UInt8.ofNat (ls18.getD i 0).toNat]:=by
  rw [<-ByteArray.toList_eq,he,ByteArray.toList_eq]
  rcases cases18 hi with rfl|rfl|rfl|rfl|rfl|rfl|rfl|rfl|rfl|rfl|rfl|rfl|rfl|rfl|rfl|rfl|rfl|rfl <;> rfl
 have e3:cOf x=ls18.getD i 0:=by
  unfold cOf
  rw [e2]
  rcases cases18 hi with rfl|rfl|rfl|rfl|rfl|rfl|rfl|rfl|rfl|rfl|rfl|rfl|rfl|rfl|rfl|rfl|rfl|rfl <;> rfl
 rw [e3,slot_at hi]at hj
 subst hj
 cases x with
 | mk d=>
   unfold nmJ
   simp only []at e2
   rw [<-Array.toList_inj.1 (show d.toList=(#[UInt8.ofNat (ls18.getD i 0).toNat]).toList from e2)]
def tFrom (T:Nat->ByteArray) (ps:List Pr):Nat->ByteArray:=ps.foldl (fun T p=>updT T (slotC (cOf p.1)) p.2) T
theorem qs_upd (T:Nat->ByteArray) {j:Nat} (hj:j < 18)(v:ByteArray)(hT:(T j).size=0)(hv:v.size≠0):(qsOf (updT T j v)).Perm ((nmJ j,v) :: qsOf T):=by
 unfold qsOf
 have h:∀l:List Nat,l.Nodup->j∈l->(l.flatMap fun i=>if (updT T j v i).size=0 then []else [(nmJ i,updT T j v i)]).Perm ((nmJ j,v) :: l.flatMap fun i=>if (T i).size=0 then []else [(nmJ i,T i)]):=by
  intro l
  induction l with
  | nil=>intro _ h;cases h
  | cons a r ih=>
    intro hn hm
    obtain⟨hn1,hn2⟩:=List.nodup_cons.1 hn
    simp only [List.flatMap_cons]
    by_cases e:a=j
    ·subst e
     have h1:updT T a v a=v:=by simp [updT]
     rw [h1,if_neg hv,if_pos hT,List.nil_append,List.singleton_append]
     have h2:∀s:List Nat,a∉s->(s.flatMap fun i=>if (updT T a v i).size=0 then []else [(nmJ i,updT T a v i)])=s.flatMap fun i=>if (T i).size=0 then []else [(nmJ i,T i)]:=by
      intro s
      induction s with
      | nil=>intro _;rfl
      | cons b t iht=>
        intro hs
        have hb:b≠a:=fun e=>hs (by simp [e])
        have h3:updT T a v b=T b:=by simp [updT,hb]
        simp only [List.flatMap_cons,h3]
        rw [iht fun h=>hs (by simp [h])]
     rw [h2 r hn1]
    ·have hm2:j∈r:=by
      rcases List.mem_cons.1 hm with h|h
      ·exact absurd h.symm e
      ·exact h
     have h1:updT T j v a=T a:=by simp [updT,e]
     rw [h1]
     exact((ih hn2 hm2).append_left _).trans List.perm_middle
 exact h _ List.nodup_range (List.mem_range.2 hj)
theorem qs_from:∀(ps:List Pr) (T:Nat->ByteArray),(∀y∈ps,letP y.1/\y.2.size≠0)->ps.Pairwise (fun p q=>p.1≠q.1)->(∀y∈ps,(T (slotC (cOf y.1))).size=0)->(qsOf (tFrom T ps)).Perm (ps++qsOf T)
 | [],T,_,_,_=>List.Perm.refl _
 | p :: r,T,h,hd,hT=>by
   obtain⟨h1,h2⟩:=List.pairwise_cons.1 hd
   obtain⟨j,hj,hc,_⟩:=let_of (h p (by simp)).1
   have hs:slotC (cOf p.1)=j:=by rw [hc,slot_at hj]
   have hnm:=name_of (h p (by simp)).1 hs
   have h3:=qs_from r (updT T (slotC (cOf p.1)) p.2) (fun y hy=>h y (by simp [hy])) h2 (fun y hy=>by
    have h4:slotC (cOf y.1)≠slotC (cOf p.1):=by
     intro e
     refine h1 y hy ?_
     rw [hs]at e
     rw [hnm,name_of (h y (by simp [hy])).1 e]
    simp only [updT,if_neg h4]
    exact hT y (by simp [hy]))
   refine h3.trans ?_
   have h5:=qs_upd T hj p.2 (by rw [<-hs];exact hT p (by simp)) (h p (by simp)).2
   rw [hs]
   refine(h5.append_left r).trans ?_
   have e:p=(nmJ j,p.2):=by rw [<-hnm]
   rw [List.cons_append]
   conv=>rhs;rw [e]
   exact List.perm_middle
theorem Srt.names {ps:List Pr} (h:Srt ps):ps.Pairwise (fun p q=>p.1≠q.1):=h.ne.imp fun h e=>h (by rw [e])
theorem qs_perm {ps:List Pr} (h:∀y∈ps,letP y.1/\y.2.size≠0)(hs:Srt ps):(qsOf (tOf ps)).Perm ps:=by
 have h1:=qs_from ps (fun _=>⟨#[]⟩) h hs.names (fun _ _=>rfl)
 have h2:qsOf (fun _=>⟨#[]⟩)=[]:=rfl
 rw [h2,List.append_nil]at h1
 exact h1
theorem tFrom_at {Q:Nat->ByteArray->Prop} :∀(ps:List Pr) (T:Nat->ByteArray),(∀i,Q i (T i))->(∀y∈ps,Q (slotC (cOf y.1)) y.2)->∀i,Q i (tFrom T ps i)
 | [],T,hT,_,i=>hT i
 | p :: r,T,hT,hp,i=>by
   refine tFrom_at r _ (fun k=>?_) (fun y hy=>hp y (by simp [hy])) i
   by_cases e:k=slotC (cOf p.1)
   ·have h1:updT T (slotC (cOf p.1)) p.2 k=p.2:=by simp [updT,e]
    show Q k (updT T (slotC (cOf p.1)) p.2 k)
    rw [h1,e];exact hp p (by simp)
   ·have h1:updT T (slotC (cOf p.1)) p.2 k=T k:=by simp [updT,e]
    show Q k (updT T (slotC (cOf p.1)) p.2 k)
    rw [h1];exact hT k
theorem tOf_at {Q:Nat->ByteArray->Prop} (ps:List Pr)(h0:∀i,Q i ⟨#[]⟩)(hp:∀y∈ps,Q (slotC (cOf y.1)) y.2):∀i,Q i (tOf ps i):=tFrom_at ps _ h0 hp
def ltP (p q:Pr):Prop:=kb p.1 < kb q.1
def leP (p q:Pr):Prop:=¬ltP q p
instance (p q:Pr):Decidable (ltP p q):=by unfold ltP;infer_instance
theorem leP_trans {p q r:Pr} (h:leP p q)(h2:leP q r):leP p r:=by
 have h3:kb p.1<=kb q.1:=h
 have h4:kb q.1<=kb r.1:=h2
 exact List.le_trans h3 h4
theorem sort_unique:∀(a b:List Pr),a.Perm b->a.Pairwise leP->b.Pairwise ltP->a=b
 | [],b,h,_,_=>(List.nil_perm.1 h).symm
 | x :: a,[],h,_,_=>absurd h.symm (by simp)
 | x :: a,y :: b,h,ha,hb=>by
   obtain⟨ha1,ha2⟩:=List.pairwise_cons.1 ha
   obtain⟨hb1,hb2⟩:=List.pairwise_cons.1 hb
   have hx:x∈y :: b:=h.subset (by simp)
   have hy:y∈x :: a:=h.symm.subset (by simp)
   have e:x=y:=by
    rcases List.mem_cons.1 hx with e|hx
    ·exact e
    ·rcases List.mem_cons.1 hy with e|hy
     ·exact e.symm
     ·exact absurd (hb1 x hx) (ha1 y hy)
   subst e
   rw [sort_unique a b ((List.perm_cons x).1 h) ha2 hb2]
theorem flat_perm {f:Pr->List Int} {a b:List Pr} (h:a.Perm b):(a.flatMap f).length=(b.flatMap f).length:=(h.flatMap_right f).length_eq
end Go.Proofs.YtdenjanihikolaaGreatDoor
namespace Go.Proofs.YtdenjanihikolaaGreatDoor.Og
set_option linter.unusedVariables false
set_option linter.unusedSimpArgs false
set_option maxRecDepth 100000
open Go
section
variable {P : Program} {R : World → World → Prop}
def Closed (ops:List Oper) (listed:Array Bool):Prop:=∀j o,ops[j]?=some o->listed.getD j false=true->∀d∈deps o,listed.getD d false=true
theorem Closed.start (ops:List Oper)(n:Nat):Closed ops (Array.replicate n false):=fun j o _ h=>by
 rw [getD_replicate_false]at h;cases h
theorem Closed.set {ops:List Oper} {listed:Array Bool} {i:Nat} {o:Oper} (h:Closed ops listed)(ho:ops[i]?=some o)(hd:∀d∈deps o,listed.getD d false=true):Closed ops (listed.setIfInBounds i true):=by
 have mono:∀d,listed.getD d false=true->(listed.setIfInBounds i true).getD d false=true:=by
  intro d hd
  by_cases e:i=d
  ·subst e
   by_cases hs:i < listed.size
   ·simp [Array.getD,hs]
   ·simp [Array.getD,hs]at hd
  ·rw [getD_set_ne false e];exact hd
 intro j x hx hj d hd2
 by_cases e:i=j
 ·subst e
  rw [ho]at hx
  obtain rfl:=Option.some.inj hx
  exact mono d (hd d hd2)
 ·rw [getD_set_ne false e]at hj
  exact mono d (h j x hx hj d hd2)
def clos (ops:List Oper):Nat->List Nat->List Nat
 | 0,S=>S
 | k+1,S=>clos ops k (S++S.flatMap fun j=>match (ops[j]?:Option Oper)with|some o=>deps o|none=>[])
theorem clos_listed {ops:List Oper} {listed:Array Bool} (h:Closed ops listed):∀(k:Nat) (S:List Nat),(∀d∈S,listed.getD d false=true)->∀d∈clos ops k S,listed.getD d false=true
 | 0,S,hS,d,hd=>hS d hd
 | k+1,S,hS,d,hd=>by
   refine clos_listed h k _ (fun e he=>?_) d hd
   rcases List.mem_append.1 he with he|he
   ·exact hS e he
   ·obtain⟨j,hj,hje⟩:=List.mem_flatMap.1 he
    cases ho:(ops[j]?:Option Oper)with
    | none=>rw [ho]at hje;cases hje
    | some o=>rw [ho]at hje;exact h j o ho (hS j hj) e hje
def okOneT (ops hd:List Oper) (o:Oper):Bool:=
 (match o.op with| .select .. =>false|_=>true) &&
 (o.looksAt ops.toArray).all fun t=>(List.range hd.length).all fun j=>
   match (hd[j]?:Option Oper)with
   | some oj=>oj.dst != some t || (deps o).contains j
   | none=>true
def waitT (ops:List Oper) (n:Nat):Bool:=(List.range ops.length).all fun i=>decide (i < n) || match (ops[i]?:Option Oper)with|some o=>(List.range n).all fun j=>(clos ops 4 (deps o)).contains j|none=>true
theorem exec_sameT {ops hd:List Oper} {a0 a:Act} {vs vs':Nat->Value} {done:Nat->Bool} (hall:∀o∈hd,okOneT ops hd o=true)(hdist:distinct hd=true)(hpre:∀(j:Nat) (o:Oper),hd[j]?=some o->ops[j]?=some o)(h:Fits hd a0 vs done a)(i:Nat)(o:Oper)(ho:hd[i]?=some o)
 (hdeps:∀j∈deps o,done j=true) (hvs:∀j,done j=true->vs' j=vs j):
 execOp (putAll vs' 0 hd a0).eval o=execOp a.eval o/\Region.wanted o (yielded ops.toArray (putAll vs' 0 hd a0).tmps)=Region.wanted o (yielded ops.toArray a.tmps):=by
 have hone:=hall o (List.mem_of_getElem? ho)
 simp only [okOneT,Bool.and_eq_true,List.all_eq_true]at hone
 obtain⟨hsel,hlook⟩:=hone
 have slot:∀t∈o.looksAt ops.toArray,(putAll vs' 0 hd a0).tmps[t]?=a.tmps[t]?:=by
  intro t ht
  have hl:=hlook t ht
  by_cases hex:∃(j:Nat) (oj:Oper),hd[j]?=some oj/\oj.dst=some t
  ·obtain⟨j,oj,hj,hjt⟩:=hex
   have hlt:j < hd.length:=(List.getElem?_eq_some_iff.1 hj).1
   have hmem:=hl j (List.mem_range.2 hlt)
   rw [hj]at hmem
   simp only [hjt,bne_self_eq_false,Bool.false_or]at hmem
   have hdj:j∈deps o:=by simpa using hmem
   have hdone:=hdeps j hdj
   rw [putAll_new vs' hd hdist 0 a0 j oj t hj hjt,h.new j oj t hj hdone hjt,Nat.zero_add,hvs j hdone]
  ·have hno:∀(k:Nat) (x:Oper),hd[k]?=some x->x.dst≠some t:=fun k x hx hc=>hex ⟨k,x,hx,hc⟩
   rw [putAll_old vs' t hd 0 a0 hno,h.old t fun j x hx _=>hno j x hx]
 refine⟨execOp_congr o ?_ ?_,?_⟩
 ·intro cs b hc;rw [hc]at hsel;simp at hsel
 ·intro x hx
  cases x with
  | tmp t=>
    have hs:=slot t (List.mem_append_left _ (List.mem_filterMap.2 ⟨.tmp t,by simpa using hx,rfl⟩))
    simp only [Act.eval,Array.getD_eq_getD_getElem?,hs]
  | _=>rfl
 ·unfold Region.wanted
  cases hg:o.guard with
  | none=>rfl
  | some gw=>
    obtain⟨g,want⟩:=gw
    have hy:yielded ops.toArray (putAll vs' 0 hd a0).tmps g=yielded ops.toArray a.tmps g:=by
     unfold yielded
     cases ht:(ops.toArray[g]?).bind (·.dst)with
     | none=>rfl
     | some t=>
       have hs:=slot t (by
        unfold Oper.looksAt
        rw [hg]
        refine List.mem_append_right _ ?_
        show t∈((ops.toArray[g]?).bind fun x=>x.dst).toList
        rw [ht]
        simp)
       simp only [Option.bind_some,hs]
    simp only [hy]
theorem anyT {hd tl:List Oper} {J:World->Prop} {a0:Act} {ss:List (Sp R)} {Q:Exit->Act->World->Prop} (hall:∀o∈hd,okOneT (hd++tl) hd o=true)(hdist:distinct hd=true)(hS:sizeB hd a0.tmps.size=true)(hb:backB (hd++tl)=true)
 (hw:waitT (hd++tl) hd.length=true) (hseq:Region.seqB .any (hd++tl).toArray tl.length hd.length (headDone hd.length tl.length)=true) (hpos:0 < hd.length)
 (hob:oblH P (hd++tl) hd J a0 ss 0 hd)
 (hfin:∀vs w,J w->(∀j,j < hd.length->(ss.getD j (Sp.any R)).p (vs j) w)->wpList P (hd++tl).toArray Q tl (putAll vs 0 hd a0) w):
 ∀(fuel:Nat) (listed:Array Bool) (a:Act) (w:World) (vs:Nat->Value),listed.size=(hd++tl).length->(∀j,hd.length<=j->listed.getD j false=false)->todo (hd++tl).length listed=fuel->J w->Closed (hd++tl) listed->Fits hd a0 vs (fun j=>listed.getD j false) a->
  (∀j,j < hd.length->listed.getD j false=true->(ss.getD j (Sp.any R)).p (valOf ((hd[j]?).bind (·.dst)) (vs j)) w)->
  wpAny P .any (hd++tl).toArray Q fuel listed a w:=by
 have hpre:∀(j:Nat) (o:Oper),hd[j]?=some o->(hd++tl)[j]?=some o:=by
  intro j o hj
  have hlt:=(List.getElem?_eq_some_iff.1 hj).1
  rw [List.getElem?_append_left hlt];exact hj
 have fin:∀(listed:Array Bool) (a:Act) (w:World) (vs:Nat->Value),listed.size=(hd++tl).length->(∀j,hd.length<=j->listed.getD j false=false)->J w->Fits hd a0 vs (fun j=>listed.getD j false) a->
  (∀j,j < hd.length->listed.getD j false=true->(ss.getD j (Sp.any R)).p (valOf ((hd[j]?).bind (·.dst)) (vs j)) w)->
  (∀j,j < hd.length->listed.getD j false=true)->wpAny P .any (hd++tl).toArray Q (todo (hd++tl).length listed) listed a w:=by
  intro listed a w vs hs htl hJ hF hv hdn
  have ha:a=putAll (fun j=>valOf ((hd[j]?).bind (·.dst)) (vs j)) 0 hd a0:=by
   have h1:a.tmps=(putAll (fun j=>valOf ((hd[j]?).bind (·.dst)) (vs j)) 0 hd a0).tmps:=by
    refine Array.ext_getElem? fun t=>?_
    by_cases hex:∃(j:Nat) (oj:Oper),hd[j]?=some oj/\oj.dst=some t
    ·obtain⟨j,oj,hj,hjt⟩:=hex
     have hlt:j < hd.length:=(List.getElem?_eq_some_iff.1 hj).1
     rw [putAll_new _ hd hdist 0 a0 j oj t hj hjt,hF.new j oj t hj (hdn j hlt) hjt,Nat.zero_add,hj]
     simp [valOf,hjt]
    ·have hno:∀(k:Nat) (x:Oper),hd[k]?=some x->x.dst≠some t:=fun k x hx hc=>hex ⟨k,x,hx,hc⟩
     rw [putAll_old _ t hd 0 a0 hno,hF.old t fun j x hx _=>hno j x hx]
   have h2:=hF.defers
   rw [<-putAll_def (fun j=>valOf ((hd[j]?).bind (·.dst)) (vs j)) hd 0 a0]at h2
   cases a
   simp only at h1 h2
   subst h1;subst h2
   rfl
  have hlis:listed=headDone hd.length tl.length:=by
   refine Array.ext_getElem? fun j=>?_
   have hsz:(headDone hd.length tl.length).size=(hd++tl).length:=by simp [headDone]
   rcases Nat.lt_or_ge j (hd++tl).length with hj|hj
   ·have e1:listed[j]?=some (listed.getD j false):=by
     have:j < listed.size:=by omega
     simp [this]
    rw [e1]
    rcases Nat.lt_or_ge j hd.length with hj'|hj'
    ·rw [hdn j hj']
     simp [headDone,List.getElem?_append_left (show j < (List.replicate hd.length true).length by simpa using hj'),hj']
    ·rw [htl j hj']
     have hj2:j - hd.length < tl.length:=by simp at hj;omega
     simp [headDone,List.getElem?_append_right (show(List.replicate hd.length true).length<=j by simpa using hj'),hj2]
   ·rw [Array.getElem?_eq_none (by omega),Array.getElem?_eq_none (by omega)]
  have htd:todo (hd++tl).length listed=tl.length:=by
   rw [hlis]
   unfold todo
   rw [List.length_append,List.range_add,List.countP_append,List.countP_map]
   have e1:List.countP (fun j=> !(headDone hd.length tl.length).getD j true) (List.range hd.length)=0:=by
    refine List.countP_eq_zero.2 fun j hj=>?_
    have hj':=List.mem_range.1 hj
    simp [headDone,List.getElem?_append_left (show j < (List.replicate hd.length true).length by simpa using hj'),hj']
   have e2:List.countP ((fun j=> !(headDone hd.length tl.length).getD j true)∘fun x=>hd.length+x) (List.range tl.length)=(List.range tl.length).length:=by
    refine List.countP_eq_length.2 fun j hj=>?_
    have hj':=List.mem_range.1 hj
    simp [headDone,List.getElem?_append_right,hj']
   rw [e1,e2,List.length_range]
   omega
  rw [htd]
  refine wpAny_of_seq tl hd.length listed a w (fun j=>?_) (by rw [hlis];exact hseq) ?_
  ·rw [List.getElem?_toArray,List.getElem?_append_right (Nat.le_add_right _ _),Nat.add_sub_cancel_left]
  ·rw [ha]
   exact hfin _ w hJ fun j hj=>hv j hj (hdn j hj)
 intro fuel
 induction fuel with
 | zero=>
   intro listed a w vs hs htl ht hJ hcl hF hv
   have hall':∀j,j < (hd++tl).length->listed.getD j true=true:=todo_zero ht
   have hdn:∀j,j < hd.length->listed.getD j false=true:=by
    intro j hj
    have hj2:j < listed.size:=by simp at hs;omega
    have:=hall' j (by simp;omega)
    simpa [Array.getD,hj2]using this
   have:=fin listed a w vs hs htl hJ hF hv hdn
   rwa [ht]at this
 | succ fuel ih=>
   intro listed a w vs hs htl ht hJ hcl hF hv
   by_cases hdn:∀j,j < hd.length->listed.getD j false=true
   ·have:=fin listed a w vs hs htl hJ hF hv hdn
    rwa [ht]at this
   have hnot:∃j,j < hd.length/\listed.getD j false=false:=by
    apply Classical.byContradiction
    intro hc
    apply hdn
    intro j hj
    cases hb':listed.getD j false with
    | true=>rfl
    | false=>exact absurd ⟨j,hj,hb'⟩ hc
   have ready_hd:∀i,i∈Region.ready .any (hd++tl).toArray listed->i < hd.length:=by
    intro i hi
    rcases Nat.lt_or_ge i hd.length with h|h
    ·exact h
    ·exfalso
     obtain⟨j,hj,hjf⟩:=hnot
     rw [mem_ready]at hi
     obtain⟨_,o,ho,hdep⟩:=hi
     have ho':(hd++tl)[i]?=some o:=by simpa using ho
     have hil:=(List.getElem?_eq_some_iff.1 ho').1
     simp only [waitT,List.all_eq_true]at hw
     have:=hw i (List.mem_range.2 hil)
     rw [ho']at this
     simp only [Bool.or_eq_true,decide_eq_true_eq,List.all_eq_true]at this
     have h2:=(this.resolve_left (by omega)) j (List.mem_range.2 hj)
     have h3:j∈clos (hd++tl) 4 (deps o):=by simpa using h2
     have h4:∀d∈deps o,listed.getD d false=true:=by
      intro d hd'
      obtain⟨e,he,rfl⟩:=List.mem_map.1 hd'
      obtain⟨he1,he2⟩:=List.mem_filter.1 he
      exact hdep e (by simpa using he1) he2
     have:=clos_listed hcl 4 _ h4 j h3
     rw [hjf]at this
     cases this
   refine⟨fun hr=>?_,fun i hi=>?_⟩
   ·exfalso
    obtain⟨j,hj,hjf⟩:=hnot
    have:=ready_some hb hs hr j (by simp;omega)
    rw [hjf]at this;cases this
   ·have hih:=ready_hd i hi
    rw [mem_ready]at hi
    obtain⟨hi0,o,ho',hdep⟩:=hi
    have ho2:(hd++tl)[i]?=some o:=by simpa using ho'
    have ho:hd[i]?=some o:=by rwa [List.getElem?_append_left hih]at ho2
    have hdl:∀j∈deps o,listed.getD j false=true:=by
     intro j hj
     obtain⟨e,he,rfl⟩:=List.mem_map.1 hj
     obtain⟨he1,he2⟩:=List.mem_filter.1 he
     exact hdep e (by simpa using he1) he2
    have hi0':listed.getD i false=false:=getD_both hi0
    have hjl:∀j,listed.getD j false=true->j < hd.length:=by
     intro j hj
     rcases Nat.lt_or_ge j hd.length with h|h
     ·exact h
     ·rw [htl j h]at hj;cases hj
    let vs1:Nat->Value:=fun j=>valOf ((hd[j]?).bind (·.dst)) (vs j)
    have hFv1:Fits hd a0 vs1 (fun j=>listed.getD j false) a:=⟨hF.defers,hF.size,hF.old,fun j x d hx hj hxd=>by
     rw [hF.new j x d hx hj hxd]
     simp [vs1,valOf,hx,hxd]⟩
    obtain⟨hex,hwd⟩:=exec_sameT (vs':=vs1) hall hdist hpre hFv1 i o ho hdl (fun _ _=>rfl)
    have hobl:=oblH_at hd 0 hob i o ho vs1 w hJ (fun j hj=>hv j (hjl j (hdl j hj)) (hdl j hj))
    rw [Nat.zero_add]at hobl
    refine step_of (a0:=a0) ho2 (putAll_def _ _ _ _) ?_ hex hwd hobl ?_
    ·intro d hd'
     rw [putAll_size]
     simp only [sizeB,List.all_eq_true]at hS
     have:=hS o (List.mem_of_getElem? ho)
     rw [hd']at this
     simpa using this
    ·intro v w' hJ' hR hp
     have hsi:i < listed.size:=by rw [hs];simp;omega
     refine ih _ _ _ (fun j=>if j=i then v else vs j) (by simpa using hs) ?_ ?_ hJ' (hcl.set ho2 hdl) ?_ ?_
     ·intro j hj
      rw [getD_set_ne false (by omega)]
      exact htl j hj
     ·have:=todo_exact (n:=(hd++tl).length) (by simp;omega) hi0 hsi
      omega
     ·refine hF.put hdist i o ho v hi0' fun j=>?_
      by_cases e:i=j
      ·subst e;simp [Array.getD,hsi]
      ·rw [getD_set_ne false e];simp [Ne.symm e]
     ·intro j hj hjd
      by_cases e:i=j
      ·subst e
       rw [ho]
       simp only [Option.bind_some,if_true]
       exact hp
      ·rw [getD_set_ne false e]at hjd
       have:=(ss.getD j (Sp.any R)).keep _ _ _ hR (hv j hj hjd)
       simpa [Ne.symm e]using this
def headT (hd tl:List Oper) (n:Nat):Bool:=hd.all (okOneT (hd++tl) hd) && distinct hd && sizeB hd n && backB (hd++tl) && waitT (hd++tl) hd.length && Region.seqB .any (hd++tl).toArray tl.length hd.length (headDone hd.length tl.length) && decide (0 < hd.length)
theorem wp_region_tail {l hd tl:List Oper} {id:Nat} {J:World->Prop} {a0:Act} {w0:World} {Q:Exit->Act->World->Prop} (ss:List (Sp R))(hm:P.follows .mixedOrders=true)
 (hl:l=hd++tl) (hB:headT hd tl a0.tmps.size=true) (hJ:J w0.drew)
 (hob:oblH P l hd J a0 ss 0 hd)
 (hfin:∀vs w,J w->(∀j,j < hd.length->(ss.getD j (Sp.any R)).p (vs j) w)->wpList P l.toArray Q tl (putAll vs 0 hd a0) w):
 (Code.region id l.toArray true).wp P Q a0 w0:=by
 subst hl
 simp only [headT,Bool.and_eq_true,decide_eq_true_eq,List.all_eq_true]at hB
 obtain⟨⟨⟨⟨⟨⟨h1,h2⟩,h3⟩,h4⟩,h5⟩,h6⟩,h7⟩:=hB
 refine wp_region_any hm ?_
 have hsz:(hd++tl).toArray.size=(hd++tl).length:=by simp
 have ht:todo (hd++tl).length (Array.replicate (hd++tl).length false)=(hd++tl).length:=by
  unfold todo
  have:List.countP (fun j=> !(Array.replicate (hd++tl).length false).getD j true) (List.range (hd++tl).length)=(List.range (hd++tl).length).length:=by
   refine List.countP_eq_length.2 fun j hj=>?_
   have hj':=List.mem_range.1 hj
   simp at hj'
   simp [Array.getD,hj']
  rw [this,List.length_range]
 rw [hsz]
 refine anyT h1 h2 h3 h4 h5 h6 h7 hob hfin _ _ _ _ (fun _=>undef) (by simp) ?_ ht hJ (Closed.start _ _) ?_ ?_
 ·intro j _;exact getD_replicate_false _ _
 ·refine⟨rfl,rfl,fun _ _=>rfl,fun j o d _ hj=>?_⟩
  rw [getD_replicate_false]at hj;cases hj
 ·intro j _ hj
  rw [getD_replicate_false]at hj;cases hj
theorem wp_region_cutT {l:List Oper} {id:Nat} {J:World->Prop} {a0:Act} {w0:World} {Q:Exit->Act->World->Prop} (n:Nat)(ss:List (Sp R))(hm:P.follows .mixedOrders=true)
 (hB:headT (l.take n) (l.drop n) a0.tmps.size=true) (hJ:J w0.drew)
 (hob:oblH P l (l.take n) J a0 ss 0 (l.take n))
 (hfin:∀vs w,J w->(∀j,j < (l.take n).length->(ss.getD j (Sp.any R)).p (vs j) w)->wpList P l.toArray Q (l.drop n) (putAll vs 0 (l.take n) a0) w):
 (Code.region id l.toArray true).wp P Q a0 w0:=
 wp_region_tail ss hm (List.take_append_drop n l).symm hB hJ hob hfin
end
end Go.Proofs.YtdenjanihikolaaGreatDoor.Og
namespace Go.Proofs.YtdenjanihikolaaGreatDoor
set_option linter.unusedVariables false
set_option linter.unusedSimpArgs false
set_option maxRecDepth 100000
open Go.RowKit Og
def prV (p:Pr):List Value:=[.string p.1,.string p.2]
theorem flat2_len:∀l:List Pr,(l.flatMap prV).length=l.length * 2
 | []=>rfl
 | p :: r=>by rw [List.flatMap_cons,List.length_append,flat2_len r,List.length_cons];simp [prV];omega
theorem flat2_at:∀(l:List Pr) (s:Nat) (h:s < l.length),(l.flatMap prV)[s * 2]?=some (.string l[s].1)/\(l.flatMap prV)[s * 2+1]?=some (.string l[s].2)
 | p :: r,0,_=>⟨rfl,rfl⟩
 | p :: r,s+1,h=>by
   have h1:=flat2_at r s (by simpa using h)
   have e:(p :: r).flatMap prV=.string p.1 :: .string p.2 :: r.flatMap prV:=rfl
   rw [e,show(s+1) * 2=s * 2+1+1 by omega]
   simpa using h1
theorem rws_flat (w:World)(l:List Pr):Rws 2 (isPr w) l (l.flatMap prV):=by
 refine⟨flat2_len l,fun j hj=>?_⟩
 obtain⟨h0,h1⟩:=flat2_at l j hj
 refine⟨fun k=>if k=0 then .string l[j].1 else .string l[j].2,fun k hk=>?_,⟨rfl,rfl⟩⟩
 rcases k with _|_|k
 ·exact h0
 ·exact h1
 ·omega
theorem ltP_iff (p q:Pr):Op.bytesLess p.1.toList q.1.toList=decide (ltP p q):=by
 rw [bytesLess_eq,ByteArray.toList_eq,ByteArray.toList_eq]
 rfl
def slB1:Value->Nat
 | .slice (some a) _ _=>a.block
 | _=>0
def spBox (W:World) (cs:Array Value) (e:Nat):Sp Ext:=⟨fun v x=>v=.slice (some ⟨slB1 v,0,none⟩) 1 1/\W.heap.size<=slB1 v/\x.heap[slB1 v]?=some (.cells cs e (0,0)),fun _ _ _ h k=>⟨k.1,k.2.1,(h.block _ (zl k.2.2)).trans k.2.2⟩⟩
theorem push_all:∀(l:List UInt8) (r:ByteArray),(l.map fun b=>(b.toNat:Int)).foldl (fun r n=>r.push (UInt8.ofNat n.toNat)) r=⟨r.data++l.toArray⟩
 | [],r=>by simp
 | b :: l,r=>by
   rw [List.map_cons,List.foldl_cons,push_all l]
   have e:UInt8.ofNat ((b.toNat:Int).toNat)=b:=by simp
   rw [e]
   cases r with
   | mk d=>simp [ByteArray.push]
theorem str_sby (s:ByteArray):strOf (sby s)=s:=by
 unfold strOf sby
 rw [push_all]
 cases s with
 | mk d=>
   show(⟨#[]++d.toList.toArray⟩:ByteArray)=⟨d⟩
   simp
theorem RdB.tail {w:World} {A:Option Addr} {n c:Nat} {xs:List Int} (h:RdB w (.slice A n c) xs) {A':Option Addr} {c' k:Nat} (hs:∀(b:Nat) (w:World) (xs:List Int),RdN b w (.slice A n c) xs->RdN b w (.slice A' (n - k) c') (xs.drop k)):RdB w (.slice A' (n - k) c') (xs.drop k):=by
 by_cases hb:∃b,A=some b
 ·obtain⟨⟨b,o,p⟩,rfl⟩:=hb
  exact(hs (b+1) w xs ⟨h,fun _ e=>by simp [Value.ownBlock]at e⟩).1
 ·have hA:A=none:=by
   cases A with
   | none=>rfl
   | some a=>exact absurd ⟨a,rfl⟩ hb
  subst hA
  exact(hs 0 w xs ⟨h,fun _ e=>by simp [Value.ownBlock]at e⟩).1
theorem srt_lt {ps:List Pr} (h:Srt ps):ps.Pairwise ltP:=h
end Go.Proofs.YtdenjanihikolaaGreatDoor
