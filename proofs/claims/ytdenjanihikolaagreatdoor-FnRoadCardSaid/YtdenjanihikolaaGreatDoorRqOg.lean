/- A law on a region of operations whose order is left open: an invariant of the world, a stable predicate for each operation's value, and one obligation for each operation. -/
import Derived.Test.YtdenjanihikolaaGreatDoorRqA0
import Derived.WalkKit
import Derived.StillTail
namespace Go.Proofs.YtdenjanihikolaaGreatDoor.Og
set_option linter.unusedVariables false
set_option linter.unusedSimpArgs false
set_option maxRecDepth 100000
open Go
/-- A predicate on a value in a world that the steps R keep. -/
structure Sp (R:World->World->Prop) where
 p:Value->World->Prop
 keep:∀v w w',R w w'->p v w->p v w'
def Sp.any (R:World->World->Prop):Sp R:=⟨fun _ _=>True,fun _ _ _ _ _=>trivial⟩
def Sp.eq (R:World->World->Prop) (c:Value):Sp R:=⟨fun v _=>v=c,fun _ _ _ _ h=>h⟩
/-- All slots of a region, filled. -/
def putAll (vs:Nat->Value):Nat->List Oper->Act->Act
 | _,[],a=>a
 | i,o :: rest,a=>putAll vs (i+1) rest (a.put o.dst (vs i))
/-- The operations that an operation waits for. -/
def deps (o:Oper):List Nat:=(o.after.toList.filter fun e=>Region.binds .any e).map (·.on)
def okOne (ops:List Oper) (o:Oper):Bool:=
 (match o.op with| .select .. =>false|_=>true) &&
 (o.looksAt ops.toArray).all fun t=>(List.range ops.length).all fun j=>
   match (ops[j]?:Option Oper)with
   | some oj=>oj.dst != some t || (deps o).contains j
   | none=>true
def distinct:List Oper->Bool
 | []=>true
 | o :: rest=>(match o.dst with|none=>true|some d=>rest.all fun o'=>o'.dst != some d) && distinct rest
def okB (ops:List Oper):Bool:=ops.all (okOne ops) && distinct ops
section
variable {P : Program} {R : World → World → Prop}
def valOf (dst:Option Tmp) (v:Value):Value:=match dst with|some _=>v|none=>undef
def slotOf (dst:Option Tmp) (a:Act):Value:=match dst with|some d=>a.tmps.getD d undef|none=>undef
/-- What an operation has to leave. -/
def post (J:World->Prop) (R:World->World->Prop) (s:Sp R) (dst:Option Tmp) (ds:List Deferred) (w:World):Exit->Act->World->Prop
 | .normal,a',w'=>a'.defers=ds/\J w'/\R w w'/\s.p (slotOf dst a') w'
 | _,_,_=>False
def obl (P:Program) (ops:List Oper) (J:World->Prop) (a0:Act) (ss:List (Sp R)):Nat->List Oper->Prop
 | _,[]=>True
 | i,o :: rest=>(∀(vs:Nat->Value) (w:World),J w->(∀j∈deps o,(ss.getD j (Sp.any R)).p (vs j) w)->
    wpList P ops.toArray (post J R (ss.getD i (Sp.any R)) o.dst a0.defers w) [o] (putAll vs 0 ops a0) w)/\obl P ops J a0 ss (i+1) rest
theorem obl_at {ops:List Oper} {J:World->Prop} {a0:Act} {ss:List (Sp R)} :∀(l:List Oper) (i:Nat),obl P ops J a0 ss i l->∀(k:Nat) (o:Oper),l[k]?=some o->
 ∀(vs:Nat->Value) (w:World),J w->(∀j∈deps o,(ss.getD j (Sp.any R)).p (vs j) w)->
  wpList P ops.toArray (post J R (ss.getD (i+k) (Sp.any R)) o.dst a0.defers w) [o] (putAll vs 0 ops a0) w:=by
 intro l
 induction l with
 | nil=>intro i _ k o h;simp at h
 | cons x rest ih=>
   intro i h k o hk
   cases k with
   | zero=>simp at hk;subst hk;exact h.1
   | succ k=>
     have:=ih (i+1) h.2 k o (by simpa using hk)
     rwa [show i+1+k=i+(k+1) by omega]at this
/-- The slot d of the frame that has been filled as far as 'done' says. -/
structure Fits (ops:List Oper) (a0:Act) (vs:Nat->Value) (done:Nat->Bool) (a:Act):Prop where
 defers:a.defers=a0.defers
 size:a.tmps.size=a0.tmps.size
 old:∀t,(∀j o,ops[j]?=some o->done j=true->o.dst≠some t)->a.tmps[t]?=a0.tmps[t]?
 new:∀j o d,ops[j]?=some o->done j=true->o.dst=some d->a.tmps[d]?=if d < a0.tmps.size then some (vs j)else none
theorem distinct_spec:∀(l:List Oper),distinct l=true->∀(i j:Nat) (x y:Oper) (d:Tmp),l[i]?=some x->l[j]?=some y->x.dst=some d->y.dst=some d->i=j:=by
 intro l
 induction l with
 | nil=>intro _ i j x y d h;simp at h
 | cons o rest ih=>
   intro h i j x y d hi hj hx hy
   simp only [distinct,Bool.and_eq_true]at h
   obtain⟨h1,h2⟩:=h
   have hno:∀(k:Nat) (z:Oper),rest[k]?=some z->o.dst=some d->z.dst=some d->False:=by
    intro k z hz ho hzd
    rw [ho]at h1
    simp only [List.all_eq_true]at h1
    have:=h1 z (List.mem_of_getElem? hz)
    rw [hzd]at this
    simp at this
   cases i with
   | zero=>
     cases j with
     | zero=>rfl
     | succ j=>
       simp at hi hj;subst hi
       exact(hno j y hj hx hy).elim
   | succ i=>
     cases j with
     | zero=>
       simp at hi hj;subst hj
       exact(hno i x hi hy hx).elim
     | succ j=>
       simp at hi hj
       rw [ih h2 i j x y d hi hj hx hy]
theorem put_get (a:Act)(dst:Option Tmp)(v:Value)(t:Tmp):(a.put dst v).tmps[t]?=if dst=some t/\t < a.tmps.size then some v else a.tmps[t]?:=by
 cases dst with
 | none=>simp [Act.put]
 | some d=>
   by_cases e:d=t
   ·subst e
    by_cases h:d < a.tmps.size <;> simp [Act.put,h]
   ·simp [Act.put,Array.getElem?_setIfInBounds_ne e,e]
theorem put_size (a:Act)(dst:Option Tmp)(v:Value):(a.put dst v).tmps.size=a.tmps.size:=by cases dst <;> simp [Act.put]
theorem put_def (a:Act)(dst:Option Tmp)(v:Value):(a.put dst v).defers=a.defers:=by cases dst <;> rfl
theorem Fits.put {ops:List Oper} {a0 a:Act} {vs:Nat->Value} {done done':Nat->Bool} (hd:distinct ops=true)(h:Fits ops a0 vs done a)(i:Nat)(o:Oper)(ho:ops[i]?=some o)(v:Value)
 (hnot:done i=false) (hdone:∀j,done' j=(done j || j == i)):Fits ops a0 (fun j=>if j=i then v else vs j) done' (a.put o.dst v):=by
 refine⟨by rw [put_def,h.defers],by rw [put_size,h.size],?_,?_⟩
 ·intro t ht
  rw [put_get]
  have hne:o.dst≠some t:=ht i o ho (by simp [hdone])
  rw [if_neg (by simp [hne])]
  exact h.old t fun j x hx hj=>ht j x hx (by simp [hdone,hj])
 ·intro j x d hx hj hxd
  rw [put_get]
  by_cases e:j=i
  ·subst e
   rw [ho]at hx;cases hx
   rw [hxd]
   by_cases hs:d < a.tmps.size
   ·rw [if_pos ⟨rfl,hs⟩,if_pos (by rw [<-h.size];exact hs)];simp
   ·rw [if_neg (by simp [hs]),if_neg (by rw [<-h.size];exact hs)]
    simp [hs]
  ·have hne:o.dst≠some d:=fun c=>e (distinct_spec ops hd j i x o d hx ho hxd c)
   rw [if_neg (by simp [hne])]
   have hj':done j=true:=by simpa [hdone,e]using hj
   simpa [e]using h.new j x d hx hj' hxd
theorem putAll_size (vs:Nat->Value):∀(l:List Oper) (i:Nat) (a:Act),(putAll vs i l a).tmps.size=a.tmps.size:=by
 intro l
 induction l with
 | nil=>intro i a;rfl
 | cons o rest ih=>intro i a;rw [putAll,ih,put_size]
theorem putAll_def (vs:Nat->Value):∀(l:List Oper) (i:Nat) (a:Act),(putAll vs i l a).defers=a.defers:=by
 intro l
 induction l with
 | nil=>intro i a;rfl
 | cons o rest ih=>intro i a;rw [putAll,ih,put_def]
theorem putAll_old (vs:Nat->Value)(t:Tmp):∀(l:List Oper) (i:Nat) (a:Act),(∀(k:Nat) (o:Oper),l[k]?=some o->o.dst≠some t)->(putAll vs i l a).tmps[t]?=a.tmps[t]?:=by
 intro l
 induction l with
 | nil=>intro i a _;rfl
 | cons o rest ih=>
   intro i a h
   rw [putAll,ih _ _ (fun k x hx=>h (k+1) x (by simpa using hx)),put_get,if_neg]
   intro hc;exact h 0 o (by simp) hc.1
theorem putAll_new (vs:Nat->Value):∀(l:List Oper),distinct l=true->∀(i:Nat) (a:Act) (k:Nat) (o:Oper) (d:Tmp),l[k]?=some o->o.dst=some d->
 (putAll vs i l a).tmps[d]?=if d < a.tmps.size then some (vs (i+k))else none:=by
 intro l
 induction l with
 | nil=>intro _ i a k o d h;simp at h
 | cons x rest ih=>
   intro hd i a k o d hk ho
   have hd2:distinct rest=true:=by simp only [distinct,Bool.and_eq_true]at hd;exact hd.2
   cases k with
   | zero=>
     simp at hk;subst hk
     rw [putAll,putAll_old]
     ·rw [put_get,ho]
      by_cases hs:d < a.tmps.size
      ·rw [if_pos ⟨rfl,hs⟩,if_pos hs];rfl
      ·rw [if_neg (by simp [hs]),if_neg hs];simp [hs]
     ·intro k z hz hzd
      have:=distinct_spec _ hd 0 (k+1) x z d (by simp) (by simpa using hz) ho hzd
      omega
   | succ k=>
     rw [putAll,ih hd2 (i+1) _ k o d (by simpa using hk) ho,put_size,show i+1+k=i+(k+1) by omega]
/-- Two frames that an operation can't tell apart. -/
theorem exec_same {ops:List Oper} {a0 a:Act} {vs vs':Nat->Value} {done:Nat->Bool} (hB:okB ops=true)(h:Fits ops a0 vs done a)(i:Nat)(o:Oper)(ho:ops[i]?=some o)
 (hdeps:∀j∈deps o,done j=true) (hvs:∀j,done j=true->vs' j=vs j):
 execOp (putAll vs' 0 ops a0).eval o=execOp a.eval o/\Region.wanted o (yielded ops.toArray (putAll vs' 0 ops a0).tmps)=Region.wanted o (yielded ops.toArray a.tmps):=by
 simp only [okB,Bool.and_eq_true,List.all_eq_true]at hB
 obtain⟨hall,hdist⟩:=hB
 have hone:=hall o (List.mem_of_getElem? ho)
 simp only [okOne,Bool.and_eq_true,List.all_eq_true]at hone
 obtain⟨hsel,hlook⟩:=hone
 have slot:∀t∈o.looksAt ops.toArray,(putAll vs' 0 ops a0).tmps[t]?=a.tmps[t]?:=by
  intro t ht
  have hl:=hlook t ht
  by_cases hex:∃(j:Nat) (oj:Oper),ops[j]?=some oj/\oj.dst=some t
  ·obtain⟨j,oj,hj,hjt⟩:=hex
   have hlt:j < ops.length:=(List.getElem?_eq_some_iff.1 hj).1
   have hmem:=hl j (List.mem_range.2 hlt)
   rw [hj]at hmem
   simp only [hjt,bne_self_eq_false,Bool.false_or]at hmem
   have hdj:j∈deps o:=by simpa using hmem
   have hdone:=hdeps j hdj
   rw [putAll_new vs' ops hdist 0 a0 j oj t hj hjt,h.new j oj t hj hdone hjt,Nat.zero_add,hvs j hdone]
  ·have hno:∀(k:Nat) (x:Oper),ops[k]?=some x->x.dst≠some t:=fun k x hx hc=>hex ⟨k,x,hx,hc⟩
   rw [putAll_old vs' t ops 0 a0 hno,h.old t fun j x hx _=>hno j x hx]
 refine⟨execOp_congr o ?_ ?_,?_⟩
 ·intro cs b hc;rw [hc]at hsel;simp at hsel
 ·intro x hx
  cases x with
  | tmp t=>
    have hs:=slot t (List.mem_append_left _ (List.mem_filterMap.2 ⟨.tmp t,by simpa using hx,rfl⟩))
    simp only [Act.eval,Array.getD_eq_getD_getElem?,hs]
  | _=>rfl
 ·unfold Region.wanted
  cases hg:o.guard with
  | none=>rfl
  | some gw=>
    obtain⟨g,want⟩:=gw
    have hy:yielded ops.toArray (putAll vs' 0 ops a0).tmps g=yielded ops.toArray a.tmps g:=by
     unfold yielded
     cases ht:(ops.toArray[g]?).bind (·.dst)with
     | none=>rfl
     | some t=>
       have hs:=slot t (by
        unfold Oper.looksAt
        rw [hg]
        refine List.mem_append_right _ ?_
        show t∈((ops.toArray[g]?).bind fun x=>x.dst).toList
        rw [ht]
        simp)
       simp only [Option.bind_some,hs]
    simp only [hy]
def sizeB (ops:List Oper) (n:Nat):Bool:=ops.all fun o=>match o.dst with|some d=>decide (d < n)|none=>true
def backB (ops:List Oper):Bool:=(List.range ops.length).all fun i=>match (ops[i]?:Option Oper)with|some o=>(deps o).all fun j=>decide (j < i)|none=>true
theorem slotOf_put {a:Act} {dst:Option Tmp} {v:Value} (h:∀d,dst=some d->d < a.tmps.size):slotOf dst (a.put dst v)=valOf dst v:=by
 cases dst with
 | none=>rfl
 | some d=>simp [slotOf,valOf,Act.put,h d rfl]
/-- One operation in its own frame, out of its obligation in the full one. -/
theorem step_of {ops:List Oper} {J:World->Prop} {a0:Act} {s:Sp R} {Q:Exit->Act->World->Prop} {i:Nat} {o:Oper} {a:Act} {w:World} {F:Act} (ho:ops[i]?=some o)
 (hFd:F.defers=a0.defers) (hFs:∀d,o.dst=some d->d < F.tmps.size)
 (hex:execOp F.eval o=execOp a.eval o) (hwd:Region.wanted o (yielded ops.toArray F.tmps)=Region.wanted o (yielded ops.toArray a.tmps))
 (h:wpList P ops.toArray (post J R s o.dst a0.defers w) [o] F w)
 {K:Act->World->Prop} (hK:∀v w',J w'->R w w'->s.p (valOf o.dst v) w'->K (a.put o.dst v) w'):
 wpOp P ops.toArray Q i K a w:=by
 have key:∀v w',wpList P ops.toArray (post J R s o.dst a0.defers w) [] (F.put o.dst v) w'->K (a.put o.dst v) w':=by
  intro v w' hp
  obtain⟨_,h1,h2,h3⟩:(F.put o.dst v).defers=a0.defers/\J w'/\R w w'/\s.p (slotOf o.dst (F.put o.dst v)) w':=hp
  rw [slotOf_put hFs]at h3
  exact hK v w' h1 h2 h3
 unfold wpOp
 have ho':ops.toArray[i]?=some o:=by simpa using ho
 simp only [ho']
 unfold wpList at h
 rw [hwd]at h
 split
 ·rename_i hw
  rw [if_pos hw]at h
  rcases h with h|⟨_,a1,w1,hq⟩
  ·refine .inl ?_
   unfold Oper.wp at *
   rw [hex]at h
   generalize (execOp a.eval o).run P w=r at *
   cases r with
   | ok n w'=>
     cases n <;> simp only [Oper.upon]at h⊢
     case value v=>exact key v w' h
     case skip=>exact key undef w' h
     case defer d=>
      exfalso
      obtain⟨hd,_⟩:(({F with defers:=d :: F.defers} :Act).put o.dst undef).defers=a0.defers/\_:=h
      rw [put_def]at hd
      have hl:=congrArg List.length hd
      simp [hFd]at hl
     case enter f args=>
      refine Calls.mono h fun e w'' he=>?_
      cases e with
      | returned v=>exact key v w'' he
      | panicked ch=>exact he.elim
      | outgrown=>obtain⟨a1,w1,hq⟩:=he;exact hq.elim
     case row r args=>exact Rows.mono h fun v w'' he=>key v w'' he
     all_goals exact h
   | halt x w'=>cases x <;> simp only [Oper.upon]at h⊢<;> exact h.elim
  ·exact hq.elim
 ·rename_i hw
  rw [if_neg hw]at h
  exact key undef w h
def todo (n:Nat) (listed:Array Bool):Nat:=(List.range n).countP fun j=> !listed.getD j true
theorem todo_step {n i:Nat} {listed:Array Bool} (hi:i < n)(hl:listed.getD i true=false)(hs:i < listed.size):todo n (listed.setIfInBounds i true) < todo n listed:=by
 unfold todo
 have hmem:i∈List.range n:=List.mem_range.2 hi
 have h1:∀j∈List.range n,(!(listed.setIfInBounds i true).getD j true)=true->(!listed.getD j true)=true:=by
  intro j _ hj
  by_cases e:i=j
  ·subst e;simpa using hl
  ·rw [getD_set_ne true e]at hj;exact hj
 have h2:(List.range n).countP (fun j=> !(listed.setIfInBounds i true).getD j true)+1<=(List.range n).countP (fun j=> !listed.getD j true):=by
  obtain⟨l1,l2,hl12⟩:=List.append_of_mem hmem
  rw [hl12]at h1⊢
  simp only [List.countP_append,List.countP_cons]
  have e1:List.countP (fun j=> !(listed.setIfInBounds i true).getD j true) l1<=List.countP (fun j=> !listed.getD j true) l1:=List.countP_mono_left fun j hj=>h1 j (by simp [hj])
  have e2:List.countP (fun j=> !(listed.setIfInBounds i true).getD j true) l2<=List.countP (fun j=> !listed.getD j true) l2:=List.countP_mono_left fun j hj=>h1 j (by simp [hj])
  have e3:(!(listed.setIfInBounds i true).getD i true)=false:=by simp [Array.getD,hs]
  have e4:(!listed.getD i true)=true:=by simpa using hl
  rw [e3,e4]
  simp only [Bool.false_eq_true,if_false,if_true]
  omega
 omega
theorem todo_zero {n:Nat} {listed:Array Bool} (h:todo n listed=0):∀j,j < n->listed.getD j true=true:=by
 intro j hj
 unfold todo at h
 have:=(List.countP_eq_zero.1 h) j (List.mem_range.2 hj)
 simpa using this
/-- While something is left, something is ready. -/
theorem ready_some {ops:List Oper} {listed:Array Bool} (hb:backB ops=true)(hs:listed.size=ops.length)(hr:Region.ready .any ops.toArray listed=[]):∀j,j < ops.length->listed.getD j false=true:=by
 intro j
 induction j using Nat.strongRecOn with
 | _ j ih=>
   intro hj
   by_cases hl:listed.getD j false=true
   ·exact hl
   ·exfalso
    have hm:j∈Region.ready .any ops.toArray listed:=by
     rw [mem_ready]
     have hjs:j < listed.size:=by omega
     refine⟨?_,ops[j],by simp [hj],?_⟩
     ·simp [Array.getD,hjs]at hl⊢;exact hl
     ·intro e he hbd
      have hd:e.on∈deps ops[j]:=List.mem_map.2 ⟨e,List.mem_filter.2 ⟨by simpa using he,hbd⟩,rfl⟩
      simp only [backB,List.all_eq_true]at hb
      have:=hb j (List.mem_range.2 hj)
      rw [List.getElem?_eq_getElem hj]at this
      simp only [List.all_eq_true,decide_eq_true_eq]at this
      have hlt:=this _ hd
      exact ih e.on hlt (by omega)
    rw [hr]at hm
    cases hm
theorem any_of {ops:List Oper} {J:World->Prop} {a0:Act} {ss:List (Sp R)} {Q:Exit->Act->World->Prop} (hB:okB ops=true)(hS:sizeB ops a0.tmps.size=true)(hb:backB ops=true)
 (hob:obl P ops J a0 ss 0 ops)
 (hfin:∀vs w,J w->(∀j,j < ops.length->(ss.getD j (Sp.any R)).p (vs j) w)->Q .normal (putAll vs 0 ops a0) w):
 ∀(fuel:Nat) (listed:Array Bool) (a:Act) (w:World) (vs:Nat->Value),listed.size=ops.length->todo ops.length listed<=fuel->J w->Fits ops a0 vs (fun j=>listed.getD j false) a->
  (∀j,j < ops.length->listed.getD j false=true->(ss.getD j (Sp.any R)).p (valOf ((ops[j]?).bind (·.dst)) (vs j)) w)->
  wpAny P .any ops.toArray Q fuel listed a w:=by
 have hdist:distinct ops=true:=by simp only [okB,Bool.and_eq_true]at hB;exact hB.2
 have done:∀(listed:Array Bool) (a:Act) (w:World) (vs:Nat->Value),J w->Fits ops a0 vs (fun j=>listed.getD j false) a->
  (∀j,j < ops.length->listed.getD j false=true->(ss.getD j (Sp.any R)).p (valOf ((ops[j]?).bind (·.dst)) (vs j)) w)->
  (∀j,j < ops.length->listed.getD j false=true)->Q .normal a w:=by
  intro listed a w vs hJ hF hv hall
  have ha:a=putAll (fun j=>valOf ((ops[j]?).bind (·.dst)) (vs j)) 0 ops a0:=by
   have h1:a.tmps=(putAll (fun j=>valOf ((ops[j]?).bind (·.dst)) (vs j)) 0 ops a0).tmps:=by
    refine Array.ext_getElem? fun t=>?_
    by_cases hex:∃(j:Nat) (oj:Oper),ops[j]?=some oj/\oj.dst=some t
    ·obtain⟨j,oj,hj,hjt⟩:=hex
     have hlt:j < ops.length:=(List.getElem?_eq_some_iff.1 hj).1
     rw [putAll_new _ ops hdist 0 a0 j oj t hj hjt,hF.new j oj t hj (hall j hlt) hjt,Nat.zero_add,hj]
     simp [valOf,hjt]
    ·have hno:∀(k:Nat) (x:Oper),ops[k]?=some x->x.dst≠some t:=fun k x hx hc=>hex ⟨k,x,hx,hc⟩
     rw [putAll_old _ t ops 0 a0 hno,hF.old t fun j x hx _=>hno j x hx]
   have h2:=hF.defers
   rw [<-putAll_def (fun j=>valOf ((ops[j]?).bind (·.dst)) (vs j)) ops 0 a0]at h2
   cases a
   simp only at h1 h2
   subst h1;subst h2
   rfl
  rw [ha]
  exact hfin _ w hJ fun j hj=>hv j hj (hall j hj)
 intro fuel
 induction fuel with
 | zero=>
   intro listed a w vs hs ht hJ hF hv
   have hall:∀j,j < ops.length->listed.getD j true=true:=todo_zero (by omega)
   have hr:Region.ready .any ops.toArray listed=[]:=by
    refine List.eq_nil_iff_forall_not_mem.2 fun j hj=>?_
    rw [mem_ready]at hj
    obtain⟨h1,o,h2,_⟩:=hj
    have hlt:j < ops.length:=by have:=(Array.getElem?_eq_some_iff.1 h2).1;simpa using this
    rw [hall j hlt]at h1;cases h1
   exact⟨hr,done listed a w vs hJ hF hv (ready_some hb hs hr)⟩
 | succ fuel ih=>
   intro listed a w vs hs ht hJ hF hv
   refine⟨fun hr=>done listed a w vs hJ hF hv (ready_some hb hs hr),fun i hi=>?_⟩
   rw [mem_ready]at hi
   obtain⟨hi0,o,ho',hdep⟩:=hi
   have ho:ops[i]?=some o:=by simpa using ho'
   have hlt:i < ops.length:=(List.getElem?_eq_some_iff.1 ho).1
   have hdl:∀j∈deps o,listed.getD j false=true:=by
    intro j hj
    obtain⟨e,he,rfl⟩:=List.mem_map.1 hj
    obtain⟨he1,he2⟩:=List.mem_filter.1 he
    exact hdep e (by simpa using he1) he2
   have hi0':listed.getD i false=false:=getD_both hi0
   have hjl:∀j,listed.getD j false=true->j < ops.length:=by
    intro j hj
    rcases Nat.lt_or_ge j listed.size with h|h
    ·omega
    ·simp [Array.getElem?_eq_none h]at hj
   let vs1:Nat->Value:=fun j=>valOf ((ops[j]?).bind (·.dst)) (vs j)
   have hFv1:Fits ops a0 vs1 (fun j=>listed.getD j false) a:=⟨hF.defers,hF.size,hF.old,fun j x d hx hj hxd=>by
    rw [hF.new j x d hx hj hxd]
    simp [vs1,valOf,hx,hxd]⟩
   obtain⟨hex,hwd⟩:=exec_same (vs':=vs1) hB hFv1 i o ho hdl (fun _ _=>rfl)
   have hobl:=obl_at ops 0 hob i o ho vs1 w hJ (fun j hj=>hv j (hjl j (hdl j hj)) (hdl j hj))
   rw [Nat.zero_add]at hobl
   refine step_of (a0:=a0) ho (putAll_def _ _ _ _) ?_ hex hwd hobl ?_
   ·intro d hd
    rw [putAll_size]
    simp only [sizeB,List.all_eq_true]at hS
    have:=hS o (List.mem_of_getElem? ho)
    rw [hd]at this
    simpa using this
   ·intro v w' hJ' hR hp
    have hsi:i < listed.size:=by omega
    refine ih _ _ _ (fun j=>if j=i then v else vs j) (by simp [hs]) ?_ hJ' ?_ ?_
    ·have:=todo_step (n:=ops.length) hlt hi0 hsi;omega
    ·refine hF.put hdist i o ho v hi0' fun j=>?_
     by_cases e:i=j
     ·subst e;simp [Array.getD,hsi]
     ·rw [getD_set_ne false e];simp [Ne.symm e]
    ·intro j hj hjd
     by_cases e:i=j
     ·subst e
      rw [ho]
      simp only [Option.bind_some,if_true]
      exact hp
     ·rw [getD_set_ne false e]at hjd
      have:=(ss.getD j (Sp.any R)).keep _ _ _ hR (hv j hj hjd)
      simpa [Ne.symm e]using this
/-- THE LAW: an invariant J, a stable predicate for each operation's value, an obligation for each operation. -/
theorem wp_region_og {ops:List Oper} {id:Nat} {J:World->Prop} {a0:Act} {w0:World} {Q:Exit->Act->World->Prop} (ss:List (Sp R))(hm:P.follows .mixedOrders=true)
 (hB:okB ops=true) (hS:sizeB ops a0.tmps.size=true) (hb:backB ops=true) (hJ:J w0.drew)
 (hob:obl P ops J a0 ss 0 ops)
 (hfin:∀vs w,J w->(∀j,j < ops.length->(ss.getD j (Sp.any R)).p (vs j) w)->Q .normal (putAll vs 0 ops a0) w):
 (Code.region id ops.toArray true).wp P Q a0 w0:=by
 refine wp_region_any hm ?_
 refine any_of hB hS hb hob hfin _ _ _ _ (fun _=>undef) (by simp) ?_ hJ ?_ ?_
 ·unfold todo
  exact Nat.le_trans List.countP_le_length (by simp)
 ·refine⟨rfl,rfl,fun _ _=>rfl,fun j o d _ hj=>?_⟩
  rw [getD_replicate_false]at hj;cases hj
 ·intro j _ hj
  rw [getD_replicate_false]at hj;cases hj
theorem todo_exact {n i:Nat} {listed:Array Bool} (hi:i < n)(hl:listed.getD i true=false)(hs:i < listed.size):todo n listed=todo n (listed.setIfInBounds i true)+1:=by
 unfold todo
 have hmem:i∈List.range n:=List.mem_range.2 hi
 obtain⟨l1,l2,hl12⟩:=List.append_of_mem hmem
 have hnd:(List.range n).Nodup:=List.nodup_range
 rw [hl12]at hnd⊢
 have hn1:∀j∈l1,i≠j:=by
  intro j hj e
  subst e
  rw [List.nodup_append]at hnd
  exact hnd.2.2 i hj i (by simp) rfl
 have hn2:∀j∈l2,i≠j:=by
  intro j hj e
  subst e
  rw [List.nodup_append]at hnd
  have:=hnd.2.1
  rw [List.nodup_cons]at this
  exact this.1 hj
 simp only [List.countP_append,List.countP_cons]
 have e1:List.countP (fun j=> !(listed.setIfInBounds i true).getD j true) l1=List.countP (fun j=> !listed.getD j true) l1:=List.countP_congr fun j hj=>by rw [getD_set_ne true (hn1 j hj)]
 have e2:List.countP (fun j=> !(listed.setIfInBounds i true).getD j true) l2=List.countP (fun j=> !listed.getD j true) l2:=List.countP_congr fun j hj=>by rw [getD_set_ne true (hn2 j hj)]
 have e3:(!(listed.setIfInBounds i true).getD i true)=false:=by simp [Array.getD,hs]
 have e4:(!listed.getD i true)=true:=by simpa using hl
 rw [e1,e2,e3,e4]
 simp only [Bool.false_eq_true,if_false,if_true]
 omega
def oblH (P:Program) (ops hd:List Oper) (J:World->Prop) (a0:Act) (ss:List (Sp R)):Nat->List Oper->Prop
 | _,[]=>True
 | i,o :: rest=>(∀(vs:Nat->Value) (w:World),J w->(∀j∈deps o,(ss.getD j (Sp.any R)).p (vs j) w)->
    wpList P ops.toArray (post J R (ss.getD i (Sp.any R)) o.dst a0.defers w) [o] (putAll vs 0 hd a0) w)/\oblH P ops hd J a0 ss (i+1) rest
theorem oblH_at {ops hd:List Oper} {J:World->Prop} {a0:Act} {ss:List (Sp R)} :∀(l:List Oper) (i:Nat),oblH P ops hd J a0 ss i l->∀(k:Nat) (o:Oper),l[k]?=some o->
 ∀(vs:Nat->Value) (w:World),J w->(∀j∈deps o,(ss.getD j (Sp.any R)).p (vs j) w)->
  wpList P ops.toArray (post J R (ss.getD (i+k) (Sp.any R)) o.dst a0.defers w) [o] (putAll vs 0 hd a0) w:=by
 intro l
 induction l with
 | nil=>intro i _ k o h;simp at h
 | cons x rest ih=>
   intro i h k o hk
   cases k with
   | zero=>simp at hk;subst hk;exact h.1
   | succ k=>
     have:=ih (i+1) h.2 k o (by simpa using hk)
     rwa [show i+1+k=i+(k+1) by omega]at this
theorem exec_sameH {ops hd:List Oper} {a0 a:Act} {vs vs':Nat->Value} {done:Nat->Bool} (hall:∀o∈hd,okOne ops o=true)(hdist:distinct hd=true)(hpre:∀(j:Nat) (o:Oper),hd[j]?=some o->ops[j]?=some o)(h:Fits hd a0 vs done a)(i:Nat)(o:Oper)(ho:hd[i]?=some o)
 (hdeps:∀j∈deps o,done j=true) (hvs:∀j,done j=true->vs' j=vs j):
 execOp (putAll vs' 0 hd a0).eval o=execOp a.eval o/\Region.wanted o (yielded ops.toArray (putAll vs' 0 hd a0).tmps)=Region.wanted o (yielded ops.toArray a.tmps):=by
 have hone:=hall o (List.mem_of_getElem? ho)
 simp only [okOne,Bool.and_eq_true,List.all_eq_true]at hone
 obtain⟨hsel,hlook⟩:=hone
 have slot:∀t∈o.looksAt ops.toArray,(putAll vs' 0 hd a0).tmps[t]?=a.tmps[t]?:=by
  intro t ht
  have hl:=hlook t ht
  by_cases hex:∃(j:Nat) (oj:Oper),hd[j]?=some oj/\oj.dst=some t
  ·obtain⟨j,oj,hj,hjt⟩:=hex
   have hj':=hpre j oj hj
   have hlt:j < ops.length:=(List.getElem?_eq_some_iff.1 hj').1
   have hmem:=hl j (List.mem_range.2 hlt)
   rw [hj']at hmem
   simp only [hjt,bne_self_eq_false,Bool.false_or]at hmem
   have hdj:j∈deps o:=by simpa using hmem
   have hdone:=hdeps j hdj
   rw [putAll_new vs' hd hdist 0 a0 j oj t hj hjt,h.new j oj t hj hdone hjt,Nat.zero_add,hvs j hdone]
  ·have hno:∀(k:Nat) (x:Oper),hd[k]?=some x->x.dst≠some t:=fun k x hx hc=>hex ⟨k,x,hx,hc⟩
   rw [putAll_old vs' t hd 0 a0 hno,h.old t fun j x hx _=>hno j x hx]
 refine⟨execOp_congr o ?_ ?_,?_⟩
 ·intro cs b hc;rw [hc]at hsel;simp at hsel
 ·intro x hx
  cases x with
  | tmp t=>
    have hs:=slot t (List.mem_append_left _ (List.mem_filterMap.2 ⟨.tmp t,by simpa using hx,rfl⟩))
    simp only [Act.eval,Array.getD_eq_getD_getElem?,hs]
  | _=>rfl
 ·unfold Region.wanted
  cases hg:o.guard with
  | none=>rfl
  | some gw=>
    obtain⟨g,want⟩:=gw
    have hy:yielded ops.toArray (putAll vs' 0 hd a0).tmps g=yielded ops.toArray a.tmps g:=by
     unfold yielded
     cases ht:(ops.toArray[g]?).bind (·.dst)with
     | none=>rfl
     | some t=>
       have hs:=slot t (by
        unfold Oper.looksAt
        rw [hg]
        refine List.mem_append_right _ ?_
        show t∈((ops.toArray[g]?).bind fun x=>x.dst).toList
        rw [ht]
        simp)
       simp only [Option.bind_some,hs]
    simp only [hy]
/-- The operations beyond the first n wait for all of these. -/
def waitB (ops:List Oper) (n:Nat):Bool:=(List.range ops.length).all fun i=>decide (i < n) || match (ops[i]?:Option Oper)with|some o=>(List.range n).all fun j=>(deps o).contains j|none=>true
def headDone (n m:Nat):Array Bool:=(List.replicate n true++List.replicate m false).toArray
theorem anyH {hd tl:List Oper} {J:World->Prop} {a0:Act} {ss:List (Sp R)} {Q:Exit->Act->World->Prop} (hall:∀o∈hd,okOne (hd++tl) o=true)(hdist:distinct hd=true)(hS:sizeB hd a0.tmps.size=true)(hb:backB (hd++tl)=true)
 (hw:waitB (hd++tl) hd.length=true) (hseq:Region.seqB .any (hd++tl).toArray tl.length hd.length (headDone hd.length tl.length)=true) (hpos:0 < hd.length)
 (hob:oblH P (hd++tl) hd J a0 ss 0 hd)
 (hfin:∀vs w,J w->(∀j,j < hd.length->(ss.getD j (Sp.any R)).p (vs j) w)->wpList P (hd++tl).toArray Q tl (putAll vs 0 hd a0) w):
 ∀(fuel:Nat) (listed:Array Bool) (a:Act) (w:World) (vs:Nat->Value),listed.size=(hd++tl).length->(∀j,hd.length<=j->listed.getD j false=false)->todo (hd++tl).length listed=fuel->J w->Fits hd a0 vs (fun j=>listed.getD j false) a->
  (∀j,j < hd.length->listed.getD j false=true->(ss.getD j (Sp.any R)).p (valOf ((hd[j]?).bind (·.dst)) (vs j)) w)->
  wpAny P .any (hd++tl).toArray Q fuel listed a w:=by
 have hpre:∀(j:Nat) (o:Oper),hd[j]?=some o->(hd++tl)[j]?=some o:=by
  intro j o hj
  have hlt:=(List.getElem?_eq_some_iff.1 hj).1
  rw [List.getElem?_append_left hlt];exact hj
 have fin:∀(listed:Array Bool) (a:Act) (w:World) (vs:Nat->Value),listed.size=(hd++tl).length->(∀j,hd.length<=j->listed.getD j false=false)->J w->Fits hd a0 vs (fun j=>listed.getD j false) a->
  (∀j,j < hd.length->listed.getD j false=true->(ss.getD j (Sp.any R)).p (valOf ((hd[j]?).bind (·.dst)) (vs j)) w)->
  (∀j,j < hd.length->listed.getD j false=true)->wpAny P .any (hd++tl).toArray Q (todo (hd++tl).length listed) listed a w:=by
  intro listed a w vs hs htl hJ hF hv hdn
  have ha:a=putAll (fun j=>valOf ((hd[j]?).bind (·.dst)) (vs j)) 0 hd a0:=by
   have h1:a.tmps=(putAll (fun j=>valOf ((hd[j]?).bind (·.dst)) (vs j)) 0 hd a0).tmps:=by
    refine Array.ext_getElem? fun t=>?_
    by_cases hex:∃(j:Nat) (oj:Oper),hd[j]?=some oj/\oj.dst=some t
    ·obtain⟨j,oj,hj,hjt⟩:=hex
     have hlt:j < hd.length:=(List.getElem?_eq_some_iff.1 hj).1
     rw [putAll_new _ hd hdist 0 a0 j oj t hj hjt,hF.new j oj t hj (hdn j hlt) hjt,Nat.zero_add,hj]
     simp [valOf,hjt]
    ·have hno:∀(k:Nat) (x:Oper),hd[k]?=some x->x.dst≠some t:=fun k x hx hc=>hex ⟨k,x,hx,hc⟩
     rw [putAll_old _ t hd 0 a0 hno,hF.old t fun j x hx _=>hno j x hx]
   have h2:=hF.defers
   rw [<-putAll_def (fun j=>valOf ((hd[j]?).bind (·.dst)) (vs j)) hd 0 a0]at h2
   cases a
   simp only at h1 h2
   subst h1;subst h2
   rfl
  have hlis:listed=headDone hd.length tl.length:=by
   refine Array.ext_getElem? fun j=>?_
   have hsz:(headDone hd.length tl.length).size=(hd++tl).length:=by simp [headDone]
   rcases Nat.lt_or_ge j (hd++tl).length with hj|hj
   ·have e1:listed[j]?=some (listed.getD j false):=by
     have:j < listed.size:=by omega
     simp [this]
    rw [e1]
    rcases Nat.lt_or_ge j hd.length with hj'|hj'
    ·rw [hdn j hj']
     simp [headDone,List.getElem?_append_left (show j < (List.replicate hd.length true).length by simpa using hj'),hj']
    ·rw [htl j hj']
     have hj2:j - hd.length < tl.length:=by simp at hj;omega
     simp [headDone,List.getElem?_append_right (show(List.replicate hd.length true).length<=j by simpa using hj'),hj2]
   ·rw [Array.getElem?_eq_none (by omega),Array.getElem?_eq_none (by omega)]
  have htd:todo (hd++tl).length listed=tl.length:=by
   rw [hlis]
   unfold todo
   rw [List.length_append,List.range_add,List.countP_append,List.countP_map]
   have e1:List.countP (fun j=> !(headDone hd.length tl.length).getD j true) (List.range hd.length)=0:=by
    refine List.countP_eq_zero.2 fun j hj=>?_
    have hj':=List.mem_range.1 hj
    simp [headDone,List.getElem?_append_left (show j < (List.replicate hd.length true).length by simpa using hj'),hj']
   have e2:List.countP ((fun j=> !(headDone hd.length tl.length).getD j true)∘fun x=>hd.length+x) (List.range tl.length)=(List.range tl.length).length:=by
    refine List.countP_eq_length.2 fun j hj=>?_
    have hj':=List.mem_range.1 hj
    simp [headDone,List.getElem?_append_right,hj']
   rw [e1,e2,List.length_range]
   omega
  rw [htd]
  refine wpAny_of_seq tl hd.length listed a w (fun j=>?_) (by rw [hlis];exact hseq) ?_
  ·rw [List.getElem?_toArray,List.getElem?_append_right (Nat.le_add_right _ _),Nat.add_sub_cancel_left]
  ·rw [ha]
   exact hfin _ w hJ fun j hj=>hv j hj (hdn j hj)
 intro fuel
 induction fuel with
 | zero=>
   intro listed a w vs hs htl ht hJ hF hv
   have hall':∀j,j < (hd++tl).length->listed.getD j true=true:=todo_zero ht
   have hdn:∀j,j < hd.length->listed.getD j false=true:=by
    intro j hj
    have hj2:j < listed.size:=by simp at hs;omega
    have:=hall' j (by simp;omega)
    simpa [Array.getD,hj2]using this
   have:=fin listed a w vs hs htl hJ hF hv hdn
   rwa [ht]at this
 | succ fuel ih=>
   intro listed a w vs hs htl ht hJ hF hv
   by_cases hdn:∀j,j < hd.length->listed.getD j false=true
   ·have:=fin listed a w vs hs htl hJ hF hv hdn
    rwa [ht]at this
   have hnot:∃j,j < hd.length/\listed.getD j false=false:=by
    apply Classical.byContradiction
    intro hc
    apply hdn
    intro j hj
    cases hb':listed.getD j false with
    | true=>rfl
    | false=>exact absurd ⟨j,hj,hb'⟩ hc
   have ready_hd:∀i,i∈Region.ready .any (hd++tl).toArray listed->i < hd.length:=by
    intro i hi
    rcases Nat.lt_or_ge i hd.length with h|h
    ·exact h
    ·exfalso
     obtain⟨j,hj,hjf⟩:=hnot
     rw [mem_ready]at hi
     obtain⟨_,o,ho,hdep⟩:=hi
     have ho':(hd++tl)[i]?=some o:=by simpa using ho
     have hil:=(List.getElem?_eq_some_iff.1 ho').1
     simp only [waitB,List.all_eq_true]at hw
     have:=hw i (List.mem_range.2 hil)
     rw [ho']at this
     simp only [Bool.or_eq_true,decide_eq_true_eq,List.all_eq_true]at this
     have h2:=(this.resolve_left (by omega)) j (List.mem_range.2 hj)
     have h3:j∈deps o:=by simpa using h2
     obtain⟨e,he,hej⟩:=List.mem_map.1 h3
     obtain⟨he1,he2⟩:=List.mem_filter.1 he
     have:=hdep e (by simpa using he1) he2
     rw [hej,hjf]at this
     cases this
   refine⟨fun hr=>?_,fun i hi=>?_⟩
   ·exfalso
    obtain⟨j,hj,hjf⟩:=hnot
    have:=ready_some hb hs hr j (by simp;omega)
    rw [hjf]at this;cases this
   ·have hih:=ready_hd i hi
    rw [mem_ready]at hi
    obtain⟨hi0,o,ho',hdep⟩:=hi
    have ho2:(hd++tl)[i]?=some o:=by simpa using ho'
    have ho:hd[i]?=some o:=by rwa [List.getElem?_append_left hih]at ho2
    have hdl:∀j∈deps o,listed.getD j false=true:=by
     intro j hj
     obtain⟨e,he,rfl⟩:=List.mem_map.1 hj
     obtain⟨he1,he2⟩:=List.mem_filter.1 he
     exact hdep e (by simpa using he1) he2
    have hi0':listed.getD i false=false:=getD_both hi0
    have hjl:∀j,listed.getD j false=true->j < hd.length:=by
     intro j hj
     rcases Nat.lt_or_ge j hd.length with h|h
     ·exact h
     ·rw [htl j h]at hj;cases hj
    let vs1:Nat->Value:=fun j=>valOf ((hd[j]?).bind (·.dst)) (vs j)
    have hFv1:Fits hd a0 vs1 (fun j=>listed.getD j false) a:=⟨hF.defers,hF.size,hF.old,fun j x d hx hj hxd=>by
     rw [hF.new j x d hx hj hxd]
     simp [vs1,valOf,hx,hxd]⟩
    obtain⟨hex,hwd⟩:=exec_sameH (vs':=vs1) hall hdist hpre hFv1 i o ho hdl (fun _ _=>rfl)
    have hobl:=oblH_at hd 0 hob i o ho vs1 w hJ (fun j hj=>hv j (hjl j (hdl j hj)) (hdl j hj))
    rw [Nat.zero_add]at hobl
    refine step_of (a0:=a0) ho2 (putAll_def _ _ _ _) ?_ hex hwd hobl ?_
    ·intro d hd'
     rw [putAll_size]
     simp only [sizeB,List.all_eq_true]at hS
     have:=hS o (List.mem_of_getElem? ho)
     rw [hd']at this
     simpa using this
    ·intro v w' hJ' hR hp
     have hsi:i < listed.size:=by rw [hs];simp;omega
     refine ih _ _ _ (fun j=>if j=i then v else vs j) (by simpa using hs) ?_ ?_ hJ' ?_ ?_
     ·intro j hj
      rw [getD_set_ne false (by omega)]
      exact htl j hj
     ·have:=todo_exact (n:=(hd++tl).length) (by simp;omega) hi0 hsi
      omega
     ·refine hF.put hdist i o ho v hi0' fun j=>?_
      by_cases e:i=j
      ·subst e;simp [Array.getD,hsi]
      ·rw [getD_set_ne false e];simp [Ne.symm e]
     ·intro j hj hjd
      by_cases e:i=j
      ·subst e
       rw [ho]
       simp only [Option.bind_some,if_true]
       exact hp
      ·rw [getD_set_ne false e]at hjd
       have:=(ss.getD j (Sp.any R)).keep _ _ _ hR (hv j hj hjd)
       simpa [Ne.symm e]using this
def headB (hd tl:List Oper) (n:Nat):Bool:=hd.all (okOne (hd++tl)) && distinct hd && sizeB hd n && backB (hd++tl) && waitB (hd++tl) hd.length && Region.seqB .any (hd++tl).toArray tl.length hd.length (headDone hd.length tl.length) && decide (0 < hd.length)
/-- THE LAW WITH A TAIL. -/
theorem wp_region_head {l hd tl:List Oper} {id:Nat} {J:World->Prop} {a0:Act} {w0:World} {Q:Exit->Act->World->Prop} (ss:List (Sp R))(hm:P.follows .mixedOrders=true)
 (hl:l=hd++tl) (hB:headB hd tl a0.tmps.size=true) (hJ:J w0.drew)
 (hob:oblH P l hd J a0 ss 0 hd)
 (hfin:∀vs w,J w->(∀j,j < hd.length->(ss.getD j (Sp.any R)).p (vs j) w)->wpList P l.toArray Q tl (putAll vs 0 hd a0) w):
 (Code.region id l.toArray true).wp P Q a0 w0:=by
 subst hl
 simp only [headB,Bool.and_eq_true,decide_eq_true_eq,List.all_eq_true]at hB
 obtain⟨⟨⟨⟨⟨⟨h1,h2⟩,h3⟩,h4⟩,h5⟩,h6⟩,h7⟩:=hB
 refine wp_region_any hm ?_
 have hsz:(hd++tl).toArray.size=(hd++tl).length:=by simp
 have ht:todo (hd++tl).length (Array.replicate (hd++tl).length false)=(hd++tl).length:=by
  unfold todo
  have:List.countP (fun j=> !(Array.replicate (hd++tl).length false).getD j true) (List.range (hd++tl).length)=(List.range (hd++tl).length).length:=by
   refine List.countP_eq_length.2 fun j hj=>?_
   have hj':=List.mem_range.1 hj
   simp at hj'
   simp [Array.getD,hj']
  rw [this,List.length_range]
 rw [hsz]
 refine anyH h1 h2 h3 h4 h5 h6 h7 hob hfin _ _ _ _ (fun _=>undef) (by simp) ?_ ht hJ ?_ ?_
 ·intro j _;exact getD_replicate_false _ _
 ·refine⟨rfl,rfl,fun _ _=>rfl,fun j o d _ hj=>?_⟩
  rw [getD_replicate_false]at hj;cases hj
 ·intro j _ hj
  rw [getD_replicate_false]at hj;cases hj
theorem wp_region_cut {l:List Oper} {id:Nat} {J:World->Prop} {a0:Act} {w0:World} {Q:Exit->Act->World->Prop} (n:Nat)(ss:List (Sp R))(hm:P.follows .mixedOrders=true)
 (hB:headB (l.take n) (l.drop n) a0.tmps.size=true) (hJ:J w0.drew)
 (hob:oblH P l (l.take n) J a0 ss 0 (l.take n))
 (hfin:∀vs w,J w->(∀j,j < (l.take n).length->(ss.getD j (Sp.any R)).p (vs j) w)->wpList P l.toArray Q (l.drop n) (putAll vs 0 (l.take n) a0) w):
 (Code.region id l.toArray true).wp P Q a0 w0:=
 wp_region_head ss hm (List.take_append_drop n l).symm hB hJ hob hfin
def deptsOf (ops:List Oper) (i:Nat):List Nat:=(List.range ops.length).filter fun k=>match (ops[k]?:Option Oper)with|some o=>(deps o).contains i|none=>false
/-- What an operation has to leave: J of its value and the world. -/
def postL (J:Value->World->Prop) (R:World->World->Prop) (s:Sp R) (dst:Option Tmp) (ds:List Deferred) (w:World):Exit->Act->World->Prop
 | .normal,a',w'=>a'.defers=ds/\J (slotOf dst a') w'/\R w w'/\s.p (slotOf dst a') w'
 | _,_,_=>False
def upd (vs:Nat->Value) (i:Nat) (v:Value):Nat->Value:=fun j=>if j=i then v else vs j
def updB (L:Nat->Bool) (i:Nat):Nat->Bool:=fun j=>L j || j == i
def oblL (P:Program) (ops:List Oper) (J:(Nat->Bool)->(Nat->Value)->World->Prop) (a0:Act) (ss:List (Sp R)):Nat->List Oper->Prop
 | _,[]=>True
 | i,o :: rest=>(∀(vs:Nat->Value) (w:World) (L:Nat->Bool),L i=false->(∀j∈deps o,L j=true)->(∀k∈deptsOf ops i,L k=false)->J L vs w->(∀j∈deps o,(ss.getD j (Sp.any R)).p (vs j) w)->
    wpList P ops.toArray (postL (fun v w'=>J (updB L i) (upd vs i v) w') R (ss.getD i (Sp.any R)) o.dst a0.defers w) [o] (putAll vs 0 ops a0) w)/\oblL P ops J a0 ss (i+1) rest
theorem oblL_at {ops:List Oper} {J:(Nat->Bool)->(Nat->Value)->World->Prop} {a0:Act} {ss:List (Sp R)} :∀(l:List Oper) (i:Nat),oblL P ops J a0 ss i l->∀(k:Nat) (o:Oper),l[k]?=some o->
 ∀(vs:Nat->Value) (w:World) (L:Nat->Bool),L (i+k)=false->(∀j∈deps o,L j=true)->(∀k'∈deptsOf ops (i+k),L k'=false)->J L vs w->(∀j∈deps o,(ss.getD j (Sp.any R)).p (vs j) w)->
  wpList P ops.toArray (postL (fun v w'=>J (updB L (i+k)) (upd vs (i+k) v) w') R (ss.getD (i+k) (Sp.any R)) o.dst a0.defers w) [o] (putAll vs 0 ops a0) w:=by
 intro l
 induction l with
 | nil=>intro i _ k o h;simp at h
 | cons x rest ih=>
   intro i h k o hk
   cases k with
   | zero=>simp at hk;subst hk;exact h.1
   | succ k=>
     have:=ih (i+1) h.2 k o (by simpa using hk)
     rwa [show i+1+k=i+(k+1) by omega]at this
/-- One operation in its own frame, out of its obligation in the full one. -/
theorem step_ofL {ops:List Oper} {J:Value->World->Prop} {a0:Act} {s:Sp R} {Q:Exit->Act->World->Prop} {i:Nat} {o:Oper} {a:Act} {w:World} {F:Act} (ho:ops[i]?=some o)
 (hFd:F.defers=a0.defers) (hFs:∀d,o.dst=some d->d < F.tmps.size)
 (hex:execOp F.eval o=execOp a.eval o) (hwd:Region.wanted o (yielded ops.toArray F.tmps)=Region.wanted o (yielded ops.toArray a.tmps))
 (h:wpList P ops.toArray (postL J R s o.dst a0.defers w) [o] F w)
 {K:Act->World->Prop} (hK:∀v w',J (valOf o.dst v) w'->R w w'->s.p (valOf o.dst v) w'->K (a.put o.dst v) w'):
 wpOp P ops.toArray Q i K a w:=by
 have key:∀v w',wpList P ops.toArray (postL J R s o.dst a0.defers w) [] (F.put o.dst v) w'->K (a.put o.dst v) w':=by
  intro v w' hp
  obtain⟨_,h1,h2,h3⟩:(F.put o.dst v).defers=a0.defers/\J (slotOf o.dst (F.put o.dst v)) w'/\R w w'/\s.p (slotOf o.dst (F.put o.dst v)) w':=hp
  rw [slotOf_put hFs]at h1 h3
  exact hK v w' h1 h2 h3
 unfold wpOp
 have ho':ops.toArray[i]?=some o:=by simpa using ho
 simp only [ho']
 unfold wpList at h
 rw [hwd]at h
 split
 ·rename_i hw
  rw [if_pos hw]at h
  rcases h with h|⟨_,a1,w1,hq⟩
  ·refine .inl ?_
   unfold Oper.wp at *
   rw [hex]at h
   generalize (execOp a.eval o).run P w=r at *
   cases r with
   | ok n w'=>
     cases n <;> simp only [Oper.upon]at h⊢
     case value v=>exact key v w' h
     case skip=>exact key undef w' h
     case defer d=>
      exfalso
      obtain⟨hd,_⟩:(({F with defers:=d :: F.defers} :Act).put o.dst undef).defers=a0.defers/\_:=h
      rw [put_def]at hd
      have hl:=congrArg List.length hd
      simp [hFd]at hl
     case enter f args=>
      refine Calls.mono h fun e w'' he=>?_
      cases e with
      | returned v=>exact key v w'' he
      | panicked ch=>exact he.elim
      | outgrown=>obtain⟨a1,w1,hq⟩:=he;exact hq.elim
     case row r args=>exact Rows.mono h fun v w'' he=>key v w'' he
     all_goals exact h
   | halt x w'=>cases x <;> simp only [Oper.upon]at h⊢<;> exact h.elim
  ·exact hq.elim
 ·rename_i hw
  rw [if_neg hw]at h
  exact key undef w h
theorem any_ofL {ops:List Oper} {J:(Nat->Bool)->(Nat->Value)->World->Prop} {a0:Act} {ss:List (Sp R)} {Q:Exit->Act->World->Prop} (hB:okB ops=true)(hS:sizeB ops a0.tmps.size=true)(hb:backB ops=true)
 (hob:oblL P ops J a0 ss 0 ops)
 (hfin:∀vs w L,(∀j,j < ops.length->L j=true)->J L vs w->(∀j,j < ops.length->(ss.getD j (Sp.any R)).p (vs j) w)->Q .normal (putAll vs 0 ops a0) w):
 ∀(fuel:Nat) (listed:Array Bool) (a:Act) (w:World) (vs:Nat->Value),listed.size=ops.length->todo ops.length listed<=fuel->J (fun j=>listed.getD j false) vs w->Fits ops a0 vs (fun j=>listed.getD j false) a->
  (∀j,j < ops.length->listed.getD j false=true->(ss.getD j (Sp.any R)).p (vs j) w)->
  (∀k o,ops[k]?=some o->listed.getD k false=true->∀j∈deps o,listed.getD j false=true)->
  wpAny P .any ops.toArray Q fuel listed a w:=by
 have hdist:distinct ops=true:=by simp only [okB,Bool.and_eq_true]at hB;exact hB.2
 have done:∀(listed:Array Bool) (a:Act) (w:World) (vs:Nat->Value),J (fun j=>listed.getD j false) vs w->Fits ops a0 vs (fun j=>listed.getD j false) a->
  (∀j,j < ops.length->listed.getD j false=true->(ss.getD j (Sp.any R)).p (vs j) w)->
  (∀j,j < ops.length->listed.getD j false=true)->Q .normal a w:=by
  intro listed a w vs hJ hF hv hall
  have ha:a=putAll vs 0 ops a0:=by
   have h1:a.tmps=(putAll vs 0 ops a0).tmps:=by
    refine Array.ext_getElem? fun t=>?_
    by_cases hex:∃(j:Nat) (oj:Oper),ops[j]?=some oj/\oj.dst=some t
    ·obtain⟨j,oj,hj,hjt⟩:=hex
     have hlt:j < ops.length:=(List.getElem?_eq_some_iff.1 hj).1
     rw [putAll_new _ ops hdist 0 a0 j oj t hj hjt,hF.new j oj t hj (hall j hlt) hjt,Nat.zero_add]
    ·have hno:∀(k:Nat) (x:Oper),ops[k]?=some x->x.dst≠some t:=fun k x hx hc=>hex ⟨k,x,hx,hc⟩
     rw [putAll_old _ t ops 0 a0 hno,hF.old t fun j x hx _=>hno j x hx]
   have h2:=hF.defers
   rw [<-putAll_def vs ops 0 a0]at h2
   cases a
   simp only at h1 h2
   subst h1;subst h2
   rfl
  rw [ha]
  exact hfin vs w _ hall hJ fun j hj=>hv j hj (hall j hj)
 intro fuel
 induction fuel with
 | zero=>
   intro listed a w vs hs ht hJ hF hv hcl
   have hall:∀j,j < ops.length->listed.getD j true=true:=todo_zero (by omega)
   have hr:Region.ready .any ops.toArray listed=[]:=by
    refine List.eq_nil_iff_forall_not_mem.2 fun j hj=>?_
    rw [mem_ready]at hj
    obtain⟨h1,o,h2,_⟩:=hj
    have hlt:j < ops.length:=by have:=(Array.getElem?_eq_some_iff.1 h2).1;simpa using this
    rw [hall j hlt]at h1;cases h1
   exact⟨hr,done listed a w vs hJ hF hv (ready_some hb hs hr)⟩
 | succ fuel ih=>
   intro listed a w vs hs ht hJ hF hv hcl
   refine⟨fun hr=>done listed a w vs hJ hF hv (ready_some hb hs hr),fun i hi=>?_⟩
   rw [mem_ready]at hi
   obtain⟨hi0,o,ho',hdep⟩:=hi
   have ho:ops[i]?=some o:=by simpa using ho'
   have hlt:i < ops.length:=(List.getElem?_eq_some_iff.1 ho).1
   have hdl:∀j∈deps o,listed.getD j false=true:=by
    intro j hj
    obtain⟨e,he,rfl⟩:=List.mem_map.1 hj
    obtain⟨he1,he2⟩:=List.mem_filter.1 he
    exact hdep e (by simpa using he1) he2
   have hi0':listed.getD i false=false:=getD_both hi0
   have hjl:∀j,listed.getD j false=true->j < ops.length:=by
    intro j hj
    rcases Nat.lt_or_ge j listed.size with h|h
    ·omega
    ·simp [Array.getElem?_eq_none h]at hj
   obtain⟨hex,hwd⟩:=exec_same (vs':=vs) hB hF i o ho hdl (fun _ _=>rfl)
   have hdts:∀k∈deptsOf ops i,listed.getD k false=false:=by
    intro k hk
    obtain⟨hk1,hk2⟩:=List.mem_filter.1 hk
    have hkl:=List.mem_range.1 hk1
    rw [List.getElem?_eq_getElem hkl]at hk2
    cases hb':listed.getD k false with
    | false=>rfl
    | true=>
      exfalso
      have:=hcl k ops[k] (List.getElem?_eq_getElem hkl) hb' i (by simpa using hk2)
      rw [hi0']at this;cases this
   have hobl:=oblL_at ops 0 hob i o ho vs w (fun j=>listed.getD j false) (by rw [Nat.zero_add];exact hi0') hdl (by rw [Nat.zero_add];exact hdts) hJ (fun j hj=>hv j (hjl j (hdl j hj)) (hdl j hj))
   rw [Nat.zero_add]at hobl
   have hsi:i < listed.size:=by omega
   have hL:(fun j=>(listed.setIfInBounds i true).getD j false)=updB (fun j=>listed.getD j false) i:=by
    funext j
    unfold updB
    by_cases e:i=j
    ·subst e;simp [Array.getD,hsi]
    ·rw [getD_set_ne false e];simp [Ne.symm e]
   refine step_ofL (a0:=a0) ho (putAll_def _ _ _ _) ?_ hex hwd hobl ?_
   ·intro d hd
    rw [putAll_size]
    simp only [sizeB,List.all_eq_true]at hS
    have:=hS o (List.mem_of_getElem? ho)
    rw [hd]at this
    simpa using this
   ·intro v w' hJ' hR hp
    refine ih _ _ _ (upd vs i (valOf o.dst v)) (by simp [hs]) ?_ (by rw [hL];exact hJ') ?_ ?_ ?_
    ·have:=todo_step (n:=ops.length) hlt hi0 hsi;omega
    ·have h1:=hF.put hdist i o ho v hi0' fun j=>congrFun hL j
     refine⟨h1.defers,h1.size,h1.old,fun j x d hx hj hxd=>?_⟩
     rw [h1.new j x d hx hj hxd]
     unfold upd
     by_cases e:j=i
     ·subst e
      rw [ho]at hx;cases hx
      simp [valOf,hxd]
     ·simp [e]
    ·intro j hj hjd
     unfold upd
     by_cases e:i=j
     ·subst e
      simp only [if_true]
      exact hp
     ·rw [getD_set_ne false e]at hjd
      have:=(ss.getD j (Sp.any R)).keep _ _ _ hR (hv j hj hjd)
      simpa [Ne.symm e]using this
    ·intro k x hx hk j hj
     refine getD_set_true ?_
     by_cases e:i=k
     ·subst e
      rw [ho]at hx;cases hx
      exact hdl j hj
     ·rw [getD_set_ne false e]at hk
      exact hcl k x hx hk j hj
/-- THE LAW, with an invariant that knows what has been done. -/
theorem wp_region_ogL {ops:List Oper} {id:Nat} {J:(Nat->Bool)->(Nat->Value)->World->Prop} {a0:Act} {w0:World} {Q:Exit->Act->World->Prop} (ss:List (Sp R))(hm:P.follows .mixedOrders=true)
 (hB:(okB ops && sizeB ops a0.tmps.size && backB ops)=true) (hJ:J (fun _=>false) (fun _=>undef) w0.drew)
 (hob:oblL P ops J a0 ss 0 ops)
 (hfin:∀vs w L,(∀j,j < ops.length->L j=true)->J L vs w->(∀j,j < ops.length->(ss.getD j (Sp.any R)).p (vs j) w)->Q .normal (putAll vs 0 ops a0) w):
 (Code.region id ops.toArray true).wp P Q a0 w0:=by
 simp only [Bool.and_eq_true]at hB
 refine wp_region_any hm ?_
 refine any_ofL hB.1.1 hB.1.2 hB.2 hob hfin _ _ _ _ (fun _=>undef) (by simp) ?_ ?_ ?_ ?_ ?_
 ·unfold todo
  exact Nat.le_trans List.countP_le_length (by simp)
 ·have e:(fun j=>(Array.replicate ops.toArray.size false).getD j false)=fun _=>false:=by funext j;exact getD_replicate_false _ _
  rw [e];exact hJ
 ·refine⟨rfl,rfl,fun _ _=>rfl,fun j o d _ hj=>?_⟩
  rw [getD_replicate_false]at hj;cases hj
 ·intro j _ hj
  rw [getD_replicate_false]at hj;cases hj
 ·intro k o _ hj
  rw [getD_replicate_false]at hj;cases hj
end
end Go.Proofs.YtdenjanihikolaaGreatDoor.Og
