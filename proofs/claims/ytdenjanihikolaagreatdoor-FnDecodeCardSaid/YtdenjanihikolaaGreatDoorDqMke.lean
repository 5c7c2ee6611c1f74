/- Whether a message is proper: numbers and pairs, by contract. -/
import Derived.Test.YtdenjanihikolaaGreatDoorDqA0
import Derived.Test.YtdenjanihikolaaGreatDoorDqTa
import Derived.Test.YtdenjanihikolaaGreatDoorDqWrd
import Derived.WalkLawsBesides
import Derived.Deep.QuietTactic
import Derived.BigQuiet
import Derived.Deep.RegionWith
namespace Go.Proofs.YtdenjanihikolaaGreatDoor
set_option linter.unusedVariables false
set_option linter.unusedSimpArgs false
set_option maxRecDepth 100000
open Go.RowKit
/-- append of elements of one cell that are read; a row that is there stays there. -/
theorem ap_many {ops:Array Oper} {rest:List Oper} {o:Oper} {a:Act} {Q:Exit->Act->World->Prop} {w:World} (hgd:o.guard=none)(s x:Operand)(t e bytes:Nat)(z:Value)
 (ho:o.op=.call {callee:=.builtin .append,args:= #[s,x],argTypes:= #[t,t]})
 (ht:Tryz.prog.underlying t=some (.slice e)) (hi:(Tryz.prog.info? e).map (fun i=>(i.zero,i.size,i.bytes))=some (some z,1,bytes)) (hzs:z.cells.size=1)
 {K:Nat->Prop} {w0:World} {a0:Addr} {n c0:Nat} {xs:List Value} (hs:a.eval s=.slice (some a0) n c0) (hb:Row e 1 K w0 w (.slice (some a0) n c0) n xs) {p:Addr} {m c:Nat} {ys:List Value} (hx:a.eval x=.slice (some p) m c) (hl:ys.length=m) (hcell:∀j u,ys[j]?=some u->w.cell? (p.add j)=some u) (h1:∀u∈ys,u.oneCell'=true) (hn:n+m < 1000000000000) (hby:bytes<=100)
 (h:∀a1 c1 w',Row e 1 K w0 w' (.slice (some a1) (n+m) c1) (n+m) (xs++ys)->wpList Tryz.prog ops Q rest (a.put o.dst (.slice (some a1) (n+m) c1)) w'):wpList Tryz.prog ops Q (o :: rest) a w:=by
 obtain⟨i0,hi,hz0,hz1,hz2⟩:=info_parts hi
 refine wpList_plain hgd fun C hC=>?_
 by_cases hm:0 < m
 ·have hbb:(n+m) * bytes<=140737488355328:=Nat.le_trans (Nat.mul_le_mul (show n+m<=1000000000000 by omega) hby) (by omega)
  obtain⟨v',w',hr,h2,h3,h4,h5⟩:=run_append_own_at (P:=Tryz.prog) w 0 t o.type e i0 z 1 bytes ht hi hz0 hz1 hz2 hzs (by decide) _ n xs hb.own p m c ys (by rw [hl,Nat.mul_one]) hcell h1 (by unfold maxLen;omega) hbb (Nat.zero_le _)
  have hsome:∃a1 c1,v'=.slice (some a1) (n+m) c1:=by
   rcases h2.2 with ⟨_,h0⟩|⟨g,cap,_,hv,_⟩
   ·omega
   ·exact⟨_,_,hv⟩
  unfold Oper.wp execOp
  simp only [ho,resolve,invoke,builtin,Sem.run_bind,Sem.run_pure,Result.andThen_ok,List.map_toArray,List.map_cons,List.map_nil,hs,hx,hr]
  obtain⟨a1,c1,rfl⟩:=hsome
  refine hC _ _ (h a1 c1 w' (hb.step h3 h2 fun g hg=>?_))
  rcases h5 with h5|h5
  ·exact .inl (h5▸hg)
  ·exact .inr (by rw [h5]at hg;cases hg;exact Nat.le_refl _)
 ·obtain rfl:m=0:=by omega
  have hy:ys=[]:=List.eq_nil_of_length_eq_zero hl
  subst hy
  have hnc:n<=c0:=by
   rcases hb.own.2 with ⟨h0,_⟩|⟨g,cap,cur,hv,hbg,hg,hnc,_⟩
   ·cases h0
   ·simp only [Value.slice.injEq]at hv
    omega
  have hr:(Builtin.append_ #[t,t] o.type #[.slice (some a0) n c0,.slice (some p) 0 c]).run Tryz.prog w=.ok (.slice (some a0) n c0) w:=by
   simp [Builtin.append_,run_underlying ht,sizeOf,typeInfo,hi,Builtin.lenOf,Builtin.firstCells,loadCells,loadCellsFrom,hnc,storeCells]
  unfold Oper.wp execOp
  simp only [ho,resolve,invoke,builtin,Sem.run_bind,Sem.run_pure,Result.andThen_ok,List.map_toArray,List.map_cons,List.map_nil,hs,hx,hr]
  exact hC _ _ (h a0 c0 w (by simpa using hb))
/-- an empty row in a new block -/
theorem Row.fresh (e:Nat)(w:World)(size:Nat):Row e size (Lt w.heap.size) w (w.alloc (.cells #[] e)) (.slice (some ⟨w.heap.size,0,none⟩) 0 0) 0 []:=by
 have hx:=ext_alloc w (.cells #[] e)
 refine⟨⟨by simp,.inr ⟨w.heap.size,0, #[],rfl,Nat.zero_le _,heap_alloc_new _ _,Nat.le_refl _,by unfold maxLen;omega,by simp,by simp⟩⟩,?_,fun k hk=>hx.block k hk,fun k hk=>Nat.lt_of_lt_of_le hk hx.size,hx.os,hx.tape,hx.output⟩
 intro g hg hk
 have:w.heap.size=g:=by simpa [Value.ownBlock]using hg
 exact Nat.lt_irrefl _ (this▸hk)
/-- a value as bytes -/
def optV (x:Bool×List Int):Option (List Int):=if x.1 then none else some x.2
theorem info26:(Tryz.prog.info? 26).map (fun i=>(i.zero,i.size,i.bytes))=some (some (.slice none 0 0),1,24):=by kernel_rfl
theorem info9:(Tryz.prog.info? 9).map (fun i=>(i.zero,i.size,i.bytes))=some (some (.string ⟨#[]⟩),1,16):=by kernel_rfl
theorem Row.rebase {e size:Nat} {K K':Nat->Prop} {w0 w:World} {v:Value} {n:Nat} {xs:List Value} (h:Row e size K w0 w v n xs)(hlt:∀k,K' k->k < w.heap.size)(hne:∀g,v.ownBlock=some g->¬K' g):Row e size K' w w v n xs:=
 ⟨h.own,hne,fun _ _=>rfl,hlt,rfl,rfl,rfl⟩
/-- all blocks but the row's own -/
def But (w:World) (v:Value) (k:Nat):Prop:=k < w.heap.size/\v.ownBlock≠some k
theorem Row.but {e size:Nat} {K:Nat->Prop} {w0 w:World} {v:Value} {n:Nat} {xs:List Value} (h:Row e size K w0 w v n xs):Row e size (But w v) w w v n xs:=
 h.rebase (fun k hk=>hk.1) fun g hg hk=>hk.2 hg
theorem Row.unbut {e size:Nat} {w w2 w3:World} {v v2:Value} {n m:Nat} {xs ys:List Value} (h:Row e size (Lt w.heap.size) w w2 v n xs)(h2:Row e size (But w2 v) w2 w3 v2 m ys):Row e size (Lt w.heap.size) w w3 v2 m ys:=by
 have hb:∀k,k < w.heap.size->But w2 v k:=fun k hk=>⟨h.lt k hk,fun e=>h.off k e hk⟩
 exact⟨h2.own,fun g hg hk=>h2.off g hg (hb g hk),fun k hk=>(h2.kept k (hb k hk)).trans (h.kept k hk),fun k hk=>h2.lt k (hb k hk),h2.os.trans h.os,h2.tape.trans h.tape,h2.output.trans h.output⟩
theorem Rd1.of_ownS {w:World} {B e:Nat} {v:Value} {xs:List ByteArray} (h:w.ownsRow B e 1 v xs.length (xs.map Value.string)):Rd1 isStr w v xs:=by
 rcases h.2 with ⟨rfl,hn⟩|⟨g,cap,cur,rfl,hbg,hg,hnc,hcm,hcs,htake⟩
 ·exact⟨none,0,by rw [hn],by omega,by unfold maxLen;omega,fun h=>by omega⟩
 ·refine⟨_,cap,rfl,hnc,hcm,fun _=>⟨g,0,rfl,fun j hj=>?_⟩⟩
  have:=h.cells (g:=g) rfl j (.string xs[j]) (by
   rw [List.getElem?_map,List.getElem?_eq_getElem hj];rfl)
  rw [add_lit0]at this
  exact⟨_,this,rfl⟩
theorem one_strs (xs:List ByteArray):∀u∈xs.map Value.string,u.oneCell'=true:=by
 intro u hu
 obtain⟨_,_,rfl⟩:=List.mem_map.1 hu
 rfl
theorem one_ints (k:IntKind)(xs:List Int):∀u∈xs.map (Value.int k),u.oneCell'=true:=by
 intro u hu
 obtain⟨_,_,rfl⟩:=List.mem_map.1 hu
 rfl
theorem cloneI (l:List Int)(A:Option Addr)(c:Nat)(w:World)(h:RdI .u32 w (.slice A l.length c) l)(hl:l.length<=1000):Calls Tryz.prog 59 #[.slice A l.length c] w (GaveR (fun v w=>RdI .u32 w v l) l.length w):=by
 have HR:=zh h
 obtain⟨A',c',hv,h1,h2,h3⟩:=h
 obtain⟨rfl,rfl⟩:A=A'/\c=c':=by simpa using hv
 have H3:=zh h3
 clear h3 hv
 cases A with
 | none=>
   have hd:l=[]:=by
    rcases Nat.eq_zero_or_pos l.length with h|h
    ·exact List.eq_nil_of_length_eq_zero h
    ·obtain⟨_,_,hA,_⟩:=H3.out h;cases hA
   subst hd
   have hq:=fun wx=>Lib.run_eql_slice_nil (P:=Tryz.prog) wx 24 22 none 0 c 0 0 Tryz.underlying24
   go_enter Tryz.func59,Tryz.ntmps59
   go_wp2
   go_ret
   exact⟨none,0,rfl,Ext.refl _,fun w3 _=>⟨none,0,rfl,Nat.le_refl _,by unfold maxLen;omega,fun h=>absurd h (Nat.lt_irrefl 0)⟩⟩
 | some p=>
   have hcell:∀j u,(l.map (Value.int .u32))[j]?=some u->(w.alloc (.cells #[] 22)).cell? (p.add j)=some u:=by
    intro j u hj
    have hjl:j < l.length:=by
     rcases Nat.lt_or_ge j l.length with h|h
     ·exact h
     ·simp [List.getElem?_eq_none h]at hj
    obtain⟨b1,o1,hA,hc⟩:=H3.out (by omega)
    have hp:p=⟨b1,o1,none⟩:=by simpa using hA
    have hpj:p.add j=⟨b1,o1+j,none⟩:=by rw [hp,add_lit0]
    rw [hpj]
    refine Ext.cell (w:=w) (ext_alloc _ _) ?_
    rw [hc j hjl]
    rw [List.getElem?_map,List.getElem?_eq_getElem hjl]at hj
    simp at hj
    subst hj
    simp [List.getD,List.getElem?_eq_getElem hjl]
   have HC:=zh hcell
   have HF:=zh (Row.fresh 22 w 1)
   clear hcell
   have hq:=fun wx=>Lib.run_eql_slice_nil (P:=Tryz.prog) wx 24 22 (some p) l.length c 0 0 Tryz.underlying24
   go_enter Tryz.func59,Tryz.ntmps59
   go_wp2_with (at_builtin;refine ap_many (p:=p) (m:=l.length) (c:=c) (ys:=l.map (Value.int .u32)) rfl (.tmp 5) (.tmp 6) 24 22 4 _ rfl Tryz.underlying24 info22 rfl (by first|rfl|(simp;rfl)) HF.out rfl (by simp) HC.out (one_ints _ l) (by omega) (by decide) ?_;intro a1 c1 w2 hn;have HN:=zh hn;clear hn)
   go_ret
   have hn:=HN.out
   rw [Nat.zero_add,List.nil_append]at hn
   refine⟨some a1,c1,by simp,hn.bel,fun w3 h3=>RdI.of_own (own_stay hn.own hn.off h3)⟩
theorem cloneS (l:List ByteArray)(A:Option Addr)(c:Nat)(w:World)(h:Rd1 isStr w (.slice A l.length c) l)(hl:l.length<=1000):Calls Tryz.prog 67 #[.slice A l.length c] w (GaveR (fun v w=>Rd1 isStr w v l) l.length w):=by
 have HR:=zh h
 obtain⟨A',c',hv,h1,h2,h3⟩:=h
 obtain⟨rfl,rfl⟩:A=A'/\c=c':=by simpa using hv
 have H3:=zh h3
 clear h3 hv
 cases A with
 | none=>
   have hd:l=[]:=by
    rcases Nat.eq_zero_or_pos l.length with h|h
    ·exact List.eq_nil_of_length_eq_zero h
    ·obtain⟨_,_,hA,_⟩:=H3.out h;cases hA
   subst hd
   have hq:=fun wx=>Lib.run_eql_slice_nil (P:=Tryz.prog) wx 27 9 none 0 c 0 0 Tryz.underlying27
   go_enter Tryz.func67,Tryz.ntmps67
   go_wp2
   go_ret
   exact⟨none,0,rfl,Ext.refl _,fun w3 _=>⟨none,0,rfl,Nat.le_refl _,by unfold maxLen;omega,fun h=>absurd h (Nat.lt_irrefl 0)⟩⟩
 | some p=>
   have hcell:∀j u,(l.map Value.string)[j]?=some u->(w.alloc (.cells #[] 9)).cell? (p.add j)=some u:=by
    intro j u hj
    have hjl:j < l.length:=by
     rcases Nat.lt_or_ge j l.length with h|h
     ·exact h
     ·simp [List.getElem?_eq_none h]at hj
    obtain⟨b1,o1,hA,hc⟩:=H3.out (by omega)
    have hp:p=⟨b1,o1,none⟩:=by simpa using hA
    have hpj:p.add j=⟨b1,o1+j,none⟩:=by rw [hp,add_lit0]
    rw [hpj]
    refine Ext.cell (w:=w) (ext_alloc _ _) ?_
    obtain⟨u',hu,hs⟩:=hc j hjl
    rw [hu,show u'=Value.string l[j]from hs]
    rw [List.getElem?_map,List.getElem?_eq_getElem hjl]at hj
    simpa using hj
   have HC:=zh hcell
   have HF:=zh (Row.fresh 9 w 1)
   clear hcell
   have hq:=fun wx=>Lib.run_eql_slice_nil (P:=Tryz.prog) wx 27 9 (some p) l.length c 0 0 Tryz.underlying27
   go_enter Tryz.func67,Tryz.ntmps67
   go_wp2_with (at_builtin;refine ap_many (p:=p) (m:=l.length) (c:=c) (ys:=l.map Value.string) rfl (.tmp 5) (.tmp 6) 27 9 16 _ rfl Tryz.underlying27 info9 rfl (by first|rfl|(simp;rfl)) HF.out rfl (by simp) HC.out (one_strs l) (by omega) (by decide) ?_;intro a1 c1 w2 hn;have HN:=zh hn;clear hn)
   go_ret
   have hn:=HN.out
   rw [Nat.zero_add,List.nil_append]at hn
   refine⟨some a1,c1,by simp,hn.bel,fun w3 h3=>Rd1.of_ownS (own_stay hn.own hn.off h3)⟩
open Go.RowKit Og
def slA:Value->Option Addr
 | .slice a _ _=>a
 | _=>none
def slC:Value->Nat
 | .slice _ _ c=>c
 | _=>0
/-- a slice that stays readable -/
def PR (R:Value->World->Prop) (n:Nat) (W1:World) (u:Value) (x:World):Prop:=
 u=.slice (slA u) n (slC u)/\∀w3:World,(∀k,W1.heap.size<=k->k < x.heap.size->w3.heap[k]?=x.heap[k]?)->R (.slice (slA u) n (slC u)) w3
/-- A yes or no that says something if it is yes. -/
def Said (w:World) (P:Prop):Ending->World->Prop:=fun e w'=>∃x:Bool,e=.returned (.bool x)/\(x=true->P)/\Ext w w'
theorem all_take {α:Type} {P:α->Prop} (l:List α)(k:Nat)(h:k < l.length)(h1:∀y∈l.take k,P y)(h2:P l[k]):∀y∈l.take (k+1),P y:=by
 intro y hy
 rw [List.take_succ_eq_append_getElem h,List.mem_append]at hy
 rcases hy with hy|hy
 ·exact h1 y hy
 ·rw [List.mem_singleton]at hy
  rw [hy];exact h2
theorem fit3 (nul:Bool)(A:Option Addr)(n c:Nat)(w:World):Calls Tryz.prog 49 #[.agg #[.bool nul,.slice A n c]] w (Said w (n<=2147483647)):=by
 go_enter Tryz.func49,Tryz.ntmps49
 go_wp2
 all_goals(go_ret;refine⟨_,rfl,?_,ext_alloc _ _⟩;first|(intro h;cases h;done)|(intro _;omega))
theorem fit6 (a b:ByteArray)(w:World):Calls Tryz.prog 50 #[.agg #[.string a,.string b]] w (Said w (a.size<=2147483647/\b.size<=2147483647)):=by
 go_enter Tryz.func50,Tryz.ntmps50
 go_wp2
 all_goals(go_ret;refine⟨_,rfl,?_,ext_alloc _ _⟩;first|(intro h;cases h;done)|(intro _;omega))
theorem fit8 (a:ByteArray)(v1 v2 v3 v4 v5 v6:Value)(w:World):Calls Tryz.prog 51 #[.agg #[.string a,v1,v2,v3,v4,v5,v6]] w (Said w (a.size<=2147483647)):=by
 go_enter Tryz.func51,Tryz.ntmps51
 go_wp2
 all_goals(go_ret;refine⟨_,rfl,?_,ext_alloc _ _⟩;first|(intro h;cases h;done)|(intro _;omega))
set_option maxHeartbeats 400000 in
theorem fit4 (l:List ByteArray)(A_l:Option Addr)(c_l:Nat)(w:World)(hr:Rd1 isStr w (.slice A_l l.length c_l) l):Calls Tryz.prog 23 #[.slice A_l l.length c_l] w (Said w (l.length<=2147483647/\∀y∈l,y.size<=2147483647)):=by
 have HR:=zh hr
 clear hr
 by_cases hbig:l.length<=2147483647
 ·go_enter Tryz.func23,Tryz.ntmps23
  go_wp2
  go_loopw [10] (fun i wr=>∃k:Nat,k<=l.length/\i=.int .i64 k/\Hid (Ext w wr)/\Hid (∀y∈l.take k,y.size<=2147483647)) (fun i _=>l.length - (intOf i).toNat)
  case atStart=>exact⟨0,Nat.zero_le _,rfl,zh (Ext.refl _),zh (by simp)⟩
  case round=>
   obtain⟨k,hk1,rfl,HE,HY⟩:=hrel
   by_cases hlt:k < l.length
   ·obtain⟨b1,o1,u,rfl,hcell,hu⟩:=HR.out.at_ hlt
    replace hcell:=HE.out.cell hcell
    obtain⟨x,hx⟩:∃x,x=l[k]:=⟨_,rfl⟩
    rw [<-hx]at hu
    rw [show u=.string x from hu]at hcell
    have HX:=zh hx
    clear hx hu
    go_wp2
    ·go_ret
     exact⟨_,rfl,fun h=>by(cases h;done),HE.out⟩
    ·go_roundw
     case rel=>
      refine⟨k+1,by omega,by go_num,HE,zh (all_take l k hlt HY.out ?_)⟩
      rw [<-HX.out]
      omega
     case measure=>simp [intOf];omega
   ·obtain rfl:k=l.length:=by omega
    go_wp2
    go_ret
    exact⟨_,rfl,fun _=>⟨hbig,by have:=HY.out;rwa [List.take_length]at this⟩,HE.out⟩
 ·go_enter Tryz.func23,Tryz.ntmps23
  go_wp2
  go_ret
  exact⟨_,rfl,fun h=>by(cases h;done),Ext.refl _⟩
set_option maxHeartbeats 400000 in
theorem fit2 (l:List (Bool×List Int))(A_l:Option Addr)(c_l:Nat)(w:World)(hr:RdM 2 isVal w (.slice A_l l.length c_l) l):Calls Tryz.prog 22 #[.slice A_l l.length c_l] w (Said w (l.length<=2147483647/\∀y∈l,y.2.length<=2147483647)):=by
 have HR:=zh hr
 clear hr
 by_cases hbig:l.length<=2147483647
 ·go_enter Tryz.func22,Tryz.ntmps22
  go_wp2
  go_loopw [10] (fun i wr=>∃k:Nat,k<=l.length/\i=.int .i64 k/\Hid (Ext w wr)/\Hid (∀y∈l.take k,y.2.length<=2147483647)) (fun i _=>l.length - (intOf i).toNat)
  case atStart=>exact⟨0,Nat.zero_le _,rfl,zh (Ext.refl _),zh (by simp)⟩
  case round=>
   obtain⟨k,hk1,rfl,HE,HY⟩:=hrel
   by_cases hlt:k < l.length
   ·obtain⟨b1,o1,f,rfl,hcell,hv⟩:=HR.out.at_ hlt
    obtain⟨x,hx⟩:∃x,x=l[k]:=⟨_,rfl⟩
    rw [<-hx]at hv
    obtain⟨hf0,A1,c1,hf1,hrd⟩:=hv
    have hd0:=HE.out.cell (hcell 0 (by omega))
    rw [hf0,Nat.add_zero]at hd0
    have hd1:=HE.out.cell (hcell 1 (by omega))
    rw [hf1]at hd1
    have HX:=zh hx
    clear hx hcell hf0 hf1
    go_wp2_with (go_at_call 49;refine(fit3 x.1 A1 x.2.length c1 _).mono ?_;rintro e w1 ⟨bo,rfl,hbo,hbx⟩;replace HE:=zh ((HE.out.alloc _).trans hbx);have HBO:=zh hbo;clear hbo hbx;cases bo)
    ·go_ret
     exact⟨_,rfl,fun h=>by(cases h;done),HE.out⟩
    ·go_roundw
     case rel=>
      refine⟨k+1,by omega,by go_num,HE,zh (all_take l k hlt HY.out ?_)⟩
      rw [<-HX.out]
      exact HBO.out (by first|trivial|rfl)
     case measure=>simp [intOf];omega
   ·obtain rfl:k=l.length:=by omega
    go_wp2
    go_ret
    exact⟨_,rfl,fun _=>⟨hbig,by have:=HY.out;rwa [List.take_length]at this⟩,HE.out⟩
 ·go_enter Tryz.func22,Tryz.ntmps22
  go_wp2
  go_ret
  exact⟨_,rfl,fun h=>by(cases h;done),Ext.refl _⟩
set_option maxHeartbeats 400000 in
theorem fit5 (l:List (ByteArray×ByteArray))(A_l:Option Addr)(c_l:Nat)(w:World)(hr:RdM 2 isPr w (.slice A_l l.length c_l) l):Calls Tryz.prog 24 #[.slice A_l l.length c_l] w (Said w (l.length<=2147483647/\∀y∈l,y.1.size<=2147483647/\y.2.size<=2147483647)):=by
 have HR:=zh hr
 clear hr
 by_cases hbig:l.length<=2147483647
 ·go_enter Tryz.func24,Tryz.ntmps24
  go_wp2
  go_loopw [10] (fun i wr=>∃k:Nat,k<=l.length/\i=.int .i64 k/\Hid (Ext w wr)/\Hid (∀y∈l.take k,y.1.size<=2147483647/\y.2.size<=2147483647)) (fun i _=>l.length - (intOf i).toNat)
  case atStart=>exact⟨0,Nat.zero_le _,rfl,zh (Ext.refl _),zh (by simp)⟩
  case round=>
   obtain⟨k,hk1,rfl,HE,HY⟩:=hrel
   by_cases hlt:k < l.length
   ·obtain⟨b1,o1,f,rfl,hcell,hv⟩:=HR.out.at_ hlt
    obtain⟨x,hx⟩:∃x,x=l[k]:=⟨_,rfl⟩
    rw [<-hx]at hv
    obtain⟨hf0,hf1⟩:=hv
    have hd0:=HE.out.cell (hcell 0 (by omega))
    rw [hf0,Nat.add_zero]at hd0
    have hd1:=HE.out.cell (hcell 1 (by omega))
    rw [hf1]at hd1
    have HX:=zh hx
    clear hx hcell hf0 hf1
    go_wp2_with (go_at_call 50;refine(fit6 x.1 x.2 _).mono ?_;rintro e w1 ⟨bo,rfl,hbo,hbx⟩;replace HE:=zh ((HE.out.alloc _).trans hbx);have HBO:=zh hbo;clear hbo hbx;cases bo)
    ·go_ret
     exact⟨_,rfl,fun h=>by(cases h;done),HE.out⟩
    ·go_roundw
     case rel=>
      refine⟨k+1,by omega,by go_num,HE,zh (all_take l k hlt HY.out ?_)⟩
      rw [<-HX.out]
      exact HBO.out (by first|trivial|rfl)
     case measure=>simp [intOf];omega
   ·obtain rfl:k=l.length:=by omega
    go_wp2
    go_ret
    exact⟨_,rfl,fun _=>⟨hbig,by have:=HY.out;rwa [List.take_length]at this⟩,HE.out⟩
 ·go_enter Tryz.func24,Tryz.ntmps24
  go_wp2
  go_ret
  exact⟨_,rfl,fun h=>by(cases h;done),Ext.refl _⟩
set_option maxHeartbeats 400000 in
theorem fit7 (l:List Sf)(A_l:Option Addr)(c_l:Nat)(w:World)(hr:RdM 7 isSf w (.slice A_l l.length c_l) l):Calls Tryz.prog 25 #[.slice A_l l.length c_l] w (Said w (l.length<=2147483647/\∀y∈l,y.name.size<=2147483647)):=by
 have HR:=zh hr
 clear hr
 by_cases hbig:l.length<=2147483647
 ·go_enter Tryz.func25,Tryz.ntmps25
  go_wp2
  go_loopw [10] (fun i wr=>∃k:Nat,k<=l.length/\i=.int .i64 k/\Hid (Ext w wr)/\Hid (∀y∈l.take k,y.name.size<=2147483647)) (fun i _=>l.length - (intOf i).toNat)
  case atStart=>exact⟨0,Nat.zero_le _,rfl,zh (Ext.refl _),zh (by simp)⟩
  case round=>
   obtain⟨k,hk1,rfl,HE,HY⟩:=hrel
   by_cases hlt:k < l.length
   ·obtain⟨b1,o1,f,rfl,hcell,hv⟩:=HR.out.at_ hlt
    obtain⟨x,hx⟩:∃x,x=l[k]:=⟨_,rfl⟩
    rw [<-hx]at hv
    obtain⟨hf0,hf1,hf2,hf3,hf4,hf5,hf6⟩:=hv
    have hd0:=HE.out.cell (hcell 0 (by omega))
    rw [hf0,Nat.add_zero]at hd0
    have hd1:=HE.out.cell (hcell 1 (by omega))
    rw [hf1]at hd1
    have hd2:=HE.out.cell (hcell 2 (by omega))
    rw [hf2]at hd2
    have hd3:=HE.out.cell (hcell 3 (by omega))
    rw [hf3]at hd3
    have hd4:=HE.out.cell (hcell 4 (by omega))
    rw [hf4]at hd4
    have hd5:=HE.out.cell (hcell 5 (by omega))
    rw [hf5]at hd5
    have hd6:=HE.out.cell (hcell 6 (by omega))
    rw [hf6]at hd6
    have HX:=zh hx
    clear hx hcell hf0 hf1 hf2 hf3 hf4 hf5 hf6
    go_wp2_with (go_at_call 51;refine(fit8 x.name _ _ _ _ _ _ _).mono ?_;rintro e w1 ⟨bo,rfl,hbo,hbx⟩;replace HE:=zh ((HE.out.alloc _).trans hbx);have HBO:=zh hbo;clear hbo hbx;cases bo)
    ·go_ret
     exact⟨_,rfl,fun h=>by(cases h;done),HE.out⟩
    ·go_roundw
     case rel=>
      refine⟨k+1,by omega,by go_num,HE,zh (all_take l k hlt HY.out ?_)⟩
      rw [<-HX.out]
      exact HBO.out (by first|trivial|rfl)
     case measure=>simp [intOf];omega
   ·obtain rfl:k=l.length:=by omega
    go_wp2
    go_ret
    exact⟨_,rfl,fun _=>⟨hbig,by have:=HY.out;rwa [List.take_length]at this⟩,HE.out⟩
 ·go_enter Tryz.func25,Tryz.ntmps25
  go_wp2
  go_ret
  exact⟨_,rfl,fun h=>by(cases h;done),Ext.refl _⟩
/-- A text without noughts, of at most 200 bytes. -/
def plainP (s:ByteArray):Prop:=s.size<=200/\∀k (h:k < s.size),(s[k].toNat:Int)≠0
instance (s:ByteArray):Decidable (plainP s):=by unfold plainP;infer_instance
def plainQ (s:ByteArray):Bool:=decide (plainP s)
theorem plainQ_of {s:ByteArray} (h:plainQ s=true):plainP s:=of_decide_eq_true h
theorem nz_step {s:ByteArray} {k:Nat} (hk:k < s.size)(h:∀j (hj:j < s.size),j < k->(s[j].toNat:Int)≠0)(h0:(s[k].toNat:Int)≠0):∀j (hj:j < s.size),j < k+1->(s[j].toNat:Int)≠0:=by
 intro j hj hjk
 by_cases e:j=k
 ·subst e;exact h0
 ·exact h j hj (by omega)
theorem plain27 (s:ByteArray)(hs:s.size<=2147483647)(w:World):Calls Tryz.prog 27 #[.string s] w (fun e w'=>e=.returned (.bool (plainQ s))/\w'=w):=by
 go_enter Tryz.func27,Tryz.ntmps27
 go_wp2
 go_loopw [6] (fun i wr=>∃k:Nat,k<=s.size/\i=.int .i64 k/\wr=w/\Hid (∀j (hj:j < s.size),j < k->(s[j].toNat:Int)≠0)) (fun i _=>s.size - (intOf i).toNat)
 case atStart=>exact⟨0,Nat.zero_le _,rfl,rfl,zh (fun _ _ h=>absurd h (Nat.not_lt_zero _))⟩
 case round=>
  obtain⟨k,hk1,rfl,rfl,HY⟩:=hrel
  by_cases hlt:k < s.size
  ·by_cases hz:(s[k].toNat:Int)=0
   ·have hb:((s[k].toNat:Int) == 0)=true:=by simp [hz]
    go_wp2
    go_ret
    refine⟨?_,rfl⟩
    have:plainQ s=false:=by
     unfold plainQ
     exact decide_eq_false fun h=>h.2 k hlt hz
    rw [this];rfl
   ·have hb:((s[k].toNat:Int) == 0)=false:=beq_eq_false_iff_ne.2 hz
    go_wp2
    go_roundw
    case rel=>exact⟨k+1,by omega,by go_num,by first|rfl|trivial,zh (nz_step hlt HY.out hz)⟩
    case measure=>simp [intOf];omega
  ·obtain rfl:k=s.size:=by omega
   go_wp2
   go_ret
   refine⟨?_,rfl⟩
   have hq:plainQ s=decide ((s.size:Int)<=200):=by
    unfold plainQ
    have h1:plainP s↔(s.size:Int)<=200:=⟨fun h=>by have:=h.1;omega,fun h=>⟨by omega,fun j hj=>HY.out j hj hj⟩⟩
    by_cases h2:(s.size:Int)<=200
    ·rw [decide_eq_true h2];exact decide_eq_true (h1.2 h2)
    ·rw [decide_eq_false h2];exact decide_eq_false fun h=>h2 (h1.1 h)
   rw [hq];rfl
/-- A kind that is known. -/
def knownK (k:Int):Prop:=(0<=k/\k<=20)∨(30<=k/\k<=57)
theorem known26 (kd:Int)(w:World):Calls Tryz.prog 26 #[.int .i64 kd] w (Said w (knownK kd)):=by
 go_enter Tryz.func26,Tryz.ntmps26
 go_wp2
 all_goals(go_ret;refine⟨_,rfl,?_,Ext.refl _⟩;unfold knownK;first|(intro h;cases h;done)|(intro h;simp at h;omega)|(intro h;omega))
set_option maxHeartbeats 400000 in
theorem shorts52 (l:List Int)(A_l:Option Addr)(c_l:Nat)(most:Int)(w:World)(hr:RdI .i64 w (.slice A_l l.length c_l) l)(hl:l.length<=2147483647):Calls Tryz.prog 52 #[.slice A_l l.length c_l,.int .i64 most] w (Said w (l.length<=most/\∀y∈l, -32768<=y/\y<=32767)):=by
 have HR:=zh hr
 clear hr
 go_enter Tryz.func52,Tryz.ntmps52
 go_wp2
 go_loopw [9] (fun i wr=>∃k:Nat,k<=l.length/\i=.int .i64 k/\Hid (Ext w wr)/\Hid (∀y∈l.take k, -32768<=y/\y<=32767)) (fun i _=>l.length - (intOf i).toNat)
 case atStart=>exact⟨0,Nat.zero_le _,rfl,zh (Ext.refl _),zh (by simp)⟩
 case round=>
  obtain⟨k,hk1,rfl,HE,HY⟩:=hrel
  by_cases hlt:k < l.length
  ·obtain⟨b1,o1,rfl,hcell⟩:=HR.out.at_ hlt
   replace hcell:=HE.out.cell hcell
   rw [getD_at hlt]at hcell
   obtain⟨x,hx⟩:∃x,x=l[k]:=⟨_,rfl⟩
   rw [<-hx]at hcell
   have HX:=zh hx
   clear hx
   go_wp2
   all_goals first
    | (go_ret;exact⟨_,rfl,fun h=>by(cases h;done),HE.out⟩)
    | (go_roundw
       case rel=>
        refine⟨k+1,by omega,by go_num,HE,zh (all_take l k hlt HY.out ?_)⟩
        rw [<-HX.out]
        omega
       case measure=>simp [intOf];omega)
  ·obtain rfl:k=l.length:=by omega
   go_wp2
   go_ret
   exact⟨_,rfl,fun h=>⟨by simp at h;omega,by have:=HY.out;rwa [List.take_length]at this⟩,HE.out⟩
set_option maxHeartbeats 400000 in
theorem formats30 (l:List Int)(A_l:Option Addr)(c_l:Nat)(w:World)(hr:RdI .i64 w (.slice A_l l.length c_l) l)(hl:l.length<=2147483647):Calls Tryz.prog 30 #[.slice A_l l.length c_l] w (Said w (l.length<=20/\∀y∈l,(y=0∨y=1))):=by
 have HR:=zh hr
 clear hr
 go_enter Tryz.func30,Tryz.ntmps30
 go_wp2
 go_loopw [7] (fun i wr=>∃k:Nat,k<=l.length/\i=.int .i64 k/\Hid (Ext w wr)/\Hid (∀y∈l.take k,(y=0∨y=1))) (fun i _=>l.length - (intOf i).toNat)
 case atStart=>exact⟨0,Nat.zero_le _,rfl,zh (Ext.refl _),zh (by simp)⟩
 case round=>
  obtain⟨k,hk1,rfl,HE,HY⟩:=hrel
  by_cases hlt:k < l.length
  ·obtain⟨b1,o1,rfl,hcell⟩:=HR.out.at_ hlt
   replace hcell:=HE.out.cell hcell
   rw [getD_at hlt]at hcell
   obtain⟨x,hx⟩:∃x,x=l[k]:=⟨_,rfl⟩
   rw [<-hx]at hcell
   have HX:=zh hx
   clear hx
   go_wp2
   all_goals first
    | (go_ret;exact⟨_,rfl,fun h=>by(cases h;done),HE.out⟩)
    | (go_roundw
       case rel=>
        refine⟨k+1,by omega,by go_num,HE,zh (all_take l k hlt HY.out ?_)⟩
        rw [<-HX.out]
        (by_cases e0:x=0 <;> by_cases e1:x=1 <;> first|exact .inl e0|exact .inr e1|(exfalso;simp_all))
       case measure=>simp [intOf];omega)
  ·obtain rfl:k=l.length:=by omega
   go_wp2_with (go_at_call 52;refine(shorts52 l _ _ 20 _ (RdI.ext HR.out HE.out) hl).mono ?_;rintro e w1 ⟨bo,rfl,hbo,hbx⟩;have HBO:=zh hbo;have HE2:=HE;replace HE:=zh (HE2.out.trans hbx);clear hbo hbx)
   go_ret
   exact⟨_,rfl,fun h=>⟨by have:=(HBO.out h).1;omega,by have:=HY.out;rwa [List.take_length]at this⟩,HE.out⟩
set_option maxHeartbeats 400000 in
theorem values28 (l:List (Bool×List Int))(A_l:Option Addr)(c_l:Nat)(most:Int)(w:World)(hr:RdM 2 isVal w (.slice A_l l.length c_l) l)(hl:l.length<=2147483647):Calls Tryz.prog 28 #[.slice A_l l.length c_l,.int .i64 most] w (Said w (l.length<=most/\∀y∈l,y.2.length<=200/\(y.1=true->y.2.length=0))):=by
 have HR:=zh hr
 clear hr
 go_enter Tryz.func28,Tryz.ntmps28
 go_wp2
 go_loopw [9] (fun i wr=>∃k:Nat,k<=l.length/\i=.int .i64 k/\Hid (Ext w wr)/\Hid (∀y∈l.take k,y.2.length<=200/\(y.1=true->y.2.length=0))) (fun i _=>l.length - (intOf i).toNat)
 case atStart=>exact⟨0,Nat.zero_le _,rfl,zh (Ext.refl _),zh (by simp)⟩
 case round=>
  obtain⟨k,hk1,rfl,HE,HY⟩:=hrel
  by_cases hlt:k < l.length
  ·obtain⟨b1,o1,f,rfl,hcell,hv⟩:=HR.out.at_ hlt
   obtain⟨x,hx⟩:∃x,x=l[k]:=⟨_,rfl⟩
   rw [<-hx]at hv
   obtain⟨hf0,A1,c1,hf1,hrd⟩:=hv
   have hd0:=HE.out.cell (hcell 0 (by omega))
   rw [hf0,Nat.add_zero]at hd0
   have hd1:=HE.out.cell (hcell 1 (by omega))
   rw [hf1]at hd1
   obtain⟨x1,x2⟩:=x
   have HX:=zh hx
   clear hx hcell hf0 hf1 hrd
   have HE0:=HE
   replace HE:=zh (HE0.out.alloc (.cells #[.bool x1,.slice A1 x2.length c1] 59))
   cases x1 <;> go_wp2
   all_goals first
    | (go_ret;exact⟨_,rfl,fun h=>by(cases h;done),HE.out⟩)
    | (go_roundw
       case rel=>
        refine⟨k+1,by omega,by go_num,HE,zh (all_take l k hlt HY.out ?_)⟩
        rw [<-HX.out]
        exact⟨by simp only [];omega,fun h=>by first|(cases h;done)|(simp only [];omega)⟩
       case measure=>simp [intOf];omega)
  ·obtain rfl:k=l.length:=by omega
   go_wp2
   go_ret
   exact⟨_,rfl,fun h=>⟨by simp at h;omega,by have:=HY.out;rwa [List.take_length]at this⟩,HE.out⟩
set_option maxHeartbeats 400000 in
theorem columns29 (l:List Sf)(A_l:Option Addr)(c_l:Nat)(w:World)(hr:RdM 7 isSf w (.slice A_l l.length c_l) l)(hl:l.length<=2147483647)(hnm:∀y∈l,y.name.size<=2147483647):Calls Tryz.prog 29 #[.slice A_l l.length c_l] w (Said w (l.length<=20/\∀y∈l,plainP y.name/\0<=y.col/\y.col<=32767/\ -32768<=y.siz/\y.siz<=32767/\ -2147483648<=y.mdf/\y.mdf < 2147483648/\0<=y.fmt/\y.fmt<=1)):=by
 have HR:=zh hr
 clear hr
 go_enter Tryz.func29,Tryz.ntmps29
 go_wp2
 go_loopw [7] (fun i wr=>∃k:Nat,k<=l.length/\i=.int .i64 k/\Hid (Ext w wr)/\Hid (∀y∈l.take k,plainP y.name/\0<=y.col/\y.col<=32767/\ -32768<=y.siz/\y.siz<=32767/\ -2147483648<=y.mdf/\y.mdf < 2147483648/\0<=y.fmt/\y.fmt<=1)) (fun i _=>l.length - (intOf i).toNat)
 case atStart=>exact⟨0,Nat.zero_le _,rfl,zh (Ext.refl _),zh (by simp)⟩
 case round=>
  obtain⟨k,hk1,rfl,HE,HY⟩:=hrel
  by_cases hlt:k < l.length
  ·obtain⟨b1,o1,f,rfl,hcell,hv⟩:=HR.out.at_ hlt
   have hsz:=hnm _ (List.getElem_mem hlt)
   obtain⟨x,hx⟩:∃x,x=l[k]:=⟨_,rfl⟩
   rw [<-hx]at hv hsz
   obtain⟨hf0,hf1,hf2,hf3,hf4,hf5,hf6⟩:=hv
   have hd0:=HE.out.cell (hcell 0 (by omega))
   rw [hf0,Nat.add_zero]at hd0
   have hd1:=HE.out.cell (hcell 1 (by omega))
   rw [hf1]at hd1
   have hd2:=HE.out.cell (hcell 2 (by omega))
   rw [hf2]at hd2
   have hd3:=HE.out.cell (hcell 3 (by omega))
   rw [hf3]at hd3
   have hd4:=HE.out.cell (hcell 4 (by omega))
   rw [hf4]at hd4
   have hd5:=HE.out.cell (hcell 5 (by omega))
   rw [hf5]at hd5
   have hd6:=HE.out.cell (hcell 6 (by omega))
   rw [hf6]at hd6
   have HX:=zh hx
   clear hx hcell hf0 hf1 hf2 hf3 hf4 hf5 hf6
   have HE0:=HE
   replace HE:=zh (HE0.out.alloc (.cells #[.string x.name,.int .u32 x.tab,.int .i64 x.col,.int .u32 x.typ,.int .i64 x.siz,.int .i64 x.mdf,.int .i64 x.fmt] 63))
   cases hq:plainQ x.name
   all_goals go_wp2_with (go_at_call 27;refine(plain27 x.name hsz _).mono ?_;rintro e w1 ⟨rfl,rfl⟩;rw [hq])
   all_goals first
    | (go_ret;exact⟨_,rfl,fun h=>by(cases h;done),HE.out⟩)
    | (go_roundw
       case rel=>
        refine⟨k+1,by omega,by go_num,HE,zh (all_take l k hlt HY.out ?_)⟩
        rw [<-HX.out]
        exact⟨plainQ_of hq,by omega,by omega,by omega,by omega,by omega,by omega,by omega,by omega⟩
       case measure=>simp [intOf];omega)
  ·obtain rfl:k=l.length:=by omega
   go_wp2
   go_ret
   exact⟨_,rfl,fun h=>⟨by simp at h;omega,by have:=HY.out;rwa [List.take_length]at this⟩,HE.out⟩
theorem Ext.drewN {w w':World} (h:Ext w w')(n:Nat):Ext w (w'.drewN n):=⟨h.os,h.tape,h.output,h.size,h.block⟩
/-- One pair that is proper. -/
def prO (single empty:Bool) (y:ByteArray×ByteArray):Prop:=plainP y.1/\plainP y.2/\y.1.size≠0/\(single=true->y.1.size=1)/\(empty=false->y.2.size≠0)
/-- Pairs that are proper. -/
def pairsP (single empty:Bool) (l:List (ByteArray×ByteArray)):Prop:=l.length<=20/\(∀y∈l,prO single empty y)/\∀j (h:j+1 < l.length),Op.bytesLess l[j].1.toList l[j+1].1.toList=true
theorem size_ne {x:ByteArray} (h:x.toList.isEmpty=false):x.size≠0:=by
 intro h0
 have:x=⟨#[]⟩:=by
  cases x with
  | mk d=>
    have:d.size=0:=h0
    rw [Array.eq_empty_of_size_eq_zero this]
 subst this
 rw [ByteArray.toList_eq]at h
 exact absurd h (by decide)
theorem prO_of {single empty:Bool} {x1 x2:ByteArray} (hsz:x1.size<=2147483647/\x2.size<=2147483647)(hp1:plainQ x1=true)(hp2:plainQ x2=true)(e3:x1.toList.isEmpty=false)(e4:if single then((x1.size:Int) != 1)=false else True)(e5:if empty then True else x2.toList.isEmpty=false):prO single empty (x1,x2):=by
 refine⟨plainQ_of hp1,plainQ_of hp2,size_ne e3,?_,?_⟩
 ·intro hs
  subst hs
  simp at e4
  show x1.size=1
  omega
 ·intro hs
  subst hs
  simp only [Bool.false_eq_true,if_false]at e5
  exact size_ne e5
/-- A number of at most nine digits. -/
def digP (s:ByteArray):Prop:=s.size≠0/\s.size<=9/\(∀k (h:k < s.size),48<=(s[k].toNat:Int)/\(s[k].toNat:Int)<=57)/\∀h:0 < s.size,(s[0].toNat:Int)≠48
theorem dg_step {s:ByteArray} {k:Nat} (hk:k < s.size)(h:∀j (hj:j < s.size),j < k->48<=(s[j].toNat:Int)/\(s[j].toNat:Int)<=57)(h0:48<=(s[k].toNat:Int)/\(s[k].toNat:Int)<=57):∀j (hj:j < s.size),j < k+1->48<=(s[j].toNat:Int)/\(s[j].toNat:Int)<=57:=by
 intro j hj hjk
 by_cases e:j=k
 ·subst e;exact h0
 ·exact h j hj (by omega)
theorem digits53 (s:ByteArray)(hs:s.size<=2147483647)(w:World):Calls Tryz.prog 53 #[.string s] w (Said w (digP s)):=by
 go_enter Tryz.func53,Tryz.ntmps53
 go_wp2
 go_loopw [6] (fun i wr=>∃k:Nat,k<=s.size/\i=.int .i64 k/\wr=w/\Hid (∀j (hj:j < s.size),j < k->48<=(s[j].toNat:Int)/\(s[j].toNat:Int)<=57)) (fun i _=>s.size - (intOf i).toNat)
 case atStart=>exact⟨0,Nat.zero_le _,rfl,rfl,zh (fun _ _ h=>absurd h (Nat.not_lt_zero _))⟩
 case round=>
  obtain⟨k,hk1,rfl,rfl,HY⟩:=hrel
  by_cases hlt:k < s.size
  ·go_wp2
   all_goals first
    | (go_ret;exact⟨_,rfl,fun h=>by(cases h;done),Ext.refl _⟩)
    | (go_roundw
       case rel=>exact⟨k+1,by omega,by go_num,by first|rfl|trivial,zh (dg_step hlt HY.out (by constructor <;> omega))⟩
       case measure=>simp [intOf];omega)
  ·obtain rfl:k=s.size:=by omega
   cases e3:s.toList.isEmpty
   ·have hne:s.size≠0:=size_ne e3
    have hpos:(0:Int) < (s.size:Int):=by omega
    have hpos':0 < s.size:=by omega
    by_cases h9:(s.size:Int)<=9
    ·have h9':decide ((s.size:Int)<=9)=true:=decide_eq_true h9
     cases e4:((s[0].toNat:Int) != 48)
     all_goals go_wp2
     all_goals go_ret
     ·exact⟨_,rfl,fun h=>by(cases h;done),Ext.refl _⟩
     ·exact⟨_,rfl,fun h=>⟨hne,by omega,fun j hj=>HY.out j hj hj,fun _=>by simpa using e4⟩,Ext.refl _⟩
    ·have h9':decide ((s.size:Int)<=9)=false:=decide_eq_false h9
     go_wp2
     all_goals(go_ret;exact⟨_,rfl,fun h=>by(cases h;done),Ext.refl _⟩)
   ·go_wp2
    all_goals(go_ret;exact⟨_,rfl,fun h=>by(cases h;done),Ext.refl _⟩)
set_option maxHeartbeats 1000000 in
theorem pairsM (l:List (ByteArray×ByteArray))(A_l:Option Addr)(c_l:Nat)(w:World)(hr:RdM 2 isPr w (.slice A_l l.length c_l) l)(hl:l.length<=2147483647)(hs:∀y∈l,y.1.size<=2147483647/\y.2.size<=2147483647):Calls Tryz.prog 31 #[.slice A_l l.length c_l,.bool false,.bool true] w (Said w (pairsP false true l)):=by
 have HR:=zh hr
 clear hr
 go_enter Tryz.func31,Tryz.ntmps31
 go_wp2
 go_loopw [11] (fun i wr=>∃k:Nat,k<=l.length/\i=.int .i64 k/\Hid (Ext w wr)/\Hid ((∀y∈l.take k,prO false true y)/\(∀j (h:j+1 < l.length),j+1 < k->Op.bytesLess l[j].1.toList l[j+1].1.toList=true))) (fun i _=>l.length - (intOf i).toNat)
 case atStart=>exact⟨0,Nat.zero_le _,rfl,zh (Ext.refl _),zh ⟨by simp,fun _ _ h=>absurd h (Nat.not_lt_zero _)⟩⟩
 case round=>
  obtain⟨k,hk1,rfl,HE,HY⟩:=hrel
  by_cases hlt:k < l.length
  ·obtain⟨b1,o1,f,rfl,hcell,hv⟩:=HR.out.at_ hlt
   have hsz:=hs _ (List.getElem_mem hlt)
   obtain⟨⟨x1,x2⟩,hx⟩:∃x,x=l[k]:=⟨_,rfl⟩
   rw [<-hx]at hv hsz
   have hf0:f 0=.string x1:=hv.1
   have hf1:f 1=.string x2:=hv.2
   replace hsz:x1.size<=2147483647/\x2.size<=2147483647:=hsz
   have hd0:=HE.out.cell (hcell 0 (by omega))
   rw [hf0,Nat.add_zero]at hd0
   have hd1:=HE.out.cell (hcell 1 (by omega))
   rw [hf1]at hd1
   have HX:=zh hx
   clear hx hcell hf0 hf1 hv
   have HE0:=HE
   replace HE:=zh (HE0.out.alloc (.cells #[.string x1,.string x2] 48))
   have Hp1:∀(q:Bool),plainQ x1=q->∀w,Calls Tryz.prog 27 #[.string x1] w (fun e w'=>e=.returned (.bool q)/\w'=w):=fun q hq w=>by rw [<-hq];exact plain27 x1 hsz.1 w
   have Hp2:∀(q:Bool),plainQ x2=q->∀w,Calls Tryz.prog 27 #[.string x2] w (fun e w'=>e=.returned (.bool q)/\w'=w):=fun q hq w=>by rw [<-hq];exact plain27 x2 hsz.2 w
   cases hp1:plainQ x1
   ·go_wp2
    go_quiet (first|(go_at_call_of 27 x1;exact Calls.quiet_of_same (Hp1 _ hp1 _))|(go_at_call_of 27 x2;exact Calls.quiet_of_same (Hp2 _ hp2 _)))
    go_wp2
    go_ret
    exact⟨_,rfl,fun h=>by(cases h;done),(HE.out.drewN nq)⟩
   cases hp2:plainQ x2
   ·go_wp2
    go_quiet (first|(go_at_call_of 27 x1;exact Calls.quiet_of_same (Hp1 _ hp1 _))|(go_at_call_of 27 x2;exact Calls.quiet_of_same (Hp2 _ hp2 _)))
    go_wp2
    go_ret
    exact⟨_,rfl,fun h=>by(cases h;done),(HE.out.drewN nq)⟩
   cases e3:x1.toList.isEmpty
   case true=>
    go_wp2
    go_quiet (first|(go_at_call_of 27 x1;exact Calls.quiet_of_same (Hp1 _ hp1 _))|(go_at_call_of 27 x2;exact Calls.quiet_of_same (Hp2 _ hp2 _)))
    go_wp2
    go_ret
    exact⟨_,rfl,fun h=>by(cases h;done),(HE.out.drewN nq)⟩
   by_cases h6:k=0
   ·have h6':decide ((0:Int) < (k:Int))=false:=decide_eq_false (by omega)
    have h6'':decide (0 < k)=false:=decide_eq_false (by omega)
    have hk0:Hid (k=0):=zh h6
    clear h6
    go_wp2
    go_quiet (first|(go_at_call_of 27 x1;exact Calls.quiet_of_same (Hp1 _ hp1 _))|(go_at_call_of 27 x2;exact Calls.quiet_of_same (Hp2 _ hp2 _)))
    go_wp2
    go_roundw
    case rel=>
     refine⟨k+1,by omega,by go_num,zh (HE.out.drewN nq),zh ⟨all_take l k hlt HY.out.1 ?_,?_⟩⟩
     ·rw [<-HX.out]
      exact prO_of hsz hp1 hp2 e3 trivial trivial
     ·intro j hj hjk
      have:=hk0.out
      omega
    case measure=>simp only [intOf];omega
   ·obtain⟨m,rfl⟩:∃m,k=m+1:=⟨k - 1,by omega⟩
    obtain⟨b2,o2,g,hbo,hcell2,hv2⟩:=HR.out.at_ (show m < l.length by omega)
    obtain⟨rfl,rfl⟩:b1=b2/\o1=o2:=by simpa using hbo
    obtain⟨⟨y1,y2⟩,hy⟩:∃y,y=l[m]:=⟨_,rfl⟩
    rw [<-hy]at hv2
    have hg0:g 0=.string y1:=hv2.1
    have hd2:=HE.out.cell (hcell2 0 (by omega))
    rw [hg0,Nat.add_zero]at hd2
    have HYY:=zh hy
    clear hy hcell2 hv2 hg0 hbo
    have h6':(0:Int) < ((m+1:Nat):Int):=by omega
    cases e7:Op.bytesLess y1.toList x1.toList
    ·go_wp2
     go_quiet (first|(go_at_call_of 27 x1;exact Calls.quiet_of_same (Hp1 _ hp1 _))|(go_at_call_of 27 x2;exact Calls.quiet_of_same (Hp2 _ hp2 _)))
     go_wp2
     go_ret
     exact⟨_,rfl,fun h=>by(cases h;done),(HE.out.drewN nq)⟩
    go_wp2
    go_quiet (first|(go_at_call_of 27 x1;exact Calls.quiet_of_same (Hp1 _ hp1 _))|(go_at_call_of 27 x2;exact Calls.quiet_of_same (Hp2 _ hp2 _)))
    go_wp2
    go_roundw
    case rel=>
     refine⟨m+1+1,by omega,by go_num,zh (HE.out.drewN nq),zh ⟨all_take l (m+1) hlt HY.out.1 ?_,?_⟩⟩
     ·rw [<-HX.out]
      exact prO_of hsz hp1 hp2 e3 trivial trivial
     ·intro j hj hjk
      by_cases hjm:j=m
      ·subst hjm
       have h1:=HX.out
       have h2:=HYY.out
       rw [<-h1,<-h2]
       exact e7
      ·exact HY.out.2 j hj (by omega)
    case measure=>simp only [intOf];omega
  ·obtain rfl:k=l.length:=by omega
   go_wp2
   go_ret
   exact⟨_,rfl,fun h=>⟨by simp at h;omega,by have:=HY.out.1;rwa [List.take_length]at this,fun j h=>HY.out.2 j h h⟩,HE.out⟩
set_option maxHeartbeats 1000000 in
theorem pairsS (l:List (ByteArray×ByteArray))(A_l:Option Addr)(c_l:Nat)(w:World)(hr:RdM 2 isPr w (.slice A_l l.length c_l) l)(hl:l.length<=2147483647)(hs:∀y∈l,y.1.size<=2147483647/\y.2.size<=2147483647):Calls Tryz.prog 31 #[.slice A_l l.length c_l,.bool true,.bool false] w (Said w (pairsP true false l)):=by
 have HR:=zh hr
 clear hr
 go_enter Tryz.func31,Tryz.ntmps31
 go_wp2
 go_loopw [11] (fun i wr=>∃k:Nat,k<=l.length/\i=.int .i64 k/\Hid (Ext w wr)/\Hid ((∀y∈l.take k,prO true false y)/\(∀j (h:j+1 < l.length),j+1 < k->Op.bytesLess l[j].1.toList l[j+1].1.toList=true))) (fun i _=>l.length - (intOf i).toNat)
 case atStart=>exact⟨0,Nat.zero_le _,rfl,zh (Ext.refl _),zh ⟨by simp,fun _ _ h=>absurd h (Nat.not_lt_zero _)⟩⟩
 case round=>
  obtain⟨k,hk1,rfl,HE,HY⟩:=hrel
  by_cases hlt:k < l.length
  ·obtain⟨b1,o1,f,rfl,hcell,hv⟩:=HR.out.at_ hlt
   have hsz:=hs _ (List.getElem_mem hlt)
   obtain⟨⟨x1,x2⟩,hx⟩:∃x,x=l[k]:=⟨_,rfl⟩
   rw [<-hx]at hv hsz
   have hf0:f 0=.string x1:=hv.1
   have hf1:f 1=.string x2:=hv.2
   replace hsz:x1.size<=2147483647/\x2.size<=2147483647:=hsz
   have hd0:=HE.out.cell (hcell 0 (by omega))
   rw [hf0,Nat.add_zero]at hd0
   have hd1:=HE.out.cell (hcell 1 (by omega))
   rw [hf1]at hd1
   have HX:=zh hx
   clear hx hcell hf0 hf1 hv
   have HE0:=HE
   replace HE:=zh (HE0.out.alloc (.cells #[.string x1,.string x2] 48))
   have Hp1:∀(q:Bool),plainQ x1=q->∀w,Calls Tryz.prog 27 #[.string x1] w (fun e w'=>e=.returned (.bool q)/\w'=w):=fun q hq w=>by rw [<-hq];exact plain27 x1 hsz.1 w
   have Hp2:∀(q:Bool),plainQ x2=q->∀w,Calls Tryz.prog 27 #[.string x2] w (fun e w'=>e=.returned (.bool q)/\w'=w):=fun q hq w=>by rw [<-hq];exact plain27 x2 hsz.2 w
   cases hp1:plainQ x1
   ·go_wp2
    go_quiet (first|(go_at_call_of 27 x1;exact Calls.quiet_of_same (Hp1 _ hp1 _))|(go_at_call_of 27 x2;exact Calls.quiet_of_same (Hp2 _ hp2 _)))
    go_wp2
    go_ret
    exact⟨_,rfl,fun h=>by(cases h;done),(HE.out.drewN nq)⟩
   cases hp2:plainQ x2
   ·go_wp2
    go_quiet (first|(go_at_call_of 27 x1;exact Calls.quiet_of_same (Hp1 _ hp1 _))|(go_at_call_of 27 x2;exact Calls.quiet_of_same (Hp2 _ hp2 _)))
    go_wp2
    go_ret
    exact⟨_,rfl,fun h=>by(cases h;done),(HE.out.drewN nq)⟩
   cases e3:x1.toList.isEmpty
   case true=>
    go_wp2
    go_quiet (first|(go_at_call_of 27 x1;exact Calls.quiet_of_same (Hp1 _ hp1 _))|(go_at_call_of 27 x2;exact Calls.quiet_of_same (Hp2 _ hp2 _)))
    go_wp2
    go_ret
    exact⟨_,rfl,fun h=>by(cases h;done),(HE.out.drewN nq)⟩
   cases e4:((x1.size:Int) != 1)
   case true=>
    go_wp2
    go_quiet (first|(go_at_call_of 27 x1;exact Calls.quiet_of_same (Hp1 _ hp1 _))|(go_at_call_of 27 x2;exact Calls.quiet_of_same (Hp2 _ hp2 _)))
    go_wp2
    go_ret
    exact⟨_,rfl,fun h=>by(cases h;done),(HE.out.drewN nq)⟩
   cases e5:x2.toList.isEmpty
   case true=>
    go_wp2
    go_quiet (first|(go_at_call_of 27 x1;exact Calls.quiet_of_same (Hp1 _ hp1 _))|(go_at_call_of 27 x2;exact Calls.quiet_of_same (Hp2 _ hp2 _)))
    go_wp2
    go_ret
    exact⟨_,rfl,fun h=>by(cases h;done),(HE.out.drewN nq)⟩
   by_cases h6:k=0
   ·have h6':decide ((0:Int) < (k:Int))=false:=decide_eq_false (by omega)
    have h6'':decide (0 < k)=false:=decide_eq_false (by omega)
    have hk0:Hid (k=0):=zh h6
    clear h6
    go_wp2
    go_quiet (first|(go_at_call_of 27 x1;exact Calls.quiet_of_same (Hp1 _ hp1 _))|(go_at_call_of 27 x2;exact Calls.quiet_of_same (Hp2 _ hp2 _)))
    go_wp2
    go_roundw
    case rel=>
     refine⟨k+1,by omega,by go_num,zh (HE.out.drewN nq),zh ⟨all_take l k hlt HY.out.1 ?_,?_⟩⟩
     ·rw [<-HX.out]
      exact prO_of hsz hp1 hp2 e3 e4 e5
     ·intro j hj hjk
      have:=hk0.out
      omega
    case measure=>simp only [intOf];omega
   ·obtain⟨m,rfl⟩:∃m,k=m+1:=⟨k - 1,by omega⟩
    obtain⟨b2,o2,g,hbo,hcell2,hv2⟩:=HR.out.at_ (show m < l.length by omega)
    obtain⟨rfl,rfl⟩:b1=b2/\o1=o2:=by simpa using hbo
    obtain⟨⟨y1,y2⟩,hy⟩:∃y,y=l[m]:=⟨_,rfl⟩
    rw [<-hy]at hv2
    have hg0:g 0=.string y1:=hv2.1
    have hd2:=HE.out.cell (hcell2 0 (by omega))
    rw [hg0,Nat.add_zero]at hd2
    have HYY:=zh hy
    clear hy hcell2 hv2 hg0 hbo
    have h6':(0:Int) < ((m+1:Nat):Int):=by omega
    cases e7:Op.bytesLess y1.toList x1.toList
    ·go_wp2
     go_quiet (first|(go_at_call_of 27 x1;exact Calls.quiet_of_same (Hp1 _ hp1 _))|(go_at_call_of 27 x2;exact Calls.quiet_of_same (Hp2 _ hp2 _)))
     go_wp2
     go_ret
     exact⟨_,rfl,fun h=>by(cases h;done),(HE.out.drewN nq)⟩
    go_wp2
    go_quiet (first|(go_at_call_of 27 x1;exact Calls.quiet_of_same (Hp1 _ hp1 _))|(go_at_call_of 27 x2;exact Calls.quiet_of_same (Hp2 _ hp2 _)))
    go_wp2
    go_roundw
    case rel=>
     refine⟨m+1+1,by omega,by go_num,zh (HE.out.drewN nq),zh ⟨all_take l (m+1) hlt HY.out.1 ?_,?_⟩⟩
     ·rw [<-HX.out]
      exact prO_of hsz hp1 hp2 e3 e4 e5
     ·intro j hj hjk
      by_cases hjm:j=m
      ·subst hjm
       have h1:=HX.out
       have h2:=HYY.out
       rw [<-h1,<-h2]
       exact e7
      ·exact HY.out.2 j hj (by omega)
    case measure=>simp only [intOf];omega
  ·obtain rfl:k=l.length:=by omega
   go_wp2
   go_ret
   exact⟨_,rfl,fun h=>⟨by simp at h;omega,by have:=HY.out.1;rwa [List.take_length]at this,fun j h=>HY.out.2 j h h⟩,HE.out⟩
end Go.Proofs.YtdenjanihikolaaGreatDoor
