/- Slices that are read, of numbers, of texts, of slices, of structs. -/
import Derived.Test.YtdenjanihikolaaGreatDoorRqA0
import Derived.WalkKit
import Derived.KernelRfl
import Derived.Lib.Hide
import Derived.Lib.AppendStr
import Derived.Lib.ConvBytes
import Derived.Laws.AppendOwnNone
import Derived.Maps.AppendAt
import Derived.Test.YtdenjanihikolaaGreatDoorProg
import Derived.WalkSpells
import Derived.Lib.SliceRun
namespace Go.Proofs.YtdenjanihikolaaGreatDoor
set_option linter.unusedVariables false
set_option linter.unusedSimpArgs false
set_option maxRecDepth 100000
open Go.RowKit
theorem info5:(Tryz.prog.info? 5).map (fun i=>(i.zero,i.size,i.bytes))=some (some (.int .u8 0),1,1):=by kernel_rfl
/-- bytes as cells -/
def bys (xs:List Int):List Value:=xs.map (Value.int .u8)
/-- a string's bytes as numbers -/
def sby (s:ByteArray):List Int:=s.data.toList.map fun b=>(b.toNat:Int)
theorem sby_length (s:ByteArray):(sby s).length=s.size:=by unfold sby;rw [List.length_map,Array.length_toList];rfl
theorem bys_append (xs ys:List Int):bys (xs++ys)=bys xs++bys ys:=by simp [bys]
theorem bys_one (xs:List Int):∀u∈bys xs,u.oneCell'=true:=by
 intro u hu
 obtain⟨_,_,rfl⟩:=List.mem_map.1 hu
 rfl
/-- Nothing of what was there has turned. -/
abbrev Ext (w w':World):Prop:=Below w.heap.size w w'
theorem Ext.refl (w:World):Ext w w:=Below.refl _ _
theorem Ext.trans {a b c:World} (h:Ext a b)(k:Ext b c):Ext a c:=Below.trans h (Below.mono k (Below.size h))
theorem Ext.cell {w w':World} (h:Ext w w') {a:Addr} {v:Value} (hc:w.cell? a=some v):w'.cell? a=some v:=(Below.cell h (World.block_lt_of_cell? w a hc)).trans hc
theorem Ext.alloc {w w':World} (h:Ext w w')(o:Obj):Ext w (w'.alloc o):=Below.alloc h (Below.size h) o
theorem Ext.drew {w w':World} (h:Ext w w'):Ext w w'.drew:=⟨h.os,h.tape,h.output,h.size,h.block⟩
theorem ext_alloc (w:World)(o:Obj):Ext w (w.alloc o):=(Ext.refl w).alloc o
/-- The blocks below a number. -/
def Lt (n:Nat) (k:Nat):Prop:=k < n
/-- A row of bytes that the call owns, in a world that keeps the blocks K of the world w0. -/
structure Buf (K:Nat->Prop) (w0 w:World) (v:Value) (xs:List Int):Prop where
 own:w.ownsRow 0 5 1 v xs.length (bys xs)
 off:∀g,v.ownBlock=some g->¬K g
 kept:∀k,K k->w.heap[k]?=w0.heap[k]?
 lt:∀k,K k->k < w.heap.size
 os:w.os=w0.os
 tape:w.tape=w0.tape
 output:w.output=w0.output
theorem ownsRow_ext {w w':World} {B e size n:Nat} {v:Value} {xs:List Value} (h:w.ownsRow B e size v n xs)(hx:Ext w w'):w'.ownsRow B e size v n xs:=
 h.kept (row:=none) ⟨hx.os,hx.tape,hx.output,hx.size,fun k hk _=>hx.block k hk⟩ (by cases v.ownBlock <;> simp)
theorem ownsRow_low {w:World} {B B' e size n:Nat} {v:Value} {xs:List Value} (h:w.ownsRow B e size v n xs)(hB:B'<=B):w.ownsRow B' e size v n xs:=by
 refine⟨h.1,?_⟩
 rcases h.2 with h2|⟨g,cap,cur,a1,a2,a3⟩
 ·exact .inl h2
 ·exact .inr ⟨g,cap,cur,a1,by omega,a3⟩
theorem Buf.start {K:Nat->Prop} (w:World)(hK:∀k,K k->k < w.heap.size):Buf K w w (.slice none 0 0) []:=
 ⟨World.ownsRow_nil _ _ _ _,fun g h=>by simp [Value.ownBlock]at h,fun _ _=>rfl,hK,rfl,rfl,rfl⟩
theorem Buf.nil (w:World):Buf (Lt w.heap.size) w w (.slice none 0 0) []:=Buf.start w fun _ h=>h
theorem Buf.bel {w0 w:World} {v:Value} {xs:List Int} (h:Buf (Lt w0.heap.size) w0 w v xs):Ext w0 w:=by
 refine⟨h.os,h.tape,h.output,?_,fun k hk=>h.kept k hk⟩
 rcases Nat.lt_or_ge w.heap.size w0.heap.size with hl|hl
 ·exact absurd (h.lt w.heap.size hl) (Nat.lt_irrefl _)
 ·exact hl
/-- A step that turns the own row alone. -/
theorem Buf.step {K:Nat->Prop} {w0 w w':World} {v v':Value} {xs ys:List Int} (h:Buf K w0 w v xs)(hg:w.grownBy w' v.ownBlock)(hown:w'.ownsRow 0 5 1 v' ys.length (bys ys))
 (hv:∀g,v'.ownBlock=some g->v.ownBlock=some g∨w.heap.size<=g):Buf K w0 w' v' ys:=by
 refine⟨hown,?_,?_,fun k hk=>Nat.lt_of_lt_of_le (h.lt k hk) hg.size,hg.os.trans h.os,hg.tape.trans h.tape,hg.output.trans h.output⟩
 ·intro g hgv hK
  rcases hv g hgv with h1|h1
  ·exact h.off g h1 hK
  ·have:=h.lt g hK;omega
 ·intro k hk
  rw [hg.block k (h.lt k hk) (fun e=>h.off k e.symm hk),h.kept k hk]
theorem Buf.ext {K:Nat->Prop} {w0 w w':World} {v:Value} {xs:List Int} (h:Buf K w0 w v xs)(hx:Ext w w'):Buf K w0 w' v xs:=
 h.step ⟨hx.os,hx.tape,hx.output,hx.size,fun k hk _=>hx.block k hk⟩ (ownsRow_ext h.own hx) (fun g hg=> .inl hg)
/-- Kept blocks more: from here on. -/
theorem Buf.rebase {K K':Nat->Prop} {w0 w:World} {v:Value} {xs:List Int} (h:Buf K w0 w v xs)(hlt:∀k,K' k->k < w.heap.size)(hne:∀g,v.ownBlock=some g->¬K' g):Buf K' w w v xs:=
 ⟨h.own,hne,fun _ _=>rfl,hlt,rfl,rfl,rfl⟩
theorem Buf.unbase {K K':Nat->Prop} {w0 w w':World} {v v':Value} {xs ys:List Int} (h:Buf K w0 w v xs)(h':Buf K' w w' v' ys)(hK:∀k,K k->K' k):Buf K w0 w' v' ys:=
 ⟨h'.own,fun g hg hk=>h'.off g hg (hK g hk),fun k hk=>(h'.kept k (hK k hk)).trans (h.kept k hk),fun k hk=>h'.lt k (hK k hk),h'.os.trans h.os,h'.tape.trans h.tape,h'.output.trans h.output⟩
theorem Buf.own_lt {K:Nat->Prop} {w0 w:World} {v:Value} {xs:List Int} (h:Buf K w0 w v xs):∀g,v.ownBlock=some g->g < w.heap.size:=fun g hg=>(h.own.lt g hg).2
/-- A slice of bytes that is read. -/
def RdB (w:World) (v:Value) (xs:List Int):Prop:=
 ∃A c,v=.slice A xs.length c/\xs.length<=c/\c<=maxLen/\(0 < xs.length->∃b off,A=some ⟨b,off,none⟩/\∀j,j < xs.length->w.cell? ⟨b,off+j,none⟩=some (.int .u8 (xs.getD j 0)))
theorem RdB.ext {w w':World} {v:Value} {xs:List Int} (h:RdB w v xs)(hx:Ext w w'):RdB w' v xs:=by
 obtain⟨A,c,hv,h1,h2,h3⟩:=h
 refine⟨A,c,hv,h1,h2,fun hn=>?_⟩
 obtain⟨b,off,hA,hc⟩:=h3 hn
 exact⟨b,off,hA,fun j hj=>hx.cell (hc j hj)⟩
theorem RdB.nil (w:World):RdB w (.slice none 0 0) []:=⟨none,0,rfl,Nat.le_refl _,by unfold maxLen;omega,fun h=>absurd h (Nat.lt_irrefl 0)⟩
theorem add_lit0 (b off i:Nat):(⟨b,off,none⟩:Addr).add i=⟨b,off+i,none⟩:=by unfold Addr.add;split <;> simp_all
/-- What is owned can be read. -/
theorem RdB.of_own {w:World} {B:Nat} {v:Value} {xs:List Int} (h:w.ownsRow B 5 1 v xs.length (bys xs)):RdB w v xs:=by
 rcases h.2 with ⟨rfl,hn⟩|⟨g,cap,cur,rfl,hbg,hg,hnc,hcm,hcs,htake⟩
 ·exact⟨none,0,by rw [hn],by omega,by unfold maxLen;omega,fun h=>by omega⟩
 ·refine⟨_,cap,rfl,hnc,hcm,fun _=>⟨g,0,rfl,fun j hj=>?_⟩⟩
  have:=h.cells (g:=g) rfl j (.int .u8 (xs.getD j 0)) (by
   unfold bys
   rw [List.getElem?_map,List.getElem?_eq_getElem hj]
   simp [List.getD,List.getElem?_eq_getElem hj])
  rwa [add_lit0]at this
theorem Buf.rd {B:Nat->Prop} {w0 w:World} {v:Value} {xs:List Int} (h:Buf B w0 w v xs):RdB w v xs:=RdB.of_own h.own
theorem append_types {P:Program} {w:World} (t tx ty e e':TypeId)(i:TypeInfo)(ht:P.underlying t=some (.slice e))(hx:P.underlying tx=some (.slice e'))(hi:P.info? e=some i)(A:Option Addr)(n c:Nat)(y:Value):
 (Builtin.append_ #[t,tx] ty #[.slice A n c,y]).run P w=(Builtin.append_ #[t,t] ty #[.slice A n c,y]).run P w:=by
 simp [Builtin.append_,run_underlying ht,run_underlying hx,sizeOf,typeInfo,hi]
theorem own_slice {w:World} {B e size n:Nat} {v:Value} {xs:List Value} (h:w.ownsRow B e size v n xs):∃A c,v=.slice A n c:=by
 rcases h.2 with ⟨rfl,rfl⟩|⟨g,cap,_,rfl,_⟩
 ·exact⟨none,0,rfl⟩
 ·exact⟨_,cap,rfl⟩
/-- append of bytes that are read, in the walk's form. -/
theorem ap_row {ops:Array Oper} {rest:List Oper} {o:Oper} {a:Act} {Q:Exit->Act->World->Prop} {w:World} (hgd:o.guard=none)(s x:Operand)(t tx:TypeId)
 (ho:o.op=.call {callee:=.builtin .append,args:= #[s,x],argTypes:= #[t,tx]})
 (ht:Tryz.prog.underlying t=some (.slice 5)) (htx:Tryz.prog.underlying tx=some (.slice 5))
 {B:Nat->Prop} {w0:World} {v vx:Value} {xs ys:List Int} (hs:a.eval s=v) (hb:Buf B w0 w v xs) (hx:a.eval x=vx) (hr:RdB w vx ys) (hl:xs.length+ys.length<=70368744177664)
 (h:∀v' w',Buf B w0 w' v' (xs++ys)->wpList Tryz.prog ops Q rest (a.put o.dst v') w'):wpList Tryz.prog ops Q (o :: rest) a w:=by
 obtain⟨i0,hi,hz0,hz1,hz2⟩:=info_parts info5
 obtain⟨A,c,rfl,hc1,hc2,hcell⟩:=hr
 refine wpList_plain hgd fun K hK=>?_
 have fin:∀v' w',w'.ownsRow 0 5 1 v' (xs.length+ys.length) (bys xs++bys ys)->w.grownBy w' v.ownBlock->(∀g,v'.ownBlock=some g->v.ownBlock=some g∨w.heap.size<=g)->K (a.put o.dst v') w':=by
  intro v' w' h1 h2 h3
  exact hK _ _ (h v' w' (hb.step h2 (by rw [List.length_append,bys_append];exact h1) h3))
 have run:∃v' w',(Builtin.append_ #[t,tx] o.type #[v,.slice A ys.length c]).run Tryz.prog w=.ok v' w'/\w'.ownsRow 0 5 1 v' (xs.length+ys.length) (bys xs++bys ys)/\w.grownBy w' v.ownBlock/\(∀g,v'.ownBlock=some g->v.ownBlock=some g∨w.heap.size<=g):=by
  obtain⟨Av,cv,hv⟩:=own_slice hb.own
  have hat:(Builtin.append_ #[t,tx] o.type #[v,.slice A ys.length c]).run Tryz.prog w=(Builtin.append_ #[t,t] o.type #[v,.slice A ys.length c]).run Tryz.prog w:=by
   rw [hv];exact append_types t tx o.type 5 5 i0 ht htx hi _ _ _ _
  rw [hat]
  by_cases hn:0 < ys.length
  ·obtain⟨b,off,rfl,hc⟩:=hcell hn
   obtain⟨v',w',hr,h2,h3,h4,h5⟩:=run_append_own_at (P:=Tryz.prog) w 0 t o.type 5 i0 (.int .u8 0) 1 1 ht hi hz0 hz1 hz2 rfl (by decide) v xs.length (bys xs) hb.own ⟨b,off,none⟩ ys.length c (bys ys) (by simp [bys]) (by
    intro j u hj
    have hjl:j < ys.length:=by
     rcases Nat.lt_or_ge j ys.length with h|h
     ·exact h
     ·simp [bys,List.getElem?_eq_none h]at hj
    rw [add_lit0,hc j hjl]
    unfold bys at hj
    rw [List.getElem?_map,List.getElem?_eq_getElem hjl]at hj
    simp at hj
    subst hj
    simp [List.getD,List.getElem?_eq_getElem hjl]) (bys_one ys) (by unfold maxLen;omega) (by omega) (Nat.zero_le _)
   refine⟨v',w',hr,h2,h3,fun g hg=>?_⟩
   rcases h5 with h5|h5
   ·exact .inl (h5▸hg)
   ·exact .inr (by rw [h5]at hg;cases hg;exact Nat.le_refl _)
  ·have hy:ys=[]:=List.eq_nil_of_length_eq_zero (by omega)
   subst hy
   refine⟨v,w,?_,by simpa [bys]using hb.own,⟨rfl,rfl,rfl,Nat.le_refl _,fun _ _ _=>rfl⟩,fun g hg=> .inl hg⟩
   rcases hb.own.2 with ⟨rfl,hn0⟩|⟨g,cap,cur,rfl,hbg,hg,hnc,hcm,hcs,htake⟩
   ·cases A <;> simp [Builtin.append_,run_underlying ht,sizeOf,typeInfo,hi,Builtin.lenOf,Builtin.firstCells,loadCells,loadCellsFrom]
   ·cases A <;> simp [Builtin.append_,run_underlying ht,sizeOf,typeInfo,hi,Builtin.lenOf,Builtin.firstCells,loadCells,loadCellsFrom,hnc,storeCells]
 obtain⟨v',w',hr,h2,h3,h4⟩:=run
 unfold Oper.wp execOp
 simp only [ho,resolve,invoke,builtin,Sem.run_bind,Sem.run_pure,Result.andThen_ok,List.map_toArray,List.map_cons,List.map_nil,hs,hx,hr]
 exact fin v' w' h2 h3 h4
theorem RdB.lit1 (W:World)(a:Int):RdB (W.alloc (.cells #[.int .u8 a] 5)) (.slice (some ⟨W.heap.size,0,none⟩) 1 1) [a]:=
 ⟨_,1,rfl,Nat.le_refl _,by unfold maxLen;omega,fun _=>⟨W.heap.size,0,rfl,fun j hj=>by
   obtain rfl:j=0:=by simp at hj;omega
   rw [cell_of_row _ _ _ _ _ _ (heap_alloc_new W _)];rfl⟩⟩
theorem RdB.lit2 (W:World)(a b:Int):RdB (W.alloc (.cells #[.int .u8 a,.int .u8 b] 5)) (.slice (some ⟨W.heap.size,0,none⟩) 2 2) [a,b]:=
 ⟨_,2,rfl,Nat.le_refl _,by unfold maxLen;omega,fun _=>⟨W.heap.size,0,rfl,fun j hj=>by
   rw [Nat.zero_add,cell_of_row _ _ _ _ _ _ (heap_alloc_new W _)]
   match j,hj with
   | 0,_=>rfl
   | 1,_=>rfl⟩⟩
theorem RdB.lit4 (W:World)(a b c d:Int):RdB (W.alloc (.cells #[.int .u8 a,.int .u8 b,.int .u8 c,.int .u8 d] 5)) (.slice (some ⟨W.heap.size,0,none⟩) 4 4) [a,b,c,d]:=
 ⟨_,4,rfl,Nat.le_refl _,by unfold maxLen;omega,fun _=>⟨W.heap.size,0,rfl,fun j hj=>by
   rw [Nat.zero_add,cell_of_row _ _ _ _ _ _ (heap_alloc_new W _)]
   match j,hj with
   | 0,_=>rfl
   | 1,_=>rfl
   | 2,_=>rfl
   | 3,_=>rfl⟩⟩
theorem RdB.lit5 (W:World)(a b c d e:Int):RdB (W.alloc (.cells #[.int .u8 a,.int .u8 b,.int .u8 c,.int .u8 d,.int .u8 e] 5)) (.slice (some ⟨W.heap.size,0,none⟩) 5 5) [a,b,c,d,e]:=
 ⟨_,5,rfl,Nat.le_refl _,by unfold maxLen;omega,fun _=>⟨W.heap.size,0,rfl,fun j hj=>by
   rw [Nat.zero_add,cell_of_row _ _ _ _ _ _ (heap_alloc_new W _)]
   match j,hj with
   | 0,_=>rfl
   | 1,_=>rfl
   | 2,_=>rfl
   | 3,_=>rfl
   | 4,_=>rfl⟩⟩
/-- append of a literal of one, two, four bytes. -/
theorem ap_lit1 {ops:Array Oper} {rest:List Oper} {o:Oper} {a:Act} {Q:Exit->Act->World->Prop} {W:World} {x1:Int} (hgd:o.guard=none)(s x:Operand)(t tx:TypeId)
 (ho:o.op=.call {callee:=.builtin .append,args:= #[s,x],argTypes:= #[t,tx]})
 (ht:Tryz.prog.underlying t=some (.slice 5)) (htx:Tryz.prog.underlying tx=some (.slice 5))
 (hx:a.eval x=.slice (some ⟨W.heap.size,0,none⟩) 1 1) {v:Value} (hs:a.eval s=v) {B:Nat->Prop} {w0:World} {xs:List Int} (hb:Buf B w0 W v xs) (hl:xs.length<=35184372088832)
 (h:∀v' w',Buf B w0 w' v' (xs++ [x1])->wpList Tryz.prog ops Q rest (a.put o.dst v') w'):wpList Tryz.prog ops Q (o :: rest) a (W.alloc (.cells #[.int .u8 x1] 5)):=
 ap_row hgd s x t tx ho ht htx hs (hb.ext (ext_alloc W _)) hx (RdB.lit1 W x1) (by simp;omega) h
theorem ap_lit2 {ops:Array Oper} {rest:List Oper} {o:Oper} {a:Act} {Q:Exit->Act->World->Prop} {W:World} {x1 x2:Int} (hgd:o.guard=none)(s x:Operand)(t tx:TypeId)
 (ho:o.op=.call {callee:=.builtin .append,args:= #[s,x],argTypes:= #[t,tx]})
 (ht:Tryz.prog.underlying t=some (.slice 5)) (htx:Tryz.prog.underlying tx=some (.slice 5))
 (hx:a.eval x=.slice (some ⟨W.heap.size,0,none⟩) 2 2) {v:Value} (hs:a.eval s=v) {B:Nat->Prop} {w0:World} {xs:List Int} (hb:Buf B w0 W v xs) (hl:xs.length<=35184372088832)
 (h:∀v' w',Buf B w0 w' v' (xs++ [x1,x2])->wpList Tryz.prog ops Q rest (a.put o.dst v') w'):wpList Tryz.prog ops Q (o :: rest) a (W.alloc (.cells #[.int .u8 x1,.int .u8 x2] 5)):=
 ap_row hgd s x t tx ho ht htx hs (hb.ext (ext_alloc W _)) hx (RdB.lit2 W x1 x2) (by simp;omega) h
theorem ap_lit4 {ops:Array Oper} {rest:List Oper} {o:Oper} {a:Act} {Q:Exit->Act->World->Prop} {W:World} {x1 x2 x3 x4:Int} (hgd:o.guard=none)(s x:Operand)(t tx:TypeId)
 (ho:o.op=.call {callee:=.builtin .append,args:= #[s,x],argTypes:= #[t,tx]})
 (ht:Tryz.prog.underlying t=some (.slice 5)) (htx:Tryz.prog.underlying tx=some (.slice 5))
 (hx:a.eval x=.slice (some ⟨W.heap.size,0,none⟩) 4 4) {v:Value} (hs:a.eval s=v) {B:Nat->Prop} {w0:World} {xs:List Int} (hb:Buf B w0 W v xs) (hl:xs.length<=35184372088832)
 (h:∀v' w',Buf B w0 w' v' (xs++ [x1,x2,x3,x4])->wpList Tryz.prog ops Q rest (a.put o.dst v') w'):wpList Tryz.prog ops Q (o :: rest) a (W.alloc (.cells #[.int .u8 x1,.int .u8 x2,.int .u8 x3,.int .u8 x4] 5)):=
 ap_row hgd s x t tx ho ht htx hs (hb.ext (ext_alloc W _)) hx (RdB.lit4 W x1 x2 x3 x4) (by simp;omega) h
/-- Where a slice lies behind an append of a string. -/
theorem str_at {w w':World} {t ty:TypeId} {v v':Value} {n:Nat} {xs:List Value} {st:ByteArray} (ht:Tryz.prog.underlying t=some (.slice 5))(hown:w.ownsRow 0 5 1 v n xs)(hl:n+st.size<=70368744177664)
 (hr:(Builtin.append_ #[t,9] ty #[v,.string st]).run Tryz.prog w=.ok v' w'):∀g,v'.ownBlock=some g->v.ownBlock=some g∨w.heap.size<=g:=by
 obtain⟨i0,hi,hz0,hz1,hz2⟩:=info_parts info5
 intro g' hg'
 rcases hown.2 with ⟨rfl,rfl⟩|⟨g,cap,cur,rfl,hbg,hg,hnc,hcm,hcs,htake⟩
 ·obtain⟨v1,w1,hr1,h2,_⟩:=Lib.run_append_own_string (P:=Tryz.prog) w w.heap.size t 9 ty 5 i0 ht Tryz.underlying9 hi hz0 hz1 hz2 (.slice none 0 0) 0 [] (World.ownsRow_nil _ _ _ _) st (by unfold maxLen;omega) (by omega) (Nat.le_refl _)
  rw [hr]at hr1
  cases hr1
  exact .inr (h2.lt g' hg').1
 ·have hcs':cur.size=cap:=by simpa using hcs
  by_cases hroom:n+st.size<=cap
  ·have hr1:=Lib.run_append_room_string (P:=Tryz.prog) w t 9 ty 5 i0 ht Tryz.underlying9 hi hz1 g n cap cur hg st hroom (by omega)
   rw [hr]at hr1
   cases hr1
   exact .inl hg'
  ·have holds:∀j u,xs[j]?=some u->w.cell? ((⟨g,0,none⟩:Addr).add j)=some u:=hown.cells (g:=g) rfl
   have hr1:=Lib.run_append_grow_string (P:=Tryz.prog) w t 9 ty 5 i0 (.int .u8 0) ht Tryz.underlying9 hi hz0 ⟨g,0,none⟩ n cap xs (by rw [hz1];exact hown.1) holds st (by omega) (by omega) (by rw [hz2];exact growslice_fits (by omega) (by omega))
   rw [hr]at hr1
   cases hr1
   exact .inr (by cases hg';exact Nat.le_refl _)
/-- append of a string's bytes. -/
theorem ap_str {ops:Array Oper} {rest:List Oper} {o:Oper} {a:Act} {Q:Exit->Act->World->Prop} {w:World} (hgd:o.guard=none)(s x:Operand)(t:TypeId)
 (ho:o.op=.call {callee:=.builtin .append,args:= #[s,x],argTypes:= #[t,9]})
 (ht:Tryz.prog.underlying t=some (.slice 5))
 {B:Nat->Prop} {w0:World} {v:Value} {st:ByteArray} {xs:List Int} (hx:a.eval x=.string st) (hs:a.eval s=v) (hb:Buf B w0 w v xs) (hl:xs.length+st.size<=70368744177664)
 (h:∀v' w',Buf B w0 w' v' (xs++sby st)->wpList Tryz.prog ops Q rest (a.put o.dst v') w'):wpList Tryz.prog ops Q (o :: rest) a w:=by
 obtain⟨i0,hi,hz0,hz1,hz2⟩:=info_parts info5
 refine wpList_plain hgd fun K hK=>?_
 obtain⟨v',w',hr,h2,h3,h4⟩:=Lib.run_append_own_string (P:=Tryz.prog) w 0 t 9 o.type 5 i0 ht Tryz.underlying9 hi hz0 hz1 hz2 v xs.length (bys xs) hb.own st (by unfold maxLen;omega) (by omega) (Nat.zero_le _)
 unfold Oper.wp execOp
 simp only [ho,resolve,invoke,builtin,Sem.run_bind,Sem.run_pure,Result.andThen_ok,List.map_toArray,List.map_cons,List.map_nil,hs,hx,hr]
 refine hK _ _ (h v' w' (hb.step h3 ?_ (str_at ht hb.own hl hr)))
 rw [List.length_append,sby_length,bys_append]
 have e:bys (sby st)=Lib.strCells st:=by simp [bys,sby,Lib.strCells]
 rw [e];exact h2
def be16 (n:Int):List Int:=[n / 256,n % 256]
def be32 (n:Int):List Int:=[n / 16777216,n / 65536 % 256,n / 256 % 256,n % 256]
/-- the two, the four low bytes of a number, the highest one first -/
def b16 (n:Int):List Int:=be16 (n % 65536)
def b32 (n:Int):List Int:=be32 (n % 4294967296)
theorem b16_len (n:Int):(b16 n).length=2:=rfl
theorem b32_len (n:Int):(b32 n).length=4:=rfl
theorem b16_of {n:Int} (h0:0<=n)(h1:n < 65536):be16 n=b16 n:=by unfold b16;rw [Int.emod_eq_of_lt h0 h1]
theorem b32_of {n:Int} (h0:0<=n)(h1:n < 4294967296):be32 n=b32 n:=by unfold b32;rw [Int.emod_eq_of_lt h0 h1]
theorem appendU16 {B:Nat->Prop} {w0:World} (v:Value)(xs:List Int)(n:Int)(w:World)(h0:0<=n)(h1:n < 65536)
 (hb:Buf B w0 w v xs) (hlen:xs.length<=1099511627776):
 Calls Tryz.prog 140 #[v,.int .u16 n] w fun e w'=>∃v',e=.returned v'/\Buf B w0 w' v' (xs++b16 n):=by
 rw [<-b16_of h0 h1]
 go_enter Tryz.func140,Tryz.ntmps140
 go_wp2_with (at_builtin;refine ap_lit2 rfl _ _ 26 26 rfl Tryz.underlying26 Tryz.underlying26 rfl rfl hb (by omega) ?_;intro v' w' hb')
 go_ret
 exact⟨_,rfl,hb'⟩
theorem appendU32 {B:Nat->Prop} {w0:World} (v:Value)(xs:List Int)(n:Int)(w:World)(h0:0<=n)(h1:n < 4294967296)
 (hb:Buf B w0 w v xs) (hlen:xs.length<=1099511627776):
 Calls Tryz.prog 145 #[v,.int .u32 n] w fun e w'=>∃v',e=.returned v'/\Buf B w0 w' v' (xs++b32 n):=by
 rw [<-b32_of h0 h1]
 go_enter Tryz.func145,Tryz.ntmps145
 go_wp2_with (at_builtin;refine ap_lit4 rfl _ _ 26 26 rfl Tryz.underlying26 Tryz.underlying26 rfl rfl hb (by omega) ?_;intro v' w' hb')
 go_ret
 exact⟨_,rfl,hb'⟩
theorem appendI32 {B:Nat->Prop} {w0:World} (v:Value)(xs:List Int)(n:Int)(w:World)
 (hb:Buf B w0 w v xs) (hlen:xs.length<=1099511627776):
 Calls Tryz.prog 142 #[v,.int .i32 n] w fun e w'=>∃v',e=.returned v'/\Buf B w0 w' v' (xs++b32 n):=by
 have e1:b32 n=b32 (n % 4294967296):=by unfold b32;rw [Int.emod_emod]
 rw [e1]
 clear e1
 go_enter Tryz.func142,Tryz.ntmps142
 go_wp2_with (go_at_call 145;refine(appendU32 _ _ _ _ (by omega) (by omega) hb (by omega)).mono ?_;rintro e w' ⟨v',rfl,hb'⟩)
 go_ret
 exact⟨_,rfl,hb'⟩
theorem appendI16 {B:Nat->Prop} {w0:World} (v:Value)(xs:List Int)(n:Int)(w:World)
 (hb:Buf B w0 w v xs) (hlen:xs.length<=1099511627776):
 Calls Tryz.prog 141 #[v,.int .i16 n] w fun e w'=>∃v',e=.returned v'/\Buf B w0 w' v' (xs++b16 n):=by
 have e1:b16 n=b16 (n % 65536):=by unfold b16;rw [Int.emod_emod]
 rw [e1]
 clear e1
 have hu:=IntKind.wrap_u16 n
 go_enter Tryz.func141,Tryz.ntmps141
 go_wp2_with (go_at_call 140;refine(appendU16 _ _ _ _ (by omega) (by omega) hb (by omega)).mono ?_;rintro e w' ⟨v',rfl,hb'⟩)
 go_ret
 exact⟨_,rfl,hb'⟩
theorem Buf.len {B:Nat->Prop} {w0 w:World} {v:Value} {xs:List Int} (h:Buf B w0 w v xs):∃A c,v=.slice A xs.length c:=own_slice h.own
theorem begin_any {B:Nat->Prop} {w0:World} (v:Value)(xs:List Int)(t:Int)(w:World)
 (hb:Buf B w0 w v xs) (hlen:xs.length<=1099511627770):
 Calls Tryz.prog 139 #[v,.int .u8 t] w fun e w'=>∃v',e=.returned (.tuple #[v',.int .i64 ((xs.length:Int)+1)])/\Buf B w0 w' v' ((xs++ [t])++ [255,255,255,255]):=by
 go_enter Tryz.func139,Tryz.ntmps139
 go_wp2_with (at_builtin;refine ap_lit1 rfl _ _ 26 26 rfl Tryz.underlying26 Tryz.underlying26 rfl rfl hb (by omega) ?_;intro v1 w1 hb1;obtain⟨A1,c1,hv1⟩:=hb1.len;subst hv1;rw [List.length_append]at hb1⊢;have hb1':=zh hb1;clear hb1)
 have hl1:(xs++ [t]).length<=1099511627776:=by simp;omega
 refine(appendI32 _ _ _ _ hb1'.out hl1).mono ?_
 rintro e w' ⟨v',rfl,hb'⟩
 go_wp2_with fail
 go_ret2
 exact⟨_,rfl,hb'⟩
theorem setInt32 (g sp n c:Nat)(m:Int)(w:World)(cur:Array Value)(hg:w.heap[g]?=some (.cells cur 5 (0,0)))(h0:0<=m)(h1:m < 2147483648)(hn:4<=n)(hs:sp+4<=cur.size):
 Calls Tryz.prog 146 #[.slice (some ⟨g,sp,none⟩) n c,.int .i32 m] w fun e w'=>e=.returned (.tuple #[])/\
  w'=(((w.setCell ⟨g,sp,none⟩ (.int .u8 (m / 16777216))).setCell ⟨g,sp+1,none⟩ (.int .u8 (m / 65536 % 256))).setCell ⟨g,sp+2,none⟩ (.int .u8 (m / 256 % 256))).setCell ⟨g,sp+3,none⟩ (.int .u8 (m % 256)):=by
 have ha:∀w,(Instr.arrayAt 186 (.slice (some ⟨g,sp,none⟩) n c)).run Tryz.prog w=.ok (.pointer (some ⟨g,sp,none⟩)) w:=by
  intro w
  have:¬n < 4:=by omega
  simp [Instr.arrayAt,run_underlying Tryz.underlying186,this]
 obtain⟨x0,c0⟩:∃x,w.cell? ⟨g,sp,none⟩=some x:=⟨cur[sp]'(by omega),by rw [cell_of_row _ _ _ _ _ _ hg];exact Array.getElem?_eq_getElem _⟩
 obtain⟨x1,c1⟩:∃x,w.cell? ⟨g,sp+1,none⟩=some x:=⟨cur[sp+1]'(by omega),by rw [cell_of_row _ _ _ _ _ _ hg];exact Array.getElem?_eq_getElem _⟩
 obtain⟨x2,c2⟩:∃x,w.cell? ⟨g,sp+2,none⟩=some x:=⟨cur[sp+2]'(by omega),by rw [cell_of_row _ _ _ _ _ _ hg];exact Array.getElem?_eq_getElem _⟩
 obtain⟨x3,c3⟩:∃x,w.cell? ⟨g,sp+3,none⟩=some x:=⟨cur[sp+3]'(by omega),by rw [cell_of_row _ _ _ _ _ _ hg];exact Array.getElem?_eq_getElem _⟩
 have f0:=frozen_of_row w g sp cur 5 hg
 have f1:=frozen_of_row w g (sp+1) cur 5 hg
 have f2:=frozen_of_row w g (sp+2) cur 5 hg
 have f3:=frozen_of_row w g (sp+3) cur 5 hg
 clear hg hs
 go_enter Tryz.func146,Tryz.ntmps146
 go_wp2
 go_end0
 exact⟨rfl,rfl⟩
theorem Buf.put {B:Nat->Prop} {w0 w:World} {g n c:Nat} {xs:List Int} (h:Buf B w0 w (.slice (some ⟨g,0,none⟩) n c) xs)(j:Nat)(u:Int):Buf B w0 (w.setCell ⟨g,j,none⟩ (.int .u8 u)) (.slice (some ⟨g,0,none⟩) n c) (xs.set j u):=by
 obtain⟨A,c',hv⟩:=h.len
 obtain⟨rfl,rfl,rfl⟩:A=some ⟨g,0,none⟩/\n=xs.length/\c=c':=by simpa [eq_comm]using hv
 have h2:=h.own.stored j (.int .u8 u)
 have e:bys (xs.set j u)=(bys xs).set j (.int .u8 u):=by unfold bys;rw [List.map_set]
 exact h.step h2.2 (by rw [List.length_set,e];exact h2.1) (fun g' hg'=> .inl hg')
theorem set4 (body:List Int)(x0 x1 x2 x3 a b c d:Int):∀pre:List Int,((((pre++ [x0,x1,x2,x3]++body).set pre.length a).set (pre.length+1) b).set (pre.length+2) c).set (pre.length+3) d=pre++ [a,b,c,d]++body
 | []=>rfl
 | h :: t=>by
   have ih:=set4 body x0 x1 x2 x3 a b c d t
   simp only [List.cons_append,List.length_cons,Nat.add_right_comm t.length 1,List.set_cons_succ]
   rw [ih]
/-- The end of a message: its length is written at sp. -/
theorem finish_any {B:Nat->Prop} {w0:World} (v:Value)(pre body:List Int)(x0 x1 x2 x3:Int)(w:World)
 (hb:Buf B w0 w v (pre++ [x0,x1,x2,x3]++body)) (hlen:pre.length+body.length<=1000000):
 Calls Tryz.prog 143 #[v,.int .i64 pre.length] w fun e w'=>∃v',e=.returned (.tuple #[v',.nilIface])/\Buf B w0 w' v' (pre++b32 (body.length+4)++body):=by
 have hnn:(pre++ [x0,x1,x2,x3]++body).length=pre.length+4+body.length:=by simp;omega
 rcases hb.own.2 with ⟨_,hn⟩|⟨g,cap,cur,rfl,hbg,hg,hnc,hcm,hcs,htake⟩
 ·omega
 rw [hnn]at hb hnc⊢
 obtain⟨p,hp⟩:∃p,p=pre.length:=⟨_,rfl⟩
 obtain⟨q,hq⟩:∃q,q=body.length:=⟨_,rfl⟩
 rw [<-hp,<-hq]at hb hnc⊢
 have hp1:p+q<=1000000:=by omega
 have HB:=zh hb
 have HG:=zh hg
 have HP:=zh hp
 have HQ:=zh hq
 have hcur:p+4<=cur.size:=by omega
 have hcm':cap<=9223372036854775807:=by unfold maxLen at hcm;exact hcm
 clear hb hg hp hq hnn hlen htake hcs hbg hcm
 go_enter Tryz.func143,Tryz.ntmps143
 go_wp2_with fail
 refine(setInt32 g p (p+4+q - p) (cap - p) ((p+4+q - p:Nat):Int) w cur HG.out (by omega) (by omega) (by omega) hcur).mono ?_
 rintro e w' ⟨rfl,rfl⟩
 go_wp2_with fail
 go_ret2
 refine⟨_,rfl,?_⟩
 have h4:=(((HB.out.put p (((p+4+q - p:Nat):Int) / 16777216)).put (p+1) (((p+4+q - p:Nat):Int) / 65536 % 256)).put (p+2) (((p+4+q - p:Nat):Int) / 256 % 256)).put (p+3) (((p+4+q - p:Nat):Int) % 256)
 have hl:=set4 body x0 x1 x2 x3 (((p+4+q - p:Nat):Int) / 16777216) (((p+4+q - p:Nat):Int) / 65536 % 256) (((p+4+q - p:Nat):Int) / 256 % 256) (((p+4+q - p:Nat):Int) % 256) pre
 rw [<-HP.out]at hl
 rw [hl]at h4
 have e4:((p+4+q - p:Nat):Int)=(q:Int)+4:=by omega
 rw [<-b32_of (n:=(q:Int)+4) (by omega) (by omega),<-e4]
 exact h4
theorem Buf.cellb {w0 w:World} {v:Value} {xs:List Int} (h:Buf (Lt w0.heap.size) w0 w v xs) {b:Nat} (hb:b < w0.heap.size):∀o,w.cell? ⟨b,o,none⟩=w0.cell? ⟨b,o,none⟩:=fun o=>Below.cell h.bel (p:=⟨b,o,none⟩) hb
theorem lt_of_cell {w:World} {b o:Nat} {v:Value} (h:w.cell? ⟨b,o,none⟩=some v):b < w.heap.size:=World.block_lt_of_cell? w _ h
/-- a text with its nought -/
def txt (s:ByteArray):List Int:=sby s++ [0]
/-- a message with its type -/
def msgB (t:Int) (body:List Int):List Int:=t :: (b32 (body.length+4)++body)
/-- a message without a type -/
def msg0 (body:List Int):List Int:=b32 (body.length+4)++body
theorem txt_len (s:ByteArray):(txt s).length=s.size+1:=by simp [txt,sby_length]
/-- What an Encode hands back: no error, and bytes that are read. -/
def Gives (w:World) (xs:List Int) (e:Ending) (w':World):Prop:=∃v',e=.returned (.tuple #[v',.nilIface])/\Ext w w'/\RdB w' v' xs
theorem gives_of {w w':World} {v:Value} {xs:List Int} (h:Buf (Lt w.heap.size) w w' v xs) {R:List Int} (e:R=xs):Gives w R (.returned (.tuple #[v,.nilIface])) w':=⟨v,rfl,h.bel,e▸h.rd⟩
theorem finish1 {B:Nat->Prop} {w0:World} (v:Value)(t:Int)(xs body:List Int)(w:World)(hb:Buf B w0 w v xs)(hx:xs=[t,255,255,255,255]++body)(hlen:body.length<=900000):
 Calls Tryz.prog 143 #[v,.int .i64 1] w fun e w'=>∃v',e=.returned (.tuple #[v',.nilIface])/\Buf B w0 w' v' (msgB t body):=
 finish_any v [t] body 255 255 255 255 w (by rw [hx]at hb;exact hb) (by simp;omega)
theorem ext_bytes (w:World)(s:ByteArray):Ext w (Lib.bytesWorld w 5 s):=
 ⟨rfl,rfl,rfl,by rw [Lib.bytesWorld_size];omega,fun k hk=>Lib.bytesWorld_at_old w 5 s k hk⟩
theorem RdB.str (w:World)(s:ByteArray)(hs:s.size<=maxLen):RdB (Lib.bytesWorld w 5 s) (.slice (some ⟨w.heap.size,0,none⟩) s.size (grownCap w s.size 0 5)) (sby s):=by
 refine⟨_,_,by rw [sby_length],by rw [sby_length];exact grownCap_ge w s.size 0 5,grownCap_le_maxLen w s.size 0 5 hs,fun _=>⟨w.heap.size,0,rfl,fun j hj=>?_⟩⟩
 rw [sby_length]at hj
 rw [Nat.zero_add,Lib.bytesWorld_cell w 5 s j hj]
 unfold sby
 have hl:j < s.data.toList.length:=by rw [Array.length_toList];exact hj
 simp [List.getD,List.getElem?_map,List.getElem?_eq_getElem hl]
theorem run_bytes (s:ByteArray)(w:World):(convert 9 26 (.string s)).run Tryz.prog w=.ok (.slice (some ⟨w.heap.size,0,none⟩) s.size (grownCap w s.size 0 5)) (Lib.bytesWorld w 5 s):=
 Lib.run_convert_string_bytes w 9 26 5 s Tryz.underlying9 Tryz.underlying26 Tryz.underlying5
/-- append of '[]byte(s)'. -/
theorem ap_conv {ops:Array Oper} {rest:List Oper} {o:Oper} {a:Act} {Q:Exit->Act->World->Prop} {W:World} {st:ByteArray} (hgd:o.guard=none)(s x:Operand)(t tx:TypeId)
 (ho:o.op=.call {callee:=.builtin .append,args:= #[s,x],argTypes:= #[t,tx]})
 (ht:Tryz.prog.underlying t=some (.slice 5)) (htx:Tryz.prog.underlying tx=some (.slice 5))
 (hx:a.eval x=.slice (some ⟨W.heap.size,0,none⟩) st.size (grownCap W st.size 0 5)) {v:Value} (hs:a.eval s=v) {B:Nat->Prop} {w0:World} {xs:List Int} (hb:Buf B w0 W v xs) (hl:xs.length+st.size<=35184372088832)
 (h:∀v' w',Buf B w0 w' v' (xs++sby st)->wpList Tryz.prog ops Q rest (a.put o.dst v') w'):wpList Tryz.prog ops Q (o :: rest) a (Lib.bytesWorld W 5 st):=
 ap_row hgd s x t tx ho ht htx hs (hb.ext (ext_bytes W st)) hx (RdB.str W st (by unfold maxLen;omega)) (by rw [sby_length];omega) h
theorem RdB.lit6 (W:World)(a b c d e f:Int):RdB (W.alloc (.cells #[.int .u8 a,.int .u8 b,.int .u8 c,.int .u8 d,.int .u8 e,.int .u8 f] 5)) (.slice (some ⟨W.heap.size,0,none⟩) 6 6) [a,b,c,d,e,f]:=
 ⟨_,6,rfl,Nat.le_refl _,by unfold maxLen;omega,fun _=>⟨W.heap.size,0,rfl,fun j hj=>by
   rw [Nat.zero_add,cell_of_row _ _ _ _ _ _ (heap_alloc_new W _)]
   match j,hj with
   | 0,_=>rfl
   | 1,_=>rfl
   | 2,_=>rfl
   | 3,_=>rfl
   | 4,_=>rfl
   | 5,_=>rfl⟩⟩
theorem ap_lit5 {ops:Array Oper} {rest:List Oper} {o:Oper} {a:Act} {Q:Exit->Act->World->Prop} {W:World} {x1 x2 x3 x4 x5:Int} (hgd:o.guard=none)(s x:Operand)(t tx:TypeId)
 (ho:o.op=.call {callee:=.builtin .append,args:= #[s,x],argTypes:= #[t,tx]})
 (ht:Tryz.prog.underlying t=some (.slice 5)) (htx:Tryz.prog.underlying tx=some (.slice 5))
 (hx:a.eval x=.slice (some ⟨W.heap.size,0,none⟩) 5 5) {v:Value} (hs:a.eval s=v) {B:Nat->Prop} {w0:World} {xs:List Int} (hb:Buf B w0 W v xs) (hl:xs.length<=35184372088832)
 (h:∀v' w',Buf B w0 w' v' (xs++ [x1,x2,x3,x4,x5])->wpList Tryz.prog ops Q rest (a.put o.dst v') w'):wpList Tryz.prog ops Q (o :: rest) a (W.alloc (.cells #[.int .u8 x1,.int .u8 x2,.int .u8 x3,.int .u8 x4,.int .u8 x5] 5)):=
 ap_row hgd s x t tx ho ht htx hs (hb.ext (ext_alloc W _)) hx (RdB.lit5 W x1 x2 x3 x4 x5) (by simp;omega) h
theorem ap_lit6 {ops:Array Oper} {rest:List Oper} {o:Oper} {a:Act} {Q:Exit->Act->World->Prop} {W:World} {x1 x2 x3 x4 x5 x6:Int} (hgd:o.guard=none)(s x:Operand)(t tx:TypeId)
 (ho:o.op=.call {callee:=.builtin .append,args:= #[s,x],argTypes:= #[t,tx]})
 (ht:Tryz.prog.underlying t=some (.slice 5)) (htx:Tryz.prog.underlying tx=some (.slice 5))
 (hx:a.eval x=.slice (some ⟨W.heap.size,0,none⟩) 6 6) {v:Value} (hs:a.eval s=v) {B:Nat->Prop} {w0:World} {xs:List Int} (hb:Buf B w0 W v xs) (hl:xs.length<=35184372088832)
 (h:∀v' w',Buf B w0 w' v' (xs++ [x1,x2,x3,x4,x5,x6])->wpList Tryz.prog ops Q rest (a.put o.dst v') w'):wpList Tryz.prog ops Q (o :: rest) a (W.alloc (.cells #[.int .u8 x1,.int .u8 x2,.int .u8 x3,.int .u8 x4,.int .u8 x5,.int .u8 x6] 5)):=
 ap_row hgd s x t tx ho ht htx hs (hb.ext (ext_alloc W _)) hx (RdB.lit6 W x1 x2 x3 x4 x5 x6) (by simp;omega) h
/-- The receiver's own array of four bytes. -/
theorem RdB.arr4 {w:World} {b:Nat} {a0 a1 a2 a3:Int} (h0:w.cell? ⟨b,0,none⟩=some (.int .u8 a0))(h1:w.cell? ⟨b,1,none⟩=some (.int .u8 a1))(h2:w.cell? ⟨b,2,none⟩=some (.int .u8 a2))(h3:w.cell? ⟨b,3,none⟩=some (.int .u8 a3)):
 RdB w (.slice (some ⟨b,0,none⟩) 4 4) [a0,a1,a2,a3]:=
 ⟨_,4,rfl,Nat.le_refl _,by unfold maxLen;omega,fun _=>⟨b,0,rfl,fun j hj=>by
   rw [Nat.zero_add]
   match j,hj with
   | 0,_=>exact h0
   | 1,_=>exact h1
   | 2,_=>exact h2
   | 3,_=>exact h3⟩⟩
/-- A slice of numbers that is read. -/
def RdI (kd:IntKind) (w:World) (v:Value) (xs:List Int):Prop:=
 ∃A c,v=.slice A xs.length c/\xs.length<=c/\c<=maxLen/\(0 < xs.length->∃b off,A=some ⟨b,off,none⟩/\∀j,j < xs.length->w.cell? ⟨b,off+j,none⟩=some (.int kd (xs.getD j 0)))
theorem RdI.ext {kd:IntKind} {w w':World} {v:Value} {xs:List Int} (h:RdI kd w v xs)(hx:Ext w w'):RdI kd w' v xs:=by
 obtain⟨A,c,hv,h1,h2,h3⟩:=h
 refine⟨A,c,hv,h1,h2,fun hn=>?_⟩
 obtain⟨b,off,hA,hc⟩:=h3 hn
 exact⟨b,off,hA,fun j hj=>hx.cell (hc j hj)⟩
theorem RdI.at_ {kd:IntKind} {w:World} {A:Option Addr} {n c:Nat} {xs:List Int} (h:RdI kd w (.slice A n c) xs) {k:Nat} (hk:k < xs.length):∃b off,A=some ⟨b,off,none⟩/\w.cell? ⟨b,off+k,none⟩=some (.int kd (xs.getD k 0)):=by
 obtain⟨A',c',hv,h1,h2,h3⟩:=h
 obtain⟨b,off,hA,hc⟩:=h3 (by omega)
 obtain⟨rfl,_,_⟩:A=A'/\n=xs.length/\c=c':=by simpa using hv
 exact⟨b,off,hA,hc k hk⟩
/-- A slice whose elements are of one cell. -/
def Rd1 {α:Type} (R:World->α->Value->Prop) (w:World) (v:Value) (l:List α):Prop:=
 ∃A c,v=.slice A l.length c/\l.length<=c/\c<=maxLen/\(0 < l.length->∃b off,A=some ⟨b,off,none⟩/\∀j (h:j < l.length),∃u,w.cell? ⟨b,off+j,none⟩=some u/\R w l[j] u)
theorem Rd1.ext {α:Type} {R:World->α->Value->Prop} {w w':World} {v:Value} {l:List α} (h:Rd1 R w v l)(hx:Ext w w')(hR:∀x u,R w x u->R w' x u):Rd1 R w' v l:=by
 obtain⟨A,c,hv,h1,h2,h3⟩:=h
 refine⟨A,c,hv,h1,h2,fun hn=>?_⟩
 obtain⟨b,off,hA,hc⟩:=h3 hn
 refine⟨b,off,hA,fun j hj=>?_⟩
 obtain⟨u,hu,hr⟩:=hc j hj
 exact⟨u,hx.cell hu,hR _ _ hr⟩
theorem Rd1.at_ {α:Type} {R:World->α->Value->Prop} {w:World} {A:Option Addr} {n c:Nat} {l:List α} (h:Rd1 R w (.slice A n c) l) {k:Nat} (hk:k < l.length):∃b off u,A=some ⟨b,off,none⟩/\w.cell? ⟨b,off+k,none⟩=some u/\R w l[k] u:=by
 obtain⟨A',c',hv,h1,h2,h3⟩:=h
 obtain⟨b,off,hA,hc⟩:=h3 (by omega)
 obtain⟨rfl,_,_⟩:A=A'/\n=l.length/\c=c':=by simpa using hv
 obtain⟨u,hu,hr⟩:=hc k hk
 exact⟨b,off,u,hA,hu,hr⟩
/-- A slice whose elements are of several cells. -/
def RdM {α:Type} (size:Nat) (R:World->α->(Nat->Value)->Prop) (w:World) (v:Value) (l:List α):Prop:=
 ∃A c,v=.slice A l.length c/\l.length<=c/\c<=maxLen/\(0 < l.length->∃b off,A=some ⟨b,off,none⟩/\∀j (h:j < l.length),∃f:Nat->Value,(∀k,k < size->w.cell? ⟨b,off+j * size+k,none⟩=some (f k))/\R w l[j] f)
theorem RdM.ext {α:Type} {size:Nat} {R:World->α->(Nat->Value)->Prop} {w w':World} {v:Value} {l:List α} (h:RdM size R w v l)(hx:Ext w w')(hR:∀x f,R w x f->R w' x f):RdM size R w' v l:=by
 obtain⟨A,c,hv,h1,h2,h3⟩:=h
 refine⟨A,c,hv,h1,h2,fun hn=>?_⟩
 obtain⟨b,off,hA,hc⟩:=h3 hn
 refine⟨b,off,hA,fun j hj=>?_⟩
 obtain⟨u,hu,hr⟩:=hc j hj
 exact⟨u,fun k hk=>hx.cell (hu k hk),hR _ _ hr⟩
theorem RdM.at_ {α:Type} {size:Nat} {R:World->α->(Nat->Value)->Prop} {w:World} {A:Option Addr} {n c:Nat} {l:List α} (h:RdM size R w (.slice A n c) l) {k:Nat} (hk:k < l.length):
 ∃b off,∃f:Nat->Value,A=some ⟨b,off,none⟩/\(∀j,j < size->w.cell? ⟨b,off+k * size+j,none⟩=some (f j))/\R w l[k] f:=by
 obtain⟨A',c',hv,h1,h2,h3⟩:=h
 obtain⟨b,off,hA,hc⟩:=h3 (by omega)
 obtain⟨rfl,_,_⟩:A=A'/\n=l.length/\c=c':=by simpa using hv
 obtain⟨u,hu,hr⟩:=hc k hk
 exact⟨b,off,u,hA,hu,hr⟩
/-- A text in a cell. -/
def isStr (_:World) (s:ByteArray) (u:Value):Prop:=u=.string s
/-- A value of bytes, or nil. -/
def isOpt (w:World) (o:Option (List Int)) (u:Value):Prop:=
 match o with
 | none=>u=.slice none 0 0
 | some d=>∃a c,u=.slice (some a) d.length c/\RdB w u d
theorem isOpt.ext {w w':World} (hx:Ext w w'):∀o u,isOpt w o u->isOpt w' o u:=by
 intro o u h
 cases o with
 | none=>exact h
 | some d=>obtain⟨a,c,hu,hr⟩:=h;exact⟨a,c,hu,hr.ext hx⟩
theorem take_flat {α:Type} (f:α->List Int)(l:List α)(k:Nat)(h:k < l.length):(l.take (k+1)).flatMap f=(l.take k).flatMap f++f l[k]:=by
 rw [List.take_succ_eq_append_getElem h,List.flatMap_append]
 simp
theorem getD_at {l:List Int} {k:Nat} (h:k < l.length):l.getD k 0=l[k]:=by simp [List.getD,List.getElem?_eq_getElem h]
theorem flat_len {α:Type} (f:α->List Int)(m:Nat):∀(l:List α),(∀x∈l,(f x).length<=m)->(l.flatMap f).length<=l.length * m
 | [],_=>by simp
 | a :: t,h=>by
   have h1:=h a (by simp)
   have h2:=flat_len f m t fun x hx=>h x (by simp [hx])
   simp only [List.flatMap_cons,List.length_append,List.length_cons,Nat.add_mul]
   omega
theorem flat_take_len {α:Type} (f:α->List Int)(m k:Nat)(l:List α)(h:∀x∈l,(f x).length<=m):((l.take k).flatMap f).length<=l.length * m:=by
 have h1:=flat_len f m (l.take k) fun x hx=>h x (List.mem_of_mem_take hx)
 have h2:(l.take k).length<=l.length:=List.length_take_le' k l
 exact Nat.le_trans h1 (Nat.mul_le_mul_right m h2)
/-- a value of bytes, or nothing, with its length ahead of it -/
def optB:Option (List Int)->List Int
 | none=>b32 (-1)
 | some d=>b32 d.length++d
/-- A column of a row's description. -/
structure Fd where
 name:List Int
 tab:Int
 col:Int
 typ:Int
 siz:Int
 mdf:Int
 fmt:Int
def fdB (x:Fd):List Int:=x.name++ [0]++b32 x.tab++b16 x.col++b32 x.typ++b16 x.siz++b32 x.mdf++b16 x.fmt
def isFd (w:World) (x:Fd) (f:Nat->Value):Prop:=
 (∃A c,f 0=.slice A x.name.length c/\RdB w (.slice A x.name.length c) x.name)/\f 1=.int .u32 x.tab/\f 2=.int .u16 x.col/\f 3=.int .u32 x.typ/\f 4=.int .i16 x.siz/\f 5=.int .i32 x.mdf/\f 6=.int .i16 x.fmt
/-- A new block beside the row. -/
theorem Buf.box {K:Nat->Prop} {w0 w:World} {v:Value} {xs:List Int} (h:Buf K w0 w v xs)(o:Obj):Buf (fun k=>K k∨k=w.heap.size) (w.alloc o) (w.alloc o) v xs:=by
 refine(h.ext (ext_alloc w o)).rebase ?_ ?_
 ·intro k hk
  have hs:(w.alloc o).heap.size=w.heap.size+1:=by simp
  rcases hk with hk|hk
  ·have:=h.lt k hk;omega
  ·omega
 ·intro g hg hk
  rcases hk with hk|hk
  ·exact h.off g hg hk
  ·have:=h.own_lt g hg;omega
theorem Buf.unbox {K:Nat->Prop} {w0 w w':World} {v v':Value} {xs ys:List Int} {o:Obj} (h:Buf K w0 w v xs)(h':Buf (fun k=>K k∨k=w.heap.size) (w.alloc o) w' v' ys):Buf K w0 w' v' ys:=
 Buf.unbase (h.ext (ext_alloc w o)) h' (fun _ hk=> .inl hk)
theorem Buf.boxed {K:Nat->Prop} {w w':World} {v':Value} {ys:List Int} {cs:Array Value} {t:TypeId} (h':Buf (fun k=>K k∨k=w.heap.size) (w.alloc (.cells cs t)) w' v' ys):∀j,w'.cell? ⟨w.heap.size,j,none⟩=cs[j]?:=by
 intro j
 have h1:=h'.kept w.heap.size (.inr rfl)
 rw [heap_alloc_new]at h1
 exact cell_of_row _ _ _ _ _ _ h1
end Go.Proofs.YtdenjanihikolaaGreatDoor
