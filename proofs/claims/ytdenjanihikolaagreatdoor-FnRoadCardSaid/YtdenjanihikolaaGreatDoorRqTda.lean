/- The salt, copied. -/
import Derived.Test.YtdenjanihikolaaGreatDoorRqA2
import Derived.Test.YtdenjanihikolaaGreatDoorRqA0
import Derived.Test.YtdenjanihikolaaGreatDoorRqA1
import Derived.Test.YtdenjanihikolaaGreatDoorRqEncf
import Derived.Test.YtdenjanihikolaaGreatDoorRqWrd
import Derived.Laws.IdiomCopy
import Derived.Test.YtdenjanihikolaaGreatDoorRqEncb
namespace Go.Proofs.YtdenjanihikolaaGreatDoor
set_option linter.unusedVariables false
set_option linter.unusedSimpArgs false
set_option maxRecDepth 100000
set_option maxHeartbeats 4000000
open Go.RowKit
theorem info3:(Tryz.prog.info? 3).map (fun i=>(i.zero,i.size,i.bytes))=some (some (.int .i64 0),1,8):=by kernel_rfl
theorem info58:(Tryz.prog.info? 58).map (fun i=>(i.zero,i.size,i.bytes))=some (some (.agg #[.bool false,.slice none 0 0]),2,32):=by kernel_rfl
theorem fromShortsK (l:List Int)(A_l:Option Addr)(c_l:Nat)(w:World)(hr:RdI .i16 w (.slice A_l l.length c_l) l)(hl:l.length<=1000)(hg:∀y∈l,0<=y/\y < 32768):
 Calls Tryz.prog 61 #[.slice A_l l.length c_l] w (GaveR (fun v w=>RdI .i64 w v l) l.length w):=by
 have HR:=zh hr
 clear hr
 go_enter Tryz.func61,Tryz.ntmps61
 go_wp2
 go_loopw [3,8] (fun v i wr=>∃k:Nat,k<=l.length/\i=.int .i64 k/\Hid (Row 3 1 (Lt w.heap.size) w wr v k ((l.take k).map (Value.int .i64)))) (fun _ i _=>l.length - (intOf i).toNat)
 case atStart=>exact⟨0,Nat.zero_le _,rfl,zh (by simpa using Row.start 3 1 w)⟩
 case round=>
  rename_i vv0 _
  obtain⟨k,hk1,rfl,HS⟩:=hrel
  obtain⟨Av,cv,hv⟩:=own_slice HS.out.own
  subst hv
  by_cases hlt:k < l.length
  ·obtain⟨b1,o1,rfl,hcell⟩:=HR.out.at_ hlt
   replace hcell:=HS.out.bel.cell hcell
   rw [getD_at hlt]at hcell
   have hgx:=hg _ (List.getElem_mem hlt)
   obtain⟨x,hx⟩:∃x,x=l[k]:=⟨_,rfl⟩
   rw [<-hx]at hcell hgx
   have HX:=zh hx
   clear hx
   have hwr:IntKind.i64.wrap x=x:=by rw [IntKind.wrap_i64];omega
   go_wp2_with (at_builtin;refine ap_built rfl (.tmp 12) (.tmp 15) 23 3 1 8 _ _ _ rfl Tryz.underlying23 info3 rfl (by decide) rfl rfl HS.out rfl rfl (List.all_eq_true.1 rfl) (by omega) (by decide) ?_;intro v2 w2 hn;obtain⟨A2,c2,hv2⟩:=own_slice hn.own;subst hv2;have HN:=zh hn;clear hn)
   go_roundw
   case rel=>
    refine⟨k+1,by omega,by go_num,zh ?_⟩
    rw [List.take_succ_eq_append_getElem hlt,<-HX.out,List.map_append]
    exact HN.out
   case measure=>simp only [intOf];omega
  ·obtain rfl:k=l.length:=by omega
   go_wp2
   go_ret
   have h1:=HS.out
   rw [List.take_length]at h1
   exact⟨_,_,rfl,h1.bel,h1.keepsI⟩
theorem fromHalvesK (l:List Int)(A_l:Option Addr)(c_l:Nat)(w:World)(hr:RdI .u16 w (.slice A_l l.length c_l) l)(hl:l.length<=1000)(hg:∀y∈l,0<=y/\y < 32768):
 Calls Tryz.prog 63 #[.slice A_l l.length c_l] w (GaveR (fun v w=>RdI .i64 w v l) l.length w):=by
 have HR:=zh hr
 clear hr
 go_enter Tryz.func63,Tryz.ntmps63
 go_wp2
 go_loopw [3,8] (fun v i wr=>∃k:Nat,k<=l.length/\i=.int .i64 k/\Hid (Row 3 1 (Lt w.heap.size) w wr v k ((l.take k).map (Value.int .i64)))) (fun _ i _=>l.length - (intOf i).toNat)
 case atStart=>exact⟨0,Nat.zero_le _,rfl,zh (by simpa using Row.start 3 1 w)⟩
 case round=>
  rename_i vv0 _
  obtain⟨k,hk1,rfl,HS⟩:=hrel
  obtain⟨Av,cv,hv⟩:=own_slice HS.out.own
  subst hv
  by_cases hlt:k < l.length
  ·obtain⟨b1,o1,rfl,hcell⟩:=HR.out.at_ hlt
   replace hcell:=HS.out.bel.cell hcell
   rw [getD_at hlt]at hcell
   have hgx:=hg _ (List.getElem_mem hlt)
   obtain⟨x,hx⟩:∃x,x=l[k]:=⟨_,rfl⟩
   rw [<-hx]at hcell hgx
   have HX:=zh hx
   clear hx
   have hwr:IntKind.i64.wrap x=x:=by rw [IntKind.wrap_i64];omega
   go_wp2_with (at_builtin;refine ap_built rfl (.tmp 12) (.tmp 15) 23 3 1 8 _ _ _ rfl Tryz.underlying23 info3 rfl (by decide) rfl rfl HS.out rfl rfl (List.all_eq_true.1 rfl) (by omega) (by decide) ?_;intro v2 w2 hn;obtain⟨A2,c2,hv2⟩:=own_slice hn.own;subst hv2;have HN:=zh hn;clear hn)
   go_roundw
   case rel=>
    refine⟨k+1,by omega,by go_num,zh ?_⟩
    rw [List.take_succ_eq_append_getElem hlt,<-HX.out,List.map_append]
    exact HN.out
   case measure=>simp only [intOf];omega
  ·obtain rfl:k=l.length:=by omega
   go_wp2
   go_ret
   have h1:=HS.out
   rw [List.take_length]at h1
   exact⟨_,_,rfl,h1.bel,h1.keepsI⟩
def GaveV (x:Bool×List Int) (w:World):Ending->World->Prop:=fun e w'=>∃A c,e=.returned (.agg #[.bool x.1,.slice A x.2.length c])/\Ext w w'/\Keeps w w' (fun w3=>RdB w3 (.slice A x.2.length c) x.2)
theorem RdB.src {w:World} {A:Option Addr} {c:Nat} {d:List Int} {p:Addr} (h:RdB w (.slice A d.length c) d)(hA:A=some p):∀j u,(bys d)[j]?=some u->w.cell? (p.add j)=some u:=by
 intro j u hj
 obtain⟨A',c',hv,h1,h2,h3⟩:=h
 obtain⟨rfl,rfl⟩:A=A'/\c=c':=by simpa using hv
 have hjl:j < d.length:=by
  rcases Nat.lt_or_ge j d.length with h|h
  ·exact h
  ·simp [bys,List.getElem?_eq_none h]at hj
 obtain⟨b1,o1,hA2,hc⟩:=h3 (by omega)
 have hp:p=⟨b1,o1,none⟩:=by rw [hA]at hA2;simpa using hA2
 rw [hp,add_lit0,hc j hjl]
 unfold bys at hj
 rw [List.getElem?_map,List.getElem?_eq_getElem hjl]at hj
 simp at hj
 subst hj
 simp [List.getD,List.getElem?_eq_getElem hjl]
theorem valueOfN (w:World):Calls Tryz.prog 69 #[.slice none 0 0] w (GaveV (true,[]) w):=by
 have hx:=ext_alloc w (.cells #[.bool false,.slice none 0 0] 58)
 have HO:=zh (heap_alloc_new w (.cells #[.bool false,.slice none 0 0] 58))
 have hz0:=zc HO.out 0 (.bool false) rfl
 have hz1:=zc HO.out 1 (.slice none 0 0) rfl
 have hy0:=free_slot HO.out 0
 have hy1:=free_slot HO.out 1
 have hq:=fun wx=>Lib.run_eql_slice_nil (P:=Tryz.prog) wx 26 5 none 0 0 0 0 Tryz.underlying26
 go_enter Tryz.func69,Tryz.ntmps69
 go_wp2
 (try simp only [Exit.inBlock,Exit.then])
 refine bodyPost_ret (by simp [results,Tryz.results69,go_sem,hz0,hz1];try rfl) rfl ?_
 exact⟨none,0,rfl,ext_alloc w _,fun w3 h3=>RdB.nil w3⟩
theorem valueOfK (d:List Int)(p:Addr)(c:Nat)(w:World)(h:RdB w (.slice (some p) d.length c) d)(hl:d.length<=1000000):Calls Tryz.prog 69 #[.slice (some p) d.length c] w (GaveV (false,d) w):=by
 have X1:Hid (Ext w (w.alloc (.cells #[.bool false,.slice none 0 0] 58))):=zh (ext_alloc w _)
 have HO:Hid ((w.alloc (.cells #[.bool false,.slice none 0 0] 58)).heap[w.heap.size]?=some (.cells #[.bool false,.slice none 0 0] 58 (0,0))):=zh (heap_alloc_new w _)
 have hq:=fun wx=>Lib.run_eql_slice_nil (P:=Tryz.prog) wx 26 5 (some p) d.length c 0 0 Tryz.underlying26
 have HF:=zh (Row.fresh 5 (w.alloc (.cells #[.bool false,.slice none 0 0] 58)) 1)
 have HC:=zh ((h.ext (X1.out.trans (ext_alloc (w.alloc (.cells #[.bool false,.slice none 0 0] 58)) (.cells #[] 5)))).src rfl)
 go_enter Tryz.func69,Tryz.ntmps69
 go_wp2_with (at_builtin;refine ap_many (p:=p) (m:=d.length) (c:=c) (ys:=bys d) rfl (.tmp 6) (.tmp 7) 26 5 1 _ rfl Tryz.underlying26 info5 rfl (by first|rfl|(simp;rfl)) (by simpa using HF.out) rfl (by simp [bys]) HC.out (bys_one d) (by omega) (by decide) ?_;intro a1 c1 w2 hn;have HN:Hid (Row 5 1 (Lt (w.alloc (.cells #[.bool false,.slice none 0 0] 58)).heap.size) (w.alloc (.cells #[.bool false,.slice none 0 0] 58)) w2 (.slice (some a1) d.length c1) d.length (bys d)):=zh (by simpa using hn);clear hn;have hO2:=(HN.out.bel.block _ (zl HO.out)).trans HO.out;have hz0:=zc hO2 0 (.bool false) rfl;have hz1:=zc hO2 1 (.slice none 0 0) rfl;have hy0:=free_slot hO2 0;have hy1:=free_slot hO2 1;clear hO2)
 have hO3:=(HN.out.bel.block _ (zl HO.out)).trans HO.out
 have hr0:=zc hO3 0 (.bool false) rfl
 have hr1:=zc hO3 1 (.slice none 0 0) rfl
 (try simp only [Exit.inBlock,Exit.then])
 first
  | refine bodyPost_ret (by simp [results,Tryz.results69,go_sem,hr0,hr1];try rfl) rfl ?_
  | refine bodyPost_end (by simp [results,Tryz.results69,go_sem,hr0,hr1];try rfl) rfl ?_
 have hn:=HN.out
 refine⟨some a1,c1,rfl,(X1.out.trans hn.bel).set (Nat.le_refl _) 0 _ |>.set (Nat.le_refl _) 1 _,fun w3 h3=>?_⟩
 have hw1:w.heap.size < (w.alloc (.cells #[.bool false,.slice none 0 0] 58)).heap.size:=zl HO.out
 refine RdB.of_own (own_stay (w:=(w.alloc (.cells #[.bool false,.slice none 0 0] 58))) (w':=w2) hn.own hn.off fun k hk hk2=>?_)
 rw [h3 k (by omega) (by simpa [World.setCell]using hk2),heap_setCell_other _ _ _ _ (by simp only [ne_eq];omega),heap_setCell_other _ _ _ _ (by simp only [ne_eq];omega)]
open Go.RowKit Og
theorem info249:(Tryz.prog.info? 249).map (fun i=>(i.zero,i.size,i.bytes))=some (some (.agg #[.slice none 0 0,.int .u32 0,.int .u16 0,.int .u32 0,.int .i16 0,.int .i32 0,.int .i16 0]),7,48):=by kernel_rfl
def toFd (x:Sf):Fd:=⟨sby x.name,x.tab,x.col,x.typ,x.siz,x.mdf,x.fmt⟩
def NmK (w wr:World) (v:Value) (nm:List Int) (u:Value):Prop:=u=.slice (slA u) nm.length (slC u)/\∀w3:World,(∀q,w.heap.size<=q->q < wr.heap.size->v.ownBlock≠some q->w3.heap[q]?=wr.heap[q]?)->RdB w3 (.slice (slA u) nm.length (slC u)) nm
def fdK (w wr:World) (v:Value) (x:Sf) (f:Nat->Value):Prop:=
 NmK w wr v (sby x.name) (f 0)/\f 1=.int .u32 x.tab/\f 2=.int .u16 x.col/\f 3=.int .u32 x.typ/\f 4=.int .i16 x.siz/\f 5=.int .i32 x.mdf/\f 6=.int .i16 x.fmt
def cells7 (x:Sf) (u:Value):Array Value:= #[.slice (slA u) x.name.size (slC u),.int .u32 x.tab,.int .u16 x.col,.int .u32 x.typ,.int .i16 x.siz,.int .i32 x.mdf,.int .i16 x.fmt]
def slB (u:Value):Nat:=match slA u with|some a=>a.block|none=>0
def Ne1 (W:World) (bk q:Nat):Prop:=q < W.heap.size/\q≠bk
structure Cols (bk:Nat) (W wr:World) (v:Value) (l:List Sf) (xs:List Value):Prop where
 blk:wr.heap[bk]?=some (.cells #[v] 236 (0,0))
 row:Row 249 7 (Ne1 W bk) W wr v l.length xs
 off:∀g,v.ownBlock=some g->g≠bk
 lt:bk < W.heap.size
 els:Rws 7 (fdK W wr v) l xs
theorem Cols.start {bk:Nat} {W:World} (h:W.heap[bk]?=some (.cells #[.slice none 0 0] 236 (0,0))):Cols bk W W (.slice none 0 0) [] []:=
 ⟨h,(Row.start 249 7 W).rebase (fun k hk=>hk.1) (nofun),(nofun),zl h,Rws.nil _ _⟩
theorem Cols.size {bk:Nat} {W wr:World} {v:Value} {l:List Sf} {xs:List Value} (h:Cols bk W wr v l xs):W.heap.size<=wr.heap.size:=by
 have h1:=h.lt
 have h2:=zl h.blk
 rcases Nat.lt_or_ge (W.heap.size - 1) wr.heap.size with h3|h3
 ·omega
 ·by_cases e:W.heap.size - 1=bk
  ·omega
  ·have:=h.row.lt (W.heap.size - 1) ⟨by omega,e⟩
   omega
theorem Cols.extBut {bk:Nat} {W wr:World} {v:Value} {l:List Sf} {xs:List Value} (h:Cols bk W wr v l xs):ExtBut bk W wr:=
 ⟨h.row.os,h.row.tape,h.row.output,h.size,fun k hk hne=>h.row.kept k ⟨hk,hne⟩⟩
theorem NmK.step {w wr w3:World} {v v2:Value} {nm:List Int} {u:Value} {K:Nat->Prop} {e size m:Nat} {ys:List Value} (h:NmK w wr v nm u)(h2:Row e size K wr w3 v2 m ys)(hK:∀q,w.heap.size<=q->q < wr.heap.size->v.ownBlock≠some q->K q):NmK w w3 v2 nm u:=by
 refine⟨h.1,fun w4 h4=>h.2 w4 fun q h1 h3 h5=>?_⟩
 have hq:=hK q h1 h3 h5
 have h6:=h4 q h1 (h2.lt q hq) fun e=>h2.off q e hq
 exact h6.trans (h2.kept q hq)
theorem NmK.ext {w wr w3:World} {v:Value} {nm:List Int} {u:Value} (h:NmK w wr v nm u)(hx:Ext wr w3):NmK w w3 v nm u:=
 ⟨h.1,fun w4 h4=>h.2 w4 fun q h1 h3 h5=>(h4 q h1 (Nat.lt_of_lt_of_le h3 hx.size) h5).trans (hx.block q h3)⟩
def K0 (W0:World) (v:Value) (bk q:Nat):Prop:=But W0 v q/\q≠bk
structure ColJ (bk:Nat) (W0:World) (v:Value) (n:Nat) (xs:List Value) (x:Sf) (L:Nat->Bool) (vs:Nat->Value) (w:World):Prop where
 A:L 26=false->Ext W0 w
 B:L 7=true->L 26=false->NmK W0 w v (sby x.name) (vs 7)
 C:L 24=true->vs 24=.agg (cells7 x (vs 7))
 D:L 25=true->L 26=false->vs 25=.slice (some ⟨slB (vs 25),0,none⟩) 1 1/\w.heap[slB (vs 25)]?=some (.cells (cells7 x (vs 7)) 249 (0,0))
 E:L 26=true->Row 249 7 (K0 W0 v bk) W0 w (vs 26) (n+1) (xs++(cells7 x (vs 7)).toList)/\NmK W0 w (vs 26) (sby x.name) (vs 7)/\∀g,(vs 26).ownBlock=some g->g≠bk
 F:L 29=false->w.heap[bk]?=W0.heap[bk]?
 G:L 29=true->w.heap[bk]?=some (.cells #[vs 26] 236 (0,0))
 M1:L 26=true->L 25=true
 M2:L 25=true->L 24=true
 M3:L 24=true->L 7=true
 M4:L 29=true->L 26=true
theorem ColJ.start (bk:Nat)(W0:World)(v:Value)(n:Nat)(xs:List Value)(x:Sf)(vs:Nat->Value):ColJ bk W0 v n xs x (fun _=>false) vs W0.drew:=
 ⟨fun _=>(Ext.refl W0).drew,(nofun),(nofun),(nofun),(nofun),fun _=>rfl,(nofun),(nofun),(nofun),(nofun),(nofun)⟩
theorem ColJ.keep {bk:Nat} {W0 w:World} {v:Value} {n:Nat} {xs:List Value} {x:Sf} {L:Nat->Bool} {vs:Nat->Value} (h:ColJ bk W0 v n xs x L vs w)(i:Nat)(u:Value)(h7:7≠i)(h24:24≠i)(h25:25≠i)(h26:26≠i)(h29:29≠i):ColJ bk W0 v n xs x (updB L i) (upd vs i u) w:=by
 obtain⟨A,B,C,D,E,F,G,M1,M2,M3,M4⟩:=h
 constructor <;> simp only [updB,upd,h7,h24,h25,h26,h29,if_false,beq_eq_false_iff_ne.2,Bool.or_false,ne_eq,not_false_eq_true] <;> assumption
theorem ColJ.box {bk:Nat} {W0 w:World} {v:Value} {n:Nat} {xs:List Value} {x:Sf} {L:Nat->Bool} {vs:Nat->Value} (h:ColJ bk W0 v n xs x L vs w) {q:Nat} (hq:But W0 v q)(hne:q≠bk):w.heap[q]?=W0.heap[q]?:=by
 cases e:L 26 with
 | false=>exact(h.A e).block q hq.1
 | true=>exact(h.E e).1.kept q ⟨hq,hne⟩
theorem ColJ.L26 {bk:Nat} {W0 w:World} {v:Value} {n:Nat} {xs:List Value} {x:Sf} {L:Nat->Bool} {vs:Nat->Value} (h:ColJ bk W0 v n xs x L vs w)(e:L 24=false):L 26=false:=by
 cases e2:L 26 with
 | false=>rfl
 | true=>rw [h.M2 (h.M1 e2)]at e;cases e
theorem ColJ.L25 {bk:Nat} {W0 w:World} {v:Value} {n:Nat} {xs:List Value} {x:Sf} {L:Nat->Bool} {vs:Nat->Value} (h:ColJ bk W0 v n xs x L vs w)(e:L 25=false):L 26=false:=by
 cases e2:L 26 with
 | false=>rfl
 | true=>rw [h.M1 e2]at e;cases e
theorem ColJ.L29 {bk:Nat} {W0 w:World} {v:Value} {n:Nat} {xs:List Value} {x:Sf} {L:Nat->Bool} {vs:Nat->Value} (h:ColJ bk W0 v n xs x L vs w)(e:L 26=false):L 29=false:=by
 cases e2:L 29 with
 | false=>rfl
 | true=>rw [h.M4 e2]at e;cases e
theorem ColJ.step7 {bk:Nat} {W0 w w2:World} {v:Value} {n:Nat} {xs:List Value} {x:Sf} {L:Nat->Bool} {vs:Nat->Value} (h:ColJ bk W0 v n xs x L vs w)(e24:L 24=false)(hx:Ext w w2)(u:Value)(hbk:bk < W0.heap.size)(hu:Keeps w w2 (fun w3=>RdB w3 u (sby x.name)))(hs:u=.slice (slA u) (sby x.name).length (slC u))(hv:∀g,v.ownBlock=some g->g < W0.heap.size):ColJ bk W0 v n xs x (updB L 7) (upd vs 7 u) w2:=by
 have e26:=h.L26 e24
 have e29:=h.L29 e26
 have e25:L 25=false:=by
  cases e2:L 25 with
  | false=>rfl
  | true=>rw [h.M2 e2]at e24;cases e24
 have hX:=h.A e26
 constructor <;> simp only [updB,upd,e24,e25,e26,e29,Nat.reduceEqDiff,if_false,if_true,Nat.reduceBEq,Bool.or_false,Bool.or_true,Bool.false_eq_true,false_implies,true_implies]
 ·exact hX.trans hx
 ·refine⟨hs,fun w3 h3=>?_⟩
  rw [<-hs]
  refine hu w3 fun q h1 h2=>h3 q (Nat.le_trans hX.size h1) h2 fun e=>?_
  have:=hv q e
  have:=hX.size
  omega
 ·exact(hx.block bk (Nat.lt_of_lt_of_le hbk hX.size)).trans (h.F e29)
theorem ColJ.step24 {bk:Nat} {W0 w:World} {v:Value} {n:Nat} {xs:List Value} {x:Sf} {L:Nat->Bool} {vs:Nat->Value} (h:ColJ bk W0 v n xs x L vs w)(e7:L 7=true)(e25:L 25=false)(u:Value)(hu:u=.agg (cells7 x (vs 7))):ColJ bk W0 v n xs x (updB L 24) (upd vs 24 u) w:=by
 have e26:=h.L25 e25
 have e29:=h.L29 e26
 obtain⟨A,B,C,D,E,F,G,M1,M2,M3,M4⟩:=h
 constructor <;> simp only [updB,upd,e7,e25,e26,e29,Nat.reduceEqDiff,if_false,if_true,Nat.reduceBEq,Bool.or_false,Bool.or_true,Bool.false_eq_true,false_implies,true_implies]
 ·exact A e26
 ·exact B e7 e26
 ·exact hu
 ·exact F e29
theorem ColJ.step25 {bk:Nat} {W0 w:World} {v:Value} {n:Nat} {xs:List Value} {x:Sf} {L:Nat->Bool} {vs:Nat->Value} (h:ColJ bk W0 v n xs x L vs w)(e24:L 24=true)(e26:L 26=false)(hbk:bk < W0.heap.size):ColJ bk W0 v n xs x (updB L 25) (upd vs 25 (.slice (some ⟨w.heap.size,0,none⟩) 1 1)) (w.alloc (.cells (cells7 x (vs 7)) 249)):=by
 have e29:=h.L29 e26
 have e7:=h.M3 e24
 obtain⟨A,B,C,D,E,F,G,M1,M2,M3,M4⟩:=h
 constructor <;> simp only [updB,upd,e7,e24,e26,e29,Nat.reduceEqDiff,if_false,if_true,Nat.reduceBEq,Bool.or_false,Bool.or_true,Bool.false_eq_true,false_implies,true_implies]
 ·exact(A e26).alloc _
 ·exact(B e7 e26).ext (ext_alloc _ _)
 ·exact C e24
 ·exact⟨rfl,heap_alloc_new _ _⟩
 ·exact((ext_alloc w _).block bk (Nat.lt_of_lt_of_le hbk (A e26).size)).trans (F e29)
theorem ColJ.step26 {bk:Nat} {W0 w w2:World} {v v2:Value} {n:Nat} {xs:List Value} {x:Sf} {L:Nat->Bool} {vs:Nat->Value} (h:ColJ bk W0 v n xs x L vs w)(e25:L 25=true)(e26:L 26=false)(hbk:bk < W0.heap.size)(hoff:v.ownBlock≠some bk)(hv:∀g,v.ownBlock=some g->g < W0.heap.size)
 (hr:Row 249 7 (But w v) w w2 v2 (n+1) (xs++(cells7 x (vs 7)).toList)):ColJ bk W0 v n xs x (updB L 26) (upd vs 26 v2) w2:=by
 have e29:=h.L29 e26
 have e24:=h.M2 e25
 have e7:=h.M3 e24
 obtain⟨A,B,C,D,E,F,G,M1,M2,M3,M4⟩:=h
 have hX:=A e26
 have hb:But w v bk:=⟨Nat.lt_of_lt_of_le hbk hX.size,hoff⟩
 have hk:∀q,But W0 v q->But w v q:=fun q hq=>⟨Nat.lt_of_lt_of_le hq.1 hX.size,hq.2⟩
 constructor <;> simp only [updB,upd,e7,e24,e25,e29,Nat.reduceEqDiff,if_false,if_true,Nat.reduceBEq,Bool.or_false,Bool.or_true,Bool.false_eq_true,false_implies,true_implies,Bool.true_eq_false]
 ·exact C e24
 ·refine⟨⟨hr.own,fun g hg hK=>hr.off g hg (hk g hK.1),fun q hq=>(hr.kept q (hk q hq.1)).trans (hX.block q hq.1.1),fun q hq=>hr.lt q (hk q hq.1),hr.os.trans hX.os,hr.tape.trans hX.tape,hr.output.trans hX.output⟩,?_,?_⟩
  ·exact(B e7 e26).step hr fun q h1 h2 h3=>⟨h2,h3⟩
  ·intro g hg e
   exact hr.off g hg (e▸hb)
 ·exact(hr.kept bk hb).trans (F e29)
theorem ColJ.step29 {bk:Nat} {W0 w:World} {v z:Value} {n:Nat} {xs:List Value} {x:Sf} {L:Nat->Bool} {vs:Nat->Value} (h:ColJ bk W0 v n xs x L vs w)(e26:L 26=true)(hbk:w.heap[bk]?=some (.cells #[z] 236 (0,0)))(hW:bk < W0.heap.size)(u:Value):ColJ bk W0 v n xs x (updB L 29) (upd vs 29 u) (w.setCell ⟨bk,0,none⟩ (vs 26)):=by
 have e25:=h.M1 e26
 have e24:=h.M2 e25
 have e7:=h.M3 e24
 obtain⟨A,B,C,D,E,F,G,M1,M2,M3,M4⟩:=h
 obtain⟨hr,hn,ho⟩:=E e26
 have hsz:(w.setCell ⟨bk,0,none⟩ (vs 26)).heap.size=w.heap.size:=by simp [World.setCell]
 have hoth:∀k,k≠bk->(w.setCell ⟨bk,0,none⟩ (vs 26)).heap[k]?=w.heap[k]?:=fun k hk=>heap_setCell_other w ⟨bk,0,none⟩ k _ hk
 constructor <;> simp only [updB,upd,e7,e24,e25,e26,Nat.reduceEqDiff,if_false,if_true,Nat.reduceBEq,Bool.or_false,Bool.or_true,Bool.false_eq_true,false_implies,true_implies,Bool.true_eq_false]
 ·exact C e24
 ·refine⟨⟨?_,hr.off,fun k hk=>(hoth k hk.2).trans (hr.kept k hk),fun k hk=>by rw [hsz];exact hr.lt k hk,hr.os,hr.tape,hr.output⟩,⟨hn.1,fun w3 h3=>hn.2 w3 fun q h1 h2 h4=>?_⟩,ho⟩
  ·exact ownsRow_setCell_other hr.own (fun e=>ho bk e rfl) _
  ·refine(h3 q h1 (by rw [hsz];exact h2) h4).trans (hoth q ?_)
   omega
 ·exact slot_setCell hbk
theorem fdK.step {w wr w2:World} {v v2:Value} {x:Sf} {f:Nat->Value} (h:fdK w wr v x f)(hq:∀q,w.heap.size<=q->q < wr.heap.size->v.ownBlock≠some q->q < w2.heap.size/\v2.ownBlock≠some q/\w2.heap[q]?=wr.heap[q]?):fdK w w2 v2 x f:=
 ⟨⟨h.1.1,fun w3 h3=>h.1.2 w3 fun q h1 h2 h4=>(h3 q h1 (hq q h1 h2 h4).1 (hq q h1 h2 h4).2.1).trans (hq q h1 h2 h4).2.2⟩,h.2⟩
theorem Cols.round {bk:Nat} {W wr w:World} {v v2:Value} {l:List Sf} {xs:List Value} {x:Sf} {L:Nat->Bool} {vs:Nat->Value} {o:Obj} (h:Cols bk W wr v l xs)(hJ:ColJ bk (wr.alloc o) v l.length xs x L vs w)(e26:L 26=true)(e29:L 29=true)(h2:vs 26=v2):Cols bk W w v2 (l++ [x]) (xs++(cells7 x (vs 7)).toList):=by
 subst h2
 obtain⟨hr,hn,ho⟩:=hJ.E e26
 have hs:=h.size
 have hA:=ext_alloc wr o
 have hk:∀q,q < wr.heap.size->q≠bk->v.ownBlock≠some q->K0 (wr.alloc o) v bk q:=fun q h1 h2 h3=>⟨⟨Nat.lt_of_lt_of_le h1 hA.size,h3⟩,h2⟩
 have hn1:∀q,Ne1 W bk q->K0 (wr.alloc o) v bk q:=fun q hq=>hk q (Nat.lt_of_lt_of_le hq.1 hs) hq.2 fun e=>h.row.off q e hq
 refine⟨hJ.G e29,⟨?_,fun g hg hK=>hr.off g hg (hn1 g hK),fun q hq=>(hr.kept q (hn1 q hq)).trans ((hA.block q (Nat.lt_of_lt_of_le hq.1 hs)).trans (h.row.kept q hq)),fun q hq=>hr.lt q (hn1 q hq),hr.os.trans (hA.os.trans h.row.os),hr.tape.trans (hA.tape.trans h.row.tape),hr.output.trans (hA.output.trans h.row.output)⟩,ho,h.lt,?_⟩
 ·rw [List.length_append];exact hr.own
 ·have hold:Rws 7 (fdK W w (vs 26)) l xs:=by
   refine⟨h.els.1,fun j hj=>?_⟩
   obtain⟨f,hf,hR⟩:=h.els.2 j hj
   refine⟨f,hf,hR.step fun q h1 h2 h3=>?_⟩
   have hq:=hk q h2 (fun e=>by have:=h.lt;omega) h3
   exact⟨hr.lt q hq,fun e=>hr.off q e hq,(hr.kept q hq).trans (hA.block q h2)⟩
  refine hold.snoc (f:=fun k=>(cells7 x (vs 7)).toList.getD k undef) rfl (fun k hk=>?_) ?_
  ·match k,hk with
   | 0,_=>rfl
   | 1,_=>rfl
   | 2,_=>rfl
   | 3,_=>rfl
   | 4,_=>rfl
   | 5,_=>rfl
   | 6,_=>rfl
  ·refine⟨?_,rfl,rfl,rfl,rfl,rfl,rfl⟩
   have hs0:(sby x.name).length=x.name.size:=sby_length _
   refine⟨by show Value.slice _ _ _=Value.slice _ _ _;rw [hs0];rfl,fun w3 h3=>hn.2 w3 fun q h1 h4 h5=>h3 q (Nat.le_trans hs (Nat.le_trans hA.size h1)) h4 h5⟩
theorem Cols.rd {bk:Nat} {W w:World} {v:Value} {l:List Sf} {xs:List Value} (h:Cols bk W w v l xs):RdM 7 isFd w v (l.map toFd):=by
 have h1:w.ownsRow 0 249 7 v (l.map toFd).length xs:=by rw [List.length_map];exact h.row.own
 refine rdm_of h1 ⟨by rw [List.length_map];exact h.els.1,fun j hj=>?_⟩
 have hj':j < l.length:=by simpa using hj
 obtain⟨f,hf,hR⟩:=h.els.2 j hj'
 refine⟨f,hf,?_⟩
 rw [List.getElem_map]
 exact⟨⟨_,_,hR.1.1,hR.1.2 w fun _ _ _ _=>rfl⟩,hR.2⟩
theorem copy4 (w:World)(bk b1 o1 c9:Nat)(d0 d1 d2 d3:Int)(z:Array Value)(hz:z.size=4)(hB:w.heap[bk]?=some (.cells z 188 (0,0)))(h0:w.cell? ⟨b1,o1,none⟩=some (.int .u8 d0))(h1:w.cell? ⟨b1,o1+1,none⟩=some (.int .u8 d1))(h2:w.cell? ⟨b1,o1+2,none⟩=some (.int .u8 d2))(h3:w.cell? ⟨b1,o1+3,none⟩=some (.int .u8 d3)):
 (Builtin.copy_ #[26,26] 3 #[.slice (some ⟨bk,0,none⟩) 4 4,.slice (some ⟨b1,o1,none⟩) 4 c9]).run Tryz.prog w=.ok (.int .i64 4) ((((w.setCell ⟨bk,0,none⟩ (.int .u8 d0)).setCell ⟨bk,1,none⟩ (.int .u8 d1)).setCell ⟨bk,2,none⟩ (.int .u8 d2)).setCell ⟨bk,3,none⟩ (.int .u8 d3)):=by
 have hc:∀j,j < 4->(w.cell? ⟨bk,0+j,none⟩).isSome=true:=by
  intro j hj
  rw [cell_of_row _ _ _ _ _ _ hB]
  simp;omega
 have:=run_copy_cells (P:=Tryz.prog) w 26 26 3 5 bk 0 4 4 ⟨b1,o1,none⟩ 4 c9 [.int .u8 d0,.int .u8 d1,.int .u8 d2,.int .u8 d3] Tryz.underlying26 (by kernel_rfl) rfl (by
  intro j v hj
  rw [add_lit0]
  match j,hj with
  | 0,hj=>simp at hj;subst hj;exact h0
  | 1,hj=>simp at hj;subst hj;exact h1
  | 2,hj=>simp at hj;subst hj;exact h2
  | 3,hj=>simp at hj;subst hj;exact h3
  | j+4,hj=>simp at hj) hc (fun j hj=>free_slot hB _) (by intro v hv;simp at hv;rcases hv with rfl|rfl|rfl|rfl <;> rfl)
 rw [this]
 simp [World.setCells,goInt]
def CpJ (bk:Nat) (W2:World) (d0 d1 d2 d3:Int) (L:Nat->Bool) (vs:Nat->Value) (x:World):Prop:=
 ExtBut bk W2 x/\(L 6=false->Ext W2 x)/\(L 6=true->x.heap[bk]?=some (.cells #[.int .u8 d0,.int .u8 d1,.int .u8 d2,.int .u8 d3] 188 (0,0)))
theorem CpJ.keep {bk:Nat} {W2:World} {d0 d1 d2 d3:Int} {L:Nat->Bool} {vs:Nat->Value} {x:World} (h:CpJ bk W2 d0 d1 d2 d3 L vs x)(i:Nat)(u:Value)(h6:6≠i):CpJ bk W2 d0 d1 d2 d3 (updB L i) (upd vs i u) x:=by
 unfold CpJ at *
 simpa [updB,h6]using h
theorem CpJ.start (bk:Nat)(W2:World)(d0 d1 d2 d3:Int):CpJ bk W2 d0 d1 d2 d3 (fun _=>false) (fun _=>undef) W2.drew:=
 ⟨(Ext.refl W2).drew.but,fun _=>(Ext.refl W2).drew,fun h=>by cases h⟩
theorem CpJ.cell {bk:Nat} {W2:World} {d0 d1 d2 d3:Int} {L:Nat->Bool} {vs:Nat->Value} {x:World} (h:CpJ bk W2 d0 d1 d2 d3 L vs x) {g j:Nat} {v:Value} (hc:W2.cell? ⟨g,j,none⟩=some v/\g≠bk):x.cell? ⟨g,j,none⟩=some v:=
 (cell_of_heap (h.1.block g (lt_of_cell hc.1) hc.2) j).trans hc.1
theorem ans32 (a b:ByteArray)(n:Int)(v4 v5 v6 v7 v8 v10 v11 v12:Value)(d0 d1 d2 d3:Int)(A9:Option Addr)(c9:Nat)(w wa:World)(bk:Nat)(HD:Hid (RdB w (.slice A9 4 c9) [d0,d1,d2,d3]))(hx:Ext w wa)(hbk:w.heap.size<=bk)(hblk:wa.heap[bk]?=some (.cells #[.int .u8 0,.int .u8 0,.int .u8 0,.int .u8 0] 188 (0,0)))(R:List Int)(HR:Hid (R=msgB 82 (b32 5++ [d0,d1,d2,d3]))):
 Calls Tryz.prog 60 #[.iface 185 (.pointer (some ⟨bk,0,none⟩)),.agg #[.int .i64 32,.string a,.string b,.int .u32 n,v4,v5,v6,v7,v8,.slice A9 4 c9,v10,v11,v12],.bool true] wa (Ans 185 260 bk w R):=by
 obtain⟨A',c',hv,_,_,h3⟩:=HD.out
 obtain⟨rfl,rfl⟩:A9=A'/\c9=c':=by simpa using hv
 obtain⟨b1,o1,rfl,hc⟩:=h3 (by simp)
 have hd0:=hc 0 (by simp)
 have hd1:=hc 1 (by simp)
 have hd2:=hc 2 (by simp)
 have hd3:=hc 3 (by simp)
 simp only [List.getD_cons_zero,List.getD_cons_succ,Nat.add_zero]at hd0 hd1 hd2 hd3
 have y185:=yes185
 obtain⟨W2,hW2⟩:∃W2,W2=wa.alloc (.cells #[.int .i64 32,.string a,.string b,.int .u32 n,v4,v5,v6,v7,v8,.slice (some ⟨b1,o1,none⟩) 4 c9,v10,v11,v12] 31):=⟨_,rfl⟩
 have X1:Hid (Ext wa W2):=zh (by rw [hW2];exact ext_alloc wa _)
 have XW:Hid (Ext w W2):=zh (hx.trans X1.out)
 have HD0:=zh (XW.out.cell hd0)
 have HD1:=zh (XW.out.cell hd1)
 have HD2:=zh (XW.out.cell hd2)
 have HD3:=zh (XW.out.cell hd3)
 have HB:Hid (W2.heap[bk]?=some (.cells #[.int .u8 0,.int .u8 0,.int .u8 0,.int .u8 0] 188 (0,0))):=zh ((X1.out.block _ (zl hblk)).trans hblk)
 have HO:Hid (W2.heap[wa.heap.size]?=some (.cells #[.int .i64 32,.string a,.string b,.int .u32 n,v4,v5,v6,v7,v8,.slice (some ⟨b1,o1,none⟩) 4 c9,v10,v11,v12] 31 (0,0))):=zh (by rw [hW2];exact heap_alloc_new _ _)
 have HBK:=zh hbk
 have hb3:=zc HO.out 3 (.int .u32 n) rfl
 have HX9:=zh (And.intro (zc HO.out 9 (.slice (some ⟨b1,o1,none⟩) 4 c9) rfl) (show wa.heap.size≠bk by have:=zl hblk;omega))
 clear hx hbk hblk hc h3 hd0 hd1 hd2 hd3 hv
 go_enter Tryz.func60,Tryz.ntmps60
 go_wp2_with (first|(go_at_call 54;rw [<-hW2];clear hW2;refine(let54 n _).mono ?_;rintro e w54 ⟨rfl,hw54⟩;rw [hw54];clear hw54))
 refine wp_region_ogL (J:=CpJ bk W2 d0 d1 d2 d3) (R:=fun _ _=>True) [Sp.eq _ (.pointer (some ⟨bk,0,none⟩)),Sp.eq _ (.pointer (some ⟨bk,0,none⟩)),Sp.eq _ (.pointer (some ⟨bk,0,none⟩)),Sp.eq _ (.slice (some ⟨bk,0,none⟩) 4 4),Sp.eq _ (.pointer (some ⟨wa.heap.size,9,none⟩)),Sp.eq _ (.slice (some ⟨b1,o1,none⟩) 4 c9),Sp.eq _ (.int .i64 4),Sp.eq _ (.bool true),Sp.eq _ (.bool true),Sp.eq _ (.pointer (some ⟨wa.heap.size,9,none⟩)),Sp.eq _ (.slice (some ⟨b1,o1,none⟩) 4 c9),Sp.eq _ (.int .i64 4),Sp.eq _ (.bool true),Sp.eq _ (.bool true),Sp.eq _ (.bool true)] (by kernel_rfl) (by kernel_rfl) ?_ ?_ ?_
 ·exact CpJ.start bk W2 d0 d1 d2 d3
 ·refine⟨zu,zu,zu,zu,zu,?_,?_,zu,zu,zu,?_,zu,zu,zu,zu,trivial⟩
  ·intro vs w1 L hLi hd hdt hJ hp
   have q4:vs 4=_:=zd hp 4
   have HJ:=zh hJ
   have hq:=hJ.cell HX9.out
   clear hp hd hdt hLi hJ
   simp only [putAll,Nat.reduceAdd]
   go_wp2
   exact⟨rfl,HJ.out.keep 5 _ (by decide),trivial,rfl⟩
  ·intro vs w1 L hLi hd hdt hJ hp
   have q3:vs 3=_:=zd hp 3
   have q5:vs 5=_:=zd hp 5
   have HJ:=zh hJ
   have HX:=zh (hJ.2.1 hLi)
   have hB:=(HX.out.block _ (zl HB.out)).trans HB.out
   have hz0:=zc hB 0 (.int .u8 0) rfl
   have hz1:=zc hB 1 (.int .u8 0) rfl
   have hz2:=zc hB 2 (.int .u8 0) rfl
   have hz3:=zc hB 3 (.int .u8 0) rfl
   have hy0:=free_slot hB 0
   have hy1:=free_slot hB 1
   have hy2:=free_slot hB 2
   have hy3:=free_slot hB 3
   have hd0:=HX.out.cell HD0.out
   have hd1:=HX.out.cell HD1.out
   have hd2:=HX.out.cell HD2.out
   have hd3:=HX.out.cell HD3.out
   have hcp:=copy4 w1 bk b1 o1 c9 d0 d1 d2 d3 _ rfl hB hd0 hd1 hd2 hd3
   have HBB:=zh hB
   clear hB hd0 hd1 hd2 hd3
   clear hp hd hdt hLi hJ
   simp only [putAll,Nat.reduceAdd]
   go_wp2
   refine⟨rfl,⟨?_,?_,?_⟩,trivial,rfl⟩
   ·exact(((HX.out.but.set 0 _).set 1 _).set 2 _).set 3 _
   ·intro h;exact absurd h (by simp [updB])
   ·intro _;exact slot_setCell (slot_setCell (slot_setCell (slot_setCell HBB.out)))
  ·intro vs w1 L hLi hd hdt hJ hp
   have q8:vs 8=_:=zd hp 8
   have q9:vs 9=_:=zd hp 9
   have HJ:=zh hJ
   have hq:=hJ.cell HX9.out
   clear hp hd hdt hLi hJ
   simp only [putAll,Nat.reduceAdd]
   go_wp2
   exact⟨rfl,HJ.out.keep 10 _ (by decide),trivial,rfl⟩
 ·intro vs w1 L hall hJ hp
  have q0:vs 0=_:=zd hp 0
  have q1:vs 1=_:=zd hp 1
  have q2:vs 2=_:=zd hp 2
  have q3:vs 3=_:=zd hp 3
  have q4:vs 4=_:=zd hp 4
  have q5:vs 5=_:=zd hp 5
  have q6:vs 6=_:=zd hp 6
  have q7:vs 7=_:=zd hp 7
  have q8:vs 8=_:=zd hp 8
  have q9:vs 9=_:=zd hp 9
  have q10:vs 10=_:=zd hp 10
  have q11:vs 11=_:=zd hp 11
  have q12:vs 12=_:=zd hp 12
  have q13:vs 13=_:=zd hp 13
  have q14:vs 14=_:=zd hp 14
  have h6:=zd hall 6
  have HJ:=zh (And.intro hJ.1 (hJ.2.2 h6))
  clear hJ hp hall h6
  simp only [putAll,Nat.reduceAdd]
  simp only [Exit.inBlock,Exit.then]
  try go_at_K
  simp only [Act.put,q0,q1,q2,q3,q4,q5,q6,q7,q8,q9,q10,q11,q12,q13,q14,List.setIfInBounds_toArray,List.set_cons_zero,List.set_cons_succ]
  clear q0 q1 q2 q3 q4 q5 q6 q7 q8 q9 q10 q11 q12 q13 q14
  go_wp2
  go_ret2
  refine⟨rfl,HJ.out.1.ext XW.out HBK.out,?_⟩
  exact encAuthMD5 _ d0 d1 d2 d3 _ (zc HJ.out.2 0 _ rfl) (zc HJ.out.2 1 _ rfl) (zc HJ.out.2 2 _ rfl) (zc HJ.out.2 3 _ rfl) R HR
end Go.Proofs.YtdenjanihikolaaGreatDoor
