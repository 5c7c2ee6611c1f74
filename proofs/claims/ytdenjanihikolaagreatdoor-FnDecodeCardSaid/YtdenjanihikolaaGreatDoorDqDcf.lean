/- A map of pairs: plain laws. -/
import Derived.Test.YtdenjanihikolaaGreatDoorDqA0
import Derived.Test.YtdenjanihikolaaGreatDoorDqBdk
import Derived.Lib.BytesEntry
import Derived.WalkKit
import Derived.Test.YtdenjanihikolaaGreatDoorDqTa
import Derived.Maps.RangeWalk
import Derived.Maps.StringElems
import Derived.Sort.KeysCollected
import Derived.Sort.OwnSorted
import Derived.Test.YtdenjanihikolaaGreatDoorDqBase
import Derived.Sort.Walk0
import Derived.Lib.Strings
namespace Go.Proofs.YtdenjanihikolaaGreatDoor
set_option linter.unusedVariables false
set_option linter.unusedSimpArgs false
set_option maxRecDepth 100000
open Go.RowKit Og
/-- A row made since w1, not the Buffer. -/
structure Own (bb:Nat) (w1 w:World) (e size:Nat) (v:Value) (n:Nat) (xs:List Value):Prop where
 own:w.ownsRow 0 e size v n xs
 off:∀g,v.ownBlock=some g->w1.heap.size<=g/\g≠bb
theorem Own.row {bb:Nat} {w1 w:World} {e size:Nat} {v:Value} {n:Nat} {xs:List Value} (h:Own bb w1 w e size v n xs):Row e size (But w v) w w v n xs:=
 ⟨h.own,fun g hg hk=>hk.2 hg,fun _ _=>rfl,fun k hk=>hk.1,rfl,rfl,rfl⟩
theorem Own.step {bb:Nat} {w1 w w':World} {e size:Nat} {v v':Value} {n m:Nat} {xs ys:List Value} (h:Own bb w1 w e size v n xs)(hr:Row e size (But w v) w w' v' m ys)(hbb:bb < w.heap.size)(hw:w1.heap.size<=w.heap.size):Own bb w1 w' e size v' m ys:=by
 refine⟨hr.own,fun g hg=>?_⟩
 have h1:=hr.off g hg
 by_cases hlt:g < w.heap.size
 ·by_cases ho:v.ownBlock=some g
  ·exact h.off g ho
  ·exact absurd ⟨hlt,ho⟩ h1
 ·exact⟨by omega,by omega⟩
theorem Own.keep {bb:Nat} {w1 w w':World} {e size:Nat} {v:Value} {n:Nat} {xs:List Value} (h:Own bb w1 w e size v n xs)(hx:∀g,w1.heap.size<=g->g≠bb->g < w.heap.size->w'.heap[g]?=w.heap[g]?):Own bb w1 w' e size v n xs:=
 ⟨own_keep h.own fun g hg=>hx g (h.off g hg).1 (h.off g hg).2 (h.own.lt g hg).2,h.off⟩
theorem Own.ext {bb:Nat} {w1 w w':World} {e size:Nat} {v:Value} {n:Nat} {xs:List Value} (h:Own bb w1 w e size v n xs)(hx:Ext w w'):Own bb w1 w' e size v n xs:=
 h.keep fun g _ _ hg=>hx.block g hg
theorem Cur.row {bk bb:Nat} {w1 w w':World} {R:List Int} {e size:Nat} {v v':Value} {n m:Nat} {xs ys:List Value} (hc:Cur bk w1 bb w R)(ho:Own bb w1 w e size v n xs)(hr:Row e size (But w v) w w' v' m ys):Cur bk w1 bb w' R:=by
 obtain⟨A,c,hb,hrd⟩:=hc.blk
 have hlt:=lt_of_block hb
 have hbb:But w v bb:=⟨hlt,fun e=>(ho.off bb e).2 rfl⟩
 have hs:=hc.lo
 have h2:=hr.lt bb hbb
 refine⟨⟨hr.os.trans hc.bel.os,hr.tape.trans hc.bel.tape,hr.output.trans hc.bel.output,by omega,fun k hk hne=>?_⟩,hc.lo,hc.hi,A,c,(hr.kept bb hbb).trans hb,hrd⟩
 have hk':But w v k:=⟨Nat.lt_of_lt_of_le hk hc.bel.size,fun e=>by have:=(ho.off k e).1;omega⟩
 exact(hr.kept k hk').trans (hc.bel.block k hk hne)
/-- What the region keeps: 6 the bytes taken, 8 the number's block, 9 the row appended, 12 the store. -/
structure PJ (b bb:Nat) (w1 W0:World) (v:Value) (n:Nat) (xs:List Value) (B R:List Int) (x:Int) (s1 s2:Value) (L:Nat->Bool) (vs:Nat->Value) (w:World):Prop where
 A:L 6=false->Ext W0 w
 B1:L 6=true->Cur b w1 bb w R
 B2:L 6=true->vs 6=.slice (slA (vs 6)) 4 (slC (vs 6))/\RdN b w1 (.slice (slA (vs 6)) 4 (slC (vs 6))) B
 C:L 9=false->Own bb w1 w 22 1 v n xs
 D:L 8=true->L 9=false->vs 8=.slice (some ⟨slB (vs 8),0,none⟩) 1 1/\w.heap[slB (vs 8)]?=some (.cells #[.int .u32 x] 22 (0,0))
 E:L 9=true->Own bb w1 w 22 1 (vs 9) (n+1) (xs++ [.int .u32 x])
 F:L 12=false->w.heap[b]?=some (.cells #[s1,s2,v] 137 (0,0))
 G:L 12=true->w.heap[b]?=some (.cells #[s1,s2,vs 9] 137 (0,0))
 M1:L 7=true->L 6=true
 M2:L 8=true->L 7=true
 M3:L 9=true->L 8=true
 M4:L 12=true->L 9=true
variable {b bb : Nat} {w1 W0 w w2 : World} {v : Value} {n : Nat} {xs : List Value} {B R : List Int} {x : Int} {s1 s2 : Value} {L : Nat → Bool} {vs : Nat → Value}
theorem PJ.start (h:Cur b w1 bb W0 (B++R))(ho:Own bb w1 W0 22 1 v n xs)(hb:W0.heap[b]?=some (.cells #[s1,s2,v] 137 (0,0))):PJ b bb w1 W0 v n xs B R x s1 s2 (fun _=>false) vs W0.drew:=
 ⟨fun _=>(Ext.refl W0).drew,nofun,nofun,fun _=>ho.ext (Ext.refl W0).drew,nofun,nofun,fun _=>hb,nofun,nofun,nofun,nofun,nofun⟩
theorem PJ.keep (h:PJ b bb w1 W0 v n xs B R x s1 s2 L vs w)(i:Nat)(u:Value)(h6:6≠i)(h7:7≠i)(h8:8≠i)(h9:9≠i)(h12:12≠i):PJ b bb w1 W0 v n xs B R x s1 s2 (updB L i) (upd vs i u) w:=by
 obtain⟨A,B1,B2,C,D,E,F,G,M1,M2,M3,M4⟩:=h
 constructor <;> simp only [updB,upd,h6,h7,h8,h9,h12,if_false,beq_eq_false_iff_ne.2,Bool.or_false,ne_eq,not_false_eq_true] <;> assumption
theorem PJ.lows (h:PJ b bb w1 W0 v n xs B R x s1 s2 L vs w):(L 6=false->L 7=false)/\(L 7=false->L 8=false)/\(L 8=false->L 9=false)/\(L 9=false->L 12=false):=by
 refine⟨fun e=>?_,fun e=>?_,fun e=>?_,fun e=>?_⟩
 ·cases e2:L 7 with
  | false=>rfl
  | true=>rw [h.M1 e2]at e;cases e
 ·cases e2:L 8 with
  | false=>rfl
  | true=>rw [h.M2 e2]at e;cases e
 ·cases e2:L 9 with
  | false=>rfl
  | true=>rw [h.M3 e2]at e;cases e
 ·cases e2:L 12 with
  | false=>rfl
  | true=>rw [h.M4 e2]at e;cases e
theorem PJ.step6 (h:PJ b bb w1 W0 v n xs B R x s1 s2 L vs w)(e6:L 6=false)(hlt:b < w1.heap.size)(hlo:w1.heap.size<=bb)(A':Option Addr)(c':Nat)(hr:RdN b w1 (.slice A' 4 c') B)(hc:Cur b w1 bb w2 R)(hx:ExtBut bb w w2):PJ b bb w1 W0 v n xs B R x s1 s2 (updB L 6) (upd vs 6 (.slice A' 4 c')) w2:=by
 have e7:=h.lows.1 e6
 have e8:=h.lows.2.1 e7
 have e9:=h.lows.2.2.1 e8
 have e12:=h.lows.2.2.2 e9
 have hF:=h.F e12
 constructor <;> simp only [updB,upd,e7,e8,e9,e12,Nat.reduceEqDiff,if_false,if_true,Nat.reduceBEq,Bool.or_false,Bool.or_true,Bool.false_eq_true,Bool.true_eq_false,false_implies,true_implies]
 ·exact hc
 ·exact⟨rfl,hr⟩
 ·exact(h.C e9).keep fun g _ hne hg=>hx.block g hg hne
 ·exact(hx.block b (lt_of_block hF) (by omega)).trans hF
theorem PJ.step7 (h:PJ b bb w1 W0 v n xs B R x s1 s2 L vs w)(e6:L 6=true)(e8:L 8=false)(hx:Ext w w2)(u:Value):PJ b bb w1 W0 v n xs B R x s1 s2 (updB L 7) (upd vs 7 u) w2:=by
 have e9:=h.lows.2.2.1 e8
 have e12:=h.lows.2.2.2 e9
 have hF:=h.F e12
 have hB:=h.B1 e6
 have hB2:=h.B2 e6
 constructor <;> simp only [updB,upd,e6,e8,e9,e12,Nat.reduceEqDiff,if_false,if_true,Nat.reduceBEq,Bool.or_false,Bool.or_true,Bool.false_eq_true,Bool.true_eq_false,false_implies,true_implies]
 ·exact hB.ext hx
 ·exact hB2
 ·exact(h.C e9).ext hx
 ·exact(hx.block b (lt_of_block hF)).trans hF
theorem PJ.step8 (h:PJ b bb w1 W0 v n xs B R x s1 s2 L vs w)(e7:L 7=true)(e9:L 9=false):PJ b bb w1 W0 v n xs B R x s1 s2 (updB L 8) (upd vs 8 (.slice (some ⟨w.heap.size,0,none⟩) 1 1)) (w.alloc (.cells #[.int .u32 x] 22)):=by
 have e6:=h.M1 e7
 have e12:=h.lows.2.2.2 e9
 have hF:=h.F e12
 have hB:=h.B1 e6
 have hB2:=h.B2 e6
 have hx:=ext_alloc w (.cells #[.int .u32 x] 22)
 constructor <;> simp only [updB,upd,e6,e7,e9,e12,Nat.reduceEqDiff,if_false,if_true,Nat.reduceBEq,Bool.or_false,Bool.or_true,Bool.false_eq_true,Bool.true_eq_false,false_implies,true_implies]
 ·exact hB.ext hx
 ·exact hB2
 ·exact(h.C e9).ext hx
 ·exact⟨rfl,heap_alloc_new _ _⟩
 ·exact(hx.block b (lt_of_block hF)).trans hF
theorem PJ.step9 (h:PJ b bb w1 W0 v n xs B R x s1 s2 L vs w)(e8:L 8=true)(e9:L 9=false)(v2:Value)(hr:Row 22 1 (But w v) w w2 v2 (n+1) (xs++ [.int .u32 x])):PJ b bb w1 W0 v n xs B R x s1 s2 (updB L 9) (upd vs 9 v2) w2:=by
 have e7:=h.M2 e8
 have e6:=h.M1 e7
 have e12:=h.lows.2.2.2 e9
 have hF:=h.F e12
 have hB:=h.B1 e6
 have hB2:=h.B2 e6
 have hC:=h.C e9
 have hbb:bb < w.heap.size:=by
  obtain⟨A,c,hb,_⟩:=hB.blk
  exact lt_of_block hb
 have hbn:But w v b:=⟨lt_of_block hF,fun e=>by have:=(hC.off b e).1;have:=hB.hi;omega⟩
 constructor <;> simp only [updB,upd,e6,e7,e8,e12,Nat.reduceEqDiff,if_false,if_true,Nat.reduceBEq,Bool.or_false,Bool.or_true,Bool.false_eq_true,Bool.true_eq_false,false_implies,true_implies]
 ·exact hB.row hC hr
 ·exact hB2
 ·exact hC.step hr hbb hB.bel.size
 ·exact(hr.kept b hbn).trans hF
theorem PJ.step12 (h:PJ b bb w1 W0 v n xs B R x s1 s2 L vs w)(e9:L 9=true)(e12:L 12=false)(u z:Value)(hz:vs 9=z):PJ b bb w1 W0 v n xs B R x s1 s2 (updB L 12) (upd vs 12 u) (w.setCell ⟨b,2,none⟩ z):=by
 subst hz
 have e8:=h.M3 e9
 have e7:=h.M2 e8
 have e6:=h.M1 e7
 have hF:=h.F e12
 have hB:=h.B1 e6
 have hB2:=h.B2 e6
 have hE:=h.E e9
 have hoth:∀k,k≠b->(w.setCell ⟨b,2,none⟩ (vs 9)).heap[k]?=w.heap[k]?:=fun k hk=>heap_setCell_other w ⟨b,2,none⟩ k _ hk
 constructor <;> simp only [updB,upd,e6,e7,e8,e9,Nat.reduceEqDiff,if_false,if_true,Nat.reduceBEq,Bool.or_false,Bool.or_true,Bool.false_eq_true,Bool.true_eq_false,false_implies,true_implies]
 ·exact hB.but ((Ext.refl w).but.set 2 _)
 ·exact hB2
 ·exact hE.keep fun g hg _ _=>hoth g (by have:=hB.hi;omega)
 ·exact slot_setCell hF
theorem upb {bb b:Nat} {w w':World} {o:Obj} (hx:ExtBut bb w w')(hb:b < bb)(h:w.heap[b]?=some o):w'.heap[b]?=some o:=(hx.block b (lt_of_block h) (Nat.ne_of_lt hb)).trans h
theorem upbe {bb b:Nat} {w w':World} {o:Obj} (hx:Ext w w')(hb:b < bb)(h:w.heap[b]?=some o):w'.heap[b]?=some o:=(hx.block b (lt_of_block h)).trans h
theorem upb1 {bb b j:Nat} {w w':World} {u:Value} {cs:Array Value} {t:TypeId} (hx:ExtBut bb (w.setCell ⟨b,j,none⟩ u) w')(hb:b < bb)(h:w.heap[b]?=some (.cells cs t (0,0))):w'.heap[b]?=some (.cells (cs.setIfInBounds j u) t (0,0)):=upb hx hb (slot_setCell h)
theorem upbe1 {bb b j:Nat} {w w':World} {u:Value} {cs:Array Value} {t:TypeId} (hx:Ext (w.setCell ⟨b,j,none⟩ u) w')(hb:b < bb)(h:w.heap[b]?=some (.cells cs t (0,0))):w'.heap[b]?=some (.cells (cs.setIfInBounds j u) t (0,0)):=upbe hx hb (slot_setCell h)
theorem upbe3 {bb b j1 j2 j3:Nat} {w w':World} {u1 u2 u3:Value} {cs:Array Value} {t:TypeId} (hx:Ext (((w.setCell ⟨b,j1,none⟩ u1).setCell ⟨b,j2,none⟩ u2).setCell ⟨b,j3,none⟩ u3) w')(hb:b < bb)(h:w.heap[b]?=some (.cells cs t (0,0))):w'.heap[b]?=some (.cells (((cs.setIfInBounds j1 u1).setIfInBounds j2 u2).setIfInBounds j3 u3) t (0,0)):=upbe hx hb (slot_setCell (slot_setCell (slot_setCell h)))
theorem cur_newb {bk bb:Nat} {w1 w:World} {v:Value} {xs:List Int} (h:RdN bk w1 v xs)(hb:bk < w1.heap.size)(hx:ExtBut bk w1 w)(hbb:w.heap.size=bb):
 Calls Tryz.prog 165 #[v] w (fun e w'=>e=.returned (.pointer (some ⟨bb,0,none⟩))/\Cur bk w1 bb w' xs/\Ext w w'):=by
 subst hbb
 exact cur_new h hb hx
theorem sl_from (A:Option Addr)(N c p:Nat)(i:Int)(hi:i=(p:Int))(hp:p<=N)(hN:N<=c)(hc:c<=maxLen):∃A' c',(∀w:World,(Instr.slice 26 (.slice A N c) (some (.int .i64 i)) none none).run Tryz.prog w=.ok (.slice A' (N - p) c') w)/\∀(b:Nat) (w:World) (xs:List Int),RdN b w (.slice A N c) xs->RdN b w (.slice A' (N - p) c') (xs.drop p):=by
 subst hi
 have h1:∀w:World,(Instr.slice 26 (.slice A N c) (some (.int .i64 (p:Int))) none none).run Tryz.prog w=.ok (.slice (if c=p then A else A.map (·.add p)) (N - p) (c - p)) w:=by
  intro w
  rw [run_slice_l (P:=Tryz.prog) w 26 A N c Tryz.underlying26 .i64 p (by omega) (by omega)]
  have hs:(sizeOf (Tryz.prog.elem 26)).run Tryz.prog w=.ok 1 w:=by
   obtain⟨i0,hi,hz0,hz1,hz2⟩:=info_parts info5
   simp [sizeOf,typeInfo,show Tryz.prog.elem 26=5 from by kernel_rfl,hi,hz1]
  rw [hs]
  simp [Result.andThen,sliced]
 by_cases e:c=p
 ·refine⟨A,c - p,fun w=>by rw [h1 w,if_pos e],fun b w xs h=>?_⟩
  obtain⟨h2,_,_⟩:=h.1.parts
  exact RdN.none A (N - p) (c - p) _ (List.drop_eq_nil_of_le (by omega)) (by omega) (by omega)
 ·refine⟨A.map (·.add p),c - p,fun w=>by rw [h1 w,if_neg e],fun b w xs h=>h.drop p hp⟩
/-- The world with the row's new array. -/
def mkW (w:World):World:=w.alloc (.cells (madeCells #[.slice none 0 0] 32) 26)
/-- a slice, whatever its parts -/
def slN:Value->Nat
 | .slice _ n _=>n
 | _=>0
theorem byte_ne {y:Int} (h0:0 < y)(h:y < 256):(UInt8.ofNat y.toNat == (0:Int).toNat.toUInt8)=false:=by
 refine beq_eq_false_iff_ne.2 fun e=>?_
 have:=congrArg UInt8.toNat e
 simp [UInt8.toNat_ofNat']at this
 omega
theorem index_found:∀(s r:List Int),(∀y∈s,0 < y/\y < 256)->Lib.indexByte (Lib.bytesOf (s++0 :: r)) (0:Int).toNat.toUInt8=s.length
 | [],r,_=>rfl
 | y :: s,r,h=>by
   have h1:=h y (by simp)
   have h2:=index_found s r fun z hz=>h z (by simp [hz])
   show Lib.indexByte (UInt8.ofNat y.toNat :: Lib.bytesOf (s++0 :: r)) _=_
   unfold Lib.indexByte
   rw [byte_ne h1.1 h1.2,h2]
   have h3:(((s.length:Nat):Int) == -1)=false:=beq_eq_false_iff_ne.2 (by omega)
   rw [h3]
   simp
section
variable {P : Program} (w : World)
theorem run_indexEmpty (a:Addr)(c:Nat)(cv:Int):
 (Extern.BytealgIndexByte.indexByte #[.slice (some a) 0 c,.int .u8 cv]).run P w=.ok (.int .i64 (-1)) w:=by
 have hl:=Lib.run_loadBytesX (P:=P) w [] a .empty (fun j x hj=>by simp at hj)
 have hs:=Lib.run_indexByteString (P:=P) ⟨#[]⟩ cv w
 change Sem.run P (do
  let b <-Extern.Bytes.bytesOf (.slice (some a) 0 c)
  let c <-Extern.Bytes.asByte (.int .u8 cv)
  match (List.range b.size).find? fun i=>b[i]! == c with
  | some i=>pure (goInt i)
  | none=>pure (goInt (-1))) w=_
 change Sem.run P (do
  let b <-Extern.Bytes.bytesOf (.string ⟨#[]⟩)
  let c <-Extern.Bytes.asByte (.int .u8 cv)
  match (List.range b.size).find? fun i=>b[i]! == c with
  | some i=>pure (goInt i)
  | none=>pure (goInt (-1))) w=_ at hs
 have he:(ByteArray.empty++(⟨(Lib.bytesOf []).toArray⟩:ByteArray))=⟨#[]⟩:=rfl
 simp only [List.length_nil]at hl
 simp only [Extern.Bytes.bytesOf,Sem.run_bind,Sem.run_pure,Result.andThen]at hs⊢
 rw [hl]
 exact hs
end
set_option maxHeartbeats 1000000 in
theorem idx136 (A:Option Addr)(n c:Nat)(xs:List Int)(w:World)(h:RdB w (.slice A n c) xs)(z:Int)(hz:Lib.indexByte (Lib.bytesOf xs) (0:Int).toNat.toUInt8=z):
 Calls Tryz.prog 136 #[.slice A n c,.int .u8 0] w (fun e w'=>e=.returned (.int .i64 z)/\w'=w):=by
 have hr:(Extern.BytealgIndexByte.indexByte #[.slice A n c,.int .u8 0]).run Tryz.prog w=.ok (.int .i64 z) w:=by
  obtain⟨rfl,_,_⟩:=h.parts
  obtain⟨A',c',hv,_,_,h3⟩:=h
  obtain⟨rfl,rfl⟩:A=A'/\c=c':=by simpa using hv
  by_cases hn:0 < xs.length
  ·obtain⟨b,o,rfl,hc⟩:=h3 hn
   rw [Lib.run_indexByteSlice w b o xs.length c xs rfl hc 0,hz]
  ·have hx:xs=[]:=List.eq_nil_of_length_eq_zero (by omega)
   subst hx
   have hz1:z= -1:=by rw [<-hz];rfl
   subst hz1
   cases A with
   | none=>exact Lib.run_indexByteNil w 0 c 0
   | some a=>exact run_indexEmpty w a c 0
 clear h hz
 go_enter Tryz.func136,Tryz.ntmps136
 go_wp2
 rw [run_callFunc_extern Tryz.func144 (by kernel_rfl) (by kernel_rfl) (by kernel_rfl) (e:=Extern.BytealgIndexByte.indexByte) (by kernel_rfl),hr]
 simp only [Result.andThen]
 rw [Oper.upon_value]
 go_wp2
 go_ret
 exact⟨rfl,rfl⟩
theorem idx_found (A:Option Addr)(n c:Nat)(s r:List Int)(w:World)(h:RdB w (.slice A n c) (s++0 :: r))(hs:∀y∈s,0 < y/\y < 256):
 Calls Tryz.prog 136 #[.slice A n c,.int .u8 0] w (fun e w'=>e=.returned (.int .i64 s.length)/\w'=w):=idx136 A n c _ w h _ (index_found s r hs)
theorem plain_pos {s:ByteArray} (h:plainP s):∀y∈sby s,0 < y/\y < 256:=by
 intro y hy
 have h1:=plain_ne h y hy
 have h2:=sby_byte s y hy
 unfold Byte at h2
 omega
theorem wrapI16 (x:Int):IntKind.i16.wrap x=(x+32768) % 65536 - 32768:=by unfold IntKind.wrap;simp [IntKind.bits,IntKind.signed];omega
theorem sl_at (A:Option Addr)(N c p:Nat)(hp:p<=N)(hN:N<=c)(hc:c<=maxLen):∃A' c',(∀(i:Int) (w:World),i=(p:Int)->(Instr.slice 26 (.slice A N c) (some (.int .i64 i)) none none).run Tryz.prog w=.ok (.slice A' (N - p) c') w)/\∀(b:Nat) (w:World) (xs:List Int),RdN b w (.slice A N c) xs->RdN b w (.slice A' (N - p) c') (xs.drop p):=by
 obtain⟨A',c',h1,h2⟩:=sl_from A N c p (p:Int) rfl hp hN hc
 exact⟨A',c',fun i w hi=>by subst hi;exact h1 w,h2⟩
/-- Inside a round: the column's own block f. -/
structure Fst (b f:Nat) (wd w:World) (v:Value) (k:Nat) (ys:List Value) (cs:Array Value):Prop where
 bel:ExtBut b wd w
 blk:w.heap[b]?=some (.cells #[v] 236 (0,0))
 fd:w.heap[f]?=some (.cells cs 249 (0,0))
 own:Own f wd w 249 7 v k ys
 lo:wd.heap.size<=f
 hi:b < wd.heap.size
theorem Fst.ext {b f:Nat} {wd w w2:World} {v:Value} {k:Nat} {ys:List Value} {cs:Array Value} (h:Fst b f wd w v k ys cs)(hx:Ext w w2):Fst b f wd w2 v k ys cs:=
 ⟨h.bel.trans hx.but,(hx.block b (lt_of_block h.blk)).trans h.blk,(hx.block f (lt_of_block h.fd)).trans h.fd,h.own.ext hx,h.lo,h.hi⟩
theorem Fst.set {b f:Nat} {wd w:World} {v:Value} {k:Nat} {ys:List Value} {cs:Array Value} (h:Fst b f wd w v k ys cs)(j:Nat)(u:Value):Fst b f wd (w.setCell ⟨f,j,none⟩ u) v k ys (cs.setIfInBounds j u):=by
 have hoth:∀q,q≠f->(w.setCell ⟨f,j,none⟩ u).heap[q]?=w.heap[q]?:=fun q hq=>heap_setCell_other w ⟨f,j,none⟩ q _ hq
 have h1:=h.lo
 have h2:=h.hi
 exact⟨⟨h.bel.os,h.bel.tape,h.bel.output,by simpa [World.setCell]using h.bel.size,fun q hq hqb=>(hoth q (by omega)).trans (h.bel.block q hq hqb)⟩,(hoth b (by omega)).trans h.blk,slot_setCell h.fd,h.own.keep fun g _ hne _=>hoth g hne,h1,h2⟩
theorem drop_step {xs B T:List Int} {a m:Nat} (h:xs.drop a=B++T)(hB:B.length=m):xs.drop (a+m)=T:=by
 rw [<-List.drop_drop,h];exact List.drop_left' hB
/-- The region that appends the column. -/
structure RJ (b f:Nat) (wd W0:World) (v:Value) (k:Nat) (ys:List Value) (cs:Array Value) (L:Nat->Bool) (vs:Nat->Value) (w:World):Prop where
 A:L 6=false->Ext W0 w
 X:ExtBut b wd w
 C:L 7=false->Own f wd w 249 7 v k ys
 D:L 6=true->L 7=false->vs 6=.slice (some ⟨slB (vs 6),0,none⟩) 1 1/\w.heap[slB (vs 6)]?=some (.cells cs 249 (0,0))
 E:L 7=true->Own f wd w 249 7 (vs 7) (k+1) (ys++cs.toList)
 F:L 10=false->w.heap[b]?=some (.cells #[v] 236 (0,0))
 G:L 10=true->w.heap[b]?=some (.cells #[vs 7] 236 (0,0))
 S:f < w.heap.size
 M1:L 7=true->L 6=true
 M2:L 10=true->L 7=true
section
variable {b f : Nat} {wd W0 w w2 : World} {v : Value} {k : Nat} {ys : List Value} {cs : Array Value} {L : Nat → Bool} {vs : Nat → Value}
theorem RJ.start (h:Fst b f wd W0 v k ys cs):RJ b f wd W0 v k ys cs (fun _=>false) vs W0.drew:=
 ⟨fun _=>(Ext.refl W0).drew,h.bel.trans (Ext.refl W0).drew.but,fun _=>h.own.ext (Ext.refl W0).drew,nofun,nofun,fun _=>h.blk,nofun,lt_of_block h.fd,nofun,nofun⟩
theorem RJ.keep (h:RJ b f wd W0 v k ys cs L vs w)(i:Nat)(u:Value)(h6:6≠i)(h7:7≠i)(h10:10≠i):RJ b f wd W0 v k ys cs (updB L i) (upd vs i u) w:=by
 obtain⟨A,X,C,D,E,F,G,S,M1,M2⟩:=h
 constructor <;> (try simp only [updB,upd,h6,h7,h10,if_false,beq_eq_false_iff_ne.2,Bool.or_false,ne_eq,not_false_eq_true]) <;> assumption
theorem RJ.low (h:RJ b f wd W0 v k ys cs L vs w)(e:L 7=false):L 10=false:=by
 cases e2:L 10 with
 | false=>rfl
 | true=>rw [h.M2 e2]at e;cases e
theorem RJ.step6 (h:RJ b f wd W0 v k ys cs L vs w)(e7:L 7=false):RJ b f wd W0 v k ys cs (updB L 6) (upd vs 6 (.slice (some ⟨w.heap.size,0,none⟩) 1 1)) (w.alloc (.cells cs 249)):=by
 have e10:=h.low e7
 have hF:=h.F e10
 have hx:=ext_alloc w (.cells cs 249)
 have hX:=h.X.trans hx.but
 constructor <;> (try simp only [updB,upd,e7,e10,Nat.reduceEqDiff,if_false,if_true,Nat.reduceBEq,Bool.or_false,Bool.or_true,Bool.false_eq_true,Bool.true_eq_false,false_implies,true_implies])
 ·exact hX
 ·exact(h.C e7).ext hx
 ·exact⟨rfl,heap_alloc_new _ _⟩
 ·exact(hx.block b (lt_of_block hF)).trans hF
 ·exact Nat.lt_of_lt_of_le h.S hx.size
theorem RJ.step7 (h:RJ b f wd W0 v k ys cs L vs w)(hb:b < wd.heap.size)(hlo:wd.heap.size<=f)(e6:L 6=true)(e7:L 7=false)(v2:Value)(hr:Row 249 7 (But w v) w w2 v2 (k+1) (ys++cs.toList)):RJ b f wd W0 v k ys cs (updB L 7) (upd vs 7 v2) w2:=by
 have e10:=h.low e7
 have hF:=h.F e10
 have hC:=h.C e7
 have hS:=h.S
 have hX:=h.X
 have hbn:∀q,q < wd.heap.size->But w v q:=fun q hq=>⟨Nat.lt_of_lt_of_le hq hX.size,fun e=>by have:=(hC.off q e).1;omega⟩
 have hfn:But w v f:=⟨hS,fun e=>(hC.off f e).2 rfl⟩
 have hsz:=hr.lt f hfn
 constructor <;> (try simp only [updB,upd,e6,e10,Nat.reduceEqDiff,if_false,if_true,Nat.reduceBEq,Bool.or_false,Bool.or_true,Bool.false_eq_true,Bool.true_eq_false,false_implies,true_implies])
 ·exact⟨hr.os.trans hX.os,hr.tape.trans hX.tape,hr.output.trans hX.output,by omega,fun q hq hqb=>(hr.kept q (hbn q hq)).trans (hX.block q hq hqb)⟩
 ·exact hC.step hr hS hX.size
 ·exact(hr.kept b (hbn b hb)).trans hF
 ·exact hr.lt f hfn
theorem RJ.step10 (h:RJ b f wd W0 v k ys cs L vs w)(hb:b < wd.heap.size)(e7:L 7=true)(e10:L 10=false)(u z:Value)(hz:vs 7=z):RJ b f wd W0 v k ys cs (updB L 10) (upd vs 10 u) (w.setCell ⟨b,0,none⟩ z):=by
 subst hz
 have e6:=h.M1 e7
 have hF:=h.F e10
 have hE:=h.E e7
 have hoth:∀q,q≠b->(w.setCell ⟨b,0,none⟩ (vs 7)).heap[q]?=w.heap[q]?:=fun q hq=>heap_setCell_other w ⟨b,0,none⟩ q _ hq
 constructor <;> (try simp only [updB,upd,e6,e7,Nat.reduceEqDiff,if_false,if_true,Nat.reduceBEq,Bool.or_false,Bool.or_true,Bool.false_eq_true,Bool.true_eq_false,false_implies,true_implies])
 ·exact h.X.set 0 _
 ·exact hE.keep fun g hg _ _=>hoth g (by omega)
 ·exact slot_setCell hF
 ·have:=h.S;simpa [World.setCell]using this
end
theorem sfB_parts (x:Sf)(T:List Int):sfB x++T=sby x.name++0 :: ((numB x.tab 4++(numB x.col 2++(numB x.typ 4++(numB x.siz 2++(numB x.mdf 4++numB x.fmt 2)))))++T):=by
 simp [sfB,txt,List.append_assoc]
theorem sl_midr (A:Option Addr)(N c p n:Nat)(hp:p+n<=N)(hN:N<=c)(hc:c<=maxLen):∃A' c',(∀(i j:Int) (w:World),i=(p:Int)->j=(p:Int)+(n:Int)->(Instr.slice 26 (.slice A N c) (some (.int .i64 i)) (some (.int .i64 j)) none).run Tryz.prog w=.ok (.slice A' n c') w)/\∀(b:Nat) (w:World) (xs:List Int),RdN b w (.slice A N c) xs->RdN b w (.slice A' n c') ((xs.drop p).take n):=by
 obtain⟨A1,c1,h1,h2⟩:=sl_at A N c p (by omega) hN hc
 have h3:∃A' c',(∀(i j:Int) (w:World),i=(p:Int)->j=(p:Int)+(n:Int)->(Instr.slice 26 (.slice A N c) (some (.int .i64 i)) (some (.int .i64 j)) none).run Tryz.prog w=.ok (.slice A' n c') w)/\((c=p/\A'=A/\c'=c - p)∨(A'=A.map (·.add p)/\c'=c - p)):=by
  refine⟨if c=p then A else A.map (·.add p),c - p,fun i j w hi hj=>?_,?_⟩
  ·subst hi;subst hj
   rw [run_slice_lh (P:=Tryz.prog) w 26 A N c Tryz.underlying26 .i64 .i64 p ((p:Int)+(n:Int)) (by omega) (by omega) (by omega)]
   have hs:(sizeOf (Tryz.prog.elem 26)).run Tryz.prog w=.ok 1 w:=by
    obtain⟨i0,hi,hz0,hz1,hz2⟩:=info_parts info5
    simp [sizeOf,typeInfo,show Tryz.prog.elem 26=5 from by kernel_rfl,hi,hz1]
   rw [hs]
   have h9:((p:Int)+(n:Int)).toNat=p+n:=by omega
   simp [Result.andThen,sliced,h9]
  ·by_cases e:c=p
   ·rw [if_pos e];exact .inl ⟨e,rfl,rfl⟩
   ·rw [if_neg e];exact .inr ⟨rfl,rfl⟩
 obtain⟨A',c',h4,h5⟩:=h3
 refine⟨A',c',h4,fun b w xs h=>?_⟩
 obtain⟨rfl,h6,h7⟩:=h.1.parts
 rcases h5 with ⟨e,rfl,rfl⟩|⟨rfl,rfl⟩
 ·exact RdN.none A' n (c - p) _ (by rw [show n=0 by omega];rfl) (by omega) (by omega)
 ·exact h.sub (l:=p) (n:=n) (by omega) (fun _=>rfl) (c - p) (by omega)
def mkH (m:Nat) (w:World):World:=w.alloc (.cells (madeCells #[.int .i16 0] m) 243)
def mkV (m:Nat) (w:World):World:=w.alloc (.cells (madeCells #[.slice none 0 0] m) 26)
theorem mkH_run (m:Nat)(hm:m<=1000)(w:World):(Instr.makeSlice 102 (.int .i64 m) (.int .i64 m)).run Tryz.prog w=.ok (.slice (some ⟨w.heap.size,0,none⟩) m m) (mkH m w):=by
 obtain⟨i0,hi,hz0,hz1,hz2⟩:=info_parts info243
 have h9:=run_makeSlice (P:=Tryz.prog) w 102 243 i0 _ Tryz.underlying102 hi hz0 .i64 .i64 (m:Int) (m:Int) (by omega) (by omega) (by rw [hz1];omega) (by rw [hz2];omega) (by omega)
 rw [h9,hz1]
 simp only [Int.toNat_natCast,Nat.mul_one]
 rfl
theorem mkV_run (m:Nat)(hm:m<=1000)(w:World):(Instr.makeSlice 104 (.int .i64 m) (.int .i64 m)).run Tryz.prog w=.ok (.slice (some ⟨w.heap.size,0,none⟩) m m) (mkV m w):=by
 obtain⟨i0,hi,hz0,hz1,hz2⟩:=info_parts info26
 have h9:=run_makeSlice (P:=Tryz.prog) w 104 26 i0 _ Tryz.underlying104 hi hz0 .i64 .i64 (m:Int) (m:Int) (by omega) (by omega) (by rw [hz1];omega) (by rw [hz2];omega) (by omega)
 rw [h9,hz1]
 simp only [Int.toNat_natCast,Nat.mul_one]
 rfl
theorem mkH_ext (m:Nat)(w:World):Ext w (mkH m w):=ext_alloc w _
theorem mkV_ext (m:Nat)(w:World):Ext w (mkV m w):=ext_alloc w _
section
variable {b g : Nat} {wd w w2 : World} {cs0 : Array Value} {te : TypeId} {m N : Nat} {xs : List Int} {p : Nat} {R R2 B T T2 : List Int} {cs : Array Value}
end
/-- What told hands back. -/
def Tells (kd:Int) (P:Value->World->Prop) (w:World):Ending->World->Prop:=fun e w'=>∃(a' b':ByteArray) (n' m':Int) (E5:Option Addr) (e5 f5:Nat) (E6:Option Addr) (e6 f6:Nat) (E7:Option Addr) (e7 f7:Nat) (E8:Option Addr) (e8 f8:Nat) (E9:Option Addr) (e9 f9:Nat) (E10:Option Addr) (e10 f10:Nat) (E11:Option Addr) (e11 f11:Nat) (E12:Option Addr) (e12 f12:Nat),e=.returned (.agg #[.int .i64 kd,.string a',.string b',.int .u32 n',.int .u32 m',.slice E5 e5 f5,.slice E6 e6 f6,.slice E7 e7 f7,.slice E8 e8 f8,.slice E9 e9 f9,.slice E10 e10 f10,.slice E11 e11 f11,.slice E12 e12 f12])/\Ext w w'/\Keeps w w' (P (.agg #[.int .i64 kd,.string a',.string b',.int .u32 n',.int .u32 m',.slice E5 e5 f5,.slice E6 e6 f6,.slice E7 e7 f7,.slice E8 e8 f8,.slice E9 e9 f9,.slice E10 e10 f10,.slice E11 e11 f11,.slice E12 e12 f12]))
/-- What Decode of the thin package hands back where it can. -/
def DecOk (P:Value->World->Prop) (w:World):Ending->World->Prop:=fun e w'=>∃v,e=.returned (.tuple #[v,.bool true])/\Ext w w'/\Keeps w w' (P v)
/-- What a method of decoding hands back where it can. -/
def Deced (b:Nat) (Q:Nat->World->Prop) (w1:World):Ending->World->Prop:=fun e w2=>e=.returned .nilIface/\ExtBut b w1 w2/\Q b w2
set_option maxHeartbeats 1000000 in
theorem dec_ok (T FN ty:Nat)(cs0:Array Value)(kd:Int)(vb:Value)(xs:List Int)(P:Value->World->Prop)(Q:Nat->World->Prop)(w:World)(hb:RdB w vb xs)(hl:xs.length<=1000000)
 (hmeth:∀b w,(method 480 T (.pointer (some ⟨b,0,none⟩)) "Decode").run Tryz.prog w=.ok (FN,.pointer (some ⟨b,0,none⟩)) w)
 (hnil:∀b w,(nilAhead 480 T (.pointer (some ⟨b,0,none⟩)) "Decode").run Tryz.prog w=.ok (some false) w)
 (hcall:∀args w,(callFunc FN args).run Tryz.prog w=.ok (.enter FN args) w)
 (hE:∀w,Calls Tryz.prog 46 #[.int .i64 kd] w (fun e w'=>e=.returned (.iface T (.pointer (some ⟨w.heap.size,0,none⟩)))/\w'=w.alloc (.cells cs0 ty)))
 (hD:∀w1 b v,Ext w w1->w.heap.size<=b->w1.heap[b]?=some (.cells cs0 ty (0,0))->RdB w1 v xs->v.ownBlock≠some b->Calls Tryz.prog FN #[.pointer (some ⟨b,0,none⟩),v] w1 (Deced b Q w1))
 (hT:∀b w2,Q b w2->Ext w w2->Calls Tryz.prog 48 #[.int .i64 kd,.iface T (.pointer (some ⟨b,0,none⟩))] w2 (Tells kd P w2)):
  Calls Tryz.prog 19 #[.int .i64 kd,vb] w (DecOk P w):=by
 have hmf:∀(fn:Fn) (first cap:Array Value) (w:World),(Instr.makeFunc fn first cap).run Tryz.prog w=.ok (.func fn first cap) w:=fun _ _ _ _=>rfl
 obtain⟨W3,hW3⟩:∃W3,W3=(((w.alloc (.cells #[.int .i64 0,.string ⟨#[]⟩,.string ⟨#[]⟩,.int .u32 0,.int .u32 0,.slice none 0 0,.slice none 0 0,.slice none 0 0,.slice none 0 0,.slice none 0 0,.slice none 0 0,.slice none 0 0,.slice none 0 0] 31)).alloc (.cells #[.bool false] 4)).alloc (.cells cs0 ty)):=⟨_,rfl⟩
 have XW:Hid (Ext w W3):=zh (by rw [hW3];exact((ext_alloc w _).alloc _).alloc _)
 have BX4:Hid (W3.heap[w.heap.size]?=some (.cells #[.int .i64 0,.string ⟨#[]⟩,.string ⟨#[]⟩,.int .u32 0,.int .u32 0,.slice none 0 0,.slice none 0 0,.slice none 0 0,.slice none 0 0,.slice none 0 0,.slice none 0 0,.slice none 0 0,.slice none 0 0] 31 (0,0))):=zh (by
  rw [hW3]
  have e1:=((ext_alloc (w.alloc (.cells #[.int .i64 0,.string ⟨#[]⟩,.string ⟨#[]⟩,.int .u32 0,.int .u32 0,.slice none 0 0,.slice none 0 0,.slice none 0 0,.slice none 0 0,.slice none 0 0,.slice none 0 0,.slice none 0 0,.slice none 0 0] 31)) (.cells #[.bool false] 4)).alloc (.cells cs0 ty)).block w.heap.size (by simp)
  rw [e1];exact heap_alloc_new _ _)
 have BX5:Hid (W3.heap[w.heap.size+1]?=some (.cells #[.bool false] 4 (0,0))):=zh (by
  rw [hW3]
  have e1:=(ext_alloc ((w.alloc (.cells #[.int .i64 0,.string ⟨#[]⟩,.string ⟨#[]⟩,.int .u32 0,.int .u32 0,.slice none 0 0,.slice none 0 0,.slice none 0 0,.slice none 0 0,.slice none 0 0,.slice none 0 0,.slice none 0 0,.slice none 0 0] 31)).alloc (.cells #[.bool false] 4)) (.cells cs0 ty)).block (w.heap.size+1) (by simp)
  rw [e1]
  have:=heap_alloc_new (w.alloc (.cells #[.int .i64 0,.string ⟨#[]⟩,.string ⟨#[]⟩,.int .u32 0,.int .u32 0,.slice none 0 0,.slice none 0 0,.slice none 0 0,.slice none 0 0,.slice none 0 0,.slice none 0 0,.slice none 0 0,.slice none 0 0] 31)) (.cells #[.bool false] 4)
  simpa using this)
 have HBB:Hid (W3.heap[w.heap.size+1+1]?=some (.cells cs0 ty (0,0))):=zh (by
  rw [hW3]
  have:=heap_alloc_new ((w.alloc (.cells #[.int .i64 0,.string ⟨#[]⟩,.string ⟨#[]⟩,.int .u32 0,.int .u32 0,.slice none 0 0,.slice none 0 0,.slice none 0 0,.slice none 0 0,.slice none 0 0,.slice none 0 0,.slice none 0 0,.slice none 0 0] 31)).alloc (.cells #[.bool false] 4)) (.cells cs0 ty)
  simpa using this)
 have HBL:Hid (w.heap.size+1+1 < W3.heap.size):=zh (lt_of_block HBB.out)
 have HB:=zh hb
 have HE:=zh hE
 have HT:=zh hT
 obtain⟨D,hDD⟩:∃D:Value->World->Prop,D=fun u w2=>u=.nilIface/\ExtBut (w.heap.size+1+1) W3 w2/\Q (w.heap.size+1+1) w2:=⟨_,rfl⟩
 have HD:Hid (∀w1 v,Ext W3 w1->RdB w1 v xs/\v.ownBlock≠some (w.heap.size+1+1)->Calls Tryz.prog FN #[.pointer (some ⟨w.heap.size+1+1,0,none⟩),v] w1 (fun e w2=>∃u,e=.returned u/\D u w2)):=zh (by
  intro w1 v h1 h2
  refine(hD w1 _ v (XW.out.trans h1) (by omega) ((h1.block _ HBL.out).trans HBB.out) h2.1 h2.2).mono ?_
  rintro e w2 ⟨rfl,hx,hq⟩
  exact⟨_,rfl,by rw [hDD];exact⟨rfl,h1.but.trans hx,hq⟩⟩)
 clear hb hE hD hT
 go_enter_defers Tryz.func19,Tryz.ntmps19
 go_wp2_with (go_at_call 46;refine(HE.out _).mono ?_;rintro e w1 ⟨rfl,rfl⟩)
 rw [<-hW3]
 clear hW3
 have hJ0:Hid (DecK W3 (w.heap.size+1+1) xs D (fun _=>false) (fun _=>undef) W3.drew):=zh (by unfold DecK;exact⟨(Ext.refl W3).drew,fun h=>by cases h⟩)
 refine wp_region_ogL (J:=DecK W3 (w.heap.size+1+1) xs D) (R:=fun _ _=>True) [Sp.eq _ (.iface T (.pointer (some ⟨w.heap.size+1+1,0,none⟩))),Sp.eq _ (.bool false),Sp.eq _ (.bool false),Sp.eq _ (.iface T (.pointer (some ⟨w.heap.size+1+1,0,none⟩))),Sp.eq _ (vb),Sp.any _,Sp.eq _ (.func (.method "Decode") #[.iface T (.pointer (some ⟨w.heap.size+1+1,0,none⟩))] #[]),Sp.eq _ (.func (.method "Decode") #[.iface T (.pointer (some ⟨w.heap.size+1+1,0,none⟩))] #[]),Sp.eq _ (.iface T (.pointer (some ⟨w.heap.size+1+1,0,none⟩))),Sp.any _,Sp.eq _ (.bool false),Sp.eq _ (.bool false)] (by kernel_rfl) (by kernel_rfl) ?_ ?_ ?_
 ·exact hJ0.out
 ·refine⟨?_,?_,?_,?_,?_,?_,?_,?_,?_,?_,?_,?_,trivial⟩
  ·intro vs w1 L hLi hd hdt hJ hp
   have HJ:=zh hJ
   clear hp hd hdt hLi hJ
   simp only [putAll,Nat.reduceAdd]
   go_wp2
   exact⟨rfl,HJ.out.keep 0 _ (by decide) (by decide),trivial,rfl⟩
  ·intro vs w1 L hLi hd hdt hJ hp
   have q0:vs 0=.iface T (.pointer (some ⟨w.heap.size+1+1,0,none⟩)):=zd hp 0
   have HJ:=zh hJ
   clear hp hd hdt hLi hJ
   simp only [putAll,Nat.reduceAdd]
   go_wp2
   exact⟨rfl,HJ.out.keep 1 _ (by decide) (by decide),trivial,rfl⟩
  ·intro vs w1 L hLi hd hdt hJ hp
   have q1:vs 1=.bool false:=zd hp 1
   have HJ:=zh hJ
   clear hp hd hdt hLi hJ
   simp only [putAll,Nat.reduceAdd]
   go_wp2
   exact⟨rfl,HJ.out.keep 2 _ (by decide) (by decide),trivial,rfl⟩
  ·intro vs w1 L hLi hd hdt hJ hp
   have q2:vs 2=.bool false:=zd hp 2
   have HJ:=zh hJ
   clear hp hd hdt hLi hJ
   simp only [putAll,Nat.reduceAdd]
   go_wp2
   exact⟨rfl,HJ.out.keep 3 _ (by decide) (by decide),trivial,rfl⟩
  ·intro vs w1 L hLi hd hdt hJ hp
   have q2:vs 2=.bool false:=zd hp 2
   have HJ:=zh hJ
   clear hp hd hdt hLi hJ
   simp only [putAll,Nat.reduceAdd]
   go_wp2
   exact⟨rfl,HJ.out.keep 4 _ (by decide) (by decide),trivial,rfl⟩
  ·intro vs w1 L hLi hd hdt hJ hp
   have q2:vs 2=.bool false:=zd hp 2
   have q4:vs 4=vb:=zd hp 4
   have hL9:L 9=false:=zd hdt 9
   unfold DecK at hJ
   rw [hL9]at hJ
   simp only [Bool.false_eq_true,if_false]at hJ
   have HJ:=zh hJ.1
   have HL9:=zh hL9
   clear hp hd hdt hLi hJ hL9
   simp only [putAll,Nat.reduceAdd]
   go_wp2_with (go_at_call 47;refine(copied47 vb xs _ (HB.out.ext (XW.out.trans HJ.out)) hl).mono ?_;rintro e w2 ⟨v2,rfl,hbu⟩;obtain⟨A2,c2,hv2⟩:=hbu.len;subst hv2;have HX2:=zh (HJ.out.trans hbu.bel);have HR2:=zh (And.intro (RdB.of_own hbu.own) (fun e=>hbu.off _ e (Nat.lt_of_lt_of_le HBL.out HJ.out.size)));clear hbu)
   refine⟨rfl,?_,trivial,trivial⟩
   unfold DecK
   simp only [updB,upd,HL9.out,Bool.false_or,Nat.reduceBEq,Bool.false_eq_true,if_false,beq_self_eq_true,Bool.or_true,if_true]
   exact⟨HX2.out,fun _=>HR2.out⟩
  ·intro vs w1 L hLi hd hdt hJ hp
   have q2:vs 2=.bool false:=zd hp 2
   have q3:vs 3=.iface T (.pointer (some ⟨w.heap.size+1+1,0,none⟩)):=zd hp 3
   have HJ:=zh hJ
   clear hp hd hdt hLi hJ
   simp only [putAll,Nat.reduceAdd]
   go_wp2
   exact⟨rfl,HJ.out.keep 6 _ (by decide) (by decide),trivial,rfl⟩
  ·intro vs w1 L hLi hd hdt hJ hp
   have q2:vs 2=.bool false:=zd hp 2
   have q6:vs 6=.func (.method "Decode") #[.iface T (.pointer (some ⟨w.heap.size+1+1,0,none⟩))] #[]:=zd hp 6
   have HJ:=zh hJ
   clear hp hd hdt hLi hJ
   simp only [putAll,Nat.reduceAdd]
   go_wp2
   exact⟨rfl,HJ.out.keep 7 _ (by decide) (by decide),trivial,rfl⟩
  ·intro vs w1 L hLi hd hdt hJ hp
   have q2:vs 2=.bool false:=zd hp 2
   have q3:vs 3=.iface T (.pointer (some ⟨w.heap.size+1+1,0,none⟩)):=zd hp 3
   have q6:vs 6=.func (.method "Decode") #[.iface T (.pointer (some ⟨w.heap.size+1+1,0,none⟩))] #[]:=zd hp 6
   have q7:vs 7=.func (.method "Decode") #[.iface T (.pointer (some ⟨w.heap.size+1+1,0,none⟩))] #[]:=zd hp 7
   have HJ:=zh hJ
   clear hp hd hdt hLi hJ
   simp only [putAll,Nat.reduceAdd]
   go_wp2
   exact⟨rfl,HJ.out.keep 8 _ (by decide) (by decide),trivial,rfl⟩
  ·intro vs w1 L hLi hd hdt hJ hp
   have q2:vs 2=.bool false:=zd hp 2
   have q8:vs 8=.iface T (.pointer (some ⟨w.heap.size+1+1,0,none⟩)):=zd hp 8
   have hL5:L 5=true:=zd hd 5
   unfold DecK at hJ
   rw [hLi]at hJ
   simp only [Bool.false_eq_true,if_false]at hJ
   have HJ:=zh hJ.1
   have HR:=zh (hJ.2 hL5)
   have HL5:=zh hL5
   clear hp hd hdt hLi hJ hL5
   simp only [putAll,Nat.reduceAdd]
   go_wp2_with (with_reducible refine(HD.out _ (vs 5) HJ.out HR.out).mono ?_;rintro e w2 ⟨ue,rfl,hue⟩;have HU:=zh hue;clear hue)
   refine⟨rfl,?_,trivial,trivial⟩
   unfold DecK
   simp only [updB,upd,beq_self_eq_true,Bool.or_true,if_true]
   exact HU.out
  ·intro vs w1 L hLi hd hdt hJ hp
   have q2:vs 2=.bool false:=zd hp 2
   have hL9:L 9=true:=zd hd 9
   unfold DecK at hJ
   rw [hL9]at hJ
   simp only [if_true]at hJ
   have HDD:=zh hJ
   have HL9:=zh hL9
   have hJ2:vs 9=.nilIface/\ExtBut (w.heap.size+1+1) W3 w1/\Q (w.heap.size+1+1) w1:=by rw [hDD]at HDD;exact HDD.out
   have hv9:=hJ2.1
   have HV9:=zh hv9
   clear hp hd hdt hLi hJ hL9 hJ2 hv9
   simp only [putAll,Nat.reduceAdd]
   rw [HV9.out]
   go_wp2
   refine⟨rfl,?_,trivial,rfl⟩
   unfold DecK
   simp only [updB,upd,HL9.out,Bool.true_or,Nat.reduceBEq,if_true,Nat.reduceEqDiff,if_false]
   exact HDD.out
  ·intro vs w1 L hLi hd hdt hJ hp
   have q2:vs 2=.bool false:=zd hp 2
   have q10:vs 10=.bool false:=zd hp 10
   have HJ:=zh hJ
   clear hp hd hdt hLi hJ
   simp only [putAll,Nat.reduceAdd]
   go_wp2
   exact⟨rfl,HJ.out.keep 11 _ (by decide) (by decide),trivial,rfl⟩
 ·intro vs w1 L hall hJ hp
  have q0:vs 0=.iface T (.pointer (some ⟨w.heap.size+1+1,0,none⟩)):=zd hp 0
  have q1:vs 1=.bool false:=zd hp 1
  have q2:vs 2=.bool false:=zd hp 2
  have q3:vs 3=.iface T (.pointer (some ⟨w.heap.size+1+1,0,none⟩)):=zd hp 3
  have q4:vs 4=vb:=zd hp 4
  have q6:vs 6=.func (.method "Decode") #[.iface T (.pointer (some ⟨w.heap.size+1+1,0,none⟩))] #[]:=zd hp 6
  have q7:vs 7=.func (.method "Decode") #[.iface T (.pointer (some ⟨w.heap.size+1+1,0,none⟩))] #[]:=zd hp 7
  have q8:vs 8=.iface T (.pointer (some ⟨w.heap.size+1+1,0,none⟩)):=zd hp 8
  have q10:vs 10=.bool false:=zd hp 10
  have q11:vs 11=.bool false:=zd hp 11
  have hL9:=zd hall 9
  unfold DecK at hJ
  rw [hL9]at hJ
  simp only [if_true]at hJ
  rw [hDD]at hJ
  have HX:=zh hJ.2.1
  have HQ:=zh hJ.2.2
  clear hJ hp hall hL9
  have B4:=zh ((HX.out.block w.heap.size (lt_of_block BX4.out) (by omega)).trans BX4.out)
  have B5:=zh ((HX.out.block (w.heap.size+1) (lt_of_block BX5.out) (by omega)).trans BX5.out)
  simp only [putAll,Nat.reduceAdd]
  simp only [Exit.then]
  go_at_K
  simp only [Act.put,q0,q1,q2,q3,q4,q6,q7,q8,q10,q11,List.setIfInBounds_toArray,List.set_cons_zero,List.set_cons_succ]
  go_wp2_with (go_at_call 48;refine(HT.out _ _ HQ.out (HX.out.ext XW.out (by omega))).mono ?_;rintro e w3 ⟨a',b',n',m',E5,e5,f5,E6,e6,f6,E7,e7,f7,E8,e8,f8,E9,e9,f9,E10,e10,f10,E11,e11,f11,E12,e12,f12,rfl,hx3,hk3⟩;have HX3:=zh hx3;have HK3:=zh hk3;have c4:=(hx3.block _ (lt_of_block B4.out)).trans B4.out;have c5:=(hx3.block _ (lt_of_block B5.out)).trans B5.out;have hz0:=cell_slot c4 0 (.int .i64 0) rfl;have hz1:=cell_slot c4 1 (.string ⟨#[]⟩) rfl;have hz2:=cell_slot c4 2 (.string ⟨#[]⟩) rfl;have hz3:=cell_slot c4 3 (.int .u32 0) rfl;have hz4:=cell_slot c4 4 (.int .u32 0) rfl;have hz5:=cell_slot c4 5 (.slice none 0 0) rfl;have hz6:=cell_slot c4 6 (.slice none 0 0) rfl;have hz7:=cell_slot c4 7 (.slice none 0 0) rfl;have hz8:=cell_slot c4 8 (.slice none 0 0) rfl;have hz9:=cell_slot c4 9 (.slice none 0 0) rfl;have hz10:=cell_slot c4 10 (.slice none 0 0) rfl;have hz11:=cell_slot c4 11 (.slice none 0 0) rfl;have hz12:=cell_slot c4 12 (.slice none 0 0) rfl;have hy0:=free_slot c4 0;have hy1:=free_slot c4 1;have hy2:=free_slot c4 2;have hy3:=free_slot c4 3;have hy4:=free_slot c4 4;have hy5:=free_slot c4 5;have hy6:=free_slot c4 6;have hy7:=free_slot c4 7;have hy8:=free_slot c4 8;have hy9:=free_slot c4 9;have hy10:=free_slot c4 10;have hy11:=free_slot c4 11;have hy12:=free_slot c4 12;have hz13:=cell_slot c5 0 (.bool false) rfl;have hy13:=free_slot c5 0;clear c4 c5 hx3 hk3)
  refine leaves_cons (f:=45) (args:= #[.pointer (some ⟨w.heap.size,0,none⟩),.pointer (some ⟨w.heap.size+1,0,none⟩)]) (by simp) (by simp [go_sem]) ?_
  refine(idle45 _ _ _).mono ?_
  rintro e u' w'' ⟨rfl,rfl,rfl⟩
  have hfin:DecOk P w (.returned (.tuple #[.agg #[.int .i64 kd,.string a',.string b',.int .u32 n',.int .u32 m',.slice E5 e5 f5,.slice E6 e6 f6,.slice E7 e7 f7,.slice E8 e8 f8,.slice E9 e9 f9,.slice E10 e10 f10,.slice E11 e11 f11,.slice E12 e12 f12],.bool true])) ((((((((((((((w3.setCell ⟨w.heap.size,0,none⟩ (.int .i64 kd)).setCell ⟨w.heap.size,1,none⟩ (.string a')).setCell ⟨w.heap.size,2,none⟩ (.string b')).setCell ⟨w.heap.size,3,none⟩ (.int .u32 n')).setCell ⟨w.heap.size,4,none⟩ (.int .u32 m')).setCell ⟨w.heap.size,5,none⟩ (.slice E5 e5 f5)).setCell ⟨w.heap.size,6,none⟩ (.slice E6 e6 f6)).setCell ⟨w.heap.size,7,none⟩ (.slice E7 e7 f7)).setCell ⟨w.heap.size,8,none⟩ (.slice E8 e8 f8)).setCell ⟨w.heap.size,9,none⟩ (.slice E9 e9 f9)).setCell ⟨w.heap.size,10,none⟩ (.slice E10 e10 f10)).setCell ⟨w.heap.size,11,none⟩ (.slice E11 e11 f11)).setCell ⟨w.heap.size,12,none⟩ (.slice E12 e12 f12)).setCell ⟨w.heap.size+1,0,none⟩ (.bool true)):=⟨_,rfl,((((((((((((((((HX.out.ext XW.out (by omega)).trans HX3.out).set (Nat.le_refl _) 0 (.int .i64 kd)).set (Nat.le_refl _) 1 (.string a')).set (Nat.le_refl _) 2 (.string b')).set (Nat.le_refl _) 3 (.int .u32 n')).set (Nat.le_refl _) 4 (.int .u32 m')).set (Nat.le_refl _) 5 (.slice E5 e5 f5)).set (Nat.le_refl _) 6 (.slice E6 e6 f6)).set (Nat.le_refl _) 7 (.slice E7 e7 f7)).set (Nat.le_refl _) 8 (.slice E8 e8 f8)).set (Nat.le_refl _) 9 (.slice E9 e9 f9)).set (Nat.le_refl _) 10 (.slice E10 e10 f10)).set (Nat.le_refl _) 11 (.slice E11 e11 f11)).set (Nat.le_refl _) 12 (.slice E12 e12 f12)).set (by omega) 0 (.bool true)),fun w5 h5=>HK3.out w5 (fun k hk hk3=>(h5 k (Nat.le_trans (Nat.le_trans XW.out.size HX.out.size) hk) (by simpa [World.setCell]using hk3)).trans (by have hk2:w.heap.size+1 < k:=Nat.lt_of_lt_of_le (Nat.lt_of_lt_of_le (lt_of_block BX5.out) HX.out.size) hk;rw [heap_setCell_other _ _ _ _ (by simp only [ne_eq];omega),heap_setCell_other _ _ _ _ (by simp only [ne_eq];omega),heap_setCell_other _ _ _ _ (by simp only [ne_eq];omega),heap_setCell_other _ _ _ _ (by simp only [ne_eq];omega),heap_setCell_other _ _ _ _ (by simp only [ne_eq];omega),heap_setCell_other _ _ _ _ (by simp only [ne_eq];omega),heap_setCell_other _ _ _ _ (by simp only [ne_eq];omega),heap_setCell_other _ _ _ _ (by simp only [ne_eq];omega),heap_setCell_other _ _ _ _ (by simp only [ne_eq];omega),heap_setCell_other _ _ _ _ (by simp only [ne_eq];omega),heap_setCell_other _ _ _ _ (by simp only [ne_eq];omega),heap_setCell_other _ _ _ _ (by simp only [ne_eq];omega),heap_setCell_other _ _ _ _ (by simp only [ne_eq];omega),heap_setCell_other _ _ _ _ (by simp only [ne_eq];omega)]))⟩
  have HF:=zh hfin
  clear hfin
  simp [Leaves,settle,results,Tryz.results19,go_sem,hz0,hz1,hz2,hz3,hz4,hz5,hz6,hz7,hz8,hz9,hz10,hz11,hz12,hz13]
  exact HF.out
open Go.RowKit Go.Maps Go.Sort
theorem lawS:Keyed Tryz.prog 9:=string_keyed Tryz.underlying9
def kb (s:ByteArray):List UInt8:=s.data.toList
def mapFrom (D:DataW Unit) (ps:List (ByteArray×ByteArray)):DataW Unit:=ps.foldl (fun D p=>D.put (.string (kb p.1)) (.lit (.string (kb p.2)))) D
def mapOf (ps:List (ByteArray×ByteArray)):DataW Unit:=mapFrom (.map []) ps
theorem mapOf_snoc (ps:List (ByteArray×ByteArray))(p:ByteArray×ByteArray):mapOf (ps++ [p])=(mapOf ps).put (.string (kb p.1)) (.lit (.string (kb p.2))):=by
 simp [mapOf,mapFrom,List.foldl_append]
theorem has_from:∀(ps:List (ByteArray×ByteArray)) (D:DataW Unit),IsMap D->∀x,has (mapFrom D ps) (.string x)=(has D (.string x) || ps.any fun p=>kb p.1 == x)
 | [],D,h,x=>by simp [mapFrom]
 | p :: ps,D,h,x=>by
   have h1:=has_from ps (D.put (.string (kb p.1)) (.lit (.string (kb p.2)))) (h.put _ _) x
   show has (mapFrom (D.put _ _) ps) _=_
   rw [h1]
   by_cases e:kb p.1=x
   ·subst e
    rw [has_put_same h (show WideAt.IsKeyLit (.string (kb p.1))from trivial)]
    simp
   ·rw [has_put_other (by simpa using Ne.symm e)]
    have e2:(kb p.1 == x)=false:=beq_eq_false_iff_ne.2 e
    simp [e2]
theorem at_from_old:∀(ps:List (ByteArray×ByteArray)) (D:DataW Unit) (x:List UInt8),(∀p∈ps,kb p.1≠x)->∀z,(mapFrom D ps).atKey (.string x) z=D.atKey (.string x) z
 | [],D,x,_,z=>rfl
 | p :: ps,D,x,h,z=>by
   show(mapFrom (D.put _ _) ps).atKey _ _=_
   rw [at_from_old ps _ x (fun q hq=>h q (by simp [hq])) z,atKey_put_other (by simpa using Ne.symm (h p (by simp)))]
theorem at_from:∀(ps:List (ByteArray×ByteArray)) (D:DataW Unit),IsMap D->ps.Pairwise (fun p q=>kb p.1≠kb q.1)->∀p∈ps,∀z,(mapFrom D ps).atKey (.string (kb p.1)) z=.lit (.string (kb p.2))
 | [],D,_,_,p,hp,z=>by simp at hp
 | q :: ps,D,h,hpw,p,hp,z=>by
   show(mapFrom (D.put _ _) ps).atKey _ _=_
   obtain⟨h1,h2⟩:=List.pairwise_cons.1 hpw
   rcases List.mem_cons.1 hp with rfl|hp
   ·rw [at_from_old ps _ _ (fun r hr=>Ne.symm (h1 r hr)),atKey_put_same h (show WideAt.IsKeyLit (.string (kb p.1))from trivial)]
   ·exact at_from ps _ (h.put _ _) h2 p hp z
/-- strictly sorted by name -/
def Srt (ps:List (ByteArray×ByteArray)):Prop:=ps.Pairwise fun p q=>kb p.1 < kb q.1
theorem Srt.ne {ps:List (ByteArray×ByteArray)} (h:Srt ps):ps.Pairwise (fun p q=>kb p.1≠kb q.1):=h.imp fun {p q} hl e=>by
 rw [e]at hl
 exact List.lt_irrefl _ hl
theorem srt_of (ps:List (ByteArray×ByteArray))(h:∀j (h:j+1 < ps.length),Op.bytesLess ps[j].1.toList ps[j+1].1.toList=true):Srt ps:=by
 have hadj:∀j (h:j+1 < ps.length),kb ps[j].1 < kb ps[j+1].1:=by
  intro j hj
  have h1:=h j hj
  rw [bytesLess_eq,ByteArray.toList_eq,ByteArray.toList_eq]at h1
  exact of_decide_eq_true h1
 refine List.pairwise_iff_getElem.2 fun i j hi hj hij=>?_
 induction j with
 | zero=>omega
 | succ j ih=>
   by_cases e:i=j
   ·subst e;exact hadj i hj
   ·exact List.lt_trans (ih (by omega) (by omega)) (hadj j hj)
end Go.Proofs.YtdenjanihikolaaGreatDoor
