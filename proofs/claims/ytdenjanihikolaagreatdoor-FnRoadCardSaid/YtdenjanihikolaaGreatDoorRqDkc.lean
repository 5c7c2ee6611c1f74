/- Decode that can: texts and data, values, copies of four bytes. -/
import Derived.Test.YtdenjanihikolaaGreatDoorRqA2
import Derived.Test.YtdenjanihikolaaGreatDoorRqA0
import Derived.Test.YtdenjanihikolaaGreatDoorRqA1
import Derived.Test.YtdenjanihikolaaGreatDoorRqDka
import Derived.Test.YtdenjanihikolaaGreatDoorRqTda
import Derived.Test.YtdenjanihikolaaGreatDoorRqDcj
namespace Go.Proofs.YtdenjanihikolaaGreatDoor
set_option linter.unusedVariables false
set_option linter.unusedSimpArgs false
set_option maxRecDepth 100000
set_option maxHeartbeats 4000000
open Go.RowKit
structure ArB (b bb g:Nat) (w1 w:World) (o:Obj) (te:TypeId) (m k:Nat) (xs:List Value) (T:List Int) (cs:Array Value):Prop where
 cur:Cur b w1 bb w T
 blk:w.heap[b]?=some o
 arr:w.heap[g]?=some (.cells cs te (0,0))
 size:cs.size=m
 done:∀j,j < k->cs[j]?=xs[j]?
 lo:w1.heap.size<=g
 ne:g≠bb
theorem Cur.put {bk bb g:Nat} {w1 w:World} {xs:List Int} (h:Cur bk w1 bb w xs)(hg:w1.heap.size<=g)(hne:g≠bb)(k:Nat)(u:Value):Cur bk w1 bb (w.setCell ⟨g,k,none⟩ u) xs:=by
 obtain⟨A,c,hb,hr⟩:=h.blk
 have hoth:∀q,q≠g->(w.setCell ⟨g,k,none⟩ u).heap[q]?=w.heap[q]?:=fun q hq=>heap_setCell_other w ⟨g,k,none⟩ q _ hq
 exact⟨⟨h.bel.os,h.bel.tape,h.bel.output,by simpa [World.setCell]using h.bel.size,fun q hq hqb=>(hoth q (by omega)).trans (h.bel.block q hq hqb)⟩,h.lo,h.hi,A,c,(hoth bb (fun e=>hne e.symm)).trans hb,hr⟩
section
variable {b bb g : Nat} {w1 w w2 : World} {o : Obj} {te : TypeId} {m k : Nat} {xs : List Value} {T T2 : List Int} {cs : Array Value}
theorem ArB.at_ (h:ArB b bb g w1 w o te m k xs T cs)(hk:k < m):cs[k]?=some (cs.getD k undef):=by
 have:=h.size
 have hk':k < cs.size:=by omega
 simp [Array.getD,hk']
theorem ArB.next (h:ArB b bb g w1 w o te m k xs T cs)(hc:Cur b w1 bb w2 T2)(hx:ExtBut bb w w2)(hk:k < m) {u:Value} (hu:xs[k]?=some u):ArB b bb g w1 (w2.setCell ⟨g,k,none⟩ u) o te m (k+1) xs T2 (cs.setIfInBounds k u):=by
 have hs:=h.size
 have hlo:=h.lo
 have hhi:=h.cur.hi
 have hlb:=h.cur.lo
 have hb:=zl h.blk
 have h1:w2.heap[b]?=some o:=(hx.block b hb (by omega)).trans h.blk
 have h2:w2.heap[g]?=some (.cells cs te (0,0)):=(hx.block g (zl h.arr) h.ne).trans h.arr
 refine⟨hc.put hlo h.ne k u,(heap_setCell_other w2 ⟨g,k,none⟩ b _ (by simp only [];omega)).trans h1,slot_setCell h2,by simp [hs],fun j hj=>?_,hlo,h.ne⟩
 by_cases e:j=k
 ·subst e
  rw [hu]
  simp [hs,hk]
 ·rw [<-h.done j (by omega)]
  simp [Array.getElem?_setIfInBounds,Ne.symm e]
theorem ArB.rdI {kd:IntKind} {l:List Int} (h:ArB b bb g w1 w o te l.length l.length (l.map (Value.int kd)) T cs)(hl:l.length<=100000)(hg:w2.heap[g]?=w.heap[g]?):RdI kd w2 (.slice (some ⟨g,0,none⟩) l.length l.length) l:=by
 refine⟨_,_,rfl,Nat.le_refl _,by unfold maxLen;omega,fun _=>⟨g,0,rfl,fun j hj=>?_⟩⟩
 have h1:=h.done j hj
 rw [Nat.zero_add]
 refine zc (hg.trans h.arr) j _ ?_
 rw [h1]
 simp [List.getD,hj]
end
def mkU (m:Nat) (w:World):World:=w.alloc (.cells (madeCells #[.int .u16 0] m) 128)
def mkQ (m:Nat) (w:World):World:=w.alloc (.cells (madeCells #[.int .u32 0] m) 22)
theorem mkU_run (m:Nat)(hm:m<=100000)(w:World):(Instr.makeSlice 126 (.int .i64 m) (.int .i64 m)).run Tryz.prog w=.ok (.slice (some ⟨w.heap.size,0,none⟩) m m) (mkU m w):=by
 obtain⟨i0,hi,hz0,hz1,hz2⟩:=info_parts info128
 have h9:=run_makeSlice (P:=Tryz.prog) w 126 128 i0 _ Tryz.underlying126 hi hz0 .i64 .i64 (m:Int) (m:Int) (by omega) (by omega) (by rw [hz1];omega) (by rw [hz2];omega) (by omega)
 rw [h9,hz1]
 simp only [Int.toNat_natCast,Nat.mul_one]
 rfl
theorem mkQ_run (m:Nat)(hm:m<=100000)(w:World):(Instr.makeSlice 24 (.int .i64 m) (.int .i64 m)).run Tryz.prog w=.ok (.slice (some ⟨w.heap.size,0,none⟩) m m) (mkQ m w):=by
 obtain⟨i0,hi,hz0,hz1,hz2⟩:=info_parts info22
 have h9:=run_makeSlice (P:=Tryz.prog) w 24 22 i0 _ Tryz.underlying24 hi hz0 .i64 .i64 (m:Int) (m:Int) (by omega) (by omega) (by rw [hz1];omega) (by rw [hz2];omega) (by omega)
 rw [h9,hz1]
 simp only [Int.toNat_natCast,Nat.mul_one]
 rfl
theorem mkU_ext (m:Nat)(w:World):Ext w (mkU m w):=ext_alloc w _
theorem mkQ_ext (m:Nat)(w:World):Ext w (mkQ m w):=ext_alloc w _
theorem nums_len4:∀l:List Int,(l.flatMap fun n=>numB n 4).length=l.length * 4
 | []=>rfl
 | x :: l=>by rw [List.flatMap_cons,List.length_append,numB_len,nums_len4 l,List.length_cons];omega
theorem dekCopy {F ty:Nat} (hF:F=280∨F=283∨F=286)(n:Int)(l:List Int)(hn:0<=n/\n < 256)(hll:l.length<=20)(hgl:∀y∈l,0<=y/\y < 65536)(w1:World)(b:Nat)(v:Value)(hb:w1.heap[b]?=some (.cells #[.int .u8 0,.slice none 0 0] ty (0,0)))(hv:RdB w1 v (numB n 1++(numB (l.length:Int) 2++l.flatMap fun n=>numB n 2)))(hl:(numB n 1++(numB (l.length:Int) 2++l.flatMap fun n=>numB n 2)).length<=100000)(hof:v.ownBlock≠some b):
 Calls Tryz.prog F #[.pointer (some ⟨b,0,none⟩),v] w1 (Deced b (fun b w2=>∃A c,w2.heap[b]?=some (.cells #[.int .u8 n,.slice A l.length c] ty (0,0))/\RdI .u16 w2 (.slice A l.length c) l) w1):=by
 have HV:Hid (RdN b w1 v (numB n 1++(numB (l.length:Int) 2++l.flatMap fun n=>numB n 2))):=zh ⟨hv,fun _=>hof⟩
 have HBK:=zh hb
 have HLT:=zh (zl hb)
 clear hv hof hb
 obtain⟨R2,hR2⟩:∃R2,R2=l.flatMap fun n=>numB n 2:=⟨_,rfl⟩
 have h2:R2.length=l.length * 2:=by rw [hR2];exact nums_len2 l
 rw [<-hR2]at HV hl
 have HR2:=zh hR2
 have HGL:=zh hgl
 have HNL:Hid (0<=(l.length:Int)/\(l.length:Int) < 65536):=zh (by omega)
 have hln:(numB n 1++(numB (l.length:Int) 2++R2)).length=3+R2.length:=by simp only [List.length_append,numB_len];omega
 have hn2:n % 256=n:=by omega
 have hmk:=mkU_run l.length (by omega)
 have hwr:IntKind.i64.wrap ((l.length:Int) * 2)=(l.length:Int) * 2:=by rw [IntKind.wrap_i64];omega
 have hlt3:¬((3:Int)+(R2.length:Int) < 3):=by omega
 have heq:(R2.length:Int)=(l.length:Int) * 2:=by omega
 clear hR2 hgl h2
 rcases hF with rfl|rfl|rfl
 all_goals
  first|go_enter Tryz.func280,Tryz.ntmps280|go_enter Tryz.func283,Tryz.ntmps283|go_enter Tryz.func286,Tryz.ntmps286
  go_wp2_with (first|(go_at_call 165;refine(cur_new (bk:=b) (w1:=w1) HV.out HLT.out (Ext.refl w1).but).mono ?_;rintro e w2 ⟨rfl,hcu,hx⟩;have HC:=zh hcu;(first|have hbk:=upbe3 hx HLT.out HBK.out|have hbk:=upbe1 hx HLT.out HBK.out|have hbk:=upbe hx HLT.out HBK.out);(try simp only [List.setIfInBounds_toArray,List.set_cons_zero,List.set_cons_succ]at hbk);clear HBK;have HBK:=zh hbk;(try clear hz0);(try clear hy0);have hz0:=zc hbk 0 _ rfl;have hy0:=free_slot hbk 0;(try clear hz1);(try clear hy1);have hz1:=zc hbk 1 _ rfl;have hy1:=free_slot hbk 1;clear hbk;clear hcu hx)|(go_at_call 167;refine(cur_len (by first|exact HC.out|exact HC.out.but (zr.but.set _ _))).mono ?_;rintro e w4 ⟨rfl,hw4⟩;rw [hw4];clear hw4)|(go_at_call 168;refine(cur_piece (by first|exact HC.out|exact HC.out.but (zr.but.set _ _)) _ (by first|(rw [numB_len];rfl)|rfl)).mono ?_;rintro e w5 ⟨A5,c5,rfl,hrn,hcu,hx5⟩;(try clear HN);clear HC;have HC:=zh hcu;have HN:=zh hrn;simp only [Int.reduceToNat];(first|have hbk:=upb3 hx5 HLT.out HBK.out|have hbk:=upb1 hx5 HLT.out HBK.out|have hbk:=upb hx5 HLT.out HBK.out);(try simp only [List.setIfInBounds_toArray,List.set_cons_zero,List.set_cons_succ]at hbk);clear HBK;have HBK:=zh hbk;(try clear hz0);(try clear hy0);have hz0:=zc hbk 0 _ rfl;have hy0:=free_slot hbk 0;(try clear hz1);(try clear hy1);have hz1:=zc hbk 1 _ rfl;have hy1:=free_slot hbk 1;clear hbk;try(have h9:=(HN.out.at_ HC.out.bel).1;rw [show numB n 1=[n % 256]from by simp [numB]]at h9;obtain⟨b5,o5,hA5,hd5⟩:=h9.head;subst hA5;clear h9);clear hcu hrn hx5)|(go_at_call 137;refine(rd16n (l.length:Int) HNL.out _ _ _ [] _ (by rw [List.append_nil];exact(HN.out.at_ HC.out.bel).1)).mono ?_;rintro e w6 ⟨rfl,hx6⟩;have HC6:=zh (HC.out.ext hx6);clear HC;have HC:=HC6;clear HC6;(first|have hbk:=upbe3 hx6 HLT.out HBK.out|have hbk:=upbe1 hx6 HLT.out HBK.out|have hbk:=upbe hx6 HLT.out HBK.out);(try simp only [List.setIfInBounds_toArray,List.set_cons_zero,List.set_cons_succ]at hbk);clear HBK;have HBK:=zh hbk;(try clear hz0);(try clear hy0);have hz0:=zc hbk 0 _ rfl;have hy0:=free_slot hbk 0;(try clear hz1);(try clear hy1);have hz1:=zc hbk 1 _ rfl;have hy1:=free_slot hbk 1;clear hbk;clear hx6))
  have HC0:=HC
  have HB0:=HBK
  clear HC HBK HN hz0 hy0 hz1 hy1
  go_loopw [37] (fun i wr=>∃k:Nat,k<=l.length/\i=.int .i64 k/\∃cs,Hid (ArB b w1.heap.size w6.heap.size w1 wr (.cells #[.int .u8 0,.slice none 0 0] ty (0,0)) 128 l.length k (l.map (Value.int .u16)) ((l.drop k).flatMap fun n=>numB n 2) cs)) (fun i _=>l.length - (intOf i).toNat)
  case atStart=>
   refine⟨0,Nat.zero_le _,rfl,_,zh ⟨?_,((mkU_ext _ _).block b (zl HB0.out)).trans HB0.out,heap_alloc_new _ _,size_madeCells _ _,fun j hj=>absurd hj (Nat.not_lt_zero _),HC0.out.bel.size,?_⟩⟩
   ·rw [List.drop_zero,<-HR2.out];exact HC0.out.ext (mkU_ext _ _)
   ·obtain⟨_,_,h9,_⟩:=HC0.out.blk
    have:=zl h9
    omega
  case round=>
   obtain⟨k,hk1,rfl,cs,HH⟩:=hrel
   by_cases hlt:k < l.length
   ·obtain⟨x,hx⟩:∃x,x=l[k]:=⟨_,rfl⟩
    have hxr:=HGL.out _ (List.getElem_mem hlt)
    rw [<-hx]at hxr
    have HXR:=zh hxr
    have hu:Hid ((l.map (Value.int .u16))[k]?=some (.int .u16 x)):=zh (by simp [hlt,hx])
    have hc:=HH.out.cur
    rw [List.drop_eq_getElem_cons hlt,List.flatMap_cons,<-hx]at hc
    have HC:=zh hc
    clear hc hx hxr
    go_wp2_with (first|(go_at_call 168;refine(cur_piece HC.out _ (by first|(rw [numB_len];rfl)|rfl)).mono ?_;rintro e w5 ⟨A5,c5,rfl,hrn,hcu,hx5⟩;have HC5:=zh hcu;have HN:=zh hrn;have HX5:=zh hx5;simp only [Int.reduceToNat];clear hcu hrn hx5)|(go_at_call 137;refine(rd16n x HXR.out _ _ _ [] _ (by rw [List.append_nil];exact(HN.out.at_ HC5.out.bel).1)).mono ?_;rintro e w7 ⟨rfl,hx7⟩;have HX7:=zh hx7;have hg7:=(hx7.block _ (Nat.lt_of_lt_of_le (zl HH.out.arr) HX5.out.size)).trans ((HX5.out.block _ (zl HH.out.arr) HH.out.ne).trans HH.out.arr);have hz:=zc hg7 k (cs.getD k undef) (HH.out.at_ hlt);have hy:=free_slot hg7 k;clear hx7 hg7))
    go_roundw
    case rel=>exact⟨k+1,by omega,by go_num,_,zh (HH.out.next (HC5.out.ext HX7.out) (HX5.out.trans HX7.out.but) hlt hu.out)⟩
    case measure=>simp only [intOf];omega
   ·obtain rfl:k=l.length:=by omega
    have hb9:=HH.out.blk
    have hz0:=zc hb9 0 (.int .u8 0) rfl
    have hy0:=free_slot hb9 0
    have hz1:=zc hb9 1 (.slice none 0 0) rfl
    have hy1:=free_slot hb9 1
    clear hb9
    go_wp2
    go_ret
    exact⟨rfl,(HH.out.cur.bel.set _ _).set _ _,_,_,slot_setCell (slot_setCell HH.out.blk),HH.out.rdI (by omega) ((heap_setCell_other _ _ _ _ (by have:=HH.out.lo;have:=HLT.out;simp only [ne_eq];omega)).trans (heap_setCell_other _ _ _ _ (by have:=HH.out.lo;have:=HLT.out;simp only [ne_eq];omega)))⟩
open Go.RowKit Og
theorem copy4g (te:TypeId)(w:World)(bk b1 o1 c9:Nat)(d0 d1 d2 d3:Int)(z:Array Value)(hz:z.size=4)(hB:w.heap[bk]?=some (.cells z te (0,0)))(h0:w.cell? ⟨b1,o1,none⟩=some (.int .u8 d0))(h1:w.cell? ⟨b1,o1+1,none⟩=some (.int .u8 d1))(h2:w.cell? ⟨b1,o1+2,none⟩=some (.int .u8 d2))(h3:w.cell? ⟨b1,o1+3,none⟩=some (.int .u8 d3)):
 (Builtin.copy_ #[26,26] 3 #[.slice (some ⟨bk,0,none⟩) 4 4,.slice (some ⟨b1,o1,none⟩) 4 c9]).run Tryz.prog w=.ok (.int .i64 4) ((((w.setCell ⟨bk,0,none⟩ (.int .u8 d0)).setCell ⟨bk,1,none⟩ (.int .u8 d1)).setCell ⟨bk,2,none⟩ (.int .u8 d2)).setCell ⟨bk,3,none⟩ (.int .u8 d3)):=by
 have hc:∀j,j < 4->(w.cell? ⟨bk,0+j,none⟩).isSome=true:=by
  intro j hj
  rw [cell_of_row _ _ _ _ _ _ hB]
  simp;omega
 have:=run_copy_cells (P:=Tryz.prog) w 26 26 3 5 bk 0 4 4 ⟨b1,o1,none⟩ 4 c9 [.int .u8 d0,.int .u8 d1,.int .u8 d2,.int .u8 d3] Tryz.underlying26 (by kernel_rfl) rfl (by
  intro j v hj
  rw [add_lit0]
  match j,hj with
  | 0,hj=>simp at hj;subst hj;exact h0
  | 1,hj=>simp at hj;subst hj;exact h1
  | 2,hj=>simp at hj;subst hj;exact h2
  | 3,hj=>simp at hj;subst hj;exact h3
  | j+4,hj=>simp at hj) hc (fun j hj=>free_slot hB _) (by intro v hv;simp at hv;rcases hv with rfl|rfl|rfl|rfl <;> rfl)
 rw [this]
 simp [World.setCells,goInt]
def mkB4 (w:World):World:=w.alloc (.cells #[.int .u8 0,.int .u8 0,.int .u8 0,.int .u8 0] 5)
theorem mkB4_run (w:World):(Instr.makeSlice 26 (.int .i64 4) (.int .i64 4)).run Tryz.prog w=.ok (.slice (some ⟨w.heap.size,0,none⟩) 4 4) (mkB4 w):=by
 obtain⟨i0,hi,hz0,hz1,hz2⟩:=info_parts info5
 have h9:=run_makeSlice (P:=Tryz.prog) w 26 5 i0 _ Tryz.underlying26 hi hz0 .i64 .i64 (4:Int) (4:Int) (by omega) (by omega) (by rw [hz1];omega) (by rw [hz2];omega) (by omega)
 rw [h9,hz1,show madeCells (Value.int IntKind.u8 0).cells (Int.toNat 4 * 1)= #[.int .u8 0,.int .u8 0,.int .u8 0,.int .u8 0]from by kernel_rfl]
 rfl
theorem sl_some {A A':Option Addr} {N c c' p m:Nat} {xs:List Int} (w1:World)(hN:N<=c)(hc:c<=maxLen)(hp:p<=N)(hA:RdB w1 (.slice A N c) xs)(h0:0 < N)(h:∀(i:Int) (w:World),i=(p:Int)->(Instr.slice 26 (.slice A N c) (some (.int .i64 i)) none none).run Tryz.prog w=.ok (.slice A' m c') w):∃q,A'=some q:=by
 obtain⟨hl,_,_⟩:=hA.parts
 obtain⟨A0,c0,hv,_,_,h3⟩:=hA
 obtain⟨b5,o5,hA0,_⟩:=h3 (by omega)
 obtain⟨rfl,_,_⟩:A=A0/\N=xs.length/\c=c0:=by simpa using hv
 subst hA0
 have h9:=h (p:Int) w1 rfl
 rw [run_slice_l (P:=Tryz.prog) w1 26 (some ⟨b5,o5,none⟩) N c Tryz.underlying26 .i64 p (by omega) (by omega)]at h9
 have hs:(sizeOf (Tryz.prog.elem 26)).run Tryz.prog w1=.ok 1 w1:=by
  obtain⟨i0,hi,hz0,hz1,hz2⟩:=info_parts info5
  simp [sizeOf,typeInfo,show Tryz.prog.elem 26=5 from by kernel_rfl,hi,hz1]
 rw [hs]at h9
 cases A' with
 | some q=>exact⟨q,rfl⟩
 | none=>
   simp only [Result.andThen,sliced]at h9
   split at h9 <;> simp_all
theorem mkB4_ext (w:World):Ext w (mkB4 w):=ext_alloc w _
theorem four {d:List Int} (h:d.length=4):∃d0 d1 d2 d3,d=[d0,d1,d2,d3]:=by
 match d,h with
 | [d0,d1,d2,d3],_=>exact⟨d0,d1,d2,d3,rfl⟩
theorem rdb4 {w:World} {g:Nat} {te:TypeId} {d0 d1 d2 d3:Int} (h:w.heap[g]?=some (.cells #[.int .u8 d0,.int .u8 d1,.int .u8 d2,.int .u8 d3] te (0,0))):RdB w (.slice (some ⟨g,0,none⟩) 4 4) [d0,d1,d2,d3]:=by
 refine⟨_,_,rfl,Nat.le_refl _,by unfold maxLen;omega,fun _=>⟨g,0,rfl,fun j hj=>?_⟩⟩
 rw [Nat.zero_add]
 have hj':j < 4:=hj
 rcases j with _|_|_|_|j
 ·exact zc h 0 _ rfl
 ·exact zc h 1 _ rfl
 ·exact zc h 2 _ rfl
 ·exact zc h 3 _ rfl
 ·omega
theorem ExtBut.put {b g:Nat} {w w1:World} (h:ExtBut b w w1)(hg:w.heap.size<=g)(k:Nat)(u:Value):ExtBut b w (w1.setCell ⟨g,k,none⟩ u):=
 ⟨h.os,h.tape,h.output,by simpa [World.setCell]using h.size,fun q hq hqb=>(heap_setCell_other w1 ⟨g,k,none⟩ q _ (by simp only [];omega)).trans (h.block q hq hqb)⟩
theorem dek15 (a:ByteArray)(m:Int)(d:List Int)(ha:plainP a)(w1:World)(b:Nat)(v:Value)(hb:w1.heap[b]?=some (.cells #[.string ⟨#[]⟩,.slice none 0 0] 146 (0,0)))(hv:RdB w1 v (sby a++0 :: (numB m 4++d)))(hl:(sby a++0 :: (numB m 4++d)).length<=100000)(hof:v.ownBlock≠some b):
 Calls Tryz.prog 184 #[.pointer (some ⟨b,0,none⟩),v] w1 (Deced b (fun b w2=>∃A c,w2.heap[b]?=some (.cells #[.string a,.slice A d.length c] 146 (0,0))/\RdB w2 (.slice A d.length c) d) w1):=by
 obtain⟨A,c,hvs⟩:=hv.len
 subst hvs
 have HP:=zh hv.parts
 have HV:Hid (RdN b w1 (.slice A (sby a++0 :: (numB m 4++d)).length c) (sby a++0 :: (numB m 4++d))):=zh ⟨hv,fun _=>hof⟩
 have HBK:=zh hb
 have HLT:=zh (zl hb)
 clear hv hof hb
 have hz0:=zc HBK.out 0 (.string ⟨#[]⟩) rfl
 have hy0:=free_slot HBK.out 0
 have hz1:=zc HBK.out 1 (.slice none 0 0) rfl
 have hy1:=free_slot HBK.out 1
 have hln:(sby a++0 :: (numB m 4++d)).length=(sby a).length+(5+d.length):=by simp only [List.length_append,List.length_cons,numB_len];omega
 have HPOS:=zh (plain_pos ha)
 have hcap:=HP.out.2.1
 have hmax:=HP.out.2.2
 rw [hln]at hcap
 obtain⟨A3,c3,h3,h3r⟩:=sl_midr A ((sby a).length+(5+d.length)) c 0 (sby a).length (by omega) hcap hmax
 obtain⟨A4,c4,h4,h4r⟩:=sl_at A ((sby a).length+(5+d.length)) c ((sby a).length+1) (by omega) hcap hmax
 obtain⟨A5,c5,h5,h5r⟩:=sl_at A ((sby a).length+(5+d.length)) c ((sby a).length+1+4) (by omega) hcap hmax
 rw [hln]at HV⊢
 have H3:=h3r b w1 _ HV.out
 rw [List.drop_zero,List.take_left]at H3
 have HR3:=zh H3
 have H5:=h5r b w1 _ HV.out
 rw [show (sby a++0 :: (numB m 4++d)).drop ((sby a).length+1+4)=d from by rw [<-List.drop_drop,<-List.drop_drop,List.drop_left,List.drop_one,List.tail_cons,drop_numB],show(sby a).length+(5+d.length) - ((sby a).length+1+4)=d.length by omega]at H5
 have HR5:=zh H5
 rw [show (sby a).length+(5+d.length) - ((sby a).length+1+4)=d.length by omega]at h5
 rw [show (sby a).length+(5+d.length) - ((sby a).length+1)=4+d.length by omega]at h4
 have h33:=fun w=>h3 0 ((sby a).length:Int) w rfl (by omega)
 have hlt:¬((4:Int)+(d.length:Int) < 4):=by omega
 have hlt2:¬(4+d.length < 4):=by omega
 clear h3 h3r h4r h5r H3 H5
 go_enter Tryz.func184,Tryz.ntmps184
 go_wp2_with (go_at_call 136;refine(idx_found _ _ _ (sby a) _ _ (HV.out.at_ (((Ext.refl w1).but.set _ _).set _ _)).1 HPOS.out).mono ?_;rintro e w3 ⟨rfl,hw3⟩;have HX3:Hid (ExtBut b w1 w3):=zh (by rw [hw3];exact((Ext.refl w1).but.set _ _).set _ _);have HB3:Hid (w3.heap[b]?=some (.cells #[.string ⟨#[]⟩,.slice none 0 0] 146 (0,0))):=zh (by rw [hw3];exact slot_setCell (slot_setCell HBK.out));clear hw3 hz0 hy0 hz1 hy1;have hz0:=zc HB3.out 0 _ rfl;have hy0:=free_slot HB3.out 0;have hz1:=zc HB3.out 1 _ rfl;have hy1:=free_slot HB3.out 1;have hcv:=conv_rd (HR3.out.at_ HX3.out).1;rw [str_sby]at hcv)
 go_ret
 exact⟨rfl,(HX3.out.set _ _).set _ _,_,_,slot_setCell (slot_setCell HB3.out),(HR5.out.at_ ((HX3.out.set _ _).set _ _)).1⟩
theorem dek49 (x:Bool×List Int)(hxl:x.2.length<=200)(hxb:x.1=true->x.2.length=0)(w1:World)(b:Nat)(v:Value)(hb:w1.heap[b]?=some (.cells #[.slice none 0 0] 221 (0,0)))(hv:RdB w1 v (valB x.1 x.2))(hl:(valB x.1 x.2).length<=100000)(hof:v.ownBlock≠some b):
 Calls Tryz.prog 317 #[.pointer (some ⟨b,0,none⟩),v] w1 (Deced b (fun b w2=>∃u,w2.heap[b]?=some (.cells #[u] 221 (0,0))/\isOpt w2 (optV x) u) w1):=by
 obtain⟨A,c,hvs⟩:=hv.len
 subst hvs
 have HP:=zh hv.parts
 have HV:Hid (RdN b w1 (.slice A (valB x.1 x.2).length c) (valB x.1 x.2)):=zh ⟨hv,fun _=>hof⟩
 have HBK:=zh hb
 have HLT:=zh (zl hb)
 clear hv hof hb
 have hz0:=zc HBK.out 0 (.slice none 0 0) rfl
 have hy0:=free_slot HBK.out 0
 obtain⟨x1,x2⟩:=x
 have hcap:=HP.out.2.1
 have hmax:=HP.out.2.2
 cases x1 with
 | true=>
   have e1:valB (true,x2).1 (true,x2).2=numB 4294967295 4:=by simp only [valB,if_true];exact numB_mod4 (-1)
   rw [e1]at HV hcap⊢
   rw [numB_len]at HV hcap⊢
   obtain⟨A4,c4,h4,h4r⟩:=sl_at A 4 c 0 (by omega) hcap hmax
   have H4:=h4r b w1 _ HV.out
   rw [List.drop_zero,Nat.sub_zero]at H4
   have HR4:=zh H4
   rw [Nat.sub_zero]at h4
   have hw:IntKind.i32.wrap 4294967295= -1:=by rw [IntKind.wrap_i32];rfl
   clear h4r H4 HV HP
   go_enter Tryz.func317,Tryz.ntmps317
   go_wp2_with (go_at_call 138;refine(rd32n 4294967295 (by decide) _ _ _ [] _ (by rw [List.append_nil];exact HR4.out.1)).mono ?_;rintro e w6 ⟨rfl,hx6⟩;have HX6:=zh hx6;have HB6:=zh ((hx6.block b HLT.out).trans HBK.out);clear hx6 hz0 hy0;have hz0:=zc HB6.out 0 (.slice none 0 0) rfl;have hy0:=free_slot HB6.out 0)
   go_ret
   exact⟨rfl,HX6.out.but.set _ _,_,slot_setCell HB6.out,rfl⟩
 | false=>
   have e1:valB (false,x2).1 (false,x2).2=numB (x2.length:Int) 4++x2:=by simp only [valB,Bool.false_eq_true,if_false]
   have hln:(numB (x2.length:Int) 4++x2).length=4+x2.length:=by rw [List.length_append,numB_len]
   replace hxl:x2.length<=200:=hxl
   rw [e1]at HV hcap⊢
   rw [hln]at HV hcap⊢
   obtain⟨A4,c4,h4,h4r⟩:=sl_at A (4+x2.length) c 0 (by omega) hcap hmax
   obtain⟨A5,c5,h5,h5r⟩:=sl_at A (4+x2.length) c 4 (by omega) hcap hmax
   have H4:=h4r b w1 _ HV.out
   rw [List.drop_zero,Nat.sub_zero]at H4
   have HR4:=zh H4
   rw [Nat.sub_zero]at h4
   have H5:=h5r b w1 _ HV.out
   rw [drop_numB,show 4+x2.length - 4=x2.length by omega]at H5
   have HR5:=zh H5
   rw [show 4+x2.length - 4=x2.length by omega]at h5
   have hA5:∃p,A5=some p:=sl_some w1 hcap hmax (by omega) HV.out.1 (by omega) h5
   have hw:IntKind.i32.wrap (x2.length:Int)=(x2.length:Int):=by rw [IntKind.wrap_i32];omega
   have hm:((x2.length:Int) == -1)=false:=beq_eq_false_iff_ne.2 (by omega)
   have hm2:¬((x2.length:Int)= -1):=by omega
   have hl0:¬((x2.length:Int) < 0):=by omega
   have hl4:¬((4:Int)+(x2.length:Int) < 4):=by omega
   have HK4:Hid (0<=(x2.length:Int)/\(x2.length:Int) < 4294967296):=zh (by omega)
   clear h4r h5r H4 H5 HV HP
   go_enter Tryz.func317,Tryz.ntmps317
   go_wp2_with (go_at_call 138;refine(rd32n (x2.length:Int) HK4.out _ _ _ x2 _ HR4.out.1).mono ?_;rintro e w6 ⟨rfl,hx6⟩;have HX6:=zh hx6;have HB6:=zh ((hx6.block b HLT.out).trans HBK.out);clear hx6 hz0 hy0;have hz0:=zc HB6.out 0 (.slice none 0 0) rfl;have hy0:=free_slot HB6.out 0)
   go_ret
   obtain⟨p,rfl⟩:=hA5
   exact⟨rfl,HX6.out.but.set _ _,_,slot_setCell HB6.out,p,c5,rfl,(HR5.out.at_ (HX6.out.but.set _ _)).1⟩
theorem dek38 (n:Int)(d:List Int)(hn:0<=n/\n < 4294967296)(hd:d.length=4)(w1:World)(b:Nat)(v:Value)(hb:w1.heap[b]?=some (.cells #[.int .u32 0,.slice none 0 0] 199 (0,0)))(hv:RdB w1 v (numB n 4++d))(hl:(numB n 4++d).length<=100000)(hof:v.ownBlock≠some b):
 Calls Tryz.prog 274 #[.pointer (some ⟨b,0,none⟩),v] w1 (Deced b (fun b w2=>∃A c,w2.heap[b]?=some (.cells #[.int .u32 n,.slice A 4 c] 199 (0,0))/\RdB w2 (.slice A 4 c) d) w1):=by
 obtain⟨A,c,hvs⟩:=hv.len
 subst hvs
 have HP:=zh hv.parts
 have HV:Hid (RdN b w1 (.slice A (numB n 4++d).length c) (numB n 4++d)):=zh ⟨hv,fun _=>hof⟩
 have HBK:=zh hb
 have HLT:=zh (zl hb)
 clear hv hof hb
 have hz0:=zc HBK.out 0 (.int .u32 0) rfl
 have hy0:=free_slot HBK.out 0
 have hz1:=zc HBK.out 1 (.slice none 0 0) rfl
 have hy1:=free_slot HBK.out 1
 obtain⟨d0,d1,d2,d3,rfl⟩:=four hd
 have hcap:=HP.out.2.1
 have hmax:=HP.out.2.2
 have HN:=zh hn
 have hln:(numB n 4++ [d0,d1,d2,d3]).length=8:=by simp only [List.length_append,numB_len,List.length_cons,List.length_nil]
 rw [hln]at hcap HV⊢
 have HT4:=zh (HV.out.take 4 (by omega))
 obtain⟨A4,c4,h4,h4r⟩:=sl_at A 8 c 4 (by omega) hcap hmax
 have H4:=h4r b w1 _ HV.out
 rw [show (numB n 4++ [d0,d1,d2,d3]).drop 4=[d0,d1,d2,d3]from drop_numB _ _ _]at H4
 have HR4:=zh H4
 have hmk:=mkB4_run
 clear h4r H4
 go_enter Tryz.func274,Tryz.ntmps274
 go_wp2_with (first|(go_at_call 138;refine(rd32n n HN.out _ _ _ [] _ (by rw [List.append_nil];have h9:=HT4.out.1;rwa [List.take_left' (numB_len _ _)]at h9)).mono ?_;rintro e w6 ⟨rfl,hx6⟩;have HX6:=zh hx6;have HB6:=zh ((hx6.block b HLT.out).trans HBK.out);clear hx6 hz0 hy0 hz1 hy1;have hz0:=zc HB6.out 0 (.int .u32 0) rfl;have hy0:=free_slot HB6.out 0;have hb7:=fun u=>((mkB4_ext (w6.setCell ⟨b,0,none⟩ u)).block b (zl (slot_setCell HB6.out))).trans (slot_setCell (j:=0) (u:=u) HB6.out);have hz1:=fun u=>zc (hb7 u) 1 (.slice none 0 0) rfl;have hy1:=fun u=>free_slot (hb7 u) 1;clear hb7))
 obtain⟨W,hW⟩:∃W,W=(mkB4 (w6.setCell ⟨b,0,none⟩ (.int .u32 n))).setCell ⟨b,1,none⟩ (.slice (some ⟨w6.heap.size,0,none⟩) 4 4):=⟨_,rfl⟩
 have HLO:Hid (w1.heap.size<=w6.heap.size):=zh HX6.out.size
 have HXW:Hid (ExtBut b w1 W):=zh (by rw [hW];exact(((HX6.out.but.set _ _).trans (mkB4_ext _).but).set _ _))
 have HG:Hid (W.heap[w6.heap.size]?=some (.cells #[.int .u8 0,.int .u8 0,.int .u8 0,.int .u8 0] 5 (0,0))):=zh (by
  rw [hW]
  refine(heap_setCell_other _ _ _ _ (by have:=HLO.out;have:=HLT.out;simp only [ne_eq];omega)).trans ?_
  have h9:=heap_alloc_new (w6.setCell ⟨b,0,none⟩ (.int .u32 n)) (.cells #[.int .u8 0,.int .u8 0,.int .u8 0,.int .u8 0] 5)
  have e9:(w6.setCell ⟨b,0,none⟩ (.int .u32 n)).heap.size=w6.heap.size:=by simp [World.setCell]
  rw [e9]at h9
  exact h9)
 have HBW:Hid (W.heap[b]?=some (.cells #[.int .u32 n,.slice (some ⟨w6.heap.size,0,none⟩) 4 4] 199 (0,0))):=zh (by
  rw [hW]
  exact slot_setCell (((mkB4_ext _).block b (zl (slot_setCell HB6.out))).trans (slot_setCell HB6.out)))
 have HL1:=zh (zc HBW.out 1 _ rfl)
 have HRW:=(HR4.out.at_ HXW.out).1
 rw [<-hW]
 obtain⟨A',c',hv',_,_,h3'⟩:=HRW
 obtain⟨rfl,rfl⟩:A4=A'/\c4=c':=by simpa using hv'
 obtain⟨b6,o6,rfl,hcc⟩:=h3' (by simp)
 have HD0:=zh (hcc 0 (by simp))
 have HD1:=zh (hcc 1 (by simp))
 have HD2:=zh (hcc 2 (by simp))
 have HD3:=zh (hcc 3 (by simp))
 clear hW h3' hcc hv' hz0 hy0 hz1 hy1
 refine wp_region_cutT (J:=fun x=>Ext W x) (R:=Ext) 6 [Sp.eq _ (.pointer (some ⟨b,0,none⟩)),Sp.eq _ (.pointer (some ⟨b,0,none⟩)),Sp.eq _ (.pointer (some ⟨b,1,none⟩)),Sp.eq _ (.slice (some ⟨w6.heap.size,0,none⟩) 4 4),Sp.eq _ (.slice A 8 c),Sp.eq _ (.slice (some ⟨b6,o6,none⟩) 4 c4)] (by kernel_rfl) (by kernel_rfl) ?_ ?_ ?_
 ·exact(Ext.refl W).drew
 ·refine⟨zj,zj,zj,?_,zj,zj,trivial⟩
  ·intro vs w1 hJ hp
   have q2:vs 2=_:=zd hp 2
   have HJ:=zh hJ
   have hq:=hJ.cell HL1.out
   clear hp hJ
   simp only [List.take_succ_cons,List.take_zero,putAll,Nat.reduceAdd]
   go_wp2
   exact⟨rfl,HJ.out,zr,rfl⟩
 ·intro vs w1 hJ hp
  have q0:vs 0=_:=zd hp 0
  have q1:vs 1=_:=zd hp 1
  have q2:vs 2=_:=zd hp 2
  have q3:vs 3=_:=zd hp 3
  have q4:vs 4=_:=zd hp 4
  have q5:vs 5=_:=zd hp 5
  have HJ:=zh hJ
  have HXJ:=zh (HXW.out.trans hJ.but)
  have HGJ:=zh ((hJ.block _ (zl HG.out)).trans HG.out)
  have HBJ:=zh ((hJ.block _ (zl HBW.out)).trans HBW.out)
  have hcp:=copy4g 5 _ w6.heap.size b6 o6 c4 d0 d1 d2 d3 _ rfl HGJ.out (hJ.cell HD0.out) (hJ.cell HD1.out) (hJ.cell HD2.out) (hJ.cell HD3.out)
  clear hp hJ
  simp only [List.drop_succ_cons,List.drop_zero,List.take_succ_cons,List.take_zero,putAll,Nat.reduceAdd,Act.put,q0,q1,q2,q3,q4,q5,List.setIfInBounds_toArray,List.set_cons_zero,List.set_cons_succ]
  clear q0 q1 q2 q3 q4 q5
  go_wp2
  go_ret
  exact⟨rfl,((((HXJ.out.put HLO.out 0 _).put HLO.out 1 _).put HLO.out 2 _).put HLO.out 3 _),_,_,(heap_setCell_other _ _ _ _ (by have:=HLO.out;have:=HLT.out;simp only [ne_eq];omega)).trans ((heap_setCell_other _ _ _ _ (by have:=HLO.out;have:=HLT.out;simp only [ne_eq];omega)).trans ((heap_setCell_other _ _ _ _ (by have:=HLO.out;have:=HLT.out;simp only [ne_eq];omega)).trans ((heap_setCell_other _ _ _ _ (by have:=HLO.out;have:=HLT.out;simp only [ne_eq];omega)).trans (HBJ.out)))),rdb4 (slot_setCell (slot_setCell (slot_setCell (slot_setCell HGJ.out))))⟩
theorem dek1 (n:Int)(d:List Int)(hn:0<=n/\n < 4294967296)(hd:d.length=4)(w1:World)(b:Nat)(v:Value)(hb:w1.heap[b]?=some (.cells #[.int .u32 0,.slice none 0 0] 110 (0,0)))(hv:RdB w1 v (numB 80877102 4++(numB n 4++d)))(hl:(numB 80877102 4++(numB n 4++d)).length<=100000)(hof:v.ownBlock≠some b):
 Calls Tryz.prog 147 #[.pointer (some ⟨b,0,none⟩),v] w1 (Deced b (fun b w2=>∃A c,w2.heap[b]?=some (.cells #[.int .u32 n,.slice A 4 c] 110 (0,0))/\RdB w2 (.slice A 4 c) d) w1):=by
 obtain⟨A,c,hvs⟩:=hv.len
 subst hvs
 have HP:=zh hv.parts
 have HV:Hid (RdN b w1 (.slice A (numB 80877102 4++(numB n 4++d)).length c) (numB 80877102 4++(numB n 4++d))):=zh ⟨hv,fun _=>hof⟩
 have HBK:=zh hb
 have HLT:=zh (zl hb)
 clear hv hof hb
 have hz0:=zc HBK.out 0 (.int .u32 0) rfl
 have hy0:=free_slot HBK.out 0
 have hz1:=zc HBK.out 1 (.slice none 0 0) rfl
 have hy1:=free_slot HBK.out 1
 obtain⟨d0,d1,d2,d3,rfl⟩:=four hd
 have hcap:=HP.out.2.1
 have hmax:=HP.out.2.2
 have HN:=zh hn
 have hln:(numB 80877102 4++(numB n 4++ [d0,d1,d2,d3])).length=12:=by simp only [List.length_append,numB_len,List.length_cons,List.length_nil]
 rw [hln]at hcap HV⊢
 obtain⟨A3,c3,h3,h3r⟩:=sl_at A 12 c 4 (by omega) hcap hmax
 have H3:=h3r b w1 _ HV.out
 rw [drop_numB]at H3
 have HR3:=zh H3
 clear h3r H3
 obtain⟨A4,c4,h4,h4r⟩:=sl_at A 12 c 8 (by omega) hcap hmax
 have H4:=h4r b w1 _ HV.out
 rw [show (numB 80877102 4++(numB n 4++ [d0,d1,d2,d3])).drop 8=[d0,d1,d2,d3]from by rw [show (8:Nat)=4+4 from rfl,<-List.drop_drop,drop_numB,drop_numB]]at H4
 have HR4:=zh H4
 have hmk:=mkB4_run
 clear h4r H4
 go_enter Tryz.func147,Tryz.ntmps147
 go_wp2_with (first|(go_at_call_of 138 A;refine(rd32n 80877102 (by decide) _ _ _ _ _ HV.out.1).mono ?_;rintro e w5 ⟨rfl,hx5⟩;have HX5:=zh hx5;clear hx5)|(go_at_call_of 138 A3;refine(rd32n n HN.out _ _ _ _ _ (HR3.out.at_ HX5.out.but).1).mono ?_;rintro e w6 ⟨rfl,hx6⟩;replace hx6:=HX5.out.trans hx6;have HX6:=zh hx6;have HB6:=zh ((hx6.block b HLT.out).trans HBK.out);clear hx6 hz0 hy0 hz1 hy1;have hz0:=zc HB6.out 0 (.int .u32 0) rfl;have hy0:=free_slot HB6.out 0;have hb7:=fun u=>((mkB4_ext (w6.setCell ⟨b,0,none⟩ u)).block b (zl (slot_setCell HB6.out))).trans (slot_setCell (j:=0) (u:=u) HB6.out);have hz1:=fun u=>zc (hb7 u) 1 (.slice none 0 0) rfl;have hy1:=fun u=>free_slot (hb7 u) 1;clear hb7))
 obtain⟨W,hW⟩:∃W,W=(mkB4 (w6.setCell ⟨b,0,none⟩ (.int .u32 n))).setCell ⟨b,1,none⟩ (.slice (some ⟨w6.heap.size,0,none⟩) 4 4):=⟨_,rfl⟩
 have HLO:Hid (w1.heap.size<=w6.heap.size):=zh HX6.out.size
 have HXW:Hid (ExtBut b w1 W):=zh (by rw [hW];exact(((HX6.out.but.set _ _).trans (mkB4_ext _).but).set _ _))
 have HG:Hid (W.heap[w6.heap.size]?=some (.cells #[.int .u8 0,.int .u8 0,.int .u8 0,.int .u8 0] 5 (0,0))):=zh (by
  rw [hW]
  refine(heap_setCell_other _ _ _ _ (by have:=HLO.out;have:=HLT.out;simp only [ne_eq];omega)).trans ?_
  have h9:=heap_alloc_new (w6.setCell ⟨b,0,none⟩ (.int .u32 n)) (.cells #[.int .u8 0,.int .u8 0,.int .u8 0,.int .u8 0] 5)
  have e9:(w6.setCell ⟨b,0,none⟩ (.int .u32 n)).heap.size=w6.heap.size:=by simp [World.setCell]
  rw [e9]at h9
  exact h9)
 have HBW:Hid (W.heap[b]?=some (.cells #[.int .u32 n,.slice (some ⟨w6.heap.size,0,none⟩) 4 4] 110 (0,0))):=zh (by
  rw [hW]
  exact slot_setCell (((mkB4_ext _).block b (zl (slot_setCell HB6.out))).trans (slot_setCell HB6.out)))
 have HL1:=zh (zc HBW.out 1 _ rfl)
 have HRW:=(HR4.out.at_ HXW.out).1
 rw [<-hW]
 obtain⟨A',c',hv',_,_,h3'⟩:=HRW
 obtain⟨rfl,rfl⟩:A4=A'/\c4=c':=by simpa using hv'
 obtain⟨b6,o6,rfl,hcc⟩:=h3' (by simp)
 have HD0:=zh (hcc 0 (by simp))
 have HD1:=zh (hcc 1 (by simp))
 have HD2:=zh (hcc 2 (by simp))
 have HD3:=zh (hcc 3 (by simp))
 clear hW h3' hcc hv' hz0 hy0 hz1 hy1
 refine wp_region_cutT (J:=fun x=>Ext W x) (R:=Ext) 6 [Sp.eq _ (.pointer (some ⟨b,0,none⟩)),Sp.eq _ (.pointer (some ⟨b,0,none⟩)),Sp.eq _ (.pointer (some ⟨b,1,none⟩)),Sp.eq _ (.slice (some ⟨w6.heap.size,0,none⟩) 4 4),Sp.eq _ (.slice A 12 c),Sp.eq _ (.slice (some ⟨b6,o6,none⟩) 4 c4)] (by kernel_rfl) (by kernel_rfl) ?_ ?_ ?_
 ·exact(Ext.refl W).drew
 ·refine⟨zj,zj,zj,?_,zj,zj,trivial⟩
  ·intro vs w1 hJ hp
   have q2:vs 2=_:=zd hp 2
   have HJ:=zh hJ
   have hq:=hJ.cell HL1.out
   clear hp hJ
   simp only [List.take_succ_cons,List.take_zero,putAll,Nat.reduceAdd]
   go_wp2
   exact⟨rfl,HJ.out,zr,rfl⟩
 ·intro vs w1 hJ hp
  have q0:vs 0=_:=zd hp 0
  have q1:vs 1=_:=zd hp 1
  have q2:vs 2=_:=zd hp 2
  have q3:vs 3=_:=zd hp 3
  have q4:vs 4=_:=zd hp 4
  have q5:vs 5=_:=zd hp 5
  have HJ:=zh hJ
  have HXJ:=zh (HXW.out.trans hJ.but)
  have HGJ:=zh ((hJ.block _ (zl HG.out)).trans HG.out)
  have HBJ:=zh ((hJ.block _ (zl HBW.out)).trans HBW.out)
  have hcp:=copy4g 5 _ w6.heap.size b6 o6 c4 d0 d1 d2 d3 _ rfl HGJ.out (hJ.cell HD0.out) (hJ.cell HD1.out) (hJ.cell HD2.out) (hJ.cell HD3.out)
  clear hp hJ
  simp only [List.drop_succ_cons,List.drop_zero,List.take_succ_cons,List.take_zero,putAll,Nat.reduceAdd,Act.put,q0,q1,q2,q3,q4,q5,List.setIfInBounds_toArray,List.set_cons_zero,List.set_cons_succ]
  clear q0 q1 q2 q3 q4 q5
  go_wp2
  go_ret
  exact⟨rfl,((((HXJ.out.put HLO.out 0 _).put HLO.out 1 _).put HLO.out 2 _).put HLO.out 3 _),_,_,(heap_setCell_other _ _ _ _ (by have:=HLO.out;have:=HLT.out;simp only [ne_eq];omega)).trans ((heap_setCell_other _ _ _ _ (by have:=HLO.out;have:=HLT.out;simp only [ne_eq];omega)).trans ((heap_setCell_other _ _ _ _ (by have:=HLO.out;have:=HLT.out;simp only [ne_eq];omega)).trans ((heap_setCell_other _ _ _ _ (by have:=HLO.out;have:=HLT.out;simp only [ne_eq];omega)).trans (HBJ.out)))),rdb4 (slot_setCell (slot_setCell (slot_setCell (slot_setCell HGJ.out))))⟩
theorem dek32 (d:List Int)(hd:d.length=4)(w1:World)(b:Nat)(v:Value)(hb:w1.heap[b]?=some (.cells #[.int .u8 0,.int .u8 0,.int .u8 0,.int .u8 0] 188 (0,0)))(hv:RdB w1 v (numB 5 4++d))(hl:(numB 5 4++d).length<=100000)(hof:v.ownBlock≠some b):
 Calls Tryz.prog 259 #[.pointer (some ⟨b,0,none⟩),v] w1 (Deced b (fun b w2=>∃d0 d1 d2 d3,d=[d0,d1,d2,d3]/\w2.heap[b]?=some (.cells #[.int .u8 d0,.int .u8 d1,.int .u8 d2,.int .u8 d3] 188 (0,0))) w1):=by
 obtain⟨A,c,hvs⟩:=hv.len
 subst hvs
 have HP:=zh hv.parts
 have HV:Hid (RdN b w1 (.slice A (numB 5 4++d).length c) (numB 5 4++d)):=zh ⟨hv,fun _=>hof⟩
 have HBK:=zh hb
 have HLT:=zh (zl hb)
 clear hv hof hb
 obtain⟨d0,d1,d2,d3,rfl⟩:=four hd
 have hcap:=HP.out.2.1
 have hmax:=HP.out.2.2
 have hln:(numB 5 4++ [d0,d1,d2,d3]).length=8:=by simp only [List.length_append,numB_len,List.length_cons,List.length_nil]
 rw [hln]at hcap HV⊢
 obtain⟨A4,c4,h4,h4r⟩:=sl_midr A 8 c 4 4 (by omega) hcap hmax
 have H4:=h4r b w1 _ HV.out
 rw [drop_numB,show([d0,d1,d2,d3]:List Int).take 4=[d0,d1,d2,d3]from rfl]at H4
 have HR4:=zh H4
 have h44:=fun w=>h4 4 8 w rfl rfl
 clear h4r H4 h4
 go_enter Tryz.func259,Tryz.ntmps259
 go_wp2_with (go_at_call 138;refine(rd32n 5 (by decide) _ _ _ _ _ HV.out.1).mono ?_;rintro e w6 ⟨rfl,hx6⟩;have HX6:=zh hx6;have HB6:=zh ((hx6.block b HLT.out).trans HBK.out);clear hx6)
 have HRW:=(HR4.out.at_ HX6.out.but).1
 obtain⟨A',c',hv',_,_,h3'⟩:=HRW
 obtain⟨rfl,rfl⟩:A4=A'/\c4=c':=by simpa using hv'
 obtain⟨b6,o6,rfl,hcc⟩:=h3' (by simp)
 have HD0:=zh (hcc 0 (by simp))
 have HD1:=zh (hcc 1 (by simp))
 have HD2:=zh (hcc 2 (by simp))
 have HD3:=zh (hcc 3 (by simp))
 clear h3' hcc hv'
 refine wp_region_cutT (J:=fun x=>Ext w6 x) (R:=Ext) 6 [Sp.eq _ (.pointer (some ⟨b,0,none⟩)),Sp.eq _ (.pointer (some ⟨b,0,none⟩)),Sp.eq _ (.pointer (some ⟨b,0,none⟩)),Sp.eq _ (.slice (some ⟨b,0,none⟩) 4 4),Sp.eq _ (.slice A 8 c),Sp.eq _ (.slice (some ⟨b6,o6,none⟩) 4 c4)] (by kernel_rfl) (by kernel_rfl) ?_ ?_ ?_
 ·exact(Ext.refl w6).drew
 ·refine⟨zj,zj,zj,zj,zj,zj,trivial⟩
 ·intro vs w1 hJ hp
  have q0:vs 0=_:=zd hp 0
  have q1:vs 1=_:=zd hp 1
  have q2:vs 2=_:=zd hp 2
  have q3:vs 3=_:=zd hp 3
  have q4:vs 4=_:=zd hp 4
  have q5:vs 5=_:=zd hp 5
  have HXJ:=zh (HX6.out.but (b:=b) |>.trans hJ.but)
  have HBJ:=zh ((hJ.block _ (zl HB6.out)).trans HB6.out)
  have hcp:=copy4g 188 _ b b6 o6 c4 d0 d1 d2 d3 _ rfl HBJ.out (hJ.cell HD0.out) (hJ.cell HD1.out) (hJ.cell HD2.out) (hJ.cell HD3.out)
  clear hp hJ
  simp only [List.drop_succ_cons,List.drop_zero,List.take_succ_cons,List.take_zero,putAll,Nat.reduceAdd,Act.put,q0,q1,q2,q3,q4,q5,List.setIfInBounds_toArray,List.set_cons_zero,List.set_cons_succ]
  clear q0 q1 q2 q3 q4 q5
  go_wp2
  go_ret
  exact⟨rfl,((((HXJ.out.set _ _).set _ _).set _ _).set _ _),d0,d1,d2,d3,rfl,slot_setCell (slot_setCell (slot_setCell (slot_setCell HBJ.out)))⟩
end Go.Proofs.YtdenjanihikolaaGreatDoor
