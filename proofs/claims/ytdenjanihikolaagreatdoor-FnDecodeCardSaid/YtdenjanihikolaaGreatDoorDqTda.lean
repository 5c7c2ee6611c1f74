/- Decode that can: a new array filled from a Buffer. -/
import Derived.Test.YtdenjanihikolaaGreatDoorDqA0
import Derived.Test.YtdenjanihikolaaGreatDoorDqA1
import Derived.Test.YtdenjanihikolaaGreatDoorDqMke
import Derived.Test.YtdenjanihikolaaGreatDoorDqBase
import Derived.Test.YtdenjanihikolaaGreatDoorDqDka
namespace Go.Proofs.YtdenjanihikolaaGreatDoor
set_option linter.unusedVariables false
set_option linter.unusedSimpArgs false
set_option maxRecDepth 100000
open Go.RowKit
theorem info3:(Tryz.prog.info? 3).map (fun i=>(i.zero,i.size,i.bytes))=some (some (.int .i64 0),1,8):=by kernel_rfl
theorem info58:(Tryz.prog.info? 58).map (fun i=>(i.zero,i.size,i.bytes))=some (some (.agg #[.bool false,.slice none 0 0]),2,32):=by kernel_rfl
set_option maxHeartbeats 400000 in
theorem fromShortsK (l:List Int)(A_l:Option Addr)(c_l:Nat)(w:World)(hr:RdI .i16 w (.slice A_l l.length c_l) l)(hl:l.length<=1000)(hg:∀y∈l,0<=y/\y < 32768):
 Calls Tryz.prog 61 #[.slice A_l l.length c_l] w (GaveR (fun v w=>RdI .i64 w v l) l.length w):=by
 have HR:=zh hr
 clear hr
 go_enter Tryz.func61,Tryz.ntmps61
 go_wp2
 go_loopw [3,8] (fun v i wr=>∃k:Nat,k<=l.length/\i=.int .i64 k/\Hid (Row 3 1 (Lt w.heap.size) w wr v k ((l.take k).map (Value.int .i64)))) (fun _ i _=>l.length - (intOf i).toNat)
 case atStart=>exact⟨0,Nat.zero_le _,rfl,zh (by simpa using Row.start 3 1 w)⟩
 case round=>
  rename_i vv0 _
  obtain⟨k,hk1,rfl,HS⟩:=hrel
  obtain⟨Av,cv,hv⟩:=own_slice HS.out.own
  subst hv
  by_cases hlt:k < l.length
  ·obtain⟨b1,o1,rfl,hcell⟩:=HR.out.at_ hlt
   replace hcell:=HS.out.bel.cell hcell
   rw [getD_at hlt]at hcell
   have hgx:=hg _ (List.getElem_mem hlt)
   obtain⟨x,hx⟩:∃x,x=l[k]:=⟨_,rfl⟩
   rw [<-hx]at hcell hgx
   have HX:=zh hx
   clear hx
   have hwr:IntKind.i64.wrap x=x:=by rw [IntKind.wrap_i64];omega
   go_wp2_with (at_builtin;refine ap_built rfl (.tmp 12) (.tmp 15) 23 3 1 8 _ _ _ rfl Tryz.underlying23 info3 rfl (by decide) rfl rfl HS.out rfl rfl (List.all_eq_true.1 rfl) (by omega) (by decide) ?_;intro v2 w2 hn;obtain⟨A2,c2,hv2⟩:=own_slice hn.own;subst hv2;have HN:=zh hn;clear hn)
   go_roundw
   case rel=>
    refine⟨k+1,by omega,by go_num,zh ?_⟩
    rw [List.take_succ_eq_append_getElem hlt,<-HX.out,List.map_append]
    exact HN.out
   case measure=>simp only [intOf];omega
  ·obtain rfl:k=l.length:=by omega
   go_wp2
   go_ret
   have h1:=HS.out
   rw [List.take_length]at h1
   exact⟨_,_,rfl,h1.bel,h1.keepsI⟩
set_option maxHeartbeats 400000 in
theorem fromHalvesK (l:List Int)(A_l:Option Addr)(c_l:Nat)(w:World)(hr:RdI .u16 w (.slice A_l l.length c_l) l)(hl:l.length<=1000)(hg:∀y∈l,0<=y/\y < 32768):
 Calls Tryz.prog 63 #[.slice A_l l.length c_l] w (GaveR (fun v w=>RdI .i64 w v l) l.length w):=by
 have HR:=zh hr
 clear hr
 go_enter Tryz.func63,Tryz.ntmps63
 go_wp2
 go_loopw [3,8] (fun v i wr=>∃k:Nat,k<=l.length/\i=.int .i64 k/\Hid (Row 3 1 (Lt w.heap.size) w wr v k ((l.take k).map (Value.int .i64)))) (fun _ i _=>l.length - (intOf i).toNat)
 case atStart=>exact⟨0,Nat.zero_le _,rfl,zh (by simpa using Row.start 3 1 w)⟩
 case round=>
  rename_i vv0 _
  obtain⟨k,hk1,rfl,HS⟩:=hrel
  obtain⟨Av,cv,hv⟩:=own_slice HS.out.own
  subst hv
  by_cases hlt:k < l.length
  ·obtain⟨b1,o1,rfl,hcell⟩:=HR.out.at_ hlt
   replace hcell:=HS.out.bel.cell hcell
   rw [getD_at hlt]at hcell
   have hgx:=hg _ (List.getElem_mem hlt)
   obtain⟨x,hx⟩:∃x,x=l[k]:=⟨_,rfl⟩
   rw [<-hx]at hcell hgx
   have HX:=zh hx
   clear hx
   have hwr:IntKind.i64.wrap x=x:=by rw [IntKind.wrap_i64];omega
   go_wp2_with (at_builtin;refine ap_built rfl (.tmp 12) (.tmp 15) 23 3 1 8 _ _ _ rfl Tryz.underlying23 info3 rfl (by decide) rfl rfl HS.out rfl rfl (List.all_eq_true.1 rfl) (by omega) (by decide) ?_;intro v2 w2 hn;obtain⟨A2,c2,hv2⟩:=own_slice hn.own;subst hv2;have HN:=zh hn;clear hn)
   go_roundw
   case rel=>
    refine⟨k+1,by omega,by go_num,zh ?_⟩
    rw [List.take_succ_eq_append_getElem hlt,<-HX.out,List.map_append]
    exact HN.out
   case measure=>simp only [intOf];omega
  ·obtain rfl:k=l.length:=by omega
   go_wp2
   go_ret
   have h1:=HS.out
   rw [List.take_length]at h1
   exact⟨_,_,rfl,h1.bel,h1.keepsI⟩
def GaveV (x:Bool×List Int) (w:World):Ending->World->Prop:=fun e w'=>∃A c,e=.returned (.agg #[.bool x.1,.slice A x.2.length c])/\Ext w w'/\Keeps w w' (fun w3=>RdB w3 (.slice A x.2.length c) x.2)
theorem RdB.src {w:World} {A:Option Addr} {c:Nat} {d:List Int} {p:Addr} (h:RdB w (.slice A d.length c) d)(hA:A=some p):∀j u,(bys d)[j]?=some u->w.cell? (p.add j)=some u:=by
 intro j u hj
 obtain⟨A',c',hv,h1,h2,h3⟩:=h
 obtain⟨rfl,rfl⟩:A=A'/\c=c':=by simpa using hv
 have hjl:j < d.length:=by
  rcases Nat.lt_or_ge j d.length with h|h
  ·exact h
  ·simp [bys,List.getElem?_eq_none h]at hj
 obtain⟨b1,o1,hA2,hc⟩:=h3 (by omega)
 have hp:p=⟨b1,o1,none⟩:=by rw [hA]at hA2;simpa using hA2
 rw [hp,add_lit0,hc j hjl]
 unfold bys at hj
 rw [List.getElem?_map,List.getElem?_eq_getElem hjl]at hj
 simp at hj
 subst hj
 simp [List.getD,List.getElem?_eq_getElem hjl]
theorem valueOfN (w:World):Calls Tryz.prog 69 #[.slice none 0 0] w (GaveV (true,[]) w):=by
 have hx:=ext_alloc w (.cells #[.bool false,.slice none 0 0] 58)
 have HO:=zh (heap_alloc_new w (.cells #[.bool false,.slice none 0 0] 58))
 have hz0:=zc HO.out 0 (.bool false) rfl
 have hz1:=zc HO.out 1 (.slice none 0 0) rfl
 have hy0:=free_slot HO.out 0
 have hy1:=free_slot HO.out 1
 have hq:=fun wx=>Lib.run_eql_slice_nil (P:=Tryz.prog) wx 26 5 none 0 0 0 0 Tryz.underlying26
 go_enter Tryz.func69,Tryz.ntmps69
 go_wp2
 (try simp only [Exit.inBlock,Exit.then])
 refine bodyPost_ret (by simp [results,Tryz.results69,go_sem,hz0,hz1];try rfl) rfl ?_
 exact⟨none,0,rfl,ext_alloc w _,fun w3 h3=>RdB.nil w3⟩
theorem valueOfK (d:List Int)(p:Addr)(c:Nat)(w:World)(h:RdB w (.slice (some p) d.length c) d)(hl:d.length<=1000000):Calls Tryz.prog 69 #[.slice (some p) d.length c] w (GaveV (false,d) w):=by
 have X1:Hid (Ext w (w.alloc (.cells #[.bool false,.slice none 0 0] 58))):=zh (ext_alloc w _)
 have HO:Hid ((w.alloc (.cells #[.bool false,.slice none 0 0] 58)).heap[w.heap.size]?=some (.cells #[.bool false,.slice none 0 0] 58 (0,0))):=zh (heap_alloc_new w _)
 have hq:=fun wx=>Lib.run_eql_slice_nil (P:=Tryz.prog) wx 26 5 (some p) d.length c 0 0 Tryz.underlying26
 have HF:=zh (Row.fresh 5 (w.alloc (.cells #[.bool false,.slice none 0 0] 58)) 1)
 have HC:=zh ((h.ext (X1.out.trans (ext_alloc (w.alloc (.cells #[.bool false,.slice none 0 0] 58)) (.cells #[] 5)))).src rfl)
 go_enter Tryz.func69,Tryz.ntmps69
 go_wp2_with (at_builtin;refine ap_many (p:=p) (m:=d.length) (c:=c) (ys:=bys d) rfl (.tmp 6) (.tmp 7) 26 5 1 _ rfl Tryz.underlying26 info5 rfl (by first|rfl|(simp;rfl)) (by simpa using HF.out) rfl (by simp [bys]) HC.out (bys_one d) (by omega) (by decide) ?_;intro a1 c1 w2 hn;have HN:Hid (Row 5 1 (Lt (w.alloc (.cells #[.bool false,.slice none 0 0] 58)).heap.size) (w.alloc (.cells #[.bool false,.slice none 0 0] 58)) w2 (.slice (some a1) d.length c1) d.length (bys d)):=zh (by simpa using hn);clear hn;have hO2:=(HN.out.bel.block _ (zl HO.out)).trans HO.out;have hz0:=zc hO2 0 (.bool false) rfl;have hz1:=zc hO2 1 (.slice none 0 0) rfl;have hy0:=free_slot hO2 0;have hy1:=free_slot hO2 1;clear hO2)
 have hO3:=(HN.out.bel.block _ (zl HO.out)).trans HO.out
 have hr0:=zc hO3 0 (.bool false) rfl
 have hr1:=zc hO3 1 (.slice none 0 0) rfl
 (try simp only [Exit.inBlock,Exit.then])
 first
  | refine bodyPost_ret (by simp [results,Tryz.results69,go_sem,hr0,hr1];try rfl) rfl ?_
  | refine bodyPost_end (by simp [results,Tryz.results69,go_sem,hr0,hr1];try rfl) rfl ?_
 have hn:=HN.out
 refine⟨some a1,c1,rfl,(X1.out.trans hn.bel).set (Nat.le_refl _) 0 _ |>.set (Nat.le_refl _) 1 _,fun w3 h3=>?_⟩
 have hw1:w.heap.size < (w.alloc (.cells #[.bool false,.slice none 0 0] 58)).heap.size:=zl HO.out
 refine RdB.of_own (own_stay (w:=(w.alloc (.cells #[.bool false,.slice none 0 0] 58))) (w':=w2) hn.own hn.off fun k hk hk2=>?_)
 rw [h3 k (by omega) (by simpa [World.setCell]using hk2),heap_setCell_other _ _ _ _ (by simp only [ne_eq];omega),heap_setCell_other _ _ _ _ (by simp only [ne_eq];omega)]
structure ArB (b bb g:Nat) (w1 w:World) (o:Obj) (te:TypeId) (m k:Nat) (xs:List Value) (T:List Int) (cs:Array Value):Prop where
 cur:Cur b w1 bb w T
 blk:w.heap[b]?=some o
 arr:w.heap[g]?=some (.cells cs te (0,0))
 size:cs.size=m
 done:∀j,j < k->cs[j]?=xs[j]?
 lo:w1.heap.size<=g
 ne:g≠bb
theorem Cur.put {bk bb g:Nat} {w1 w:World} {xs:List Int} (h:Cur bk w1 bb w xs)(hg:w1.heap.size<=g)(hne:g≠bb)(k:Nat)(u:Value):Cur bk w1 bb (w.setCell ⟨g,k,none⟩ u) xs:=by
 obtain⟨A,c,hb,hr⟩:=h.blk
 have hoth:∀q,q≠g->(w.setCell ⟨g,k,none⟩ u).heap[q]?=w.heap[q]?:=fun q hq=>heap_setCell_other w ⟨g,k,none⟩ q _ hq
 exact⟨⟨h.bel.os,h.bel.tape,h.bel.output,by simpa [World.setCell]using h.bel.size,fun q hq hqb=>(hoth q (by omega)).trans (h.bel.block q hq hqb)⟩,h.lo,h.hi,A,c,(hoth bb (fun e=>hne e.symm)).trans hb,hr⟩
section
variable {b bb g : Nat} {w1 w w2 : World} {o : Obj} {te : TypeId} {m k : Nat} {xs : List Value} {T T2 : List Int} {cs : Array Value}
theorem ArB.at_ (h:ArB b bb g w1 w o te m k xs T cs)(hk:k < m):cs[k]?=some (cs.getD k undef):=by
 have:=h.size
 have hk':k < cs.size:=by omega
 simp [Array.getD,hk']
theorem ArB.next (h:ArB b bb g w1 w o te m k xs T cs)(hc:Cur b w1 bb w2 T2)(hx:ExtBut bb w w2)(hk:k < m) {u:Value} (hu:xs[k]?=some u):ArB b bb g w1 (w2.setCell ⟨g,k,none⟩ u) o te m (k+1) xs T2 (cs.setIfInBounds k u):=by
 have hs:=h.size
 have hlo:=h.lo
 have hhi:=h.cur.hi
 have hlb:=h.cur.lo
 have hb:=zl h.blk
 have h1:w2.heap[b]?=some o:=(hx.block b hb (by omega)).trans h.blk
 have h2:w2.heap[g]?=some (.cells cs te (0,0)):=(hx.block g (zl h.arr) h.ne).trans h.arr
 refine⟨hc.put hlo h.ne k u,(heap_setCell_other w2 ⟨g,k,none⟩ b _ (by simp only [];omega)).trans h1,slot_setCell h2,by simp [hs],fun j hj=>?_,hlo,h.ne⟩
 by_cases e:j=k
 ·subst e
  rw [hu]
  simp [hs,hk]
 ·rw [<-h.done j (by omega)]
  simp [Array.getElem?_setIfInBounds,Ne.symm e]
theorem ArB.rdI {kd:IntKind} {l:List Int} (h:ArB b bb g w1 w o te l.length l.length (l.map (Value.int kd)) T cs)(hl:l.length<=100000)(hg:w2.heap[g]?=w.heap[g]?):RdI kd w2 (.slice (some ⟨g,0,none⟩) l.length l.length) l:=by
 refine⟨_,_,rfl,Nat.le_refl _,by unfold maxLen;omega,fun _=>⟨g,0,rfl,fun j hj=>?_⟩⟩
 have h1:=h.done j hj
 rw [Nat.zero_add]
 refine zc (hg.trans h.arr) j _ ?_
 rw [h1]
 simp [List.getD,hj]
end
def mkU (m:Nat) (w:World):World:=w.alloc (.cells (madeCells #[.int .u16 0] m) 128)
def mkQ (m:Nat) (w:World):World:=w.alloc (.cells (madeCells #[.int .u32 0] m) 22)
theorem mkU_run (m:Nat)(hm:m<=100000)(w:World):(Instr.makeSlice 126 (.int .i64 m) (.int .i64 m)).run Tryz.prog w=.ok (.slice (some ⟨w.heap.size,0,none⟩) m m) (mkU m w):=by
 obtain⟨i0,hi,hz0,hz1,hz2⟩:=info_parts info128
 have h9:=run_makeSlice (P:=Tryz.prog) w 126 128 i0 _ Tryz.underlying126 hi hz0 .i64 .i64 (m:Int) (m:Int) (by omega) (by omega) (by rw [hz1];omega) (by rw [hz2];omega) (by omega)
 rw [h9,hz1]
 simp only [Int.toNat_natCast,Nat.mul_one]
 rfl
theorem mkQ_run (m:Nat)(hm:m<=100000)(w:World):(Instr.makeSlice 24 (.int .i64 m) (.int .i64 m)).run Tryz.prog w=.ok (.slice (some ⟨w.heap.size,0,none⟩) m m) (mkQ m w):=by
 obtain⟨i0,hi,hz0,hz1,hz2⟩:=info_parts info22
 have h9:=run_makeSlice (P:=Tryz.prog) w 24 22 i0 _ Tryz.underlying24 hi hz0 .i64 .i64 (m:Int) (m:Int) (by omega) (by omega) (by rw [hz1];omega) (by rw [hz2];omega) (by omega)
 rw [h9,hz1]
 simp only [Int.toNat_natCast,Nat.mul_one]
 rfl
theorem mkU_ext (m:Nat)(w:World):Ext w (mkU m w):=ext_alloc w _
theorem mkQ_ext (m:Nat)(w:World):Ext w (mkQ m w):=ext_alloc w _
theorem nums_len4:∀l:List Int,(l.flatMap fun n=>numB n 4).length=l.length * 4
 | []=>rfl
 | x :: l=>by rw [List.flatMap_cons,List.length_append,numB_len,nums_len4 l,List.length_cons];omega
set_option maxHeartbeats 1000000 in
theorem dek42 (n:Int)(l:List Int)(hn:0<=n/\n < 256)(hll:l.length<=20)(hgl:∀y∈l,0<=y/\y < 65536)(w1:World)(b:Nat)(v:Value)(hb:w1.heap[b]?=some (.cells #[.int .u8 0,.slice none 0 0] 205 (0,0)))(hv:RdB w1 v (numB n 1++(numB (l.length:Int) 2++l.flatMap fun n=>numB n 2)))(hl:(numB n 1++(numB (l.length:Int) 2++l.flatMap fun n=>numB n 2)).length<=100000)(hof:v.ownBlock≠some b):
 Calls Tryz.prog 280 #[.pointer (some ⟨b,0,none⟩),v] w1 (Deced b (fun b w2=>∃A c,w2.heap[b]?=some (.cells #[.int .u8 n,.slice A l.length c] 205 (0,0))/\RdI .u16 w2 (.slice A l.length c) l) w1):=by
 have HV:Hid (RdN b w1 v (numB n 1++(numB (l.length:Int) 2++l.flatMap fun n=>numB n 2))):=zh ⟨hv,fun _=>hof⟩
 have HBK:=zh hb
 have HLT:=zh (zl hb)
 clear hv hof hb
 obtain⟨R2,hR2⟩:∃R2,R2=l.flatMap fun n=>numB n 2:=⟨_,rfl⟩
 have h2:R2.length=l.length * 2:=by rw [hR2];exact nums_len2 l
 rw [<-hR2]at HV hl
 have HR2:=zh hR2
 have HGL:=zh hgl
 have HNL:Hid (0<=(l.length:Int)/\(l.length:Int) < 65536):=zh (by omega)
 have hln:(numB n 1++(numB (l.length:Int) 2++R2)).length=3+R2.length:=by simp only [List.length_append,numB_len];omega
 have hn2:n % 256=n:=by omega
 have hmk:=mkU_run l.length (by omega)
 have hwr:IntKind.i64.wrap ((l.length:Int) * 2)=(l.length:Int) * 2:=by rw [IntKind.wrap_i64];omega
 have hlt3:¬((3:Int)+(R2.length:Int) < 3):=by omega
 have heq:(R2.length:Int)=(l.length:Int) * 2:=by omega
 clear hR2 hgl h2
 go_enter Tryz.func280,Tryz.ntmps280
 go_wp2_with (first|(go_at_call 165;refine(cur_new (bk:=b) (w1:=w1) HV.out HLT.out (Ext.refl w1).but).mono ?_;rintro e w2 ⟨rfl,hcu,hx⟩;have HC:=zh hcu;(first|have hbk:=upbe3 hx HLT.out HBK.out|have hbk:=upbe1 hx HLT.out HBK.out|have hbk:=upbe hx HLT.out HBK.out);(try simp only [List.setIfInBounds_toArray,List.set_cons_zero,List.set_cons_succ]at hbk);clear HBK;have HBK:=zh hbk;(try clear hz0);(try clear hy0);have hz0:=zc hbk 0 _ rfl;have hy0:=free_slot hbk 0;(try clear hz1);(try clear hy1);have hz1:=zc hbk 1 _ rfl;have hy1:=free_slot hbk 1;clear hbk;clear hcu hx)|(go_at_call 167;refine(cur_len (by first|exact HC.out|exact HC.out.but (zr.but.set _ _))).mono ?_;rintro e w4 ⟨rfl,hw4⟩;rw [hw4];clear hw4)|(go_at_call 168;refine(cur_piece (by first|exact HC.out|exact HC.out.but (zr.but.set _ _)) _ (by first|(rw [numB_len];rfl)|rfl)).mono ?_;rintro e w5 ⟨A5,c5,rfl,hrn,hcu,hx5⟩;(try clear HN);clear HC;have HC:=zh hcu;have HN:=zh hrn;simp only [Int.reduceToNat];(first|have hbk:=upb3 hx5 HLT.out HBK.out|have hbk:=upb1 hx5 HLT.out HBK.out|have hbk:=upb hx5 HLT.out HBK.out);(try simp only [List.setIfInBounds_toArray,List.set_cons_zero,List.set_cons_succ]at hbk);clear HBK;have HBK:=zh hbk;(try clear hz0);(try clear hy0);have hz0:=zc hbk 0 _ rfl;have hy0:=free_slot hbk 0;(try clear hz1);(try clear hy1);have hz1:=zc hbk 1 _ rfl;have hy1:=free_slot hbk 1;clear hbk;try(have h9:=(HN.out.at_ HC.out.bel).1;rw [show numB n 1=[n % 256]from by simp [numB]]at h9;obtain⟨b5,o5,hA5,hd5⟩:=h9.head;subst hA5;clear h9);clear hcu hrn hx5)|(go_at_call 137;refine(rd16n (l.length:Int) HNL.out _ _ _ [] _ (by rw [List.append_nil];exact(HN.out.at_ HC.out.bel).1)).mono ?_;rintro e w6 ⟨rfl,hx6⟩;have HC6:=zh (HC.out.ext hx6);clear HC;have HC:=HC6;clear HC6;(first|have hbk:=upbe3 hx6 HLT.out HBK.out|have hbk:=upbe1 hx6 HLT.out HBK.out|have hbk:=upbe hx6 HLT.out HBK.out);(try simp only [List.setIfInBounds_toArray,List.set_cons_zero,List.set_cons_succ]at hbk);clear HBK;have HBK:=zh hbk;(try clear hz0);(try clear hy0);have hz0:=zc hbk 0 _ rfl;have hy0:=free_slot hbk 0;(try clear hz1);(try clear hy1);have hz1:=zc hbk 1 _ rfl;have hy1:=free_slot hbk 1;clear hbk;clear hx6))
 have HC0:=HC
 have HB0:=HBK
 clear HC HBK HN hz0 hy0 hz1 hy1
 go_loopw [37] (fun i wr=>∃k:Nat,k<=l.length/\i=.int .i64 k/\∃cs,Hid (ArB b w1.heap.size w6.heap.size w1 wr (.cells #[.int .u8 0,.slice none 0 0] 205 (0,0)) 128 l.length k (l.map (Value.int .u16)) ((l.drop k).flatMap fun n=>numB n 2) cs)) (fun i _=>l.length - (intOf i).toNat)
 case atStart=>
  refine⟨0,Nat.zero_le _,rfl,_,zh ⟨?_,((mkU_ext _ _).block b (zl HB0.out)).trans HB0.out,heap_alloc_new _ _,size_madeCells _ _,fun j hj=>absurd hj (Nat.not_lt_zero _),HC0.out.bel.size,?_⟩⟩
  ·rw [List.drop_zero,<-HR2.out];exact HC0.out.ext (mkU_ext _ _)
  ·obtain⟨_,_,h9,_⟩:=HC0.out.blk
   have:=zl h9
   omega
 case round=>
  obtain⟨k,hk1,rfl,cs,HH⟩:=hrel
  by_cases hlt:k < l.length
  ·obtain⟨x,hx⟩:∃x,x=l[k]:=⟨_,rfl⟩
   have hxr:=HGL.out _ (List.getElem_mem hlt)
   rw [<-hx]at hxr
   have HXR:=zh hxr
   have hu:Hid ((l.map (Value.int .u16))[k]?=some (.int .u16 x)):=zh (by simp [hlt,hx])
   have hc:=HH.out.cur
   rw [List.drop_eq_getElem_cons hlt,List.flatMap_cons,<-hx]at hc
   have HC:=zh hc
   clear hc hx hxr
   go_wp2_with (first|(go_at_call 168;refine(cur_piece HC.out _ (by first|(rw [numB_len];rfl)|rfl)).mono ?_;rintro e w5 ⟨A5,c5,rfl,hrn,hcu,hx5⟩;have HC5:=zh hcu;have HN:=zh hrn;have HX5:=zh hx5;simp only [Int.reduceToNat];clear hcu hrn hx5)|(go_at_call 137;refine(rd16n x HXR.out _ _ _ [] _ (by rw [List.append_nil];exact(HN.out.at_ HC5.out.bel).1)).mono ?_;rintro e w7 ⟨rfl,hx7⟩;have HX7:=zh hx7;have hg7:=(hx7.block _ (Nat.lt_of_lt_of_le (zl HH.out.arr) HX5.out.size)).trans ((HX5.out.block _ (zl HH.out.arr) HH.out.ne).trans HH.out.arr);have hz:=zc hg7 k (cs.getD k undef) (HH.out.at_ hlt);have hy:=free_slot hg7 k;clear hx7 hg7))
   go_roundw
   case rel=>exact⟨k+1,by omega,by go_num,_,zh (HH.out.next (HC5.out.ext HX7.out) (HX5.out.trans HX7.out.but) hlt hu.out)⟩
   case measure=>simp only [intOf];omega
  ·obtain rfl:k=l.length:=by omega
   have hb9:=HH.out.blk
   have hz0:=zc hb9 0 (.int .u8 0) rfl
   have hy0:=free_slot hb9 0
   have hz1:=zc hb9 1 (.slice none 0 0) rfl
   have hy1:=free_slot hb9 1
   clear hb9
   go_wp2
   go_ret
   exact⟨rfl,(HH.out.cur.bel.set _ _).set _ _,_,_,slot_setCell (slot_setCell HH.out.blk),HH.out.rdI (by omega) ((heap_setCell_other _ _ _ _ (by have:=HH.out.lo;have:=HLT.out;simp only [ne_eq];omega)).trans (heap_setCell_other _ _ _ _ (by have:=HH.out.lo;have:=HLT.out;simp only [ne_eq];omega)))⟩
set_option maxHeartbeats 1000000 in
theorem dek43 (n:Int)(l:List Int)(hn:0<=n/\n < 256)(hll:l.length<=20)(hgl:∀y∈l,0<=y/\y < 65536)(w1:World)(b:Nat)(v:Value)(hb:w1.heap[b]?=some (.cells #[.int .u8 0,.slice none 0 0] 207 (0,0)))(hv:RdB w1 v (numB n 1++(numB (l.length:Int) 2++l.flatMap fun n=>numB n 2)))(hl:(numB n 1++(numB (l.length:Int) 2++l.flatMap fun n=>numB n 2)).length<=100000)(hof:v.ownBlock≠some b):
 Calls Tryz.prog 283 #[.pointer (some ⟨b,0,none⟩),v] w1 (Deced b (fun b w2=>∃A c,w2.heap[b]?=some (.cells #[.int .u8 n,.slice A l.length c] 207 (0,0))/\RdI .u16 w2 (.slice A l.length c) l) w1):=by
 have HV:Hid (RdN b w1 v (numB n 1++(numB (l.length:Int) 2++l.flatMap fun n=>numB n 2))):=zh ⟨hv,fun _=>hof⟩
 have HBK:=zh hb
 have HLT:=zh (zl hb)
 clear hv hof hb
 obtain⟨R2,hR2⟩:∃R2,R2=l.flatMap fun n=>numB n 2:=⟨_,rfl⟩
 have h2:R2.length=l.length * 2:=by rw [hR2];exact nums_len2 l
 rw [<-hR2]at HV hl
 have HR2:=zh hR2
 have HGL:=zh hgl
 have HNL:Hid (0<=(l.length:Int)/\(l.length:Int) < 65536):=zh (by omega)
 have hln:(numB n 1++(numB (l.length:Int) 2++R2)).length=3+R2.length:=by simp only [List.length_append,numB_len];omega
 have hn2:n % 256=n:=by omega
 have hmk:=mkU_run l.length (by omega)
 have hwr:IntKind.i64.wrap ((l.length:Int) * 2)=(l.length:Int) * 2:=by rw [IntKind.wrap_i64];omega
 have hlt3:¬((3:Int)+(R2.length:Int) < 3):=by omega
 have heq:(R2.length:Int)=(l.length:Int) * 2:=by omega
 clear hR2 hgl h2
 go_enter Tryz.func283,Tryz.ntmps283
 go_wp2_with (first|(go_at_call 165;refine(cur_new (bk:=b) (w1:=w1) HV.out HLT.out (Ext.refl w1).but).mono ?_;rintro e w2 ⟨rfl,hcu,hx⟩;have HC:=zh hcu;(first|have hbk:=upbe3 hx HLT.out HBK.out|have hbk:=upbe1 hx HLT.out HBK.out|have hbk:=upbe hx HLT.out HBK.out);(try simp only [List.setIfInBounds_toArray,List.set_cons_zero,List.set_cons_succ]at hbk);clear HBK;have HBK:=zh hbk;(try clear hz0);(try clear hy0);have hz0:=zc hbk 0 _ rfl;have hy0:=free_slot hbk 0;(try clear hz1);(try clear hy1);have hz1:=zc hbk 1 _ rfl;have hy1:=free_slot hbk 1;clear hbk;clear hcu hx)|(go_at_call 167;refine(cur_len (by first|exact HC.out|exact HC.out.but (zr.but.set _ _))).mono ?_;rintro e w4 ⟨rfl,hw4⟩;rw [hw4];clear hw4)|(go_at_call 168;refine(cur_piece (by first|exact HC.out|exact HC.out.but (zr.but.set _ _)) _ (by first|(rw [numB_len];rfl)|rfl)).mono ?_;rintro e w5 ⟨A5,c5,rfl,hrn,hcu,hx5⟩;(try clear HN);clear HC;have HC:=zh hcu;have HN:=zh hrn;simp only [Int.reduceToNat];(first|have hbk:=upb3 hx5 HLT.out HBK.out|have hbk:=upb1 hx5 HLT.out HBK.out|have hbk:=upb hx5 HLT.out HBK.out);(try simp only [List.setIfInBounds_toArray,List.set_cons_zero,List.set_cons_succ]at hbk);clear HBK;have HBK:=zh hbk;(try clear hz0);(try clear hy0);have hz0:=zc hbk 0 _ rfl;have hy0:=free_slot hbk 0;(try clear hz1);(try clear hy1);have hz1:=zc hbk 1 _ rfl;have hy1:=free_slot hbk 1;clear hbk;try(have h9:=(HN.out.at_ HC.out.bel).1;rw [show numB n 1=[n % 256]from by simp [numB]]at h9;obtain⟨b5,o5,hA5,hd5⟩:=h9.head;subst hA5;clear h9);clear hcu hrn hx5)|(go_at_call 137;refine(rd16n (l.length:Int) HNL.out _ _ _ [] _ (by rw [List.append_nil];exact(HN.out.at_ HC.out.bel).1)).mono ?_;rintro e w6 ⟨rfl,hx6⟩;have HC6:=zh (HC.out.ext hx6);clear HC;have HC:=HC6;clear HC6;(first|have hbk:=upbe3 hx6 HLT.out HBK.out|have hbk:=upbe1 hx6 HLT.out HBK.out|have hbk:=upbe hx6 HLT.out HBK.out);(try simp only [List.setIfInBounds_toArray,List.set_cons_zero,List.set_cons_succ]at hbk);clear HBK;have HBK:=zh hbk;(try clear hz0);(try clear hy0);have hz0:=zc hbk 0 _ rfl;have hy0:=free_slot hbk 0;(try clear hz1);(try clear hy1);have hz1:=zc hbk 1 _ rfl;have hy1:=free_slot hbk 1;clear hbk;clear hx6))
 have HC0:=HC
 have HB0:=HBK
 clear HC HBK HN hz0 hy0 hz1 hy1
 go_loopw [37] (fun i wr=>∃k:Nat,k<=l.length/\i=.int .i64 k/\∃cs,Hid (ArB b w1.heap.size w6.heap.size w1 wr (.cells #[.int .u8 0,.slice none 0 0] 207 (0,0)) 128 l.length k (l.map (Value.int .u16)) ((l.drop k).flatMap fun n=>numB n 2) cs)) (fun i _=>l.length - (intOf i).toNat)
 case atStart=>
  refine⟨0,Nat.zero_le _,rfl,_,zh ⟨?_,((mkU_ext _ _).block b (zl HB0.out)).trans HB0.out,heap_alloc_new _ _,size_madeCells _ _,fun j hj=>absurd hj (Nat.not_lt_zero _),HC0.out.bel.size,?_⟩⟩
  ·rw [List.drop_zero,<-HR2.out];exact HC0.out.ext (mkU_ext _ _)
  ·obtain⟨_,_,h9,_⟩:=HC0.out.blk
   have:=zl h9
   omega
 case round=>
  obtain⟨k,hk1,rfl,cs,HH⟩:=hrel
  by_cases hlt:k < l.length
  ·obtain⟨x,hx⟩:∃x,x=l[k]:=⟨_,rfl⟩
   have hxr:=HGL.out _ (List.getElem_mem hlt)
   rw [<-hx]at hxr
   have HXR:=zh hxr
   have hu:Hid ((l.map (Value.int .u16))[k]?=some (.int .u16 x)):=zh (by simp [hlt,hx])
   have hc:=HH.out.cur
   rw [List.drop_eq_getElem_cons hlt,List.flatMap_cons,<-hx]at hc
   have HC:=zh hc
   clear hc hx hxr
   go_wp2_with (first|(go_at_call 168;refine(cur_piece HC.out _ (by first|(rw [numB_len];rfl)|rfl)).mono ?_;rintro e w5 ⟨A5,c5,rfl,hrn,hcu,hx5⟩;have HC5:=zh hcu;have HN:=zh hrn;have HX5:=zh hx5;simp only [Int.reduceToNat];clear hcu hrn hx5)|(go_at_call 137;refine(rd16n x HXR.out _ _ _ [] _ (by rw [List.append_nil];exact(HN.out.at_ HC5.out.bel).1)).mono ?_;rintro e w7 ⟨rfl,hx7⟩;have HX7:=zh hx7;have hg7:=(hx7.block _ (Nat.lt_of_lt_of_le (zl HH.out.arr) HX5.out.size)).trans ((HX5.out.block _ (zl HH.out.arr) HH.out.ne).trans HH.out.arr);have hz:=zc hg7 k (cs.getD k undef) (HH.out.at_ hlt);have hy:=free_slot hg7 k;clear hx7 hg7))
   go_roundw
   case rel=>exact⟨k+1,by omega,by go_num,_,zh (HH.out.next (HC5.out.ext HX7.out) (HX5.out.trans HX7.out.but) hlt hu.out)⟩
   case measure=>simp only [intOf];omega
  ·obtain rfl:k=l.length:=by omega
   have hb9:=HH.out.blk
   have hz0:=zc hb9 0 (.int .u8 0) rfl
   have hy0:=free_slot hb9 0
   have hz1:=zc hb9 1 (.slice none 0 0) rfl
   have hy1:=free_slot hb9 1
   clear hb9
   go_wp2
   go_ret
   exact⟨rfl,(HH.out.cur.bel.set _ _).set _ _,_,_,slot_setCell (slot_setCell HH.out.blk),HH.out.rdI (by omega) ((heap_setCell_other _ _ _ _ (by have:=HH.out.lo;have:=HLT.out;simp only [ne_eq];omega)).trans (heap_setCell_other _ _ _ _ (by have:=HH.out.lo;have:=HLT.out;simp only [ne_eq];omega)))⟩
set_option maxHeartbeats 1000000 in
theorem dek44 (n:Int)(l:List Int)(hn:0<=n/\n < 256)(hll:l.length<=20)(hgl:∀y∈l,0<=y/\y < 65536)(w1:World)(b:Nat)(v:Value)(hb:w1.heap[b]?=some (.cells #[.int .u8 0,.slice none 0 0] 209 (0,0)))(hv:RdB w1 v (numB n 1++(numB (l.length:Int) 2++l.flatMap fun n=>numB n 2)))(hl:(numB n 1++(numB (l.length:Int) 2++l.flatMap fun n=>numB n 2)).length<=100000)(hof:v.ownBlock≠some b):
 Calls Tryz.prog 286 #[.pointer (some ⟨b,0,none⟩),v] w1 (Deced b (fun b w2=>∃A c,w2.heap[b]?=some (.cells #[.int .u8 n,.slice A l.length c] 209 (0,0))/\RdI .u16 w2 (.slice A l.length c) l) w1):=by
 have HV:Hid (RdN b w1 v (numB n 1++(numB (l.length:Int) 2++l.flatMap fun n=>numB n 2))):=zh ⟨hv,fun _=>hof⟩
 have HBK:=zh hb
 have HLT:=zh (zl hb)
 clear hv hof hb
 obtain⟨R2,hR2⟩:∃R2,R2=l.flatMap fun n=>numB n 2:=⟨_,rfl⟩
 have h2:R2.length=l.length * 2:=by rw [hR2];exact nums_len2 l
 rw [<-hR2]at HV hl
 have HR2:=zh hR2
 have HGL:=zh hgl
 have HNL:Hid (0<=(l.length:Int)/\(l.length:Int) < 65536):=zh (by omega)
 have hln:(numB n 1++(numB (l.length:Int) 2++R2)).length=3+R2.length:=by simp only [List.length_append,numB_len];omega
 have hn2:n % 256=n:=by omega
 have hmk:=mkU_run l.length (by omega)
 have hwr:IntKind.i64.wrap ((l.length:Int) * 2)=(l.length:Int) * 2:=by rw [IntKind.wrap_i64];omega
 have hlt3:¬((3:Int)+(R2.length:Int) < 3):=by omega
 have heq:(R2.length:Int)=(l.length:Int) * 2:=by omega
 clear hR2 hgl h2
 go_enter Tryz.func286,Tryz.ntmps286
 go_wp2_with (first|(go_at_call 165;refine(cur_new (bk:=b) (w1:=w1) HV.out HLT.out (Ext.refl w1).but).mono ?_;rintro e w2 ⟨rfl,hcu,hx⟩;have HC:=zh hcu;(first|have hbk:=upbe3 hx HLT.out HBK.out|have hbk:=upbe1 hx HLT.out HBK.out|have hbk:=upbe hx HLT.out HBK.out);(try simp only [List.setIfInBounds_toArray,List.set_cons_zero,List.set_cons_succ]at hbk);clear HBK;have HBK:=zh hbk;(try clear hz0);(try clear hy0);have hz0:=zc hbk 0 _ rfl;have hy0:=free_slot hbk 0;(try clear hz1);(try clear hy1);have hz1:=zc hbk 1 _ rfl;have hy1:=free_slot hbk 1;clear hbk;clear hcu hx)|(go_at_call 167;refine(cur_len (by first|exact HC.out|exact HC.out.but (zr.but.set _ _))).mono ?_;rintro e w4 ⟨rfl,hw4⟩;rw [hw4];clear hw4)|(go_at_call 168;refine(cur_piece (by first|exact HC.out|exact HC.out.but (zr.but.set _ _)) _ (by first|(rw [numB_len];rfl)|rfl)).mono ?_;rintro e w5 ⟨A5,c5,rfl,hrn,hcu,hx5⟩;(try clear HN);clear HC;have HC:=zh hcu;have HN:=zh hrn;simp only [Int.reduceToNat];(first|have hbk:=upb3 hx5 HLT.out HBK.out|have hbk:=upb1 hx5 HLT.out HBK.out|have hbk:=upb hx5 HLT.out HBK.out);(try simp only [List.setIfInBounds_toArray,List.set_cons_zero,List.set_cons_succ]at hbk);clear HBK;have HBK:=zh hbk;(try clear hz0);(try clear hy0);have hz0:=zc hbk 0 _ rfl;have hy0:=free_slot hbk 0;(try clear hz1);(try clear hy1);have hz1:=zc hbk 1 _ rfl;have hy1:=free_slot hbk 1;clear hbk;try(have h9:=(HN.out.at_ HC.out.bel).1;rw [show numB n 1=[n % 256]from by simp [numB]]at h9;obtain⟨b5,o5,hA5,hd5⟩:=h9.head;subst hA5;clear h9);clear hcu hrn hx5)|(go_at_call 137;refine(rd16n (l.length:Int) HNL.out _ _ _ [] _ (by rw [List.append_nil];exact(HN.out.at_ HC.out.bel).1)).mono ?_;rintro e w6 ⟨rfl,hx6⟩;have HC6:=zh (HC.out.ext hx6);clear HC;have HC:=HC6;clear HC6;(first|have hbk:=upbe3 hx6 HLT.out HBK.out|have hbk:=upbe1 hx6 HLT.out HBK.out|have hbk:=upbe hx6 HLT.out HBK.out);(try simp only [List.setIfInBounds_toArray,List.set_cons_zero,List.set_cons_succ]at hbk);clear HBK;have HBK:=zh hbk;(try clear hz0);(try clear hy0);have hz0:=zc hbk 0 _ rfl;have hy0:=free_slot hbk 0;(try clear hz1);(try clear hy1);have hz1:=zc hbk 1 _ rfl;have hy1:=free_slot hbk 1;clear hbk;clear hx6))
 have HC0:=HC
 have HB0:=HBK
 clear HC HBK HN hz0 hy0 hz1 hy1
 go_loopw [37] (fun i wr=>∃k:Nat,k<=l.length/\i=.int .i64 k/\∃cs,Hid (ArB b w1.heap.size w6.heap.size w1 wr (.cells #[.int .u8 0,.slice none 0 0] 209 (0,0)) 128 l.length k (l.map (Value.int .u16)) ((l.drop k).flatMap fun n=>numB n 2) cs)) (fun i _=>l.length - (intOf i).toNat)
 case atStart=>
  refine⟨0,Nat.zero_le _,rfl,_,zh ⟨?_,((mkU_ext _ _).block b (zl HB0.out)).trans HB0.out,heap_alloc_new _ _,size_madeCells _ _,fun j hj=>absurd hj (Nat.not_lt_zero _),HC0.out.bel.size,?_⟩⟩
  ·rw [List.drop_zero,<-HR2.out];exact HC0.out.ext (mkU_ext _ _)
  ·obtain⟨_,_,h9,_⟩:=HC0.out.blk
   have:=zl h9
   omega
 case round=>
  obtain⟨k,hk1,rfl,cs,HH⟩:=hrel
  by_cases hlt:k < l.length
  ·obtain⟨x,hx⟩:∃x,x=l[k]:=⟨_,rfl⟩
   have hxr:=HGL.out _ (List.getElem_mem hlt)
   rw [<-hx]at hxr
   have HXR:=zh hxr
   have hu:Hid ((l.map (Value.int .u16))[k]?=some (.int .u16 x)):=zh (by simp [hlt,hx])
   have hc:=HH.out.cur
   rw [List.drop_eq_getElem_cons hlt,List.flatMap_cons,<-hx]at hc
   have HC:=zh hc
   clear hc hx hxr
   go_wp2_with (first|(go_at_call 168;refine(cur_piece HC.out _ (by first|(rw [numB_len];rfl)|rfl)).mono ?_;rintro e w5 ⟨A5,c5,rfl,hrn,hcu,hx5⟩;have HC5:=zh hcu;have HN:=zh hrn;have HX5:=zh hx5;simp only [Int.reduceToNat];clear hcu hrn hx5)|(go_at_call 137;refine(rd16n x HXR.out _ _ _ [] _ (by rw [List.append_nil];exact(HN.out.at_ HC5.out.bel).1)).mono ?_;rintro e w7 ⟨rfl,hx7⟩;have HX7:=zh hx7;have hg7:=(hx7.block _ (Nat.lt_of_lt_of_le (zl HH.out.arr) HX5.out.size)).trans ((HX5.out.block _ (zl HH.out.arr) HH.out.ne).trans HH.out.arr);have hz:=zc hg7 k (cs.getD k undef) (HH.out.at_ hlt);have hy:=free_slot hg7 k;clear hx7 hg7))
   go_roundw
   case rel=>exact⟨k+1,by omega,by go_num,_,zh (HH.out.next (HC5.out.ext HX7.out) (HX5.out.trans HX7.out.but) hlt hu.out)⟩
   case measure=>simp only [intOf];omega
  ·obtain rfl:k=l.length:=by omega
   have hb9:=HH.out.blk
   have hz0:=zc hb9 0 (.int .u8 0) rfl
   have hy0:=free_slot hb9 0
   have hz1:=zc hb9 1 (.slice none 0 0) rfl
   have hy1:=free_slot hb9 1
   clear hb9
   go_wp2
   go_ret
   exact⟨rfl,(HH.out.cur.bel.set _ _).set _ _,_,_,slot_setCell (slot_setCell HH.out.blk),HH.out.rdI (by omega) ((heap_setCell_other _ _ _ _ (by have:=HH.out.lo;have:=HLT.out;simp only [ne_eq];omega)).trans (heap_setCell_other _ _ _ _ (by have:=HH.out.lo;have:=HLT.out;simp only [ne_eq];omega)))⟩
end Go.Proofs.YtdenjanihikolaaGreatDoor
