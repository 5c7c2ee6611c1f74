/- Decode that can: FunctionCall. -/
import Derived.Test.YtdenjanihikolaaGreatDoorDqA0
import Derived.Test.YtdenjanihikolaaGreatDoorDqA1
import Derived.Test.YtdenjanihikolaaGreatDoorDqDkf
import Derived.Test.YtdenjanihikolaaGreatDoorDqDcf
import Derived.Test.YtdenjanihikolaaGreatDoorDqMke
namespace Go.Proofs.YtdenjanihikolaaGreatDoor
set_option linter.unusedVariables false
set_option linter.unusedSimpArgs false
set_option maxRecDepth 100000
open Go.RowKit Og
theorem sl_mids (w0:World)(a:Addr)(N c p n:Nat)(hp:p+n<=N)(hN:N<=c)(hc:c<=maxLen):∃q c',(∀(i j:Int) (w:World),i=(p:Int)->j=(p:Int)+(n:Int)->(Instr.slice 26 (.slice (some a) N c) (some (.int .i64 i)) (some (.int .i64 j)) none).run Tryz.prog w=.ok (.slice (some q) n c') w)/\∀(b:Nat) (w:World) (xs:List Int),RdN b w (.slice (some a) N c) xs->RdN b w (.slice (some q) n c') ((xs.drop p).take n):=by
 obtain⟨A',c',h4,h5⟩:=sl_midr (some a) N c p n hp hN hc
 cases A' with
 | some q=>exact⟨q,c',h4,h5⟩
 | none=>
   exfalso
   have h9:=h4 (p:Int) ((p:Int)+(n:Int)) w0 rfl rfl
   rw [run_slice_lh (P:=Tryz.prog) w0 26 (some a) N c Tryz.underlying26 .i64 .i64 p ((p:Int)+(n:Int)) (by omega) (by omega) (by omega)]at h9
   have hs:(sizeOf (Tryz.prog.elem 26)).run Tryz.prog w0=.ok 1 w0:=by
    obtain⟨i0,hi,hz0,hz1,hz2⟩:=info_parts info5
    simp [sizeOf,typeInfo,show Tryz.prog.elem 26=5 from by kernel_rfl,hi,hz1]
   rw [hs]at h9
   simp only [Result.andThen,sliced]at h9
   split at h9 <;> simp_all
theorem sl_mid3 (a:Addr)(N c p n:Nat)(hp:p+n<=N)(hN:N<=c)(hc:c<=maxLen):∃q,(∀(i j k:Int) (w:World),i=(p:Int)->j=(p:Int)+(n:Int)->k=(p:Int)+(n:Int)->(Instr.slice 26 (.slice (some a) N c) (some (.int .i64 i)) (some (.int .i64 j)) (some (.int .i64 k))).run Tryz.prog w=.ok (.slice (some q) n n) w)/\∀(b:Nat) (w:World) (xs:List Int),RdN b w (.slice (some a) N c) xs->RdN b w (.slice (some q) n n) ((xs.drop p).take n):=by
 refine⟨if n=0 then a else a.add p,fun i j k w hi hj hk=>?_,fun b w xs h=>?_⟩
 ·subst hi;subst hj;subst hk
  rw [run_slice_lhm (P:=Tryz.prog) w 26 (some a) N c Tryz.underlying26 .i64 .i64 .i64 p ((p:Int)+(n:Int)) ((p:Int)+(n:Int)) (by omega) (by omega) (by omega) (by omega)]
  have hs:(sizeOf (Tryz.prog.elem 26)).run Tryz.prog w=.ok 1 w:=by
   obtain⟨i0,hi,hz0,hz1,hz2⟩:=info_parts info5
   simp [sizeOf,typeInfo,show Tryz.prog.elem 26=5 from by kernel_rfl,hi,hz1]
  rw [hs]
  have h9:((p:Int)+(n:Int)).toNat=p+n:=by omega
  by_cases e:n=0
  ·subst e;simp [Result.andThen,sliced]
  ·have e2:¬(p+n=p):=by omega
   simp [Result.andThen,sliced,h9,e,e2]
 ·obtain⟨rfl,h6,h7⟩:=h.1.parts
  by_cases e:n=0
  ·subst e;exact RdN.none _ 0 0 _ rfl rfl (Nat.zero_le _)
  ·rw [if_neg e]
   exact h.sub (l:=p) (n:=n) (by omega) (fun _=>rfl) n (by omega)
structure DrT (b g:Nat) (wd w:World) (o:Obj) (te:TypeId) (m N:Nat) (xs:List Int) (p:Nat) (R:List Int) (cs:Array Value) (P:Nat->Value->Prop) (z0:Value) (k:Nat):Prop where
 len:N=p+R.length
 rest:xs.drop p=R
 bel:ExtBut b wd w
 blk:w.heap[b]?=some o
 arr:w.heap[g]?=some (.cells cs te (0,0))
 size:cs.size=m
 lo:wd.heap.size<=g
 done:∀j,j < k->∃u,cs[j]?=some u/\P j u
 todo:∀j,k<=j->j < m->cs[j]?=some z0
section
variable {b g : Nat} {wd w w2 : World} {o : Obj} {te : TypeId} {m N p k : Nat} {xs R R2 B : List Int} {cs : Array Value} {P : Nat → Value → Prop} {z0 : Value}
theorem DrT.at_ (h:DrT b g wd w o te m N xs p R cs P z0 k)(hk:k < m):cs[k]?=some z0:=h.todo k (Nat.le_refl _) hk
theorem DrT.skip (h:DrT b g wd w o te m N xs p R cs P z0 k)(hx:Ext w w2)(hR:R=B++R2) {q:Nat} (hq:B.length=q):DrT b g wd w2 o te m N xs (p+q) R2 cs P z0 k:=by
 subst hq
 exact⟨by rw [h.len,hR,List.length_append];omega,by rw [<-List.drop_drop,h.rest,hR,List.drop_left],h.bel.trans hx.but,(hx.block b (zl h.blk)).trans h.blk,(hx.block g (zl h.arr)).trans h.arr,h.size,h.lo,h.done,h.todo⟩
theorem DrT.pass (h:DrT b g wd w o te m N xs p R cs P z0 k)(hk:k < m)(hu:P k z0):DrT b g wd w o te m N xs p R cs P z0 (k+1):=by
 refine⟨h.len,h.rest,h.bel,h.blk,h.arr,h.size,h.lo,fun j hj=>?_,fun j h1 h2=>h.todo j (by omega) h2⟩
 by_cases e:j=k
 ·subst e;exact⟨z0,h.at_ hk,hu⟩
 ·exact h.done j (by omega)
theorem DrT.put (h:DrT b g wd w o te m N xs p R cs P z0 k)(hb:b < wd.heap.size)(hk:k < m) {u:Value} (hu:P k u):DrT b g wd (w.setCell ⟨g,k,none⟩ u) o te m N xs p R (cs.setIfInBounds k u) P z0 (k+1):=by
 have hlo:=h.lo
 have hs:=h.size
 have hoth:∀q,q≠g->(w.setCell ⟨g,k,none⟩ u).heap[q]?=w.heap[q]?:=fun q hq=>heap_setCell_other w ⟨g,k,none⟩ q _ hq
 refine⟨h.len,h.rest,⟨h.bel.os,h.bel.tape,h.bel.output,by simpa [World.setCell]using h.bel.size,fun q hq hqb=>(hoth q (by omega)).trans (h.bel.block q hq hqb)⟩,(hoth b (by omega)).trans h.blk,slot_setCell h.arr,by simp [hs],hlo,fun j hj=>?_,fun j h1 h2=>?_⟩
 ·by_cases e:j=k
  ·subst e;exact⟨u,by simp [hs,hk],hu⟩
  ·obtain⟨u',h3,h4⟩:=h.done j (by omega)
   exact⟨u',by rw [<-h3];simp [Array.getElem?_setIfInBounds,Ne.symm e],h4⟩
 ·rw [<-h.todo j (by omega) h2]
  have e:j≠k:=by omega
  simp [Array.getElem?_setIfInBounds,Ne.symm e]
end
def OptAt (b:Nat) (wd:World) (x:Bool×List Int) (u:Value):Prop:=∀w',ExtBut b wd w'->isOpt w' (optV x) u
theorem OptAt.of {b:Nat} {wd:World} {x2:List Int} {q:Addr} {c:Nat} (h:RdN b wd (.slice (some q) x2.length c) x2):OptAt b wd (false,x2) (.slice (some q) x2.length c):=fun w' hw=>⟨q,c,rfl,(h.at_ hw).1⟩
theorem OptAt.nul {b:Nat} {wd:World} {x2:List Int} :OptAt b wd (true,x2) (.slice none 0 0):=fun w' hw=>rfl
theorem rd1_arr {b g c m:Nat} {wd w:World} {te:TypeId} {l:List (Bool×List Int)} {cs:Array Value} (ha:w.heap[g]?=some (.cells cs te (0,0)))(hd:∀j,j < l.length->∃u,cs[j]?=some u/\OptAt b wd (l.getD j (true,[])) u)(hx:ExtBut b wd w)(hc:l.length<=c)(hm:c<=maxLen):Rd1 isOpt w (.slice (some ⟨g,0,none⟩) l.length c) (l.map optV):=by
 refine⟨_,_,by rw [List.length_map],by rw [List.length_map];exact hc,hm,fun _=>⟨g,0,rfl,fun j hj=>?_⟩⟩
 rw [List.length_map]at hj
 obtain⟨u,h1,h2⟩:=hd j hj
 refine⟨u,?_,?_⟩
 ·rw [Nat.zero_add];exact zc ha j u h1
 ·have:=h2 w hx
  simpa [List.getD,hj]using this
set_option maxHeartbeats 2000000 in
theorem dek45 (l:List (Bool×List Int))(hll:l.length<=20)(hlr:∀y∈l,y.2.length<=200)(wd:World)(b:Nat)(v:Value)(hb:wd.heap[b]?=some (.cells #[.slice none 0 0] 212 (0,0)))(hv:RdB wd v (numB (l.length:Int) 2++l.flatMap fun x=>valB x.1 x.2))(hl:(numB (l.length:Int) 2++l.flatMap fun x=>valB x.1 x.2).length<=100000)(hof:v.ownBlock≠some b):
 Calls Tryz.prog 289 #[.pointer (some ⟨b,0,none⟩),v] wd (Deced b (fun b w2=>∃A c,w2.heap[b]?=some (.cells #[.slice A l.length c] 212 (0,0))/\Rd1 isOpt w2 (.slice A l.length c) (l.map optV)) wd):=by
 obtain⟨R,hRR⟩:∃R,R=l.flatMap fun x=>valB x.1 x.2:=⟨_,rfl⟩
 rw [<-hRR]at hv hl
 have HRR:=zh hRR
 clear hRR
 obtain⟨A,c,hvA⟩:=hv.len
 subst hvA
 have HV:Hid (RdN b wd (.slice A (numB (l.length:Int) 2++R).length c) (numB (l.length:Int) 2++R)):=zh ⟨hv,fun _=>hof⟩
 have HLT:=zh (zl hb)
 have HBK:=zh hb
 have HLR:=zh hlr
 have hck0:=zc hb 0 _ rfl
 have hfk0:=free_slot hb 0
 have HX:Hid (ExtBut b wd wd):=zh (Ext.refl wd).but
 clear hof hb hlr
 obtain⟨N,hN⟩:∃m,m=(numB (l.length:Int) 2++R).length:=⟨_,rfl⟩
 have HN2:Hid (N=2+R.length):=zh (by rw [hN];simp only [List.length_append,numB_len])
 have hN2:2<=N:=by rw [HN2.out];omega
 have hcap:=hv.parts.2.1
 have HCM:=zh hv.parts.2.2
 rw [<-hN]at hcap HV hl
 rw [<-hN]
 have HNL:Hid (0<=(l.length:Int)/\(l.length:Int) < 65536):=zh (by omega)
 obtain⟨xs0,hxs0⟩:∃y,y=numB (l.length:Int) 2++R:=⟨_,rfl⟩
 have HXS:=zh hxs0.symm
 rw [<-hxs0]at HV
 obtain⟨b1,o1,hA⟩:∃b1 o1,A=some ⟨b1,o1,none⟩:=by
  obtain⟨A',c',hv',_,_,h3⟩:=hv
  obtain⟨rfl,_⟩:A=A'/\_:=by simpa using hv'
  obtain⟨b1,o1,hA,_⟩:=h3 (by simp only [List.length_append,numB_len];omega)
  exact⟨b1,o1,hA⟩
 subst hA
 by_cases hln:0 < l.length
 ·have hgt:(0:Int) < (l.length:Int):=by omega
  have hmx:max (32:Int) (l.length:Int)=32:=by omega
  have hmk:∀w:World,(Instr.makeSlice 104 (.int .i64 l.length) (.int .i64 32)).run Tryz.prog w=.ok (.slice (some ⟨w.heap.size,0,none⟩) l.length 32) (mkW w):=by
   intro w
   obtain⟨i0,hi,hz0,hz1,hz2⟩:=info_parts info26
   have h9:=run_makeSlice (P:=Tryz.prog) w 104 26 i0 _ Tryz.underlying104 hi hz0 .i64 .i64 (l.length:Int) 32 (by omega) (by omega) (by rw [hz1];decide) (by rw [hz2];decide) (by decide)
   rw [h9,hz1]
   rfl
  clear hv hN hxs0
  go_enter Tryz.func289,Tryz.ntmps289
  go_wp2_with (first|(go_at_call 137;refine(rd16n (l.length:Int) HNL.out _ _ _ R _ (by rw [HXS.out];exact(HV.out.at_ HX.out).1)).mono ?_;rintro e w2 ⟨rfl,hx2⟩;have HX2:=zh (HX.out.trans hx2.but);clear HX;have HX:=HX2;clear HX2;have hbk:=(hx2.block b HLT.out).trans HBK.out;clear HBK hck0 hfk0;have HBK:=zh hbk;have hck0:=zc hbk 0 _ rfl;have hfk0:=free_slot hbk 0;have hbm:=((ext_alloc w2 (.cells (madeCells #[.slice none 0 0] 32) 26)).block b (zl hbk)).trans hbk;have hcm:(mkW w2).cell? ⟨b,0,none⟩=some (.slice none 0 0):=zc hbm 0 _ rfl;have hfm:(mkW w2).frozen? ⟨b,0,none⟩=false:=free_slot hbm 0;clear hbk hx2 hbm))
  go_loopw [58,5] (fun i rp wr=>∃k p:Nat,k<=l.length/\i=.int .i64 k/\rp=.int .i64 p/\∃R cs,Hid (DrT b w2.heap.size wd wr (.cells #[.slice (some ⟨w2.heap.size,0,none⟩) l.length 32] 212 (0,0)) 26 32 N xs0 p R cs (fun j u=>OptAt b wd (l.getD j (true,[])) u) (.slice none 0 0) k/\R=(l.drop k).flatMap fun x=>valB x.1 x.2)) (fun i _ _=>l.length - (intOf i).toNat)
  case atStart=>
   refine⟨0,2,Nat.zero_le _,rfl,rfl,R,madeCells #[.slice none 0 0] 32,zh ⟨?_,HRR.out⟩⟩
   have h1:=(ext_alloc w2 (.cells (madeCells #[.slice none 0 0] 32) 26))
   refine⟨by rw [HN2.out],by rw [<-HXS.out];exact List.drop_left' (by rw [numB_len]),(HX.out.trans h1.but).set 0 _,slot_setCell ((h1.block b (zl HBK.out)).trans HBK.out),?_,by rw [size_madeCells],HX.out.size,fun j hj=>absurd hj (Nat.not_lt_zero _),fun j _ hj=>by simp [madeCells,hj,Nat.mod_one]⟩
   exact(heap_setCell_other _ _ _ _ (by have:=zl HBK.out;simp only [];omega)).trans (heap_alloc_new _ _)
  case round=>
   clear HX HBK hck0 hfk0 HNL hmk hgt hcm hfm
   obtain⟨k,p,hk1,rfl,rfl,R3,cs,HHR⟩:=hrel
   have HH:=zh HHR.out.1
   have hS0:=HHR.out.2
   clear HHR
   by_cases hlt:k < l.length
   ·obtain⟨x,hx⟩:∃x,x=l[k]:=⟨_,rfl⟩
    have hxr:=HLR.out _ (List.getElem_mem hlt)
    rw [<-hx]at hxr
    have hgd:l.getD k (true,[])=x:=by rw [hx];simp [List.getD,hlt]
    rw [List.drop_eq_getElem_cons hlt,List.flatMap_cons,<-hx]at hS0
    have hNp:N - p=R3.length:=by have:=HH.out.len;omega
    have hpN:p<=N:=by have:=HH.out.len;omega
    have HX:=zh HH.out.bel
    have hck0:=zc HH.out.blk 0 _ rfl
    have HD:Hid (RdN b wd (.slice (some ⟨b1,o1+p,none⟩) R3.length (c - p)) R3):=zh (by
     have h9:=HV.out.drop p hpN
     rw [HH.out.rest,hNp]at h9
     simpa [add_lit0]using h9)
    have hcp:¬c=p:=by
     have h8:4<=R3.length:=by
      rw [hS0,List.length_append]
      unfold valB
      split
      ·rw [numB_len];omega
      ·rw [List.length_append,numB_len];omega
     omega
    obtain⟨x1,x2⟩:=x
    cases x1 with
    | true=>
      have e1:valB (true,x2).1 (true,x2).2=numB 4294967295 4:=by simp only [valB,if_true];exact numB_mod4 (-1)
      rw [e1]at hS0
      obtain⟨R4,hR4e⟩:∃R4,R4=(l.drop (k+1)).flatMap fun x=>valB x.1 x.2:=⟨_,rfl⟩
      rw [<-hR4e]at hS0
      have HR4:=zh hS0
      have HR4e:=zh hR4e
      have h4:¬R3.length < 4:=by rw [hS0,List.length_append,numB_len];omega
      have hw:IntKind.i32.wrap 4294967295= -1:=by rw [IntKind.wrap_i32];rfl
      have hcg:=zc HH.out.arr k (.slice none 0 0) (HH.out.at_ (by omega))
      have hfg:=free_slot HH.out.arr k
      have HK4:Hid (0<=(4294967295:Int)/\(4294967295:Int) < 4294967296):=zh (by omega)
      have HOA:Hid (OptAt b wd (l.getD k (true,[])) (.slice none 0 0)):=zh (by rw [hgd];exact OptAt.nul)
      clear hS0 hx hxr hR4e e1 hgd
      go_wp2_with (first|(go_at_call 138;refine(rd32n (4294967295) HK4.out _ _ _ R4 _ (by rw [<-HR4.out];exact(HD.out.at_ HX.out).1)).mono ?_;rintro e w3 ⟨rfl,hx3⟩;have HX3:=zh hx3;have hbk3:=(hx3.block b (zl HH.out.blk)).trans HH.out.blk;clear hck0;have hck0:=zc hbk3 0 _ rfl;have hg3:=(hx3.block w2.heap.size (zl HH.out.arr)).trans HH.out.arr;clear hcg hfg;have hcg:=zc hg3 k (.slice none 0 0) (HH.out.at_ (by omega));have hfg:=free_slot hg3 k;have HB3:=zh hbk3;have HG3:=zh hg3;clear hx3 hbk3 hg3))
      go_roundw
      case rel=>
       refine⟨k+1,p+4,by omega,by go_num,by go_num,R4,cs.setIfInBounds k (.slice none 0 0),zh ⟨?_,HR4e.out⟩⟩
       exact(HH.out.skip HX3.out HR4.out (by rw [numB_len])).put HLT.out (by omega) HOA.out
      case measure=>simp only [intOf];omega
    | false=>
      have e1:valB (false,x2).1 (false,x2).2=numB (x2.length:Int) 4++x2:=by simp only [valB,Bool.false_eq_true,if_false]
      rw [e1,List.append_assoc]at hS0
      replace hxr:x2.length<=200:=hxr
      obtain⟨R5,hR5e⟩:∃R5,R5=(l.drop (k+1)).flatMap fun x=>valB x.1 x.2:=⟨_,rfl⟩
      rw [<-hR5e]at hS0
      obtain⟨R4,hR4e⟩:∃R4,R4=x2++R5:=⟨_,rfl⟩
      rw [<-hR4e]at hS0
      have HR5r:=zh hR5e
      have HR4:=zh hS0
      have hl4:R3.length=4+R4.length:=by rw [hS0];simp only [List.length_append,numB_len]
      have hl5:R4.length=x2.length+R5.length:=by rw [hR4e];simp only [List.length_append]
      have hw:IntKind.i32.wrap (x2.length:Int)=(x2.length:Int):=by rw [IntKind.wrap_i32];omega
      have hm:((x2.length:Int) == -1)=false:=beq_eq_false_iff_ne.2 (by omega)
      have hm2:¬((x2.length:Int)= -1):=by omega
      have HK4:Hid (0<=(x2.length:Int)/\(x2.length:Int) < 4294967296):=zh (by omega)
      have hcg:=zc HH.out.arr k (.slice none 0 0) (HH.out.at_ (by omega))
      have hfg:=free_slot HH.out.arr k
      have hN5:N - (p+4)=R4.length:=by omega
      have HR5:=zh (show R3=(numB (x2.length:Int) 4++x2)++R5 by rw [hS0,hR4e,List.append_assoc])
      obtain⟨A6,c6,hsl,hsr⟩:=sl_from (some ⟨b1,o1,none⟩) N c (p+4) ((p:Int)+4) (by omega) (by have:=HH.out.len;omega) hcap HCM.out
      obtain⟨qA,hs7,hr7⟩:=sl_mid3 ⟨b1,o1,none⟩ N c (p+4) x2.length (by omega) hcap HCM.out
      have HOA:Hid (OptAt b wd (l.getD k (true,[])) (.slice (some qA) x2.length x2.length)):=zh (by
       rw [hgd]
       refine OptAt.of ?_
       have h9:=hr7 b wd xs0 HV.out
       rwa [<-List.drop_drop,HH.out.rest,hS0,drop_numB,hR4e,List.take_left]at h9)
      have hs77:=fun w=>hs7 ((p:Int)+4) ((p:Int)+4+(x2.length:Int)) ((p:Int)+4+(x2.length:Int)) w (by push_cast;rfl) (by push_cast;rfl) (by push_cast;rfl)
      have h4:¬R3.length < 4:=by omega
      have h5n:¬R4.length < x2.length:=by omega
      have hcc:p+4+x2.length<=c:=by omega
      clear hS0 hx hR4e hR5e e1 hl4 hgd hr7 hs7 hsr
      go_wp2_with (first|(go_at_call 138;refine(rd32n (x2.length) HK4.out _ _ _ R4 _ (by rw [<-HR4.out];exact(HD.out.at_ HX.out).1)).mono ?_;rintro e w3 ⟨rfl,hx3⟩;have HX3:=zh hx3;have hbk3:=(hx3.block b (zl HH.out.blk)).trans HH.out.blk;clear hck0;have hck0:=zc hbk3 0 _ rfl;have hg3:=(hx3.block w2.heap.size (zl HH.out.arr)).trans HH.out.arr;clear hcg hfg;have hcg:=zc hg3 k (.slice none 0 0) (HH.out.at_ (by omega));have hfg:=free_slot hg3 k;have HB3:=zh hbk3;have HG3:=zh hg3;clear hx3 hbk3 hg3))
      have HCK3:=zh hck0
      refine wp_region_cut (J:=fun x=>Ext w3 x) (R:=Ext) 14 [Sp.eq _ (.pointer (some ⟨b,0,none⟩)),Sp.eq _ (.pointer (some ⟨b,0,none⟩)),Sp.eq _ (.pointer (some ⟨b,0,none⟩)),Sp.eq _ (.slice (some ⟨w2.heap.size,0,none⟩) l.length 32),Sp.eq _ (.int .i64 k),Sp.eq _ (.slice (some ⟨b1,o1,none⟩) N c),Sp.eq _ (.int .i64 ((p:Int)+4)),Sp.eq _ (.int .i64 ((p:Int)+4)),Sp.eq _ (.int .i64 (x2.length:Int)),Sp.eq _ (.int .i64 ((p:Int)+4+(x2.length:Int))),Sp.eq _ (.int .i64 ((p:Int)+4)),Sp.eq _ (.int .i64 (x2.length:Int)),Sp.eq _ (.int .i64 ((p:Int)+4+(x2.length:Int))),Sp.eq _ (.slice (some qA) x2.length x2.length)] (by kernel_rfl) (by kernel_rfl) ?_ ?_ ?_
      ·exact(Ext.refl w3).drew
      ·refine⟨?_,?_,?_,?_,?_,?_,?_,?_,?_,?_,?_,?_,?_,?_,trivial⟩
       ·intro vs w1 hJ hp
        have HJ:=zh hJ
        clear hp hJ
        simp only [List.take_succ_cons,List.take_zero,putAll,Nat.reduceAdd]
        go_wp2
        exact⟨rfl,HJ.out,zr,rfl⟩
       ·intro vs w1 hJ hp
        have q0:vs 0=.pointer (some ⟨b,0,none⟩):=zd hp 0
        have HJ:=zh hJ
        clear hp hJ
        simp only [List.take_succ_cons,List.take_zero,putAll,Nat.reduceAdd]
        go_wp2
        exact⟨rfl,HJ.out,zr,rfl⟩
       ·intro vs w1 hJ hp
        have q1:vs 1=.pointer (some ⟨b,0,none⟩):=zd hp 1
        have HJ:=zh hJ
        clear hp hJ
        simp only [List.take_succ_cons,List.take_zero,putAll,Nat.reduceAdd]
        go_wp2
        exact⟨rfl,HJ.out,zr,rfl⟩
       ·intro vs w1 hJ hp
        have q2:vs 2=.pointer (some ⟨b,0,none⟩):=zd hp 2
        have HJ:=zh hJ
        have hq:=hJ.cell HCK3.out
        clear hp hJ
        simp only [List.take_succ_cons,List.take_zero,putAll,Nat.reduceAdd]
        go_wp2
        exact⟨rfl,HJ.out,zr,rfl⟩
       ·intro vs w1 hJ hp
        have HJ:=zh hJ
        clear hp hJ
        simp only [List.take_succ_cons,List.take_zero,putAll,Nat.reduceAdd]
        go_wp2
        exact⟨rfl,HJ.out,zr,rfl⟩
       ·intro vs w1 hJ hp
        have HJ:=zh hJ
        clear hp hJ
        simp only [List.take_succ_cons,List.take_zero,putAll,Nat.reduceAdd]
        go_wp2
        exact⟨rfl,HJ.out,zr,rfl⟩
       ·intro vs w1 hJ hp
        have HJ:=zh hJ
        clear hp hJ
        simp only [List.take_succ_cons,List.take_zero,putAll,Nat.reduceAdd]
        go_wp2
        exact⟨rfl,HJ.out,zr,rfl⟩
       ·intro vs w1 hJ hp
        have HJ:=zh hJ
        clear hp hJ
        simp only [List.take_succ_cons,List.take_zero,putAll,Nat.reduceAdd]
        go_wp2
        exact⟨rfl,HJ.out,zr,rfl⟩
       ·intro vs w1 hJ hp
        have HJ:=zh hJ
        clear hp hJ
        simp only [List.take_succ_cons,List.take_zero,putAll,Nat.reduceAdd]
        go_wp2
        exact⟨rfl,HJ.out,zr,rfl⟩
       ·intro vs w1 hJ hp
        have q7:vs 7=.int .i64 ((p:Int)+4):=zd hp 7
        have q8:vs 8=.int .i64 (x2.length:Int):=zd hp 8
        have HJ:=zh hJ
        clear hp hJ
        simp only [List.take_succ_cons,List.take_zero,putAll,Nat.reduceAdd]
        go_wp2
        exact⟨rfl,HJ.out,zr,rfl⟩
       ·intro vs w1 hJ hp
        have HJ:=zh hJ
        clear hp hJ
        simp only [List.take_succ_cons,List.take_zero,putAll,Nat.reduceAdd]
        go_wp2
        exact⟨rfl,HJ.out,zr,rfl⟩
       ·intro vs w1 hJ hp
        have HJ:=zh hJ
        clear hp hJ
        simp only [List.take_succ_cons,List.take_zero,putAll,Nat.reduceAdd]
        go_wp2
        exact⟨rfl,HJ.out,zr,rfl⟩
       ·intro vs w1 hJ hp
        have q10:vs 10=.int .i64 ((p:Int)+4):=zd hp 10
        have q11:vs 11=.int .i64 (x2.length:Int):=zd hp 11
        have HJ:=zh hJ
        clear hp hJ
        simp only [List.take_succ_cons,List.take_zero,putAll,Nat.reduceAdd]
        go_wp2
        exact⟨rfl,HJ.out,zr,rfl⟩
       ·intro vs w1 hJ hp
        have q5:vs 5=.slice (some ⟨b1,o1,none⟩) N c:=zd hp 5
        have q6:vs 6=.int .i64 ((p:Int)+4):=zd hp 6
        have q9:vs 9=.int .i64 ((p:Int)+4+(x2.length:Int)):=zd hp 9
        have q12:vs 12=.int .i64 ((p:Int)+4+(x2.length:Int)):=zd hp 12
        have HJ:=zh hJ
        clear hp hJ
        simp only [List.take_succ_cons,List.take_zero,putAll,Nat.reduceAdd]
        go_wp2
        exact⟨rfl,HJ.out,zr,rfl⟩
      ·intro vs w1 hJ hp
       have q0:vs 0=.pointer (some ⟨b,0,none⟩):=zd hp 0
       have q1:vs 1=.pointer (some ⟨b,0,none⟩):=zd hp 1
       have q2:vs 2=.pointer (some ⟨b,0,none⟩):=zd hp 2
       have q3:vs 3=.slice (some ⟨w2.heap.size,0,none⟩) l.length 32:=zd hp 3
       have q4:vs 4=.int .i64 k:=zd hp 4
       have q5:vs 5=.slice (some ⟨b1,o1,none⟩) N c:=zd hp 5
       have q6:vs 6=.int .i64 ((p:Int)+4):=zd hp 6
       have q7:vs 7=.int .i64 ((p:Int)+4):=zd hp 7
       have q8:vs 8=.int .i64 (x2.length:Int):=zd hp 8
       have q9:vs 9=.int .i64 ((p:Int)+4+(x2.length:Int)):=zd hp 9
       have q10:vs 10=.int .i64 ((p:Int)+4):=zd hp 10
       have q11:vs 11=.int .i64 (x2.length:Int):=zd hp 11
       have q12:vs 12=.int .i64 ((p:Int)+4+(x2.length:Int)):=zd hp 12
       have q13:vs 13=.slice (some qA) x2.length x2.length:=zd hp 13
       have HJ:=zh hJ
       have hcg':=zc ((hJ.block _ (zl HG3.out)).trans HG3.out) k (.slice none 0 0) (HH.out.at_ (by omega))
       have hfg':=free_slot ((hJ.block _ (zl HG3.out)).trans HG3.out) k
       clear hp hJ hcg hfg hck0
       simp only [List.drop_succ_cons,List.drop_zero,List.take_succ_cons,List.take_zero,putAll,Nat.reduceAdd,Act.put,q0,q1,q2,q3,q4,q5,q6,q7,q8,q9,q10,q11,q12,q13,List.setIfInBounds_toArray,List.set_cons_zero,List.set_cons_succ]
       clear q0 q1 q2 q3 q4 q5 q6 q7 q8 q9 q10 q11 q12 q13
       go_wp2
       go_roundw
       case rel=>
        refine⟨k+1,p+(4+x2.length),by omega,by go_num,by go_num,R5,cs.setIfInBounds k (.slice (some qA) x2.length x2.length),zh ⟨?_,HR5r.out⟩⟩
        exact(HH.out.skip (HX3.out.trans HJ.out) HR5.out (by rw [List.length_append,numB_len])).put HLT.out (by omega) HOA.out
       case measure=>simp only [intOf];omega
   ·obtain rfl:k=l.length:=by omega
    clear hS0
    go_wp2
    go_ret
    exact⟨rfl,HH.out.bel,_,_,HH.out.blk,rd1_arr (m:=0) HH.out.arr HH.out.done HH.out.bel (by omega) (by unfold maxLen;omega)⟩
 ·have h0:l=[]:=List.eq_nil_of_length_eq_zero (by omega)
  subst h0
  have hnil:∀w:World,(Instr.slice 104 (.slice none 0 0) none (some (.int .i64 0)) none).run Tryz.prog w=.ok (.slice none 0 0) w:=fun w=>by
   rw [run_slice_h (P:=Tryz.prog) w 104 none 0 0 Tryz.underlying104 .i64 0 (by omega) (by omega)]
   have hs:(sizeOf (Tryz.prog.elem 104)).run Tryz.prog w=.ok 1 w:=by
    obtain⟨i0,hi,hz0,hz1,hz2⟩:=info_parts info26
    simp [sizeOf,typeInfo,show Tryz.prog.elem 104=26 from by kernel_rfl,hi,hz1]
   rw [hs]
   rfl
  clear hv hN hxs0
  simp only [List.length_nil,Int.natCast_zero,Int.ofNat_zero,Int.cast_ofNat_Int]at HNL HXS
  go_enter Tryz.func289,Tryz.ntmps289
  go_wp2_with (first|(go_at_call 137;refine(rd16n 0 (by decide) _ _ _ R _ (by rw [HXS.out];exact(HV.out.at_ HX.out).1)).mono ?_;rintro e w2 ⟨rfl,hx2⟩;have HX2:=zh (HX.out.trans hx2.but);clear HX;have HX:=HX2;clear HX2;have hbk:=(hx2.block b HLT.out).trans HBK.out;clear HBK hck0 hfk0;have HBK:=zh hbk;have hck0:=zc hbk 0 _ rfl;have hfk0:=free_slot hbk 0;clear hbk hx2))
  go_loopw [58,5] (fun i rp wr=>i=.int .i64 0/\wr=w2.setCell ⟨b,0,none⟩ (.slice none 0 0)) (fun i _ _=>0)
  case atStart=>exact⟨rfl,rfl⟩
  case round=>
   obtain⟨rfl,rfl⟩:=hrel
   go_wp2
   go_ret
   exact⟨rfl,HX.out.set _ _,none,0,slot_setCell HBK.out,rd1_nil _ _⟩
theorem drop_numB2 (n m:Int)(k j:Nat)(r:List Int):(numB n k++(numB m j++r)).drop (k+j)=r:=by rw [<-List.drop_drop,drop_numB,drop_numB]
theorem getD_mem {l:List Int} {k:Nat} (h:k < l.length):l.getD k 0=l[k]:=by simp [List.getD,h]
theorem DrT.rdI {kd:IntKind} {l:List Int} {b g N p:Nat} {wd w w2:World} {o:Obj} {te:TypeId} {xs R:List Int} {cs:Array Value} {z0:Value} (h:DrT b g wd w o te l.length N xs p R cs (fun j u=>u=.int kd (l.getD j 0)) z0 l.length)(hl:l.length<=100000)(hg:w2.heap[g]?=some (.cells cs te (0,0))):RdI kd w2 (.slice (some ⟨g,0,none⟩) l.length l.length) l:=by
 refine⟨_,_,rfl,Nat.le_refl _,by unfold maxLen;omega,fun _=>⟨g,0,rfl,fun j hj=>?_⟩⟩
 obtain⟨u,h1,rfl⟩:=h.done j hj
 rw [Nat.zero_add]
 exact zc hg j _ h1
theorem rdi_arr {kd:IntKind} {l:List Int} {g:Nat} {w2:World} {te:TypeId} {cs:Array Value} (hg:w2.heap[g]?=some (.cells cs te (0,0)))(hd:∀j,j < l.length->∃u,cs[j]?=some u/\u=.int kd (l.getD j 0))(hl:l.length<=100000):RdI kd w2 (.slice (some ⟨g,0,none⟩) l.length l.length) l:=by
 refine⟨_,_,rfl,Nat.le_refl _,by unfold maxLen;omega,fun _=>⟨g,0,rfl,fun j hj=>?_⟩⟩
 obtain⟨u,h1,rfl⟩:=hd j hj
 rw [Nat.zero_add]
 exact zc hg j _ h1
set_option maxHeartbeats 30000000 in
theorem dek9 (n x:Int)(lf:List Int)(vls:List (Bool×List Int))(hn:0<=n/\n < 4294967296)(hx01:x=0∨x=1)(hll:lf.length<=20)(h01:∀y∈lf,y=0∨y=1)(hlv:vls.length<=20)(hgv:∀y∈vls,y.2.length<=200)(wd:World)(b:Nat)(v:Value)(hb:wd.heap[b]?=some (.cells #[.int .u32 0,.slice none 0 0,.slice none 0 0,.int .u16 0] 131 (0,0)))(hv:RdB wd v (numB n 4++(numB (lf.length:Int) 2++(lf.flatMap (fun n=>numB n 2)++(numB (vls.length:Int) 2++(vls.flatMap (fun x=>valB x.1 x.2)++numB x 2))))))(hl:(numB n 4++(numB (lf.length:Int) 2++(lf.flatMap (fun n=>numB n 2)++(numB (vls.length:Int) 2++(vls.flatMap (fun x=>valB x.1 x.2)++numB x 2))))).length<=100000)(hof:v.ownBlock≠some b):
 Calls Tryz.prog 169 #[.pointer (some ⟨b,0,none⟩),v] wd (Deced b (fun b w2=>∃A1 c1 A2 c2,w2.heap[b]?=some (.cells #[.int .u32 n,.slice A1 lf.length c1,.slice A2 vls.length c2,.int .u16 x] 131 (0,0))/\RdI .u16 w2 (.slice A1 lf.length c1) lf/\Rd1 isOpt w2 (.slice A2 vls.length c2) (vls.map optV)) wd):=by
 obtain⟨xs0,hxs0⟩:∃y,y=numB n 4++(numB (lf.length:Int) 2++(lf.flatMap (fun n=>numB n 2)++(numB (vls.length:Int) 2++(vls.flatMap (fun x=>valB x.1 x.2)++numB x 2)))):=⟨_,rfl⟩
 obtain⟨A,c,hvA⟩:=hv.len
 subst hvA
 obtain⟨RF,hRF⟩:∃R,R=lf.flatMap (fun n=>numB n 2):=⟨_,rfl⟩
 obtain⟨RV,hRV⟩:∃R,R=vls.flatMap (fun x=>valB x.1 x.2):=⟨_,rfl⟩
 rw [<-hRF,<-hRV]at hxs0
 have hfl:RF.length=lf.length * 2:=by rw [hRF];exact nums_len2 lf
 obtain⟨N,hN⟩:∃m,m=xs0.length:=⟨_,rfl⟩
 have hNl:N=4+(2+(RF.length+(2+(RV.length+2)))):=by rw [hN,hxs0];simp only [List.length_append,numB_len]
 rw [<-hRF,<-hRV,<-hxs0]at hv hl hof
 rw [<-hRF,<-hRV,<-hxs0]
 have HV:Hid (RdN b wd (.slice A N c) xs0):=zh (by rw [hN];exact⟨hv,fun _=>hof⟩)
 have HLT:=zh (zl hb)
 have HBK:=zh hb
 have hz0:=zc hb 0 _ rfl;have hy0:=free_slot hb 0;have hz1:=zc hb 1 _ rfl;have hy1:=free_slot hb 1;have hz2:=zc hb 2 _ rfl;have hy2:=free_slot hb 2;have hz3:=zc hb 3 _ rfl;have hy3:=free_slot hb 3
 have hcap:=hv.parts.2.1
 have HCM:=zh hv.parts.2.2
 rw [<-hN]at hcap hl
 rw [<-hN]
 obtain⟨b1,o1,hA⟩:∃b1 o1,A=some ⟨b1,o1,none⟩:=by
  obtain⟨A',c',hv',_,_,h3⟩:=hv
  obtain⟨rfl,_⟩:A=A'/\_:=by simpa using hv'
  obtain⟨b1,o1,hA,_⟩:=h3 (by omega)
  exact⟨b1,o1,hA⟩
 have HA:=zh hA
 have HX:Hid (ExtBut b wd wd):=zh (Ext.refl wd).but
 have HN:=zh hn
 have HLF:=zh h01
 have HGV:=zh hgv
 have HNF:Hid (0<=(lf.length:Int)/\(lf.length:Int) < 65536):=zh (by omega)
 have HNV:Hid (0<=(vls.length:Int)/\(vls.length:Int) < 65536):=zh (by omega)
 have HXX:Hid (0<=x/\x < 65536):=zh (by omega)
 obtain⟨Aa,ca,hsa,hra⟩:=sl_at A N c (0) (by omega) hcap HCM.out
 have hha:=hra b wd _ HV.out
 rw [List.drop_zero,hxs0]at hha
 have HRa:=zh hha
 clear hra hha
 rw [Nat.sub_zero]at hsa
 have HDa:Hid (RdN b wd (.slice Aa N ca) (numB n 4++(numB (lf.length:Int) 2++(RF++(numB (vls.length:Int) 2++(RV++numB x 2)))))):=zh (by have h9:=HRa.out;rwa [Nat.sub_zero]at h9)
 obtain⟨Ab,cb,hsb,hrb⟩:=sl_at A N c (4) (by omega) hcap HCM.out
 have hhb:=hrb b wd _ HV.out
 rw [hxs0,drop_numB]at hhb
 have HRb:=zh hhb
 clear hrb hhb
 obtain⟨Ad,cd,hsd,hrd⟩:=sl_at A N c (6) (by omega) hcap HCM.out
 have hhd:=hrd b wd _ HV.out
 rw [hxs0,drop_numB2 n _ 4 2]at hhd
 have HRd:=zh hhd
 clear hrd hhd
 have hlt8:¬((N:Int) < 8):=by omega
 have hN4:N - 6=lf.length * 2+(2+(RV.length+2)):=by omega
 rw [hN4]at hsd
 have hcmp:¬((lf.length:Int) * 2+(2+((RV.length:Int)+2)) < (lf.length:Int) * 2+2):=by omega
 have hwr1:IntKind.i64.wrap ((lf.length:Int) * 2)=(lf.length:Int) * 2:=by rw [IntKind.wrap_i64];omega
 have hwr2:IntKind.i64.wrap ((lf.length:Int) * 2+2)=(lf.length:Int) * 2+2:=by rw [IntKind.wrap_i64];omega
 have hmk:=mkU_run lf.length (by omega)
 have HNl:=zh hNl
 have HRF:=zh hRF
 have HRV:=zh hRV
 have HXS:=zh hxs0
 have h8N:8<=N:=by omega
 clear hv hof hb hA hn h01 hgv hN hRF hRV hxs0 HRa HRd hNl hfl hN4
 go_enter Tryz.func169,Tryz.ntmps169
 go_wp2_with (first|(go_at_call_of 138 Aa;refine(rd32n n HN.out _ _ _ (_) _ (HDa.out.at_ (by exact((((HX.out.set _ _).set _ _).set _ _).set _ _))).1).mono ?_;rintro e w6 ⟨rfl,hx3⟩;have HXn:Hid (ExtBut b wd w6):=zh ((show ExtBut b wd _ from((((HX.out.set _ _).set _ _).set _ _).set _ _)).trans hx3.but);have HBn:Hid (w6.heap[b]?=some (.cells #[.int .u32 0,.slice none 0 0,.slice none 0 0,.int .u16 0] 131 (0,0))):=zh ((hx3.block b (zl (slot_setCell (slot_setCell (slot_setCell (slot_setCell HBK.out)))))).trans (slot_setCell (slot_setCell (slot_setCell (slot_setCell HBK.out)))));clear HX HBK;have HX:=HXn;have HBK:=HBn;clear HXn HBn;(try clear hz0);(try clear hy0);have hz0:=zc HBK.out 0 _ rfl;have hy0:=free_slot HBK.out 0;(try clear hz1);(try clear hy1);have hz1:=zc HBK.out 1 _ rfl;have hy1:=free_slot HBK.out 1;(try clear hz2);(try clear hy2);have hz2:=zc HBK.out 2 _ rfl;have hy2:=free_slot HBK.out 2;(try clear hz3);(try clear hy3);have hz3:=zc HBK.out 3 _ rfl;have hy3:=free_slot HBK.out 3;clear hx3)|(go_at_call_of 137 Ab;refine(rd16n (lf.length:Int) HNF.out _ _ _ (_) _ (HRb.out.at_ (by exact(HX.out.set _ _))).1).mono ?_;rintro e w7 ⟨rfl,hx3⟩;have HXn:Hid (ExtBut b wd w7):=zh ((show ExtBut b wd _ from(HX.out.set _ _)).trans hx3.but);have HBn:Hid (w7.heap[b]?=some (.cells #[.int .u32 n,.slice none 0 0,.slice none 0 0,.int .u16 0] 131 (0,0))):=zh ((hx3.block b (zl (slot_setCell HBK.out))).trans (slot_setCell HBK.out));clear HX HBK;have HX:=HXn;have HBK:=HBn;clear HXn HBn;(try clear hz0);(try clear hy0);have hz0:=zc HBK.out 0 _ rfl;have hy0:=free_slot HBK.out 0;(try clear hz1);(try clear hy1);have hz1:=zc HBK.out 1 _ rfl;have hy1:=free_slot HBK.out 1;(try clear hz2);(try clear hy2);have hz2:=zc HBK.out 2 _ rfl;have hy2:=free_slot HBK.out 2;(try clear hz3);(try clear hy3);have hz3:=zc HBK.out 3 _ rfl;have hy3:=free_slot HBK.out 3;clear hx3))
 go_loopw [55,5] (fun i rp wr=>∃k p:Nat,k<=lf.length/\i=.int .i64 k/\rp=.int .i64 p/\∃R cs,Hid (DrT b w7.heap.size wd wr (.cells #[.int .u32 n,.slice none 0 0,.slice none 0 0,.int .u16 0] 131 (0,0)) 128 lf.length N xs0 p R cs (fun j u=>u=.int .u16 (lf.getD j 0)) (.int .u16 0) k/\R=(lf.drop k).flatMap (fun n=>numB n 2)++(numB (vls.length:Int) 2++(RV++numB x 2)))) (fun i _ _=>lf.length - (intOf i).toNat)
 case atStart=>
  refine⟨0,6,Nat.zero_le _,rfl,rfl,_,madeCells #[.int .u16 0] lf.length,zh ⟨⟨?_,rfl,HX.out.trans (mkU_ext _ _).but,((mkU_ext _ _).block b (zl HBK.out)).trans HBK.out,heap_alloc_new _ _,size_madeCells _ _,HX.out.size,fun j hj=>absurd hj (Nat.not_lt_zero _),fun j _ hj=>by simp [madeCells,hj,Nat.mod_one]⟩,?_⟩⟩
  ·rw [HXS.out,drop_numB2 n _ 4 2];simp only [List.length_append,numB_len];have:=HNl.out;omega
  ·rw [HXS.out,drop_numB2 n _ 4 2,HRF.out,List.drop_zero]
 case round=>
  clear HX HBK hz0 hy0 hz1 hy1 hz2 hy2 hz3 hy3 hsa hsb hsd hcmp hwr1 hwr2 hmk hlt8
  obtain⟨k,p,hk1,rfl,rfl,R3,cs,HHR⟩:=hrel
  have HH:=zh HHR.out.1
  have hS0:=HHR.out.2
  clear HHR
  have hNp:N - p=R3.length:=by have:=HH.out.len;omega
  have hpN:p<=N:=by have:=HH.out.len;omega
  have HX:=zh HH.out.bel
  have HBK:=zh HH.out.blk
  by_cases hlt:k < lf.length
  ·obtain⟨y,hy⟩:∃y,y=lf[k]:=⟨_,rfl⟩
   have hyr:=HLF.out _ (List.getElem_mem hlt)
   rw [<-hy]at hyr
   have hgd:lf.getD k 0=y:=by rw [hy];exact getD_mem hlt
   rw [List.drop_eq_getElem_cons hlt,List.flatMap_cons,<-hy,List.append_assoc]at hS0
   obtain⟨R4,hR4e⟩:∃R4,R4=(lf.drop (k+1)).flatMap (fun n=>numB n 2)++(numB (vls.length:Int) 2++(RV++numB x 2)):=⟨_,rfl⟩
   rw [<-hR4e]at hS0
   have HR4:=zh hS0
   have HR4e:=zh hR4e
   obtain⟨Ae,ce,hse,hre⟩:=sl_at A N c p hpN hcap HCM.out
   have hhe:=hre b wd _ HV.out
   rw [HH.out.rest,hS0,hNp]at hhe
   have HRe:=zh hhe
   rw [hNp]at hse
   have HYR:Hid (0<=y/\y < 65536):=zh (by omega)
   have HU:Hid (Value.int .u16 y=.int .u16 (lf.getD k 0)):=zh (by rw [hgd])
   clear hre hhe hS0 hR4e hy hgd
   rcases hyr with rfl|rfl
   all_goals
    go_wp2_with (go_at_call 137;refine(rd16n _ HYR.out _ _ _ R4 _ (HRe.out.at_ HX.out).1).mono ?_;rintro e w3 ⟨rfl,hx3⟩;have HX3:=zh hx3;have hg3:=(hx3.block _ (zl HH.out.arr)).trans HH.out.arr;have hcg:=zc hg3 k (.int .u16 0) (HH.out.at_ (by omega));have hfg:=free_slot hg3 k;clear hx3 hg3)
    go_roundw
    case rel=>
     refine⟨k+1,p+2,by omega,by go_num,by go_num,R4,cs.setIfInBounds k (.int .u16 (lf.getD k 0)),zh ⟨?_,HR4e.out⟩⟩
     rw [<-HU.out]
     exact(HH.out.skip HX3.out HR4.out (by rw [numB_len])).put HLT.out (by omega) HU.out
    case measure=>simp only [intOf];omega
  ·obtain rfl:k=lf.length:=by omega
   rw [List.drop_length,List.flatMap_nil,List.nil_append]at hS0
   have hl3:R3.length=2+(RV.length+2):=by rw [hS0];simp only [List.length_append,numB_len]
   have hp2:xs0.drop (p+2)=RV++numB x 2:=by rw [<-List.drop_drop,HH.out.rest,hS0,drop_numB]
   obtain⟨Af,cf,hsf,hrf⟩:=sl_at A N c (p) (by omega) hcap HCM.out
   have hhf:=hrf b wd _ HV.out
   rw [HH.out.rest,hS0]at hhf
   have HRf:=zh hhf
   clear hrf hhf
   rw [hNp]at hsf HRf
   have HP2:=zh hp2
   have HPL:Hid (p+2+(RV.length+2)=N):=zh (by have:=HH.out.len;omega)
   have hmk:=mkV_run vls.length (by omega)
   have HG7:=zh HH.out.arr
   have hb9:=HBK.out
   have hz1:=zc hb9 1 (.slice none 0 0) rfl
   have hy1:=free_slot hb9 1
   have HHI:Hid (RdI .u16 wr (.slice (some ⟨w7.heap.size,0,none⟩) lf.length lf.length) lf):=zh (HH.out.rdI (by omega) HH.out.arr)
   have HLO7:=zh HH.out.lo
   have HDN:=zh HH.out.done
   clear hS0 hl3 hp2 hb9 HH
   go_wp2_with (first|(go_at_call_of 137 Af;refine(rd16n (vls.length:Int) HNV.out _ _ _ (_) _ (HRf.out.at_ (by exact(HX.out.set _ _))).1).mono ?_;rintro e w8 ⟨rfl,hx3⟩;have HXn:Hid (ExtBut b wd w8):=zh ((show ExtBut b wd _ from(HX.out.set _ _)).trans hx3.but);have HBn:Hid (w8.heap[b]?=some (.cells #[.int .u32 n,.slice (some ⟨w7.heap.size,0,none⟩) lf.length lf.length,.slice none 0 0,.int .u16 0] 131 (0,0))):=zh ((hx3.block b (zl (slot_setCell HBK.out))).trans (slot_setCell HBK.out));clear HX HBK;have HX:=HXn;have HBK:=HBn;clear HXn HBn;(try clear hz0);(try clear hy0);have hz0:=zc HBK.out 0 _ rfl;have hy0:=free_slot HBK.out 0;(try clear hz1);(try clear hy1);have hz1:=zc HBK.out 1 _ rfl;have hy1:=free_slot HBK.out 1;(try clear hz2);(try clear hy2);have hz2:=zc HBK.out 2 _ rfl;have hy2:=free_slot HBK.out 2;(try clear hz3);(try clear hy3);have hz3:=zc HBK.out 3 _ rfl;have hy3:=free_slot HBK.out 3;have HG8:=zh ((hx3.block _ (by simpa [World.setCell]using zl HG7.out)).trans ((heap_setCell_other _ _ _ _ (by have:=HLT.out;have:=HLO7.out;simp only [ne_eq];omega)).trans HG7.out));have HL78:=zh (zl HG8.out);clear hx3))
   go_loopw [92,5] (fun i rp wr=>∃k p:Nat,k<=vls.length/\i=.int .i64 k/\rp=.int .i64 p/\∃R cs,Hid (DrT b w8.heap.size wd wr (.cells #[.int .u32 n,.slice (some ⟨w7.heap.size,0,none⟩) lf.length lf.length,.slice none 0 0,.int .u16 0] 131 (0,0)) 26 vls.length N xs0 p R cs (fun j u=>OptAt b wd (vls.getD j (true,[])) u) (.slice none 0 0) k/\R=(vls.drop k).flatMap (fun x=>valB x.1 x.2)++numB x 2/\∃cf,wr.heap[w7.heap.size]?=some (.cells cf 128 (0,0))/\∀j,j < lf.length->∃u,cf[j]?=some u/\u=.int .u16 (lf.getD j 0))) (fun i _ _=>vls.length - (intOf i).toNat)
   case atStart=>
    refine⟨0,p+2,Nat.zero_le _,rfl,by go_num,_,madeCells #[.slice none 0 0] vls.length,zh ⟨⟨?_,HP2.out,HX.out.trans (mkV_ext _ _).but,((mkV_ext _ _).block b (zl HBK.out)).trans HBK.out,heap_alloc_new _ _,size_madeCells _ _,HX.out.size,fun j hj=>absurd hj (Nat.not_lt_zero _),fun j _ hj=>by simp [madeCells,hj,Nat.mod_one]⟩,?_,_,((mkV_ext _ _).block _ HL78.out).trans HG8.out,HDN.out⟩⟩
    ·simp only [List.length_append,numB_len];have:=HPL.out;omega
    ·rw [HRV.out,List.drop_zero]
   case round=>
    clear HX HBK hz0 hy0 hz1 hy1 hz2 hy2 hz3 hy3 hsf hmk HG7 HG8
    obtain⟨k,p,hk1,rfl,rfl,R3,cs,HHR⟩:=hrel
    have HH:=zh HHR.out.1
    have hS0:=HHR.out.2.1
    obtain⟨cf,hcf,hcd⟩:=HHR.out.2.2
    have HCF:=zh hcf
    have HCD:=zh hcd
    clear HHR hcf hcd
    have hNp:N - p=R3.length:=by have:=HH.out.len;omega
    have hpN:p<=N:=by have:=HH.out.len;omega
    have HX:=zh HH.out.bel
    have HBK:=zh HH.out.blk
    by_cases hlt:k < vls.length
    ·obtain⟨y,hy⟩:∃y,y=vls[k]:=⟨_,rfl⟩
     have hxr:=HGV.out _ (List.getElem_mem hlt)
     rw [<-hy]at hxr
     have hgd:vls.getD k (true,[])=y:=by rw [hy];simp [List.getD,hlt]
     rw [List.drop_eq_getElem_cons hlt,List.flatMap_cons,<-hy,List.append_assoc]at hS0
     obtain⟨R5,hR5e⟩:∃R5,R5=(vls.drop (k+1)).flatMap (fun x=>valB x.1 x.2)++numB x 2:=⟨_,rfl⟩
     rw [<-hR5e]at hS0
     have HR5e:=zh hR5e
     obtain⟨Ae,ce,hse,hre⟩:=sl_at A N c p hpN hcap HCM.out
     have hhe:=hre b wd _ HV.out
     rw [HH.out.rest,hNp]at hhe
     rw [hNp]at hse
     have hcg0:=HH.out.arr
     have KEEP:Hid (∀(w3:World) (u:Value),Ext wr w3->(w3.setCell ⟨w8.heap.size,k,none⟩ u).heap[w7.heap.size]?=some (.cells cf 128 (0,0))):=zh (fun w3 u h3=>(heap_setCell_other _ _ _ _ (by have:=HL78.out;simp only [ne_eq];omega)).trans ((h3.block _ (zl HCF.out)).trans HCF.out))
     clear hcg0
     obtain⟨x1,x2⟩:=y
     cases x1 with
     | true=>
       have e1:valB (true,x2).1 (true,x2).2=numB 4294967295 4:=by simp only [valB,if_true];exact numB_mod4 (-1)
       rw [e1]at hS0
       rw [hS0]at hhe
       have HRe:=zh hhe
       have HR4:=zh hS0
       have h4:¬R3.length < 4:=by rw [hS0,List.length_append,numB_len];omega
       have hw:IntKind.i32.wrap 4294967295= -1:=by rw [IntKind.wrap_i32];rfl
       have HOA:Hid (OptAt b wd (vls.getD k (true,[])) (.slice none 0 0)):=zh (by rw [hgd];exact OptAt.nul)
       clear hS0 hy hxr hR5e e1 hgd hre hhe
       go_wp2_with (go_at_call 138;refine(rd32n 4294967295 (by decide) _ _ _ R5 _ (by have h9:=(HRe.out.at_ HX.out).1;rwa [<-HR4.out]at h9⊢)).mono ?_;rintro e w3 ⟨rfl,hx3⟩;have HX3:=zh hx3;have hg3:=(hx3.block _ (zl HH.out.arr)).trans HH.out.arr;have hcg:=zc hg3 k (.slice none 0 0) (HH.out.at_ (by omega));have hfg:=free_slot hg3 k;clear hx3 hg3)
       go_roundw
       case rel=>
        refine⟨k+1,p+4,by omega,by go_num,by go_num,R5,cs.setIfInBounds k (.slice none 0 0),zh ⟨?_,HR5e.out,cf,KEEP.out _ _ HX3.out,HCD.out⟩⟩
        exact(HH.out.skip HX3.out HR4.out (by rw [numB_len])).put HLT.out (by omega) HOA.out
       case measure=>simp only [intOf];omega
     | false=>
       have e1:valB (false,x2).1 (false,x2).2=numB (x2.length:Int) 4++x2:=by simp only [valB,Bool.false_eq_true,if_false]
       rw [e1,List.append_assoc]at hS0
       replace hxr:x2.length<=200:=hxr
       rw [hS0]at hhe
       have HRe:=zh hhe
       have HR4:=zh hS0
       have hl5:R3.length=4+(x2.length+R5.length):=by rw [hS0];simp only [List.length_append,numB_len]
       have h4:¬R3.length < 4:=by omega
       have hw:IntKind.i32.wrap (x2.length:Int)=(x2.length:Int):=by rw [IntKind.wrap_i32];omega
       have hm:((x2.length:Int) == -1)=false:=beq_eq_false_iff_ne.2 (by omega)
       have hm2:¬((x2.length:Int)= -1):=by omega
       have HK4:Hid (0<=(x2.length:Int)/\(x2.length:Int) < 4294967296):=zh (by omega)
       have HR5:=zh (show R3=(numB (x2.length:Int) 4++x2)++R5 by rw [hS0,List.append_assoc])
       obtain⟨Ag,cg,hsg,hrg⟩:=sl_at A N c (p+4) (by omega) hcap HCM.out
       rw [show N - (p+4)=x2.length+R5.length by omega]at hsg
       have h5n:¬((x2.length:Int)+(R5.length:Int) < (x2.length:Int)):=by omega
       obtain⟨qA,c7,hs7,hr7⟩:=sl_mids wd ⟨b1,o1,none⟩ N c (p+4) x2.length (by omega) hcap HCM.out
       rw [<-HA.out]at hs7 hr7
       have HOA:Hid (OptAt b wd (vls.getD k (true,[])) (.slice (some qA) x2.length c7)):=zh (by
        rw [hgd]
        refine OptAt.of ?_
        have h9:=hr7 b wd xs0 HV.out
        rwa [<-List.drop_drop,HH.out.rest,hS0,drop_numB,List.take_left]at h9)
       have hs77:=fun w=>hs7 ((p:Int)+4) ((p:Int)+4+(x2.length:Int)) w (by push_cast;rfl) (by push_cast;rfl)
       clear hS0 hy hR5e e1 hgd hre hhe hrg hr7 hs7 hl5
       go_wp2_with (go_at_call 138;refine(rd32n (x2.length:Int) HK4.out _ _ _ (x2++R5) _ (by have h9:=(HRe.out.at_ HX.out).1;rwa [<-HR4.out]at h9⊢)).mono ?_;rintro e w3 ⟨rfl,hx3⟩;have HX3:=zh hx3;have hg3:=(hx3.block _ (zl HH.out.arr)).trans HH.out.arr;have hcg:=zc hg3 k (.slice none 0 0) (HH.out.at_ (by omega));have hfg:=free_slot hg3 k;clear hx3 hg3)
       go_roundw
       case rel=>
        refine⟨k+1,p+(4+x2.length),by omega,by go_num,by go_num,R5,cs.setIfInBounds k (.slice (some qA) x2.length c7),zh ⟨?_,HR5e.out,cf,KEEP.out _ _ HX3.out,HCD.out⟩⟩
        exact(HH.out.skip HX3.out HR5.out (by rw [List.length_append,numB_len])).put HLT.out (by omega) HOA.out
       case measure=>simp only [intOf];omega
    ·obtain rfl:k=vls.length:=by omega
     rw [List.drop_length,List.flatMap_nil,List.nil_append]at hS0
     have hl3:R3.length=2:=by rw [hS0,numB_len]
     obtain⟨Ah,ch,hsh,hrh⟩:=sl_at A N c (p) (by omega) hcap HCM.out
     have hhh:=hrh b wd _ HV.out
     rw [HH.out.rest,hS0]at hhh
     have HRh:=zh hhh
     clear hrh hhh
     rw [show N - p=2 by omega]at hsh HRh
     have hb9:=HBK.out
     have hz2:=zc hb9 2 (.slice none 0 0) rfl
     have hy2:=free_slot hb9 2
     clear hS0 hl3 hb9
     rcases hx01 with rfl|rfl
     all_goals
      go_wp2_with (first|(go_at_call_of 137 Ah;refine(rd16n _ HXX.out _ _ _ ([]) _ (by rw [List.append_nil];exact(HRh.out.at_ (by exact(HX.out.set _ _))).1)).mono ?_;rintro e w9 ⟨rfl,hx3⟩;have HXn:Hid (ExtBut b wd w9):=zh ((show ExtBut b wd _ from(HX.out.set _ _)).trans hx3.but);have HBn:Hid (w9.heap[b]?=some (.cells #[.int .u32 n,.slice (some ⟨w7.heap.size,0,none⟩) lf.length lf.length,.slice (some ⟨w8.heap.size,0,none⟩) vls.length vls.length,.int .u16 0] 131 (0,0))):=zh ((hx3.block b (zl (slot_setCell HBK.out))).trans (slot_setCell HBK.out));clear HX HBK;have HX:=HXn;have HBK:=HBn;clear HXn HBn;(try clear hz0);(try clear hy0);have hz0:=zc HBK.out 0 _ rfl;have hy0:=free_slot HBK.out 0;(try clear hz1);(try clear hy1);have hz1:=zc HBK.out 1 _ rfl;have hy1:=free_slot HBK.out 1;(try clear hz2);(try clear hy2);have hz2:=zc HBK.out 2 _ rfl;have hy2:=free_slot HBK.out 2;(try clear hz3);(try clear hy3);have hz3:=zc HBK.out 3 _ rfl;have hy3:=free_slot HBK.out 3;have HX9:=zh hx3;clear hx3))
      go_ret
      have HG9:=zh ((HX9.out.block _ (by simpa [World.setCell]using zl HH.out.arr)).trans ((heap_setCell_other _ _ _ _ (by have:=HLT.out;have:=HH.out.lo;simp only [ne_eq];omega)).trans HH.out.arr))
      have HF9:=zh ((HX9.out.block _ (by simpa [World.setCell]using zl HCF.out)).trans ((heap_setCell_other _ _ _ _ (by have:=HLT.out;have:=HLO7.out;simp only [ne_eq];omega)).trans HCF.out))
      refine⟨rfl,HX.out.set _ _,_,_,_,_,slot_setCell HBK.out,?_,?_⟩
      ·exact rdi_arr ((heap_setCell_other _ _ _ _ (by have:=HLT.out;have:=HLO7.out;simp only [ne_eq];omega)).trans HF9.out) HCD.out (by omega)
      ·exact rd1_arr (m:=0) ((heap_setCell_other _ _ _ _ (by have:=HLT.out;have:=HH.out.lo;simp only [ne_eq];omega)).trans HG9.out) HH.out.done (HX.out.set _ _) (Nat.le_refl _) (by unfold maxLen;omega)
end Go.Proofs.YtdenjanihikolaaGreatDoor
