/- told and answered: what their walks share. -/
import Derived.Test.YtdenjanihikolaaGreatDoorRqA2
import Derived.Test.YtdenjanihikolaaGreatDoorRqA0
import Derived.Test.YtdenjanihikolaaGreatDoorRqA1
import Derived.Test.YtdenjanihikolaaGreatDoorRqDke
import Derived.Test.YtdenjanihikolaaGreatDoorRqDcj
import Derived.Test.YtdenjanihikolaaGreatDoorRqDok
import Derived.Test.YtdenjanihikolaaGreatDoorRqTdc
namespace Go.Proofs.YtdenjanihikolaaGreatDoor
set_option linter.unusedVariables false
set_option linter.unusedSimpArgs false
set_option maxRecDepth 100000
set_option maxHeartbeats 4000000
open Go.RowKit Og
theorem sl_mids (w0:World)(a:Addr)(N c p n:Nat)(hp:p+n<=N)(hN:N<=c)(hc:c<=maxLen):∃q c',(∀(i j:Int) (w:World),i=(p:Int)->j=(p:Int)+(n:Int)->(Instr.slice 26 (.slice (some a) N c) (some (.int .i64 i)) (some (.int .i64 j)) none).run Tryz.prog w=.ok (.slice (some q) n c') w)/\∀(b:Nat) (w:World) (xs:List Int),RdN b w (.slice (some a) N c) xs->RdN b w (.slice (some q) n c') ((xs.drop p).take n):=by
 obtain⟨A',c',h4,h5⟩:=sl_midr (some a) N c p n hp hN hc
 cases A' with
 | some q=>exact⟨q,c',h4,h5⟩
 | none=>
   exfalso
   have h9:=h4 (p:Int) ((p:Int)+(n:Int)) w0 rfl rfl
   rw [run_slice_lh (P:=Tryz.prog) w0 26 (some a) N c Tryz.underlying26 .i64 .i64 p ((p:Int)+(n:Int)) (by omega) (by omega) (by omega)]at h9
   have hs:(sizeOf (Tryz.prog.elem 26)).run Tryz.prog w0=.ok 1 w0:=by
    obtain⟨i0,hi,hz0,hz1,hz2⟩:=info_parts info5
    simp [sizeOf,typeInfo,show Tryz.prog.elem 26=5 from by kernel_rfl,hi,hz1]
   rw [hs]at h9
   simp only [Result.andThen,sliced]at h9
   split at h9 <;> simp_all
theorem sl_mid3 (a:Addr)(N c p n:Nat)(hp:p+n<=N)(hN:N<=c)(hc:c<=maxLen):∃q,(∀(i j k:Int) (w:World),i=(p:Int)->j=(p:Int)+(n:Int)->k=(p:Int)+(n:Int)->(Instr.slice 26 (.slice (some a) N c) (some (.int .i64 i)) (some (.int .i64 j)) (some (.int .i64 k))).run Tryz.prog w=.ok (.slice (some q) n n) w)/\∀(b:Nat) (w:World) (xs:List Int),RdN b w (.slice (some a) N c) xs->RdN b w (.slice (some q) n n) ((xs.drop p).take n):=by
 refine⟨if n=0 then a else a.add p,fun i j k w hi hj hk=>?_,fun b w xs h=>?_⟩
 ·subst hi;subst hj;subst hk
  rw [run_slice_lhm (P:=Tryz.prog) w 26 (some a) N c Tryz.underlying26 .i64 .i64 .i64 p ((p:Int)+(n:Int)) ((p:Int)+(n:Int)) (by omega) (by omega) (by omega) (by omega)]
  have hs:(sizeOf (Tryz.prog.elem 26)).run Tryz.prog w=.ok 1 w:=by
   obtain⟨i0,hi,hz0,hz1,hz2⟩:=info_parts info5
   simp [sizeOf,typeInfo,show Tryz.prog.elem 26=5 from by kernel_rfl,hi,hz1]
  rw [hs]
  have h9:((p:Int)+(n:Int)).toNat=p+n:=by omega
  by_cases e:n=0
  ·subst e;simp [Result.andThen,sliced]
  ·have e2:¬(p+n=p):=by omega
   simp [Result.andThen,sliced,h9,e,e2]
 ·obtain⟨rfl,h6,h7⟩:=h.1.parts
  by_cases e:n=0
  ·subst e;exact RdN.none _ 0 0 _ rfl rfl (Nat.zero_le _)
  ·rw [if_neg e]
   exact h.sub (l:=p) (n:=n) (by omega) (fun _=>rfl) n (by omega)
structure DrT (b g:Nat) (wd w:World) (o:Obj) (te:TypeId) (m N:Nat) (xs:List Int) (p:Nat) (R:List Int) (cs:Array Value) (P:Nat->Value->Prop) (z0:Value) (k:Nat):Prop where
 len:N=p+R.length
 rest:xs.drop p=R
 bel:ExtBut b wd w
 blk:w.heap[b]?=some o
 arr:w.heap[g]?=some (.cells cs te (0,0))
 size:cs.size=m
 lo:wd.heap.size<=g
 done:∀j,j < k->∃u,cs[j]?=some u/\P j u
 todo:∀j,k<=j->j < m->cs[j]?=some z0
section
variable {b g : Nat} {wd w w2 : World} {o : Obj} {te : TypeId} {m N p k : Nat} {xs R R2 B : List Int} {cs : Array Value} {P : Nat → Value → Prop} {z0 : Value}
theorem DrT.at_ (h:DrT b g wd w o te m N xs p R cs P z0 k)(hk:k < m):cs[k]?=some z0:=h.todo k (Nat.le_refl _) hk
theorem DrT.skip (h:DrT b g wd w o te m N xs p R cs P z0 k)(hx:Ext w w2)(hR:R=B++R2) {q:Nat} (hq:B.length=q):DrT b g wd w2 o te m N xs (p+q) R2 cs P z0 k:=by
 subst hq
 exact⟨by rw [h.len,hR,List.length_append];omega,by rw [<-List.drop_drop,h.rest,hR,List.drop_left],h.bel.trans hx.but,(hx.block b (zl h.blk)).trans h.blk,(hx.block g (zl h.arr)).trans h.arr,h.size,h.lo,h.done,h.todo⟩
theorem DrT.pass (h:DrT b g wd w o te m N xs p R cs P z0 k)(hk:k < m)(hu:P k z0):DrT b g wd w o te m N xs p R cs P z0 (k+1):=by
 refine⟨h.len,h.rest,h.bel,h.blk,h.arr,h.size,h.lo,fun j hj=>?_,fun j h1 h2=>h.todo j (by omega) h2⟩
 by_cases e:j=k
 ·subst e;exact⟨z0,h.at_ hk,hu⟩
 ·exact h.done j (by omega)
theorem DrT.put (h:DrT b g wd w o te m N xs p R cs P z0 k)(hb:b < wd.heap.size)(hk:k < m) {u:Value} (hu:P k u):DrT b g wd (w.setCell ⟨g,k,none⟩ u) o te m N xs p R (cs.setIfInBounds k u) P z0 (k+1):=by
 have hlo:=h.lo
 have hs:=h.size
 have hoth:∀q,q≠g->(w.setCell ⟨g,k,none⟩ u).heap[q]?=w.heap[q]?:=fun q hq=>heap_setCell_other w ⟨g,k,none⟩ q _ hq
 refine⟨h.len,h.rest,⟨h.bel.os,h.bel.tape,h.bel.output,by simpa [World.setCell]using h.bel.size,fun q hq hqb=>(hoth q (by omega)).trans (h.bel.block q hq hqb)⟩,(hoth b (by omega)).trans h.blk,slot_setCell h.arr,by simp [hs],hlo,fun j hj=>?_,fun j h1 h2=>?_⟩
 ·by_cases e:j=k
  ·subst e;exact⟨u,by simp [hs,hk],hu⟩
  ·obtain⟨u',h3,h4⟩:=h.done j (by omega)
   exact⟨u',by rw [<-h3];simp [Array.getElem?_setIfInBounds,Ne.symm e],h4⟩
 ·rw [<-h.todo j (by omega) h2]
  have e:j≠k:=by omega
  simp [Array.getElem?_setIfInBounds,Ne.symm e]
end
def OptAt (b:Nat) (wd:World) (x:Bool×List Int) (u:Value):Prop:=∀w',ExtBut b wd w'->isOpt w' (optV x) u
theorem OptAt.of {b:Nat} {wd:World} {x2:List Int} {q:Addr} {c:Nat} (h:RdN b wd (.slice (some q) x2.length c) x2):OptAt b wd (false,x2) (.slice (some q) x2.length c):=fun w' hw=>⟨q,c,rfl,(h.at_ hw).1⟩
theorem OptAt.nul {b:Nat} {wd:World} {x2:List Int} :OptAt b wd (true,x2) (.slice none 0 0):=fun w' hw=>rfl
theorem rd1_arr {b g c m:Nat} {wd w:World} {te:TypeId} {l:List (Bool×List Int)} {cs:Array Value} (ha:w.heap[g]?=some (.cells cs te (0,0)))(hd:∀j,j < l.length->∃u,cs[j]?=some u/\OptAt b wd (l.getD j (true,[])) u)(hx:ExtBut b wd w)(hc:l.length<=c)(hm:c<=maxLen):Rd1 isOpt w (.slice (some ⟨g,0,none⟩) l.length c) (l.map optV):=by
 refine⟨_,_,by rw [List.length_map],by rw [List.length_map];exact hc,hm,fun _=>⟨g,0,rfl,fun j hj=>?_⟩⟩
 rw [List.length_map]at hj
 obtain⟨u,h1,h2⟩:=hd j hj
 refine⟨u,?_,?_⟩
 ·rw [Nat.zero_add];exact zc ha j u h1
 ·have:=h2 w hx
  simpa [List.getD,hj]using this
theorem dek45 (l:List (Bool×List Int))(hll:l.length<=20)(hlr:∀y∈l,y.2.length<=200)(wd:World)(b:Nat)(v:Value)(hb:wd.heap[b]?=some (.cells #[.slice none 0 0] 212 (0,0)))(hv:RdB wd v (numB (l.length:Int) 2++l.flatMap fun x=>valB x.1 x.2))(hl:(numB (l.length:Int) 2++l.flatMap fun x=>valB x.1 x.2).length<=100000)(hof:v.ownBlock≠some b):
 Calls Tryz.prog 289 #[.pointer (some ⟨b,0,none⟩),v] wd (Deced b (fun b w2=>∃A c,w2.heap[b]?=some (.cells #[.slice A l.length c] 212 (0,0))/\Rd1 isOpt w2 (.slice A l.length c) (l.map optV)) wd):=by
 obtain⟨R,hRR⟩:∃R,R=l.flatMap fun x=>valB x.1 x.2:=⟨_,rfl⟩
 rw [<-hRR]at hv hl
 have HRR:=zh hRR
 clear hRR
 obtain⟨A,c,hvA⟩:=hv.len
 subst hvA
 have HV:Hid (RdN b wd (.slice A (numB (l.length:Int) 2++R).length c) (numB (l.length:Int) 2++R)):=zh ⟨hv,fun _=>hof⟩
 have HLT:=zh (zl hb)
 have HBK:=zh hb
 have HLR:=zh hlr
 have hck0:=zc hb 0 _ rfl
 have hfk0:=free_slot hb 0
 have HX:Hid (ExtBut b wd wd):=zh (Ext.refl wd).but
 clear hof hb hlr
 obtain⟨N,hN⟩:∃m,m=(numB (l.length:Int) 2++R).length:=⟨_,rfl⟩
 have HN2:Hid (N=2+R.length):=zh (by rw [hN];simp only [List.length_append,numB_len])
 have hN2:2<=N:=by rw [HN2.out];omega
 have hcap:=hv.parts.2.1
 have HCM:=zh hv.parts.2.2
 rw [<-hN]at hcap HV hl
 rw [<-hN]
 have HNL:Hid (0<=(l.length:Int)/\(l.length:Int) < 65536):=zh (by omega)
 obtain⟨xs0,hxs0⟩:∃y,y=numB (l.length:Int) 2++R:=⟨_,rfl⟩
 have HXS:=zh hxs0.symm
 rw [<-hxs0]at HV
 obtain⟨b1,o1,hA⟩:∃b1 o1,A=some ⟨b1,o1,none⟩:=by
  obtain⟨A',c',hv',_,_,h3⟩:=hv
  obtain⟨rfl,_⟩:A=A'/\_:=by simpa using hv'
  obtain⟨b1,o1,hA,_⟩:=h3 (by simp only [List.length_append,numB_len];omega)
  exact⟨b1,o1,hA⟩
 subst hA
 by_cases hln:0 < l.length
 ·have hgt:(0:Int) < (l.length:Int):=by omega
  have hmx:max (32:Int) (l.length:Int)=32:=by omega
  have hmk:∀w:World,(Instr.makeSlice 104 (.int .i64 l.length) (.int .i64 32)).run Tryz.prog w=.ok (.slice (some ⟨w.heap.size,0,none⟩) l.length 32) (mkW w):=by
   intro w
   obtain⟨i0,hi,hz0,hz1,hz2⟩:=info_parts info26
   have h9:=run_makeSlice (P:=Tryz.prog) w 104 26 i0 _ Tryz.underlying104 hi hz0 .i64 .i64 (l.length:Int) 32 (by omega) (by omega) (by rw [hz1];decide) (by rw [hz2];decide) (by decide)
   rw [h9,hz1]
   rfl
  clear hv hN hxs0
  go_enter Tryz.func289,Tryz.ntmps289
  go_wp2_with (first|(go_at_call 137;refine(rd16n (l.length:Int) HNL.out _ _ _ R _ (by rw [HXS.out];exact(HV.out.at_ HX.out).1)).mono ?_;rintro e w2 ⟨rfl,hx2⟩;have HX2:=zh (HX.out.trans hx2.but);clear HX;have HX:=HX2;clear HX2;have hbk:=(hx2.block b HLT.out).trans HBK.out;clear HBK hck0 hfk0;have HBK:=zh hbk;have hck0:=zc hbk 0 _ rfl;have hfk0:=free_slot hbk 0;have hbm:=((ext_alloc w2 (.cells (madeCells #[.slice none 0 0] 32) 26)).block b (zl hbk)).trans hbk;have hcm:(mkW w2).cell? ⟨b,0,none⟩=some (.slice none 0 0):=zc hbm 0 _ rfl;have hfm:(mkW w2).frozen? ⟨b,0,none⟩=false:=free_slot hbm 0;clear hbk hx2 hbm))
  go_loopw [58,5] (fun i rp wr=>∃k p:Nat,k<=l.length/\i=.int .i64 k/\rp=.int .i64 p/\∃R cs,Hid (DrT b w2.heap.size wd wr (.cells #[.slice (some ⟨w2.heap.size,0,none⟩) l.length 32] 212 (0,0)) 26 32 N xs0 p R cs (fun j u=>OptAt b wd (l.getD j (true,[])) u) (.slice none 0 0) k/\R=(l.drop k).flatMap fun x=>valB x.1 x.2)) (fun i _ _=>l.length - (intOf i).toNat)
  case atStart=>
   refine⟨0,2,Nat.zero_le _,rfl,rfl,R,madeCells #[.slice none 0 0] 32,zh ⟨?_,HRR.out⟩⟩
   have h1:=(ext_alloc w2 (.cells (madeCells #[.slice none 0 0] 32) 26))
   refine⟨by rw [HN2.out],by rw [<-HXS.out];exact List.drop_left' (by rw [numB_len]),(HX.out.trans h1.but).set 0 _,slot_setCell ((h1.block b (zl HBK.out)).trans HBK.out),?_,by rw [size_madeCells],HX.out.size,fun j hj=>absurd hj (Nat.not_lt_zero _),fun j _ hj=>by simp [madeCells,hj,Nat.mod_one]⟩
   exact(heap_setCell_other _ _ _ _ (by have:=zl HBK.out;simp only [];omega)).trans (heap_alloc_new _ _)
  case round=>
   clear HX HBK hck0 hfk0 HNL hmk hgt hcm hfm
   obtain⟨k,p,hk1,rfl,rfl,R3,cs,HHR⟩:=hrel
   have HH:=zh HHR.out.1
   have hS0:=HHR.out.2
   clear HHR
   by_cases hlt:k < l.length
   ·obtain⟨x,hx⟩:∃x,x=l[k]:=⟨_,rfl⟩
    have hxr:=HLR.out _ (List.getElem_mem hlt)
    rw [<-hx]at hxr
    have hgd:l.getD k (true,[])=x:=by rw [hx];simp [List.getD,hlt]
    rw [List.drop_eq_getElem_cons hlt,List.flatMap_cons,<-hx]at hS0
    have hNp:N - p=R3.length:=by have:=HH.out.len;omega
    have hpN:p<=N:=by have:=HH.out.len;omega
    have HX:=zh HH.out.bel
    have hck0:=zc HH.out.blk 0 _ rfl
    have HD:Hid (RdN b wd (.slice (some ⟨b1,o1+p,none⟩) R3.length (c - p)) R3):=zh (by
     have h9:=HV.out.drop p hpN
     rw [HH.out.rest,hNp]at h9
     simpa [add_lit0]using h9)
    have hcp:¬c=p:=by
     have h8:4<=R3.length:=by
      rw [hS0,List.length_append]
      unfold valB
      split
      ·rw [numB_len];omega
      ·rw [List.length_append,numB_len];omega
     omega
    obtain⟨x1,x2⟩:=x
    cases x1 with
    | true=>
      have e1:valB (true,x2).1 (true,x2).2=numB 4294967295 4:=by simp only [valB,if_true];exact numB_mod4 (-1)
      rw [e1]at hS0
      obtain⟨R4,hR4e⟩:∃R4,R4=(l.drop (k+1)).flatMap fun x=>valB x.1 x.2:=⟨_,rfl⟩
      rw [<-hR4e]at hS0
      have HR4:=zh hS0
      have HR4e:=zh hR4e
      have h4:¬R3.length < 4:=by rw [hS0,List.length_append,numB_len];omega
      have hw:IntKind.i32.wrap 4294967295= -1:=by rw [IntKind.wrap_i32];rfl
      have hcg:=zc HH.out.arr k (.slice none 0 0) (HH.out.at_ (by omega))
      have hfg:=free_slot HH.out.arr k
      have HK4:Hid (0<=(4294967295:Int)/\(4294967295:Int) < 4294967296):=zh (by omega)
      have HOA:Hid (OptAt b wd (l.getD k (true,[])) (.slice none 0 0)):=zh (by rw [hgd];exact OptAt.nul)
      clear hS0 hx hxr hR4e e1 hgd
      go_wp2_with (first|(go_at_call 138;refine(rd32n (4294967295) HK4.out _ _ _ R4 _ (by rw [<-HR4.out];exact(HD.out.at_ HX.out).1)).mono ?_;rintro e w3 ⟨rfl,hx3⟩;have HX3:=zh hx3;have hbk3:=(hx3.block b (zl HH.out.blk)).trans HH.out.blk;clear hck0;have hck0:=zc hbk3 0 _ rfl;have hg3:=(hx3.block w2.heap.size (zl HH.out.arr)).trans HH.out.arr;clear hcg hfg;have hcg:=zc hg3 k (.slice none 0 0) (HH.out.at_ (by omega));have hfg:=free_slot hg3 k;have HB3:=zh hbk3;have HG3:=zh hg3;clear hx3 hbk3 hg3))
      go_roundw
      case rel=>
       refine⟨k+1,p+4,by omega,by go_num,by go_num,R4,cs.setIfInBounds k (.slice none 0 0),zh ⟨?_,HR4e.out⟩⟩
       exact(HH.out.skip HX3.out HR4.out (by rw [numB_len])).put HLT.out (by omega) HOA.out
      case measure=>simp only [intOf];omega
    | false=>
      have e1:valB (false,x2).1 (false,x2).2=numB (x2.length:Int) 4++x2:=by simp only [valB,Bool.false_eq_true,if_false]
      rw [e1,List.append_assoc]at hS0
      replace hxr:x2.length<=200:=hxr
      obtain⟨R5,hR5e⟩:∃R5,R5=(l.drop (k+1)).flatMap fun x=>valB x.1 x.2:=⟨_,rfl⟩
      rw [<-hR5e]at hS0
      obtain⟨R4,hR4e⟩:∃R4,R4=x2++R5:=⟨_,rfl⟩
      rw [<-hR4e]at hS0
      have HR5r:=zh hR5e
      have HR4:=zh hS0
      have hl4:R3.length=4+R4.length:=by rw [hS0];simp only [List.length_append,numB_len]
      have hl5:R4.length=x2.length+R5.length:=by rw [hR4e];simp only [List.length_append]
      have hw:IntKind.i32.wrap (x2.length:Int)=(x2.length:Int):=by rw [IntKind.wrap_i32];omega
      have hm:((x2.length:Int) == -1)=false:=beq_eq_false_iff_ne.2 (by omega)
      have hm2:¬((x2.length:Int)= -1):=by omega
      have HK4:Hid (0<=(x2.length:Int)/\(x2.length:Int) < 4294967296):=zh (by omega)
      have hcg:=zc HH.out.arr k (.slice none 0 0) (HH.out.at_ (by omega))
      have hfg:=free_slot HH.out.arr k
      have hN5:N - (p+4)=R4.length:=by omega
      have HR5:=zh (show R3=(numB (x2.length:Int) 4++x2)++R5 by rw [hS0,hR4e,List.append_assoc])
      obtain⟨A6,c6,hsl,hsr⟩:=sl_from (some ⟨b1,o1,none⟩) N c (p+4) ((p:Int)+4) (by omega) (by have:=HH.out.len;omega) hcap HCM.out
      obtain⟨qA,hs7,hr7⟩:=sl_mid3 ⟨b1,o1,none⟩ N c (p+4) x2.length (by omega) hcap HCM.out
      have HOA:Hid (OptAt b wd (l.getD k (true,[])) (.slice (some qA) x2.length x2.length)):=zh (by
       rw [hgd]
       refine OptAt.of ?_
       have h9:=hr7 b wd xs0 HV.out
       rwa [<-List.drop_drop,HH.out.rest,hS0,drop_numB,hR4e,List.take_left]at h9)
      have hs77:=fun w=>hs7 ((p:Int)+4) ((p:Int)+4+(x2.length:Int)) ((p:Int)+4+(x2.length:Int)) w (by push_cast;rfl) (by push_cast;rfl) (by push_cast;rfl)
      have h4:¬R3.length < 4:=by omega
      have h5n:¬R4.length < x2.length:=by omega
      have hcc:p+4+x2.length<=c:=by omega
      clear hS0 hx hR4e hR5e e1 hl4 hgd hr7 hs7 hsr
      go_wp2_with (first|(go_at_call 138;refine(rd32n (x2.length) HK4.out _ _ _ R4 _ (by rw [<-HR4.out];exact(HD.out.at_ HX.out).1)).mono ?_;rintro e w3 ⟨rfl,hx3⟩;have HX3:=zh hx3;have hbk3:=(hx3.block b (zl HH.out.blk)).trans HH.out.blk;clear hck0;have hck0:=zc hbk3 0 _ rfl;have hg3:=(hx3.block w2.heap.size (zl HH.out.arr)).trans HH.out.arr;clear hcg hfg;have hcg:=zc hg3 k (.slice none 0 0) (HH.out.at_ (by omega));have hfg:=free_slot hg3 k;have HB3:=zh hbk3;have HG3:=zh hg3;clear hx3 hbk3 hg3))
      have HCK3:=zh hck0
      refine wp_region_cut (J:=fun x=>Ext w3 x) (R:=Ext) 14 [Sp.eq _ (.pointer (some ⟨b,0,none⟩)),Sp.eq _ (.pointer (some ⟨b,0,none⟩)),Sp.eq _ (.pointer (some ⟨b,0,none⟩)),Sp.eq _ (.slice (some ⟨w2.heap.size,0,none⟩) l.length 32),Sp.eq _ (.int .i64 k),Sp.eq _ (.slice (some ⟨b1,o1,none⟩) N c),Sp.eq _ (.int .i64 ((p:Int)+4)),Sp.eq _ (.int .i64 ((p:Int)+4)),Sp.eq _ (.int .i64 (x2.length:Int)),Sp.eq _ (.int .i64 ((p:Int)+4+(x2.length:Int))),Sp.eq _ (.int .i64 ((p:Int)+4)),Sp.eq _ (.int .i64 (x2.length:Int)),Sp.eq _ (.int .i64 ((p:Int)+4+(x2.length:Int))),Sp.eq _ (.slice (some qA) x2.length x2.length)] (by kernel_rfl) (by kernel_rfl) ?_ ?_ ?_
      ·exact(Ext.refl w3).drew
      ·refine⟨zj,zj,zj,?_,zj,zj,zj,zj,zj,zj,zj,zj,zj,zj,trivial⟩
       ·intro vs w1 hJ hp
        have q2:vs 2=_:=zd hp 2
        have HJ:=zh hJ
        have hq:=hJ.cell HCK3.out
        clear hp hJ
        simp only [List.take_succ_cons,List.take_zero,putAll,Nat.reduceAdd]
        go_wp2
        exact⟨rfl,HJ.out,zr,rfl⟩
      ·intro vs w1 hJ hp
       have q0:vs 0=_:=zd hp 0
       have q1:vs 1=_:=zd hp 1
       have q2:vs 2=_:=zd hp 2
       have q3:vs 3=_:=zd hp 3
       have q4:vs 4=_:=zd hp 4
       have q5:vs 5=_:=zd hp 5
       have q6:vs 6=_:=zd hp 6
       have q7:vs 7=_:=zd hp 7
       have q8:vs 8=_:=zd hp 8
       have q9:vs 9=_:=zd hp 9
       have q10:vs 10=_:=zd hp 10
       have q11:vs 11=_:=zd hp 11
       have q12:vs 12=_:=zd hp 12
       have q13:vs 13=_:=zd hp 13
       have HJ:=zh hJ
       have hcg':=zc ((hJ.block _ (zl HG3.out)).trans HG3.out) k (.slice none 0 0) (HH.out.at_ (by omega))
       have hfg':=free_slot ((hJ.block _ (zl HG3.out)).trans HG3.out) k
       clear hp hJ hcg hfg hck0
       simp only [List.drop_succ_cons,List.drop_zero,List.take_succ_cons,List.take_zero,putAll,Nat.reduceAdd,Act.put,q0,q1,q2,q3,q4,q5,q6,q7,q8,q9,q10,q11,q12,q13,List.setIfInBounds_toArray,List.set_cons_zero,List.set_cons_succ]
       clear q0 q1 q2 q3 q4 q5 q6 q7 q8 q9 q10 q11 q12 q13
       go_wp2
       go_roundw
       case rel=>
        refine⟨k+1,p+(4+x2.length),by omega,by go_num,by go_num,R5,cs.setIfInBounds k (.slice (some qA) x2.length x2.length),zh ⟨?_,HR5r.out⟩⟩
        exact(HH.out.skip (HX3.out.trans HJ.out) HR5.out (by rw [List.length_append,numB_len])).put HLT.out (by omega) HOA.out
       case measure=>simp only [intOf];omega
   ·obtain rfl:k=l.length:=by omega
    clear hS0
    go_wp2
    go_ret
    exact⟨rfl,HH.out.bel,_,_,HH.out.blk,rd1_arr (m:=0) HH.out.arr HH.out.done HH.out.bel (by omega) (by unfold maxLen;omega)⟩
 ·have h0:l=[]:=List.eq_nil_of_length_eq_zero (by omega)
  subst h0
  have hnil:∀w:World,(Instr.slice 104 (.slice none 0 0) none (some (.int .i64 0)) none).run Tryz.prog w=.ok (.slice none 0 0) w:=fun w=>by
   rw [run_slice_h (P:=Tryz.prog) w 104 none 0 0 Tryz.underlying104 .i64 0 (by omega) (by omega)]
   have hs:(sizeOf (Tryz.prog.elem 104)).run Tryz.prog w=.ok 1 w:=by
    obtain⟨i0,hi,hz0,hz1,hz2⟩:=info_parts info26
    simp [sizeOf,typeInfo,show Tryz.prog.elem 104=26 from by kernel_rfl,hi,hz1]
   rw [hs]
   rfl
  clear hv hN hxs0
  simp only [List.length_nil,Int.natCast_zero,Int.ofNat_zero,Int.cast_ofNat_Int]at HNL HXS
  go_enter Tryz.func289,Tryz.ntmps289
  go_wp2_with (first|(go_at_call 137;refine(rd16n 0 (by decide) _ _ _ R _ (by rw [HXS.out];exact(HV.out.at_ HX.out).1)).mono ?_;rintro e w2 ⟨rfl,hx2⟩;have HX2:=zh (HX.out.trans hx2.but);clear HX;have HX:=HX2;clear HX2;have hbk:=(hx2.block b HLT.out).trans HBK.out;clear HBK hck0 hfk0;have HBK:=zh hbk;have hck0:=zc hbk 0 _ rfl;have hfk0:=free_slot hbk 0;clear hbk hx2))
  go_loopw [58,5] (fun i rp wr=>i=.int .i64 0/\wr=w2.setCell ⟨b,0,none⟩ (.slice none 0 0)) (fun i _ _=>0)
  case atStart=>exact⟨rfl,rfl⟩
  case round=>
   obtain⟨rfl,rfl⟩:=hrel
   go_wp2
   go_ret
   exact⟨rfl,HX.out.set _ _,none,0,slot_setCell HBK.out,rd1_nil _ _⟩
theorem cellsT_set {l:List (Nat×Nat×((Nat->Value)->Value))} {L:Nat->Bool} {vs:Nat->Value} {i j:Nat} {u x:Value} (hi:L i=false)(h:∀e∈l,(e.1=i/\e.2.1=j/\e.2.2 (upd vs i x)=u)∨(e.1≠i/\e.2.1≠j/\(L e.1=true->e.2.2 (upd vs i x)=e.2.2 vs))):∀base,cellsT (base.setIfInBounds j u) l (updB L i) (upd vs i x)=(cellsT base l L vs).setIfInBounds j u:=by
 unfold cellsT
 induction l with
 | nil=>intro base;rfl
 | cons e r ih=>
   intro base
   have ih':=ih fun f hf=>h f (by simp [hf])
   simp only [List.foldl_cons]
   rcases h e (by simp)with ⟨h1,h2,h3⟩|⟨h1,h2,h3⟩
   ·have e1:updB L i e.1=true:=by simp [updB,h1]
    rw [if_pos e1,h2,h3,if_neg (by rw [h1,hi];decide),Array.setIfInBounds_setIfInBounds]
    exact ih' _
   ·have e1:updB L i e.1=L e.1:=by simp [updB,h1]
    rw [e1]
    by_cases hL:L e.1=true
    ·rw [if_pos hL,if_pos hL,h3 hL,Array.setIfInBounds_comm _ _ (Ne.symm h2)]
     exact ih' _
    ·rw [if_neg hL,if_neg hL]
     exact ih' _
theorem cellsT_on {l:List (Nat×Nat×((Nat->Value)->Value))} {L:Nat->Bool} {vs:Nat->Value} {i j:Nat} {u x:Value} (hi:L i=false)(h:∀e∈l,(e.1=i/\e.2.1=j/\e.2.2 (upd vs i x)=u)∨(e.1≠i/\e.2.1≠j/\(L e.1=true->e.2.2 (upd vs i x)=e.2.2 vs)))(hex:∃e∈l,e.1=i):∀base,cellsT base l (updB L i) (upd vs i x)=(cellsT base l L vs).setIfInBounds j u:=by
 induction l with
 | nil=>obtain⟨e,he,_⟩:=hex;cases he
 | cons e r ih=>
   intro base
   have h':∀f∈r,_:=fun f hf=>h f (by simp [hf])
   unfold cellsT
   simp only [List.foldl_cons]
   rcases h e (by simp)with ⟨h1,h2,h3⟩|⟨h1,h2,h3⟩
   ·have e1:updB L i e.1=true:=by simp [updB,h1]
    rw [if_pos e1,h2,h3,if_neg (by rw [h1,hi];decide)]
    exact cellsT_set hi h' _
   ·have e1:updB L i e.1=L e.1:=by simp [updB,h1]
    have hex':∃f∈r,f.1=i:=by
     obtain⟨f,hf,hfi⟩:=hex
     rcases List.mem_cons.1 hf with rfl|hf
     ·exact absurd hfi h1
     ·exact⟨f,hf,hfi⟩
    rw [e1]
    by_cases hL:L e.1=true
    ·rw [if_pos hL,if_pos hL,h3 hL]
     exact ih h' hex' _
    ·rw [if_neg hL,if_neg hL]
     exact ih h' hex' _
theorem cellsT_size {l:List (Nat×Nat×((Nat->Value)->Value))} {L:Nat->Bool} {vs:Nat->Value} :∀base,(cellsT base l L vs).size=base.size:=by
 unfold cellsT
 induction l with
 | nil=>intro base;rfl
 | cons e r ih=>
   intro base
   simp only [List.foldl_cons]
   rw [ih]
   split <;> simp
section
variable {mb : Nat} {W w : World} {base : Array Value} {l : List (Nat × Nat × ((Nat → Value) → Value))} {L : Nat → Bool} {vs : Nat → Value}
theorem TJ.on (h:TJ mb W base l L vs w) {i:Nat} (hi:L i=false)(j:Nat)(u x:Value)(hl:∀e∈l,(e.1=i/\e.2.1=j/\e.2.2 (upd vs i x)=u)∨(e.1≠i/\e.2.1≠j/\(L e.1=true->e.2.2 (upd vs i x)=e.2.2 vs)))(hex:∃e∈l,e.1=i):TJ mb W base l (updB L i) (upd vs i x) (w.setCell ⟨mb,j,none⟩ u):=
 h.put (cellsT_on hi hl hex base)
theorem TJ.has (h:TJ mb W base l L vs w)(j:Nat)(hj:j < base.size):(∃v,w.cell? ⟨mb,j,none⟩=some v)/\w.frozen? ⟨mb,j,none⟩=false:=
 ⟨⟨_,zc h.blk j _ (Array.getElem?_eq_getElem (by rw [cellsT_size];exact hj))⟩,free_slot h.blk j⟩
end
theorem made31 (w:World)(k:Int):∃W2,W2=((w.alloc (.cells #[.int .i64 0,.string ⟨#[]⟩,.string ⟨#[]⟩,.int .u32 0,.int .u32 0,.slice none 0 0,.slice none 0 0,.slice none 0 0,.slice none 0 0,.slice none 0 0,.slice none 0 0,.slice none 0 0,.slice none 0 0] 31)).alloc (.cells #[.int .i64 k,.string ⟨#[]⟩,.string ⟨#[]⟩,.int .u32 0,.int .u32 0,.slice none 0 0,.slice none 0 0,.slice none 0 0,.slice none 0 0,.slice none 0 0,.slice none 0 0,.slice none 0 0,.slice none 0 0] 31))/\Hid (Ext w W2)/\Hid (W2.heap[w.heap.size+1]?=some (.cells #[.int .i64 k,.string ⟨#[]⟩,.string ⟨#[]⟩,.int .u32 0,.int .u32 0,.slice none 0 0,.slice none 0 0,.slice none 0 0,.slice none 0 0,.slice none 0 0,.slice none 0 0,.slice none 0 0,.slice none 0 0] 31 (0,0)))/\Hid (W2.heap[w.heap.size]?=some (.cells #[.int .i64 0,.string ⟨#[]⟩,.string ⟨#[]⟩,.int .u32 0,.int .u32 0,.slice none 0 0,.slice none 0 0,.slice none 0 0,.slice none 0 0,.slice none 0 0,.slice none 0 0,.slice none 0 0,.slice none 0 0] 31 (0,0)))/\Hid (w.heap.size+1 < W2.heap.size)/\Hid (w.heap.size < W2.heap.size):=by
 obtain⟨W1,h1⟩:∃W1,W1=w.alloc (.cells #[.int .i64 0,.string ⟨#[]⟩,.string ⟨#[]⟩,.int .u32 0,.int .u32 0,.slice none 0 0,.slice none 0 0,.slice none 0 0,.slice none 0 0,.slice none 0 0,.slice none 0 0,.slice none 0 0,.slice none 0 0] 31):=⟨_,rfl⟩
 have e:W1.heap.size=w.heap.size+1:=by rw [h1];simp
 have a1:(W1.alloc (.cells #[.int .i64 k,.string ⟨#[]⟩,.string ⟨#[]⟩,.int .u32 0,.int .u32 0,.slice none 0 0,.slice none 0 0,.slice none 0 0,.slice none 0 0,.slice none 0 0,.slice none 0 0,.slice none 0 0,.slice none 0 0] 31)).heap[w.heap.size+1]?=some (.cells #[.int .i64 k,.string ⟨#[]⟩,.string ⟨#[]⟩,.int .u32 0,.int .u32 0,.slice none 0 0,.slice none 0 0,.slice none 0 0,.slice none 0 0,.slice none 0 0,.slice none 0 0,.slice none 0 0,.slice none 0 0] 31 (0,0)):=by
  rw [<-e];exact heap_alloc_new _ _
 have a2:(W1.alloc (.cells #[.int .i64 k,.string ⟨#[]⟩,.string ⟨#[]⟩,.int .u32 0,.int .u32 0,.slice none 0 0,.slice none 0 0,.slice none 0 0,.slice none 0 0,.slice none 0 0,.slice none 0 0,.slice none 0 0,.slice none 0 0] 31)).heap[w.heap.size]?=some (.cells #[.int .i64 0,.string ⟨#[]⟩,.string ⟨#[]⟩,.int .u32 0,.int .u32 0,.slice none 0 0,.slice none 0 0,.slice none 0 0,.slice none 0 0,.slice none 0 0,.slice none 0 0,.slice none 0 0,.slice none 0 0] 31 (0,0)):=by
  rw [(ext_alloc W1 _).block w.heap.size (by omega),h1];exact heap_alloc_new _ _
 rw [<-h1]
 exact⟨_,rfl,zh (by rw [h1];exact(ext_alloc w _).alloc _),zh a1,zh a2,zh (zl a1),zh (zl a2)⟩
end Go.Proofs.YtdenjanihikolaaGreatDoor
