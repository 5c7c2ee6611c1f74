/- Lengths of numbers and their numerals, by the shelf's contracts. -/
import Derived.Test.YtdenjanihikolaaGreatDoorRqA2
import Derived.Test.YtdenjanihikolaaGreatDoorRqA0
import Derived.Test.YtdenjanihikolaaGreatDoorRqA1
import Derived.Test.YtdenjanihikolaaGreatDoorRqFit
import Derived.Test.YtdenjanihikolaaGreatDoorRqStp
import Derived.Lib.ParseIntB
import Derived.Lib.ItoaNum
import Derived.Lib.ItoaMem
import Derived.Test.YtdenjanihikolaaGreatDoorRqPpc
import Derived.Shelf.Small.Bits
import Derived.Shelf.Strconv.Itoa3
import Derived.Test.YtdenjanihikolaaGreatDoorRqBase
namespace Go.Proofs.YtdenjanihikolaaGreatDoor
set_option linter.unusedVariables false
set_option linter.unusedSimpArgs false
set_option maxRecDepth 100000
set_option maxHeartbeats 4000000
open Go.RowKit Og
def mapB:Value->Nat
 | .map (some b)=>b
 | _=>0
structure MapJ (eb:Nat) (tab:List (Nat×Int×Nat)) (mi ai:Nat) (W0:World) (L:Nat->Bool) (vs:Nat->Value) (w:World):Prop where
 A:Ext W0 w
 B:L 0=true->vs 0=.map (some (mapB (vs 0)))/\W0.heap.size<=mapB (vs 0)/\MapOwn eb tab L (mapB (vs 0)) w
 C:L mi=true->vs mi=vs 0
 D:L ai=true->vs ai=vs 0
theorem MapJ.start (eb:Nat)(tab:List (Nat×Int×Nat))(mi ai:Nat)(W0:World)(vs:Nat->Value):MapJ eb tab mi ai W0 (fun _=>false) vs W0.drew:=
 ⟨(Ext.refl W0).drew,(nofun),(nofun),(nofun)⟩
theorem MapJ.keep {eb:Nat} {tab:List (Nat×Int×Nat)} {mi ai:Nat} {W0:World} {L:Nat->Bool} {vs:Nat->Value} {w:World} (h:MapJ eb tab mi ai W0 L vs w)(i:Nat)(u:Value)(h0:0≠i)(ht:∀e∈tab,e.1≠i)(hm:mi≠i)(ha:ai≠i):MapJ eb tab mi ai W0 (updB L i) (upd vs i u) w:=by
 have e0:updB L i 0=L 0:=by simp [updB,h0]
 have e1:updB L i mi=L mi:=by simp [updB,hm]
 have e2:updB L i ai=L ai:=by simp [updB,ha]
 have f0:upd vs i u 0=vs 0:=by simp [upd,h0]
 have f1:upd vs i u mi=vs mi:=by simp [upd,hm]
 have f2:upd vs i u ai=vs ai:=by simp [upd,ha]
 refine⟨h.A,fun hl=>?_,fun hl=>?_,fun hl=>?_⟩
 ·rw [e0]at hl
  rw [f0]
  exact⟨(h.B hl).1,(h.B hl).2.1,(h.B hl).2.2.off i ht⟩
 ·rw [e1]at hl
  rw [f0,f1];exact h.C hl
 ·rw [e2]at hl
  rw [f0,f2];exact h.D hl
theorem MapJ.make {eb:Nat} {tab:List (Nat×Int×Nat)} {mi ai:Nat} {W0:World} {L:Nat->Bool} {vs:Nat->Value} {w:World} (h:MapJ eb tab mi ai W0 L vs w)(ht:∀e∈tab,L e.1=false)(ht0:∀e∈tab,e.1≠0)(hm:L mi=false)(ha:L ai=false)(hm0:mi≠0)(ha0:ai≠0):MapJ eb tab mi ai W0 (updB L 0) (upd vs 0 (.map (some w.heap.size))) (w.alloc (.map #[] 0)):=by
 have e1:updB L 0 mi=false:=by simp [updB,hm,hm0]
 have e2:updB L 0 ai=false:=by simp [updB,ha,ha0]
 refine⟨h.A.alloc _,fun _=>⟨rfl,h.A.size,?_⟩,fun hl=>?_,fun hl=>?_⟩
 ·exact(MapOwn.start w ht).off 0 ht0
 ·rw [e1]at hl;cases hl
 ·rw [e2]at hl;cases hl
theorem MapJ.ins {eb:Nat} {tab:List (Nat×Int×Nat)} {mi ai:Nat} {W0:World} {L:Nat->Bool} {vs:Nat->Value} {w w2:World} (h:MapJ eb tab mi ai W0 L vs w)(hl0:L 0=true)(i:Nat)(u:Value)(h0:0≠i)(hm:mi≠i)(ha:ai≠i)(ho:MapOwn eb tab (updB L i) (mapB (vs 0)) w2)(hg:w.grownBy w2 (some (mapB (vs 0)))):MapJ eb tab mi ai W0 (updB L i) (upd vs i u) w2:=by
 have hb:=(h.B hl0).2.1
 have e1:updB L i mi=L mi:=by simp [updB,hm]
 have e2:updB L i ai=L ai:=by simp [updB,ha]
 have f0:upd vs i u 0=vs 0:=by simp [upd,h0]
 have f1:upd vs i u mi=vs mi:=by simp [upd,hm]
 have f2:upd vs i u ai=vs ai:=by simp [upd,ha]
 refine⟨(ExtBut.grown (Ext.refl w).but hg).ext h.A hb,fun hl=>?_,fun hl=>?_,fun hl=>?_⟩
 ·rw [f0]
  exact⟨(h.B hl0).1,hb,ho⟩
 ·rw [e1]at hl
  rw [f0,f1];exact h.C hl
 ·rw [e2]at hl
  rw [f0,f2];exact h.D hl
theorem MapJ.move {eb:Nat} {tab:List (Nat×Int×Nat)} {mi ai:Nat} {W0:World} {L:Nat->Bool} {vs:Nat->Value} {w:World} (h:MapJ eb tab mi ai W0 L vs w)(i:Nat)(u:Value)(hu:u=vs 0)(h0:0≠i)(ht:∀e∈tab,e.1≠i):MapJ eb tab mi ai W0 (updB L i) (upd vs i u) w:=by
 have e0:updB L i 0=L 0:=by simp [updB,h0]
 have f0:upd vs i u 0=vs 0:=by simp [upd,h0]
 refine⟨h.A,fun hl=>?_,fun hl=>?_,fun hl=>?_⟩
 ·rw [e0]at hl
  rw [f0]
  exact⟨(h.B hl).1,(h.B hl).2.1,(h.B hl).2.2.off i ht⟩
 ·rw [f0]
  by_cases e:mi=i
  ·simp [upd,e,hu]
  ·have e1:updB L i mi=L mi:=by simp [updB,e]
   rw [e1]at hl
   have f1:upd vs i u mi=vs mi:=by simp [upd,e]
   rw [f1];exact h.C hl
 ·rw [f0]
  by_cases e:ai=i
  ·simp [upd,e,hu]
  ·have e1:updB L i ai=L ai:=by simp [updB,e]
   rw [e1]at hl
   have f1:upd vs i u ai=vs ai:=by simp [upd,e]
   rw [f1];exact h.D hl
def tab73:List (Nat×Int×Nat):=[(4,83,0),(8,86,1),(12,67,2),(16,77,3),(20,68,4),(24,72,5),(28,113,8),(32,87,9),(36,115,10),(40,116,11),(44,99,12),(48,100,13),(52,110,14),(56,70,15),(60,82,17)]
theorem apart73:Apart tab73:=by unfold Apart tab73;decide
theorem map73 (eb:Nat)(w:World):Calls Tryz.prog 73 #[.pointer (some ⟨eb,0,none⟩)] w (fun e w'=>∃b,e=.returned (.map (some b))/\Ext w w'/\w.heap.size<=b/\∃L:Nat->Bool,(∀e∈tab73,L e.1=true)/\MapOwn eb tab73 L b w'):=by
 go_enter Tryz.func73,Tryz.ntmps73
 go_wp2
 refine wp_region_ogL (J:=MapJ eb tab73 61 62 w) (R:=fun _ _=>True) [Sp.any _,Sp.eq _ (.pointer (some ⟨eb,0,none⟩)),Sp.eq _ (.pointer (some ⟨eb,0,none⟩)),Sp.eq _ (.pointer (some ⟨eb,0,none⟩)),Sp.any _,Sp.eq _ (.pointer (some ⟨eb,0,none⟩)),Sp.eq _ (.pointer (some ⟨eb,0,none⟩)),Sp.eq _ (.pointer (some ⟨eb,1,none⟩)),Sp.any _,Sp.eq _ (.pointer (some ⟨eb,0,none⟩)),Sp.eq _ (.pointer (some ⟨eb,0,none⟩)),Sp.eq _ (.pointer (some ⟨eb,2,none⟩)),Sp.any _,Sp.eq _ (.pointer (some ⟨eb,0,none⟩)),Sp.eq _ (.pointer (some ⟨eb,0,none⟩)),Sp.eq _ (.pointer (some ⟨eb,3,none⟩)),Sp.any _,Sp.eq _ (.pointer (some ⟨eb,0,none⟩)),Sp.eq _ (.pointer (some ⟨eb,0,none⟩)),Sp.eq _ (.pointer (some ⟨eb,4,none⟩)),Sp.any _,Sp.eq _ (.pointer (some ⟨eb,0,none⟩)),Sp.eq _ (.pointer (some ⟨eb,0,none⟩)),Sp.eq _ (.pointer (some ⟨eb,5,none⟩)),Sp.any _,Sp.eq _ (.pointer (some ⟨eb,0,none⟩)),Sp.eq _ (.pointer (some ⟨eb,0,none⟩)),Sp.eq _ (.pointer (some ⟨eb,8,none⟩)),Sp.any _,Sp.eq _ (.pointer (some ⟨eb,0,none⟩)),Sp.eq _ (.pointer (some ⟨eb,0,none⟩)),Sp.eq _ (.pointer (some ⟨eb,9,none⟩)),Sp.any _,Sp.eq _ (.pointer (some ⟨eb,0,none⟩)),Sp.eq _ (.pointer (some ⟨eb,0,none⟩)),Sp.eq _ (.pointer (some ⟨eb,10,none⟩)),Sp.any _,Sp.eq _ (.pointer (some ⟨eb,0,none⟩)),Sp.eq _ (.pointer (some ⟨eb,0,none⟩)),Sp.eq _ (.pointer (some ⟨eb,11,none⟩)),Sp.any _,Sp.eq _ (.pointer (some ⟨eb,0,none⟩)),Sp.eq _ (.pointer (some ⟨eb,0,none⟩)),Sp.eq _ (.pointer (some ⟨eb,12,none⟩)),Sp.any _,Sp.eq _ (.pointer (some ⟨eb,0,none⟩)),Sp.eq _ (.pointer (some ⟨eb,0,none⟩)),Sp.eq _ (.pointer (some ⟨eb,13,none⟩)),Sp.any _,Sp.eq _ (.pointer (some ⟨eb,0,none⟩)),Sp.eq _ (.pointer (some ⟨eb,0,none⟩)),Sp.eq _ (.pointer (some ⟨eb,14,none⟩)),Sp.any _,Sp.eq _ (.pointer (some ⟨eb,0,none⟩)),Sp.eq _ (.pointer (some ⟨eb,0,none⟩)),Sp.eq _ (.pointer (some ⟨eb,15,none⟩)),Sp.any _,Sp.eq _ (.pointer (some ⟨eb,0,none⟩)),Sp.eq _ (.pointer (some ⟨eb,0,none⟩)),Sp.eq _ (.pointer (some ⟨eb,17,none⟩)),Sp.any _,Sp.any _,Sp.any _] (by kernel_rfl) (by kernel_rfl) ?_ ?_ ?_
 ·exact MapJ.start eb tab73 61 62 w _
 ·refine⟨?_,zu,zu,zu,?_,zu,zu,zu,?_,zu,zu,zu,?_,zu,zu,zu,?_,zu,zu,zu,?_,zu,zu,zu,?_,zu,zu,zu,?_,zu,zu,zu,?_,zu,zu,zu,?_,zu,zu,zu,?_,zu,zu,zu,?_,zu,zu,zu,?_,zu,zu,zu,?_,zu,zu,zu,?_,zu,zu,zu,?_,?_,?_,trivial⟩
  ·intro vs w1 L hLi hd hdt hJ hp
   have HJ:=zh hJ
   have HT:=zh hdt
   have hmk:=run_makeMap (P:=Tryz.prog) 254 w1
   clear hp hd hdt hLi hJ
   simp only [putAll,Nat.reduceAdd]
   go_wp2
   exact⟨rfl,HJ.out.make (fun e he=>HT.out e.1 (by revert e he;decide)) (by decide) (HT.out _ (by decide)) (HT.out _ (by decide)) (by decide) (by decide),trivial,trivial⟩
  iterate 15
   ·intro vs w1 L hLi hd hdt hJ hp
    have H0:=zh (zd hd 0)
    have HJ:=zh hJ
    have hb:=hJ.B H0.out
    have hv0:=hb.1
    simp [deps,Region.binds,Sp.eq,Sp.any]at hp
    clear hd hdt hJ
    simp only [putAll,Nat.reduceAdd,Act.put,List.setIfInBounds_toArray,List.set_cons_zero,List.set_cons_succ]
    refine wp_ins hb.2.2 rfl _ _ _ 254 _ rfl Tryz.underlying254 apart73 (by decide) hLi (by decide) (by decide) hv0 rfl hp ?_
    intro w2 hmo hg
    exact⟨rfl,HJ.out.ins H0.out _ _ (by decide) (by decide) (by decide) hmo hg,trivial,trivial⟩
  ·intro vs w1 L hLi hd hdt hJ hp
   have HJ:=zh hJ
   clear hp hd hdt hLi hJ
   simp only [putAll,Nat.reduceAdd]
   go_wp2
   exact⟨rfl,HJ.out.move 61 _ rfl (by decide) (by decide),trivial,trivial⟩
  ·intro vs w1 L hLi hd hdt hJ hp
   have HJ:=zh hJ
   have hl:=zd hd 61
   have hc:=hJ.C hl
   have HCC:=zh hc
   clear hp hd hdt hLi hJ hc hl
   simp only [putAll,Nat.reduceAdd]
   go_wp2
   exact⟨rfl,HJ.out.move 62 _ HCC.out (by decide) (by decide),trivial,trivial⟩
 ·intro vs w1 L hall hJ hp
  have HJ:=zh hJ
  have HA:=zh hall
  have h62:=hJ.D (zd hall 62)
  have hb:=hJ.B (zd hall 0)
  rw [hb.1]at h62
  have HBB:=zh hb
  clear hp hall hJ hb
  simp only [putAll,Nat.reduceAdd,Act.put,h62,List.setIfInBounds_toArray,List.set_cons_zero,List.set_cons_succ]
  clear h62
  simp only [Exit.inBlock,Exit.then]
  try go_at_K
  go_wp2
  go_ret
  exact⟨_,rfl,HJ.out.A,HBB.out.2.1,L,fun e he=>HA.out e.1 (by revert e he;decide),HBB.out.2.2⟩
def tab74:List (Nat×Int×Nat):=[(4,80,6),(8,112,7),(12,76,16)]
theorem apart74:Apart tab74:=by unfold Apart tab74;decide
theorem map74 (eb:Nat)(w:World):Calls Tryz.prog 74 #[.pointer (some ⟨eb,0,none⟩)] w (fun e w'=>∃b,e=.returned (.map (some b))/\Ext w w'/\w.heap.size<=b/\∃L:Nat->Bool,(∀e∈tab74,L e.1=true)/\MapOwn eb tab74 L b w'):=by
 go_enter Tryz.func74,Tryz.ntmps74
 go_wp2
 refine wp_region_ogL (J:=MapJ eb tab74 13 14 w) (R:=fun _ _=>True) [Sp.any _,Sp.eq _ (.pointer (some ⟨eb,0,none⟩)),Sp.eq _ (.pointer (some ⟨eb,0,none⟩)),Sp.eq _ (.pointer (some ⟨eb,6,none⟩)),Sp.any _,Sp.eq _ (.pointer (some ⟨eb,0,none⟩)),Sp.eq _ (.pointer (some ⟨eb,0,none⟩)),Sp.eq _ (.pointer (some ⟨eb,7,none⟩)),Sp.any _,Sp.eq _ (.pointer (some ⟨eb,0,none⟩)),Sp.eq _ (.pointer (some ⟨eb,0,none⟩)),Sp.eq _ (.pointer (some ⟨eb,16,none⟩)),Sp.any _,Sp.any _,Sp.any _] (by kernel_rfl) (by kernel_rfl) ?_ ?_ ?_
 ·exact MapJ.start eb tab74 13 14 w _
 ·refine⟨?_,zu,zu,zu,?_,zu,zu,zu,?_,zu,zu,zu,?_,?_,?_,trivial⟩
  ·intro vs w1 L hLi hd hdt hJ hp
   have HJ:=zh hJ
   have HT:=zh hdt
   have hmk:=run_makeMap (P:=Tryz.prog) 256 w1
   clear hp hd hdt hLi hJ
   simp only [putAll,Nat.reduceAdd]
   go_wp2
   exact⟨rfl,HJ.out.make (fun e he=>HT.out e.1 (by revert e he;decide)) (by decide) (HT.out _ (by decide)) (HT.out _ (by decide)) (by decide) (by decide),trivial,trivial⟩
  iterate 3
   ·intro vs w1 L hLi hd hdt hJ hp
    have H0:=zh (zd hd 0)
    have HJ:=zh hJ
    have hb:=hJ.B H0.out
    have hv0:=hb.1
    simp [deps,Region.binds,Sp.eq,Sp.any]at hp
    clear hd hdt hJ
    simp only [putAll,Nat.reduceAdd,Act.put,List.setIfInBounds_toArray,List.set_cons_zero,List.set_cons_succ]
    refine wp_ins hb.2.2 rfl _ _ _ 256 _ rfl Tryz.underlying256 apart74 (by decide) hLi (by decide) (by decide) hv0 rfl hp ?_
    intro w2 hmo hg
    exact⟨rfl,HJ.out.ins H0.out _ _ (by decide) (by decide) (by decide) hmo hg,trivial,trivial⟩
  ·intro vs w1 L hLi hd hdt hJ hp
   have HJ:=zh hJ
   clear hp hd hdt hLi hJ
   simp only [putAll,Nat.reduceAdd]
   go_wp2
   exact⟨rfl,HJ.out.move 13 _ rfl (by decide) (by decide),trivial,trivial⟩
  ·intro vs w1 L hLi hd hdt hJ hp
   have HJ:=zh hJ
   have hl:=zd hd 13
   have hc:=hJ.C hl
   have HCC:=zh hc
   clear hp hd hdt hLi hJ hc hl
   simp only [putAll,Nat.reduceAdd]
   go_wp2
   exact⟨rfl,HJ.out.move 14 _ HCC.out (by decide) (by decide),trivial,trivial⟩
 ·intro vs w1 L hall hJ hp
  have HJ:=zh hJ
  have HA:=zh hall
  have h62:=hJ.D (zd hall 14)
  have hb:=hJ.B (zd hall 0)
  rw [hb.1]at h62
  have HBB:=zh hb
  clear hp hall hJ hb
  simp only [putAll,Nat.reduceAdd,Act.put,h62,List.setIfInBounds_toArray,List.set_cons_zero,List.set_cons_succ]
  clear h62
  simp only [Exit.inBlock,Exit.then]
  try go_at_K
  go_wp2
  go_ret
  exact⟨_,rfl,HJ.out.A,HBB.out.2.1,L,fun e he=>HA.out e.1 (by revert e he;decide),HBB.out.2.2⟩
open Go.RowKit
def numOf (acc:Nat) (l:List UInt8):Nat:=l.foldl (fun a c=>a * 10+(c.toNat - 48)) acc
def Dig (l:List UInt8):Prop:=∀c∈l,48<=c.toNat/\c.toNat<=57
theorem numOf_snoc (acc:Nat)(l:List UInt8)(c:UInt8):numOf acc (l++ [c])=numOf acc l * 10+(c.toNat - 48):=by
 simp [numOf,List.foldl_append]
theorem numOf_lt:∀(l:List UInt8) (acc:Nat),Dig l->numOf acc l < (acc+1) * 10 ^ l.length
 | [],acc,_=>by simp [numOf]
 | c :: r,acc,h=>by
   have h1:=h c (by simp)
   have h2:=numOf_lt r (acc * 10+(c.toNat - 48)) (fun x hx=>h x (by simp [hx]))
   show numOf (acc * 10+(c.toNat - 48)) r < _
   refine Nat.lt_of_lt_of_le h2 ?_
   rw [List.length_cons,Nat.pow_succ,Nat.mul_comm (10 ^ r.length) 10,<-Nat.mul_assoc]
   exact Nat.mul_le_mul_right _ (by omega)
theorem numOf_ge:∀(l:List UInt8) (acc:Nat),acc<=numOf acc l
 | [],acc=>Nat.le_refl _
 | c :: r,acc=>by
   have h2:=numOf_ge r (acc * 10+(c.toNat - 48))
   show acc<=numOf (acc * 10+(c.toNat - 48)) r
   omega
theorem parse_ok:∀(l:List UInt8) (acc:Nat),Dig l->numOf acc l < 1000000000->Lib.parseUintM (2 ^ 32 - 1) acc l=.ok (numOf acc l)
 | [],acc,_,_=>rfl
 | c :: r,acc,h,hn=>by
   have h1:=h c (by simp)
   have hn2:numOf (acc * 10+(c.toNat - 48)) r < 1000000000:=hn
   have h2:=numOf_ge r (acc * 10+(c.toNat - 48))
   unfold Lib.parseUintM
   rw [if_pos h1,if_neg (by omega),if_neg (by omega)]
   exact parse_ok r _ (fun x hx=>h x (by simp [hx])) hn2
theorem num_pos {c:UInt8} {r:List UInt8} (h:Dig (c :: r))(h0:c.toNat≠48):1<=numOf 0 (c :: r):=by
 have h1:=h c (by simp)
 have h2:=numOf_ge r (0 * 10+(c.toNat - 48))
 show 1<=numOf (0 * 10+(c.toNat - 48)) r
 omega
theorem dec_num:∀(n:Nat) (l:List UInt8),l.length=n->Dig l->l≠[]->(∀c,l.head?=some c->c.toNat≠48)->Lib.decDigits (numOf 0 l)=l:=by
 intro n
 induction n with
 | zero=>intro l hl _ hne;exact absurd (List.eq_nil_of_length_eq_zero hl) hne
 | succ n ih=>
   intro l hl hd hne hh
   obtain⟨r,c,rfl⟩:∃r c,l=r++ [c]:=⟨l.dropLast,l.getLast hne,(List.dropLast_concat_getLast hne).symm⟩
   have hc:=hd c (by simp)
   rw [numOf_snoc]
   by_cases hr:r=[]
   ·subst hr
    have e:numOf 0 []=0:=rfl
    rw [e,Lib.decDigits_one (by omega)]
    have:UInt8.ofNat (48+(0 * 10+(c.toNat - 48)))=c:=by
     rw [show 48+(0 * 10+(c.toNat - 48))=c.toNat by omega]
     simp
    rw [this];rfl
   ·have hdr:Dig r:=fun x hx=>hd x (by simp [hx])
    have hhr:∀x,r.head?=some x->x.toNat≠48:=fun x hx=>hh x (by
     cases r with
     | nil=>exact absurd rfl hr
     | cons a t=>simpa using hx)
    have h1:=ih r (by simpa using hl) hdr hr hhr
    have h2:1<=numOf 0 r:=by
     cases r with
     | nil=>exact absurd rfl hr
     | cons a t=>exact num_pos hdr (hhr a rfl)
    rw [Lib.decDigits,dif_neg (by omega)]
    rw [show (numOf 0 r * 10+(c.toNat - 48)) / 10=numOf 0 r by omega,show 48+(numOf 0 r * 10+(c.toNat - 48)) % 10=c.toNat by omega,h1]
    simp
def numS (s:ByteArray):Int:=(numOf 0 s.data.toList:Int)
theorem dig_of {s:ByteArray} (h:digP s):Dig s.data.toList:=by
 intro c hc
 obtain⟨k,hk,rfl⟩:=List.mem_iff_getElem.1 hc
 have hk2:k < s.size:=by simpa using hk
 have h1:=h.2.2.1 k hk2
 have e:s[k]=s.data.toList[k]:=by simp [ByteArray.getElem_eq_getElem_data]
 rw [e]at h1
 omega
theorem len_of (s:ByteArray):s.data.toList.length=s.size:=by rw [Array.length_toList];rfl
theorem num_facts {s:ByteArray} (h:digP s):Lib.parseIntB 32 s.data.toList=.ok (numS s)/\0 < numS s/\numS s < 1000000000/\Lib.itoa (numS s)=s.data.toList:=by
 have hd:=dig_of h
 have hl:=len_of s
 have hne:s.data.toList≠[]:=fun e=>h.1 (by rw [e]at hl;exact hl.symm)
 have hlt:numOf 0 s.data.toList < 1000000000:=by
  have h1:=numOf_lt s.data.toList 0 hd
  have h2:10 ^ s.data.toList.length<=10 ^ 9:=Nat.pow_le_pow_right (by decide) (by rw [hl];exact h.2.1)
  omega
 have hh:∀c,s.data.toList.head?=some c->c.toNat≠48:=by
  intro c hc
  have hpos:0 < s.size:=Nat.pos_of_ne_zero h.1
  have h1:=h.2.2.2 hpos
  have e:s[0]=s.data.toList[0]'(by rw [hl];exact hpos):=by simp [ByteArray.getElem_eq_getElem_data]
  rw [e]at h1
  rw [List.head?_eq_getElem?,List.getElem?_eq_getElem (by rw [hl];exact hpos)]at hc
  obtain rfl:=Option.some.inj hc
  omega
 have hdec:=dec_num _ _ rfl hd hne hh
 have hp:=parse_ok s.data.toList 0 hd hlt
 have h0:0 < numOf 0 s.data.toList:=by
  cases e:s.data.toList with
  | nil=>exact absurd e hne
  | cons a t=>
    rw [e]at hd hh
    exact num_pos hd (hh a rfl)
 refine⟨?_,by unfold numS;omega,by unfold numS;omega,?_⟩
 ·unfold numS
  cases e:s.data.toList with
  | nil=>exact absurd e hne
  | cons a t=>
    rw [e]at hd hp hlt
    have ha:=hd a (by simp)
    unfold Lib.parseIntB
    simp only []
    rw [if_neg (by omega),show Lib.parseUintB 32 (a :: t)=Lib.parseUintM (2 ^ 32 - 1) 0 (a :: t)from if_neg (by simp),hp]
    simp only []
    rw [if_neg (by intro h;have:=h.2;omega),if_neg (by intro h;omega),if_neg (by omega)]
 ·unfold numS
  rw [Lib.itoa_nonneg,hdec]
open Go.RowKit Go.Sort
open Go.Shelf
def lays125_ren:Go.Shelf.Ren:=⟨fun|125=>77|128=>89|129=>90|n=>n,fun|46=>264|3=>3|51=>22|53=>277|4=>4|5=>5|9=>9|n=>n,fun|n=>n⟩
theorem lays125:Go.Proofs.Lays.n125 Tryz.prog lays125_ren:=
 {mixed:=by kernel_rfl,
  f125:=Tryz.func77.trans (congrArg some (by kernel_rfl)),
  f128:=Tryz.func89.trans (congrArg some (by kernel_rfl)),
  f129:=Tryz.func90.trans (congrArg some (by kernel_rfl)),
  t3:=Tryz.underlying3,
  a3:=Tryz.isAgg3,
  z3:=Tryz.sizeOf3,
  v3:=Tryz.zeroValue3,
  t4:=Tryz.underlying4,
  a4:=Tryz.isAgg4,
  z4:=Tryz.sizeOf4,
  v4:=Tryz.zeroValue4,
  t5:=Tryz.underlying5,
  a5:=Tryz.isAgg5,
  z5:=Tryz.sizeOf5,
  v5:=Tryz.zeroValue5,
  t9:=Tryz.underlying9,
  a9:=Tryz.isAgg9,
  z9:=Tryz.sizeOf9,
  v9:=Tryz.zeroValue9,
  t46:=Tryz.underlying264,
  a46:=Tryz.isAgg264,
  z46:=Tryz.sizeOf264,
  v46:=Tryz.zeroValue264,
  t51:=Tryz.underlying22,
  a51:=Tryz.isAgg22,
  z51:=Tryz.sizeOf22,
  v51:=Tryz.zeroValue22,
  t53:=Tryz.underlying277,
  a53:=Tryz.isAgg277,
  z53:=Tryz.sizeOf277,
  v53:=Tryz.zeroValue277}
def laysM171_ren:Go.Shelf.Ren:=⟨fun|171=>78|243=>91|246=>102|283=>108|284=>109|285=>110|286=>111|129=>90|317=>112|318=>113|319=>114|320=>115|337=>116|338=>117|n=>n,fun|3=>3|9=>9|2=>2|4=>4|171=>299|0=>0|53=>277|37=>26|5=>5|173=>301|212=>309|51=>22|20=>20|213=>310|46=>264|232=>311|233=>312|n=>n,fun|17=>2|18=>3|19=>4|n=>n⟩
theorem laysM171:Go.Proofs.LaysM.n171 Tryz.prog laysM171_ren:=
 {mixed:=by kernel_rfl,
  f129:=Tryz.func90.trans (congrArg some (by kernel_rfl)),
  f171:=Tryz.func78.trans (congrArg some (by kernel_rfl)),
  f243:=Tryz.func91.trans (congrArg some (by kernel_rfl)),
  f246:=Tryz.func102.trans (congrArg some (by kernel_rfl)),
  f283:=Tryz.func108.trans (congrArg some (by kernel_rfl)),
  f284:=Tryz.func109.trans (congrArg some (by kernel_rfl)),
  f285:=Tryz.func110.trans (congrArg some (by kernel_rfl)),
  f286:=Tryz.func111.trans (congrArg some (by kernel_rfl)),
  f317:=Tryz.func112.trans (congrArg some (by kernel_rfl)),
  f318:=Tryz.func113.trans (congrArg some (by kernel_rfl)),
  f319:=Tryz.func114.trans (congrArg some (by kernel_rfl)),
  f320:=Tryz.func115.trans (congrArg some (by kernel_rfl)),
  f337:=Tryz.func116.trans (congrArg some (by kernel_rfl)),
  f338:=Tryz.func117.trans (congrArg some (by kernel_rfl)),
  t0:=Tryz.underlying0,
  a0:=Tryz.isAgg0,
  z0:=Tryz.sizeOf0,
  v0:=Tryz.zeroValue0,
  t2:=Tryz.underlying2,
  a2:=Tryz.isAgg2,
  z2:=Tryz.sizeOf2,
  v2:=Tryz.zeroValue2,
  t3:=Tryz.underlying3,
  a3:=Tryz.isAgg3,
  z3:=Tryz.sizeOf3,
  v3:=Tryz.zeroValue3,
  t4:=Tryz.underlying4,
  a4:=Tryz.isAgg4,
  z4:=Tryz.sizeOf4,
  v4:=Tryz.zeroValue4,
  t5:=Tryz.underlying5,
  a5:=Tryz.isAgg5,
  z5:=Tryz.sizeOf5,
  v5:=Tryz.zeroValue5,
  t9:=Tryz.underlying9,
  a9:=Tryz.isAgg9,
  z9:=Tryz.sizeOf9,
  v9:=Tryz.zeroValue9,
  t20:=Tryz.underlying20,
  a20:=Tryz.isAgg20,
  z20:=Tryz.sizeOf20,
  v20:=Tryz.zeroValue20,
  t37:=Tryz.underlying26,
  a37:=Tryz.isAgg26,
  z37:=Tryz.sizeOf26,
  v37:=Tryz.zeroValue26,
  t46:=Tryz.underlying264,
  a46:=Tryz.isAgg264,
  z46:=Tryz.sizeOf264,
  v46:=Tryz.zeroValue264,
  t51:=Tryz.underlying22,
  a51:=Tryz.isAgg22,
  z51:=Tryz.sizeOf22,
  v51:=Tryz.zeroValue22,
  t53:=Tryz.underlying277,
  a53:=Tryz.isAgg277,
  z53:=Tryz.sizeOf277,
  v53:=Tryz.zeroValue277,
  t171:=Tryz.underlying299,
  a171:=Tryz.isAgg299,
  z171:=Tryz.sizeOf299,
  v171:=Tryz.zeroValue299,
  t173:=Tryz.underlying301,
  a173:=Tryz.isAgg301,
  z173:=Tryz.sizeOf301,
  v173:=Tryz.zeroValue301,
  t212:=Tryz.underlying309,
  a212:=Tryz.isAgg309,
  z212:=Tryz.sizeOf309,
  v212:=Tryz.zeroValue309,
  t213:=Tryz.underlying310,
  a213:=Tryz.isAgg310,
  z213:=Tryz.sizeOf310,
  t232:=Tryz.underlying311,
  a232:=Tryz.isAgg311,
  z232:=Tryz.sizeOf311,
  v232:=Tryz.zeroValue311,
  t233:=Tryz.underlying312,
  a233:=Tryz.isAgg312,
  z233:=Tryz.sizeOf312,
  v233:=Tryz.zeroValue312,
  g17:=by kernel_rfl,
  g18:=by kernel_rfl,
  g19:=by kernel_rfl,
  i0:=by kernel_rfl,
  i2:=by kernel_rfl,
  i3:=by kernel_rfl,
  i4:=by kernel_rfl,
  i5:=by kernel_rfl,
  i9:=by kernel_rfl,
  i20:=by kernel_rfl,
  i37:=by kernel_rfl,
  i46:=by kernel_rfl,
  i51:=by kernel_rfl,
  i53:=by kernel_rfl,
  i171:=by kernel_rfl,
  i173:=by kernel_rfl,
  i212:=by kernel_rfl,
  i232:=by kernel_rfl,
  i233:=by kernel_rfl,
  m17:=by kernel_rfl,
  m18:=by kernel_rfl,
  m19:=by kernel_rfl}
theorem lenS (x:Int)(w:World)(h0:0<=x)(h1:x<=18446744073709551615):Calls Tryz.prog 77 #[.int .u64 x] w fun e w'=>e=.returned (.int .i64 (Lib.bitLen x.toNat))/\w'=w:=Any.bits_Len lays125 x w h0 h1
theorem itoaS (n:Int)(h0: -9223372036854775808<=n)(h1:n<=9223372036854775807)(w:World)(htab:Lib.TabIs Tryz.prog w "internal/strconv.uint64pow10" .u64 Lib.pow10Tab):
 Calls Tryz.prog 78 #[.int .i64 n] w fun e w'=>e=.returned (.string ⟨(Lib.itoa n).toArray⟩)/\∃k os,w'=grow (w.drewN k) os:=Any.strconv_Itoa laysM171 n h0 h1 w htab
end Go.Proofs.YtdenjanihikolaaGreatDoor
