/- The maps of an error's fields, by letter. -/
import Derived.Test.YtdenjanihikolaaGreatDoorDqA0
import Derived.Test.YtdenjanihikolaaGreatDoorDqOg
import Derived.Test.YtdenjanihikolaaGreatDoorDqDcf
import Derived.Test.YtdenjanihikolaaGreatDoorDqBase
import Derived.StringKeys
import Derived.Shelf.Sort.Plain
import Derived.Shelf.Strings.Search1
import Derived.Shelf.Small.Strs
import Derived.Test.YtdenjanihikolaaGreatDoorDqTa
import Derived.Laws.IdiomCopy
import Derived.Test.YtdenjanihikolaaGreatDoorDqMke
import Derived.Test.YtdenjanihikolaaGreatDoorDqBdk
namespace Go.Proofs.YtdenjanihikolaaGreatDoor
set_option linter.unusedVariables false
set_option linter.unusedSimpArgs false
set_option maxRecDepth 100000
open Go.RowKit Go.Maps Og
/-- Where a pointer leads: the slot of the struct at eb. -/
def rdP (eb:Nat):Value->Option (DataW Unit×List MemPlace)
 | .pointer none=>some (.nil,[])
 | .pointer (some ⟨b,j,none⟩)=>if b=eb then some (.lit (.int .i64 j),[])else none
 | _=>none
theorem rdP_at (eb j:Nat):rdP eb (.pointer (some ⟨eb,j,none⟩))=some (.lit (.int .i64 j),[]):=if_pos rfl
theorem rdP_lit {eb:Nat} {v:Value} {j:Nat} {ps:List MemPlace} (h:rdP eb v=some (.lit (.int .i64 j),ps)):v=.pointer (some ⟨eb,j,none⟩):=by
 unfold rdP at h
 split at h
 ·cases h
 ·rename_i b k
  split at h
  ·rename_i e
   subst e
   simp only [Option.some.injEq,Prod.mk.injEq,DataW.lit.injEq,Lit.int.injEq,true_and]at h
   have:k=j:=by omega
   rw [this]
  ·cases h
 ·cases h
/-- What has been entered: (operation, key, slot). -/
def pick (L:Nat->Bool) (c:Int) (z:DataW Unit):List (Nat×Int×Nat)->DataW Unit
 | []=>z
 | e :: r=>if (L e.1 && e.2.1 == c)=true then .lit (.int .i64 e.2.2)else pick L c z r
def Apart (tab:List (Nat×Int×Nat)):Prop:=tab.Pairwise fun e f=>e.1≠f.1/\e.2.1≠f.2.1
theorem pick_off {L:Nat->Bool} {c:Int} {z:DataW Unit} {i:Nat} :∀{tab:List (Nat×Int×Nat)},(∀e∈tab,e.1≠i)->pick (updB L i) c z tab=pick L c z tab
 | [],_=>rfl
 | e :: r,h=>by
   have h1:updB L i e.1=L e.1:=by
    have:=h e (by simp)
    simp [updB,this]
   unfold pick
   rw [h1,pick_off (fun f hf=>h f (by simp [hf]))]
theorem pick_upd {L:Nat->Bool} {c:Int} {z:DataW Unit} {e:Nat×Int×Nat} :∀{tab:List (Nat×Int×Nat)},Apart tab->e∈tab->pick (updB L e.1) c z tab=if e.2.1=c then .lit (.int .i64 e.2.2)else pick L c z tab
 | [],_,h=>by simp at h
 | f :: r,ha,h=>by
   obtain⟨h1,h2⟩:=List.pairwise_cons.1 ha
   rcases List.mem_cons.1 h with rfl|h
   ·unfold pick
    rw [pick_off (fun g hg=>Ne.symm (h1 g hg).1)]
    have e1:updB L e.1 e.1=true:=by simp [updB]
    rw [e1]
    by_cases e2:e.2.1=c
    ·simp [e2]
    ·have e3:(e.2.1 == c)=false:=beq_eq_false_iff_ne.2 e2
     simp [e2,e3]
   ·have hne:=h1 e h
    have e1:updB L e.1 f.1=L f.1:=by simp [updB,hne.1]
    unfold pick
    rw [e1,pick_upd h2 h]
    by_cases e2:e.2.1=c
    ·have e3:(f.2.1 == c)=false:=beq_eq_false_iff_ne.2 (fun e4=>hne.2 (e4.trans e2.symm))
     simp [e2,e3]
    ·simp [e2]
theorem pick_none {c:Int} {z:DataW Unit} :∀{tab:List (Nat×Int×Nat)} {L:Nat->Bool},(∀e∈tab,L e.1=false)->pick L c z tab=z
 | [],_,_=>rfl
 | e :: r,L,h=>by
   unfold pick
   rw [h e (by simp),pick_none (fun f hf=>h f (by simp [hf]))]
   simp
def doneN (L:Nat->Bool):Nat:=(List.range 100).countP L
theorem count_upd {L:Nat->Bool} {i:Nat} (h:L i=false):∀l:List Nat,l.countP (updB L i)≥l.countP L+(if i∈l then 1 else 0)
 | []=>by simp
 | a :: r=>by
   have h1:=count_upd h r
   by_cases e:a=i
   ·subst e
    have e1:updB L a a=true:=by simp [updB]
    rw [List.countP_cons_of_pos e1,List.countP_cons_of_neg (by simp [h])]
    simp
    have:=List.countP_mono_left (l:=r) (p:=L) (q:=updB L a) (fun x _ hx=>by simp [updB,hx])
    omega
   ·have e1:updB L i a=L a:=by simp [updB,e]
    have e2:(i∈a :: r)↔i∈r:=by simp [Ne.symm e]
    rw [List.countP_cons,List.countP_cons,e1]
    simp only [e2]
    omega
theorem doneN_upd {L:Nat->Bool} {i:Nat} (h:L i=false)(hi:i < 100):doneN L+1<=doneN (updB L i):=by
 have h1:=count_upd h (List.range 100)
 rw [if_pos (List.mem_range.2 hi)]at h1
 exact h1
theorem doneN_mono {L:Nat->Bool} {i:Nat} :doneN L<=doneN (updB L i):=List.countP_mono_left fun x _ hx=>by simp [updB,hx]
theorem doneN_le {L:Nat->Bool} :doneN L<=100:=by
 have:=List.countP_le_length (p:=L) (l:=List.range 100)
 simpa [doneN]using this
/-- The map so far. -/
def MapOwn (eb:Nat) (tab:List (Nat×Int×Nat)) (L:Nat->Bool) (b:Nat) (w:World):Prop:=
 ∃n D,n<=doneN L/\w.ownsMap Tryz.prog 5 (rdP eb) b n D/\IsMap D/\∀(c:Int) (z:DataW Unit),D.atKey (.int .u8 c) z=pick L c z tab
theorem lawB:Keyed Tryz.prog 5:=int_keyed Tryz.underlying5
theorem MapOwn.start {eb:Nat} {tab:List (Nat×Int×Nat)} {L:Nat->Bool} (w:World)(h:∀e∈tab,L e.1=false):MapOwn eb tab L w.heap.size (w.alloc (.map #[] 0)):=
 ⟨0,.map [],Nat.zero_le _,World.ownsMap_made w _ _ _,isMap_empty,fun c z=>by rw [pick_none h];rfl⟩
theorem MapOwn.off {eb:Nat} {tab:List (Nat×Int×Nat)} {L:Nat->Bool} {b:Nat} {w:World} (h:MapOwn eb tab L b w)(i:Nat)(hi:∀e∈tab,e.1≠i):MapOwn eb tab (updB L i) b w:=by
 obtain⟨n,D,h1,h2,h3,h4⟩:=h
 exact⟨n,D,Nat.le_trans h1 doneN_mono,h2,h3,fun c z=>by rw [pick_off hi];exact h4 c z⟩
theorem keyB {c:Int} (h:0<=c/\c < 256):keyOf Tryz.prog 5 (.int .u8 c)=some (.int .u8 c):=by
 rw [keyOf_int Tryz.underlying5]
 have hw:(Lit.int .u8 c).wf=true:=by
  show(decide ((0:Int)<=c) && decide (c<=255))=true
  simp;omega
 simp [mapKey,Tryz.underlying5,hw]
theorem MapOwn.put {eb:Nat} {tab:List (Nat×Int×Nat)} {L:Nat->Bool} {b:Nat} {w:World} (h:MapOwn eb tab L b w) {t et:TypeId} (ht:Tryz.prog.underlying t=some (.map 5 et))(ha:Apart tab) {e:Nat×Int×Nat} (he:e∈tab)(hL:L e.1=false)(hi:e.1 < 100)(hc:0<=e.2.1/\e.2.1 < 256):
 ∃w',(Instr.mapUpdate t (.map (some b)) (.int .u8 e.2.1) (.pointer (some ⟨eb,e.2.2,none⟩))).run Tryz.prog w=.ok () w'/\MapOwn eb tab (updB L e.1) b w'/\w.grownBy w' (some b):=by
 obtain⟨n,D,h1,h2,h3,h4⟩:=h
 obtain⟨w',hr,ho,hg⟩:=h2.update lawB ht (by have:=doneN_le (L:=L);unfold maxLen;omega) (keyB hc) (rdP_at eb e.2.2)
 refine⟨w',hr,⟨n+1,_,Nat.le_trans (by omega) (doneN_upd hL hi),ho,h3.put _ _,fun c z=>?_⟩,hg⟩
 rw [pick_upd ha he]
 by_cases e2:e.2.1=c
 ·subst e2
  rw [if_pos rfl,atKey_put_same h3 (show WideAt.IsKeyLit (.int .u8 e.2.1)from trivial)]
 ·rw [if_neg e2,atKey_put_other (by simpa using Ne.symm e2),h4]
/-- An entry of the literal. -/
theorem wp_ins {ops:Array Oper} {rest:List Oper} {o:Oper} {a:Act} {Q:Exit->Act->World->Prop} {w:World} {eb:Nat} {tab:List (Nat×Int×Nat)} {L:Nat->Bool} {b:Nat} (h:MapOwn eb tab L b w)(hg:o.guard=none)(m x v:Operand)(t et:TypeId)(hop:o.op=Op.insert t m x v)(ht:Tryz.prog.underlying t=some (.map 5 et))(ha:Apart tab) {e:Nat×Int×Nat} (he:e∈tab)(hL:L e.1=false)(hi:e.1 < 100)(hc:0<=e.2.1/\e.2.1 < 256)
 (hm:a.eval m=.map (some b)) (hx:a.eval x=.int .u8 e.2.1) (hv:a.eval v=.pointer (some ⟨eb,e.2.2,none⟩))
 (hK:∀w',MapOwn eb tab (updB L e.1) b w'->w.grownBy w' (some b)->wpList Tryz.prog ops Q rest (a.put o.dst undef) w'):wpList Tryz.prog ops Q (o :: rest) a w:=by
 refine wpList_plain hg fun K' hK'=>?_
 obtain⟨w',hrun,r1,r2⟩:=h.put ht ha he hL hi hc
 unfold Oper.wp
 simp [execOp,hop,hm,hx,hv,hrun,Result.andThen]
 exact hK' _ _ (hK w' r1 r2)
open Go.RowKit Go.Maps Go.Sort
theorem own_map {w w':World} {mb n:Nat} {D:DataW Unit} (h:w.ownsMap Tryz.prog 9 (plainElem Tryz.prog 9) mb n D)(hx:w'.heap[mb]?=w.heap[mb]?):w'.ownsMap Tryz.prog 9 (plainElem Tryz.prog 9) mb n D:=by
 obtain⟨es,clock,hb,h2⟩:=h
 exact⟨es,clock,hx.trans hb,h2⟩
theorem size_map {w:World} {mb n:Nat} {D:DataW Unit} (h:w.ownsMap Tryz.prog 9 (plainElem Tryz.prog 9) mb n D):Maps.size D<=n:=by
 obtain⟨es,clock,hb,F,hs,rfl⟩:=h
 rw [size_eq,length_sorted]
 simpa using hs
theorem names_perm {ps:List (ByteArray×ByteArray)} (h:Srt ps) {b n:Nat} {w:World} (hown:w.ownsMap Tryz.prog 9 (plainElem Tryz.prog 9) b n (mapOf ps)):(ps.map fun p=>kb p.1).Perm (strKeys (mapOf ps)):=by
 have hC:Collected (mapOf ps) (fun _=>false) (ps.map fun p=>kb p.1):=by
  refine⟨List.pairwise_map.2 h.ne,fun x=>?_⟩
  rw [show has (mapOf ps) (.string x)=_ from has_from ps _ isMap_empty x]
  simp [has_eq,List.any_eq_true]
 exact hC.perm hown lawS Tryz.underlying9 fun _=>rfl
open Go.RowKit Go.Maps Go.Sort Og
theorem ExtBut.grown {b:Nat} {W w w':World} (h:ExtBut b W w)(hg:w.grownBy w' (some b)):ExtBut b W w':=
 ⟨hg.os.trans h.os,hg.tape.trans h.tape,hg.output.trans h.output,Nat.le_trans h.size hg.size,fun k hk hne=>(hg.block k (Nat.lt_of_lt_of_le hk h.size) (fun e=>hne (Option.some.inj e))).trans (h.block k hk hne)⟩
theorem take_snoc1 {α} (l:List α)(k:Nat)(h:k < l.length):l.take (k+1)=l.take k++ [l[k]]:=List.take_succ_eq_append_getElem h
theorem key_of (s:ByteArray)(h:s.size<=maxLen):keyOf Tryz.prog 9 (.string s)=some (.string (kb s)):=Go.WideMaps.keyOf_string_mk Tryz.underlying9 h
theorem elem_of (s:ByteArray)(h:s.size<=maxLen):plainElem (H:=Unit) Tryz.prog 9 (.string s)=some (.lit (.string (kb s)),[]):=plainElem_string Tryz.underlying9 h
open Go.RowKit Og
def mapB:Value->Nat
 | .map (some b)=>b
 | _=>0
structure MapJ (eb:Nat) (tab:List (Nat×Int×Nat)) (mi ai:Nat) (W0:World) (L:Nat->Bool) (vs:Nat->Value) (w:World):Prop where
 A:Ext W0 w
 B:L 0=true->vs 0=.map (some (mapB (vs 0)))/\W0.heap.size<=mapB (vs 0)/\MapOwn eb tab L (mapB (vs 0)) w
 C:L mi=true->vs mi=vs 0
 D:L ai=true->vs ai=vs 0
theorem MapJ.start (eb:Nat)(tab:List (Nat×Int×Nat))(mi ai:Nat)(W0:World)(vs:Nat->Value):MapJ eb tab mi ai W0 (fun _=>false) vs W0.drew:=
 ⟨(Ext.refl W0).drew,(nofun),(nofun),(nofun)⟩
theorem MapJ.keep {eb:Nat} {tab:List (Nat×Int×Nat)} {mi ai:Nat} {W0:World} {L:Nat->Bool} {vs:Nat->Value} {w:World} (h:MapJ eb tab mi ai W0 L vs w)(i:Nat)(u:Value)(h0:0≠i)(ht:∀e∈tab,e.1≠i)(hm:mi≠i)(ha:ai≠i):MapJ eb tab mi ai W0 (updB L i) (upd vs i u) w:=by
 have e0:updB L i 0=L 0:=by simp [updB,h0]
 have e1:updB L i mi=L mi:=by simp [updB,hm]
 have e2:updB L i ai=L ai:=by simp [updB,ha]
 have f0:upd vs i u 0=vs 0:=by simp [upd,h0]
 have f1:upd vs i u mi=vs mi:=by simp [upd,hm]
 have f2:upd vs i u ai=vs ai:=by simp [upd,ha]
 refine⟨h.A,fun hl=>?_,fun hl=>?_,fun hl=>?_⟩
 ·rw [e0]at hl
  rw [f0]
  exact⟨(h.B hl).1,(h.B hl).2.1,(h.B hl).2.2.off i ht⟩
 ·rw [e1]at hl
  rw [f0,f1];exact h.C hl
 ·rw [e2]at hl
  rw [f0,f2];exact h.D hl
theorem MapJ.make {eb:Nat} {tab:List (Nat×Int×Nat)} {mi ai:Nat} {W0:World} {L:Nat->Bool} {vs:Nat->Value} {w:World} (h:MapJ eb tab mi ai W0 L vs w)(ht:∀e∈tab,L e.1=false)(ht0:∀e∈tab,e.1≠0)(hm:L mi=false)(ha:L ai=false)(hm0:mi≠0)(ha0:ai≠0):MapJ eb tab mi ai W0 (updB L 0) (upd vs 0 (.map (some w.heap.size))) (w.alloc (.map #[] 0)):=by
 have e1:updB L 0 mi=false:=by simp [updB,hm,hm0]
 have e2:updB L 0 ai=false:=by simp [updB,ha,ha0]
 refine⟨h.A.alloc _,fun _=>⟨rfl,h.A.size,?_⟩,fun hl=>?_,fun hl=>?_⟩
 ·exact(MapOwn.start w ht).off 0 ht0
 ·rw [e1]at hl;cases hl
 ·rw [e2]at hl;cases hl
theorem MapJ.ins {eb:Nat} {tab:List (Nat×Int×Nat)} {mi ai:Nat} {W0:World} {L:Nat->Bool} {vs:Nat->Value} {w w2:World} (h:MapJ eb tab mi ai W0 L vs w)(hl0:L 0=true)(i:Nat)(u:Value)(h0:0≠i)(hm:mi≠i)(ha:ai≠i)(ho:MapOwn eb tab (updB L i) (mapB (vs 0)) w2)(hg:w.grownBy w2 (some (mapB (vs 0)))):MapJ eb tab mi ai W0 (updB L i) (upd vs i u) w2:=by
 have hb:=(h.B hl0).2.1
 have e1:updB L i mi=L mi:=by simp [updB,hm]
 have e2:updB L i ai=L ai:=by simp [updB,ha]
 have f0:upd vs i u 0=vs 0:=by simp [upd,h0]
 have f1:upd vs i u mi=vs mi:=by simp [upd,hm]
 have f2:upd vs i u ai=vs ai:=by simp [upd,ha]
 refine⟨(ExtBut.grown (Ext.refl w).but hg).ext h.A hb,fun hl=>?_,fun hl=>?_,fun hl=>?_⟩
 ·rw [f0]
  exact⟨(h.B hl0).1,hb,ho⟩
 ·rw [e1]at hl
  rw [f0,f1];exact h.C hl
 ·rw [e2]at hl
  rw [f0,f2];exact h.D hl
theorem MapJ.move {eb:Nat} {tab:List (Nat×Int×Nat)} {mi ai:Nat} {W0:World} {L:Nat->Bool} {vs:Nat->Value} {w:World} (h:MapJ eb tab mi ai W0 L vs w)(i:Nat)(u:Value)(hu:u=vs 0)(h0:0≠i)(ht:∀e∈tab,e.1≠i):MapJ eb tab mi ai W0 (updB L i) (upd vs i u) w:=by
 have e0:updB L i 0=L 0:=by simp [updB,h0]
 have f0:upd vs i u 0=vs 0:=by simp [upd,h0]
 refine⟨h.A,fun hl=>?_,fun hl=>?_,fun hl=>?_⟩
 ·rw [e0]at hl
  rw [f0]
  exact⟨(h.B hl).1,(h.B hl).2.1,(h.B hl).2.2.off i ht⟩
 ·rw [f0]
  by_cases e:mi=i
  ·simp [upd,e,hu]
  ·have e1:updB L i mi=L mi:=by simp [updB,e]
   rw [e1]at hl
   have f1:upd vs i u mi=vs mi:=by simp [upd,e]
   rw [f1];exact h.C hl
 ·rw [f0]
  by_cases e:ai=i
  ·simp [upd,e,hu]
  ·have e1:updB L i ai=L ai:=by simp [updB,e]
   rw [e1]at hl
   have f1:upd vs i u ai=vs ai:=by simp [upd,e]
   rw [f1];exact h.D hl
def tab73:List (Nat×Int×Nat):=[(4,83,0),(8,86,1),(12,67,2),(16,77,3),(20,68,4),(24,72,5),(28,113,8),(32,87,9),(36,115,10),(40,116,11),(44,99,12),(48,100,13),(52,110,14),(56,70,15),(60,82,17)]
theorem apart73:Apart tab73:=by unfold Apart tab73;decide
set_option maxHeartbeats 4000000 in
theorem map73 (eb:Nat)(w:World):Calls Tryz.prog 73 #[.pointer (some ⟨eb,0,none⟩)] w (fun e w'=>∃b,e=.returned (.map (some b))/\Ext w w'/\w.heap.size<=b/\∃L:Nat->Bool,(∀e∈tab73,L e.1=true)/\MapOwn eb tab73 L b w'):=by
 go_enter Tryz.func73,Tryz.ntmps73
 go_wp2
 refine wp_region_ogL (J:=MapJ eb tab73 61 62 w) (R:=fun _ _=>True) [Sp.any _,Sp.eq _ (.pointer (some ⟨eb,0,none⟩)),Sp.eq _ (.pointer (some ⟨eb,0,none⟩)),Sp.eq _ (.pointer (some ⟨eb,0,none⟩)),Sp.any _,Sp.eq _ (.pointer (some ⟨eb,0,none⟩)),Sp.eq _ (.pointer (some ⟨eb,0,none⟩)),Sp.eq _ (.pointer (some ⟨eb,1,none⟩)),Sp.any _,Sp.eq _ (.pointer (some ⟨eb,0,none⟩)),Sp.eq _ (.pointer (some ⟨eb,0,none⟩)),Sp.eq _ (.pointer (some ⟨eb,2,none⟩)),Sp.any _,Sp.eq _ (.pointer (some ⟨eb,0,none⟩)),Sp.eq _ (.pointer (some ⟨eb,0,none⟩)),Sp.eq _ (.pointer (some ⟨eb,3,none⟩)),Sp.any _,Sp.eq _ (.pointer (some ⟨eb,0,none⟩)),Sp.eq _ (.pointer (some ⟨eb,0,none⟩)),Sp.eq _ (.pointer (some ⟨eb,4,none⟩)),Sp.any _,Sp.eq _ (.pointer (some ⟨eb,0,none⟩)),Sp.eq _ (.pointer (some ⟨eb,0,none⟩)),Sp.eq _ (.pointer (some ⟨eb,5,none⟩)),Sp.any _,Sp.eq _ (.pointer (some ⟨eb,0,none⟩)),Sp.eq _ (.pointer (some ⟨eb,0,none⟩)),Sp.eq _ (.pointer (some ⟨eb,8,none⟩)),Sp.any _,Sp.eq _ (.pointer (some ⟨eb,0,none⟩)),Sp.eq _ (.pointer (some ⟨eb,0,none⟩)),Sp.eq _ (.pointer (some ⟨eb,9,none⟩)),Sp.any _,Sp.eq _ (.pointer (some ⟨eb,0,none⟩)),Sp.eq _ (.pointer (some ⟨eb,0,none⟩)),Sp.eq _ (.pointer (some ⟨eb,10,none⟩)),Sp.any _,Sp.eq _ (.pointer (some ⟨eb,0,none⟩)),Sp.eq _ (.pointer (some ⟨eb,0,none⟩)),Sp.eq _ (.pointer (some ⟨eb,11,none⟩)),Sp.any _,Sp.eq _ (.pointer (some ⟨eb,0,none⟩)),Sp.eq _ (.pointer (some ⟨eb,0,none⟩)),Sp.eq _ (.pointer (some ⟨eb,12,none⟩)),Sp.any _,Sp.eq _ (.pointer (some ⟨eb,0,none⟩)),Sp.eq _ (.pointer (some ⟨eb,0,none⟩)),Sp.eq _ (.pointer (some ⟨eb,13,none⟩)),Sp.any _,Sp.eq _ (.pointer (some ⟨eb,0,none⟩)),Sp.eq _ (.pointer (some ⟨eb,0,none⟩)),Sp.eq _ (.pointer (some ⟨eb,14,none⟩)),Sp.any _,Sp.eq _ (.pointer (some ⟨eb,0,none⟩)),Sp.eq _ (.pointer (some ⟨eb,0,none⟩)),Sp.eq _ (.pointer (some ⟨eb,15,none⟩)),Sp.any _,Sp.eq _ (.pointer (some ⟨eb,0,none⟩)),Sp.eq _ (.pointer (some ⟨eb,0,none⟩)),Sp.eq _ (.pointer (some ⟨eb,17,none⟩)),Sp.any _,Sp.any _,Sp.any _] (by kernel_rfl) (by kernel_rfl) ?_ ?_ ?_
 ·exact MapJ.start eb tab73 61 62 w _
 ·refine⟨?_,?_,?_,?_,?_,?_,?_,?_,?_,?_,?_,?_,?_,?_,?_,?_,?_,?_,?_,?_,?_,?_,?_,?_,?_,?_,?_,?_,?_,?_,?_,?_,?_,?_,?_,?_,?_,?_,?_,?_,?_,?_,?_,?_,?_,?_,?_,?_,?_,?_,?_,?_,?_,?_,?_,?_,?_,?_,?_,?_,?_,?_,?_,trivial⟩
  ·intro vs w1 L hLi hd hdt hJ hp
   have HJ:=zh hJ
   have HT:=zh hdt
   have hmk:=run_makeMap (P:=Tryz.prog) 254 w1
   clear hp hd hdt hLi hJ
   simp only [putAll,Nat.reduceAdd]
   go_wp2
   exact⟨rfl,HJ.out.make (fun e he=>HT.out e.1 (by revert e he;decide)) (by decide) (HT.out _ (by decide)) (HT.out _ (by decide)) (by decide) (by decide),trivial,trivial⟩
  ·intro vs w1 L hLi hd hdt hJ hp
   have HJ:=zh hJ
   clear hp hd hdt hLi hJ
   simp only [putAll,Nat.reduceAdd]
   go_wp2
   exact⟨rfl,HJ.out.keep 1 _ (by decide) (by decide) (by decide) (by decide),trivial,rfl⟩
  ·intro vs w1 L hLi hd hdt hJ hp
   have q1:vs 1=(.pointer (some ⟨eb,0,none⟩)):=zd hp 1
   have HJ:=zh hJ
   clear hp hd hdt hLi hJ
   simp only [putAll,Nat.reduceAdd]
   go_wp2
   exact⟨rfl,HJ.out.keep 2 _ (by decide) (by decide) (by decide) (by decide),trivial,rfl⟩
  ·intro vs w1 L hLi hd hdt hJ hp
   have q2:vs 2=(.pointer (some ⟨eb,0,none⟩)):=zd hp 2
   have HJ:=zh hJ
   clear hp hd hdt hLi hJ
   simp only [putAll,Nat.reduceAdd]
   go_wp2
   exact⟨rfl,HJ.out.keep 3 _ (by decide) (by decide) (by decide) (by decide),trivial,rfl⟩
  ·intro vs w1 L hLi hd hdt hJ hp
   have q3:vs 3=(.pointer (some ⟨eb,0,none⟩)):=zd hp 3
   have H0:=zh (zd hd 0)
   have HJ:=zh hJ
   have hb:=hJ.B H0.out
   have hv0:=hb.1
   clear hp hd hdt hJ
   simp only [putAll,Nat.reduceAdd,Act.put,List.setIfInBounds_toArray,List.set_cons_zero,List.set_cons_succ]
   refine wp_ins hb.2.2 rfl _ _ _ 254 _ rfl Tryz.underlying254 apart73 (e:=(4,83,0)) (by decide) hLi (by decide) (by decide) hv0 rfl q3 ?_
   intro w2 hmo hg
   exact⟨rfl,HJ.out.ins H0.out 4 _ (by decide) (by decide) (by decide) hmo hg,trivial,trivial⟩
  ·intro vs w1 L hLi hd hdt hJ hp
   have HJ:=zh hJ
   clear hp hd hdt hLi hJ
   simp only [putAll,Nat.reduceAdd]
   go_wp2
   exact⟨rfl,HJ.out.keep 5 _ (by decide) (by decide) (by decide) (by decide),trivial,rfl⟩
  ·intro vs w1 L hLi hd hdt hJ hp
   have q5:vs 5=(.pointer (some ⟨eb,0,none⟩)):=zd hp 5
   have HJ:=zh hJ
   clear hp hd hdt hLi hJ
   simp only [putAll,Nat.reduceAdd]
   go_wp2
   exact⟨rfl,HJ.out.keep 6 _ (by decide) (by decide) (by decide) (by decide),trivial,rfl⟩
  ·intro vs w1 L hLi hd hdt hJ hp
   have q6:vs 6=(.pointer (some ⟨eb,0,none⟩)):=zd hp 6
   have HJ:=zh hJ
   clear hp hd hdt hLi hJ
   simp only [putAll,Nat.reduceAdd]
   go_wp2
   exact⟨rfl,HJ.out.keep 7 _ (by decide) (by decide) (by decide) (by decide),trivial,rfl⟩
  ·intro vs w1 L hLi hd hdt hJ hp
   have q7:vs 7=(.pointer (some ⟨eb,1,none⟩)):=zd hp 7
   have H0:=zh (zd hd 0)
   have HJ:=zh hJ
   have hb:=hJ.B H0.out
   have hv0:=hb.1
   clear hp hd hdt hJ
   simp only [putAll,Nat.reduceAdd,Act.put,List.setIfInBounds_toArray,List.set_cons_zero,List.set_cons_succ]
   refine wp_ins hb.2.2 rfl _ _ _ 254 _ rfl Tryz.underlying254 apart73 (e:=(8,86,1)) (by decide) hLi (by decide) (by decide) hv0 rfl q7 ?_
   intro w2 hmo hg
   exact⟨rfl,HJ.out.ins H0.out 8 _ (by decide) (by decide) (by decide) hmo hg,trivial,trivial⟩
  ·intro vs w1 L hLi hd hdt hJ hp
   have HJ:=zh hJ
   clear hp hd hdt hLi hJ
   simp only [putAll,Nat.reduceAdd]
   go_wp2
   exact⟨rfl,HJ.out.keep 9 _ (by decide) (by decide) (by decide) (by decide),trivial,rfl⟩
  ·intro vs w1 L hLi hd hdt hJ hp
   have q9:vs 9=(.pointer (some ⟨eb,0,none⟩)):=zd hp 9
   have HJ:=zh hJ
   clear hp hd hdt hLi hJ
   simp only [putAll,Nat.reduceAdd]
   go_wp2
   exact⟨rfl,HJ.out.keep 10 _ (by decide) (by decide) (by decide) (by decide),trivial,rfl⟩
  ·intro vs w1 L hLi hd hdt hJ hp
   have q10:vs 10=(.pointer (some ⟨eb,0,none⟩)):=zd hp 10
   have HJ:=zh hJ
   clear hp hd hdt hLi hJ
   simp only [putAll,Nat.reduceAdd]
   go_wp2
   exact⟨rfl,HJ.out.keep 11 _ (by decide) (by decide) (by decide) (by decide),trivial,rfl⟩
  ·intro vs w1 L hLi hd hdt hJ hp
   have q11:vs 11=(.pointer (some ⟨eb,2,none⟩)):=zd hp 11
   have H0:=zh (zd hd 0)
   have HJ:=zh hJ
   have hb:=hJ.B H0.out
   have hv0:=hb.1
   clear hp hd hdt hJ
   simp only [putAll,Nat.reduceAdd,Act.put,List.setIfInBounds_toArray,List.set_cons_zero,List.set_cons_succ]
   refine wp_ins hb.2.2 rfl _ _ _ 254 _ rfl Tryz.underlying254 apart73 (e:=(12,67,2)) (by decide) hLi (by decide) (by decide) hv0 rfl q11 ?_
   intro w2 hmo hg
   exact⟨rfl,HJ.out.ins H0.out 12 _ (by decide) (by decide) (by decide) hmo hg,trivial,trivial⟩
  ·intro vs w1 L hLi hd hdt hJ hp
   have HJ:=zh hJ
   clear hp hd hdt hLi hJ
   simp only [putAll,Nat.reduceAdd]
   go_wp2
   exact⟨rfl,HJ.out.keep 13 _ (by decide) (by decide) (by decide) (by decide),trivial,rfl⟩
  ·intro vs w1 L hLi hd hdt hJ hp
   have q13:vs 13=(.pointer (some ⟨eb,0,none⟩)):=zd hp 13
   have HJ:=zh hJ
   clear hp hd hdt hLi hJ
   simp only [putAll,Nat.reduceAdd]
   go_wp2
   exact⟨rfl,HJ.out.keep 14 _ (by decide) (by decide) (by decide) (by decide),trivial,rfl⟩
  ·intro vs w1 L hLi hd hdt hJ hp
   have q14:vs 14=(.pointer (some ⟨eb,0,none⟩)):=zd hp 14
   have HJ:=zh hJ
   clear hp hd hdt hLi hJ
   simp only [putAll,Nat.reduceAdd]
   go_wp2
   exact⟨rfl,HJ.out.keep 15 _ (by decide) (by decide) (by decide) (by decide),trivial,rfl⟩
  ·intro vs w1 L hLi hd hdt hJ hp
   have q15:vs 15=(.pointer (some ⟨eb,3,none⟩)):=zd hp 15
   have H0:=zh (zd hd 0)
   have HJ:=zh hJ
   have hb:=hJ.B H0.out
   have hv0:=hb.1
   clear hp hd hdt hJ
   simp only [putAll,Nat.reduceAdd,Act.put,List.setIfInBounds_toArray,List.set_cons_zero,List.set_cons_succ]
   refine wp_ins hb.2.2 rfl _ _ _ 254 _ rfl Tryz.underlying254 apart73 (e:=(16,77,3)) (by decide) hLi (by decide) (by decide) hv0 rfl q15 ?_
   intro w2 hmo hg
   exact⟨rfl,HJ.out.ins H0.out 16 _ (by decide) (by decide) (by decide) hmo hg,trivial,trivial⟩
  ·intro vs w1 L hLi hd hdt hJ hp
   have HJ:=zh hJ
   clear hp hd hdt hLi hJ
   simp only [putAll,Nat.reduceAdd]
   go_wp2
   exact⟨rfl,HJ.out.keep 17 _ (by decide) (by decide) (by decide) (by decide),trivial,rfl⟩
  ·intro vs w1 L hLi hd hdt hJ hp
   have q17:vs 17=(.pointer (some ⟨eb,0,none⟩)):=zd hp 17
   have HJ:=zh hJ
   clear hp hd hdt hLi hJ
   simp only [putAll,Nat.reduceAdd]
   go_wp2
   exact⟨rfl,HJ.out.keep 18 _ (by decide) (by decide) (by decide) (by decide),trivial,rfl⟩
  ·intro vs w1 L hLi hd hdt hJ hp
   have q18:vs 18=(.pointer (some ⟨eb,0,none⟩)):=zd hp 18
   have HJ:=zh hJ
   clear hp hd hdt hLi hJ
   simp only [putAll,Nat.reduceAdd]
   go_wp2
   exact⟨rfl,HJ.out.keep 19 _ (by decide) (by decide) (by decide) (by decide),trivial,rfl⟩
  ·intro vs w1 L hLi hd hdt hJ hp
   have q19:vs 19=(.pointer (some ⟨eb,4,none⟩)):=zd hp 19
   have H0:=zh (zd hd 0)
   have HJ:=zh hJ
   have hb:=hJ.B H0.out
   have hv0:=hb.1
   clear hp hd hdt hJ
   simp only [putAll,Nat.reduceAdd,Act.put,List.setIfInBounds_toArray,List.set_cons_zero,List.set_cons_succ]
   refine wp_ins hb.2.2 rfl _ _ _ 254 _ rfl Tryz.underlying254 apart73 (e:=(20,68,4)) (by decide) hLi (by decide) (by decide) hv0 rfl q19 ?_
   intro w2 hmo hg
   exact⟨rfl,HJ.out.ins H0.out 20 _ (by decide) (by decide) (by decide) hmo hg,trivial,trivial⟩
  ·intro vs w1 L hLi hd hdt hJ hp
   have HJ:=zh hJ
   clear hp hd hdt hLi hJ
   simp only [putAll,Nat.reduceAdd]
   go_wp2
   exact⟨rfl,HJ.out.keep 21 _ (by decide) (by decide) (by decide) (by decide),trivial,rfl⟩
  ·intro vs w1 L hLi hd hdt hJ hp
   have q21:vs 21=(.pointer (some ⟨eb,0,none⟩)):=zd hp 21
   have HJ:=zh hJ
   clear hp hd hdt hLi hJ
   simp only [putAll,Nat.reduceAdd]
   go_wp2
   exact⟨rfl,HJ.out.keep 22 _ (by decide) (by decide) (by decide) (by decide),trivial,rfl⟩
  ·intro vs w1 L hLi hd hdt hJ hp
   have q22:vs 22=(.pointer (some ⟨eb,0,none⟩)):=zd hp 22
   have HJ:=zh hJ
   clear hp hd hdt hLi hJ
   simp only [putAll,Nat.reduceAdd]
   go_wp2
   exact⟨rfl,HJ.out.keep 23 _ (by decide) (by decide) (by decide) (by decide),trivial,rfl⟩
  ·intro vs w1 L hLi hd hdt hJ hp
   have q23:vs 23=(.pointer (some ⟨eb,5,none⟩)):=zd hp 23
   have H0:=zh (zd hd 0)
   have HJ:=zh hJ
   have hb:=hJ.B H0.out
   have hv0:=hb.1
   clear hp hd hdt hJ
   simp only [putAll,Nat.reduceAdd,Act.put,List.setIfInBounds_toArray,List.set_cons_zero,List.set_cons_succ]
   refine wp_ins hb.2.2 rfl _ _ _ 254 _ rfl Tryz.underlying254 apart73 (e:=(24,72,5)) (by decide) hLi (by decide) (by decide) hv0 rfl q23 ?_
   intro w2 hmo hg
   exact⟨rfl,HJ.out.ins H0.out 24 _ (by decide) (by decide) (by decide) hmo hg,trivial,trivial⟩
  ·intro vs w1 L hLi hd hdt hJ hp
   have HJ:=zh hJ
   clear hp hd hdt hLi hJ
   simp only [putAll,Nat.reduceAdd]
   go_wp2
   exact⟨rfl,HJ.out.keep 25 _ (by decide) (by decide) (by decide) (by decide),trivial,rfl⟩
  ·intro vs w1 L hLi hd hdt hJ hp
   have q25:vs 25=(.pointer (some ⟨eb,0,none⟩)):=zd hp 25
   have HJ:=zh hJ
   clear hp hd hdt hLi hJ
   simp only [putAll,Nat.reduceAdd]
   go_wp2
   exact⟨rfl,HJ.out.keep 26 _ (by decide) (by decide) (by decide) (by decide),trivial,rfl⟩
  ·intro vs w1 L hLi hd hdt hJ hp
   have q26:vs 26=(.pointer (some ⟨eb,0,none⟩)):=zd hp 26
   have HJ:=zh hJ
   clear hp hd hdt hLi hJ
   simp only [putAll,Nat.reduceAdd]
   go_wp2
   exact⟨rfl,HJ.out.keep 27 _ (by decide) (by decide) (by decide) (by decide),trivial,rfl⟩
  ·intro vs w1 L hLi hd hdt hJ hp
   have q27:vs 27=(.pointer (some ⟨eb,8,none⟩)):=zd hp 27
   have H0:=zh (zd hd 0)
   have HJ:=zh hJ
   have hb:=hJ.B H0.out
   have hv0:=hb.1
   clear hp hd hdt hJ
   simp only [putAll,Nat.reduceAdd,Act.put,List.setIfInBounds_toArray,List.set_cons_zero,List.set_cons_succ]
   refine wp_ins hb.2.2 rfl _ _ _ 254 _ rfl Tryz.underlying254 apart73 (e:=(28,113,8)) (by decide) hLi (by decide) (by decide) hv0 rfl q27 ?_
   intro w2 hmo hg
   exact⟨rfl,HJ.out.ins H0.out 28 _ (by decide) (by decide) (by decide) hmo hg,trivial,trivial⟩
  ·intro vs w1 L hLi hd hdt hJ hp
   have HJ:=zh hJ
   clear hp hd hdt hLi hJ
   simp only [putAll,Nat.reduceAdd]
   go_wp2
   exact⟨rfl,HJ.out.keep 29 _ (by decide) (by decide) (by decide) (by decide),trivial,rfl⟩
  ·intro vs w1 L hLi hd hdt hJ hp
   have q29:vs 29=(.pointer (some ⟨eb,0,none⟩)):=zd hp 29
   have HJ:=zh hJ
   clear hp hd hdt hLi hJ
   simp only [putAll,Nat.reduceAdd]
   go_wp2
   exact⟨rfl,HJ.out.keep 30 _ (by decide) (by decide) (by decide) (by decide),trivial,rfl⟩
  ·intro vs w1 L hLi hd hdt hJ hp
   have q30:vs 30=(.pointer (some ⟨eb,0,none⟩)):=zd hp 30
   have HJ:=zh hJ
   clear hp hd hdt hLi hJ
   simp only [putAll,Nat.reduceAdd]
   go_wp2
   exact⟨rfl,HJ.out.keep 31 _ (by decide) (by decide) (by decide) (by decide),trivial,rfl⟩
  ·intro vs w1 L hLi hd hdt hJ hp
   have q31:vs 31=(.pointer (some ⟨eb,9,none⟩)):=zd hp 31
   have H0:=zh (zd hd 0)
   have HJ:=zh hJ
   have hb:=hJ.B H0.out
   have hv0:=hb.1
   clear hp hd hdt hJ
   simp only [putAll,Nat.reduceAdd,Act.put,List.setIfInBounds_toArray,List.set_cons_zero,List.set_cons_succ]
   refine wp_ins hb.2.2 rfl _ _ _ 254 _ rfl Tryz.underlying254 apart73 (e:=(32,87,9)) (by decide) hLi (by decide) (by decide) hv0 rfl q31 ?_
   intro w2 hmo hg
   exact⟨rfl,HJ.out.ins H0.out 32 _ (by decide) (by decide) (by decide) hmo hg,trivial,trivial⟩
  ·intro vs w1 L hLi hd hdt hJ hp
   have HJ:=zh hJ
   clear hp hd hdt hLi hJ
   simp only [putAll,Nat.reduceAdd]
   go_wp2
   exact⟨rfl,HJ.out.keep 33 _ (by decide) (by decide) (by decide) (by decide),trivial,rfl⟩
  ·intro vs w1 L hLi hd hdt hJ hp
   have q33:vs 33=(.pointer (some ⟨eb,0,none⟩)):=zd hp 33
   have HJ:=zh hJ
   clear hp hd hdt hLi hJ
   simp only [putAll,Nat.reduceAdd]
   go_wp2
   exact⟨rfl,HJ.out.keep 34 _ (by decide) (by decide) (by decide) (by decide),trivial,rfl⟩
  ·intro vs w1 L hLi hd hdt hJ hp
   have q34:vs 34=(.pointer (some ⟨eb,0,none⟩)):=zd hp 34
   have HJ:=zh hJ
   clear hp hd hdt hLi hJ
   simp only [putAll,Nat.reduceAdd]
   go_wp2
   exact⟨rfl,HJ.out.keep 35 _ (by decide) (by decide) (by decide) (by decide),trivial,rfl⟩
  ·intro vs w1 L hLi hd hdt hJ hp
   have q35:vs 35=(.pointer (some ⟨eb,10,none⟩)):=zd hp 35
   have H0:=zh (zd hd 0)
   have HJ:=zh hJ
   have hb:=hJ.B H0.out
   have hv0:=hb.1
   clear hp hd hdt hJ
   simp only [putAll,Nat.reduceAdd,Act.put,List.setIfInBounds_toArray,List.set_cons_zero,List.set_cons_succ]
   refine wp_ins hb.2.2 rfl _ _ _ 254 _ rfl Tryz.underlying254 apart73 (e:=(36,115,10)) (by decide) hLi (by decide) (by decide) hv0 rfl q35 ?_
   intro w2 hmo hg
   exact⟨rfl,HJ.out.ins H0.out 36 _ (by decide) (by decide) (by decide) hmo hg,trivial,trivial⟩
  ·intro vs w1 L hLi hd hdt hJ hp
   have HJ:=zh hJ
   clear hp hd hdt hLi hJ
   simp only [putAll,Nat.reduceAdd]
   go_wp2
   exact⟨rfl,HJ.out.keep 37 _ (by decide) (by decide) (by decide) (by decide),trivial,rfl⟩
  ·intro vs w1 L hLi hd hdt hJ hp
   have q37:vs 37=(.pointer (some ⟨eb,0,none⟩)):=zd hp 37
   have HJ:=zh hJ
   clear hp hd hdt hLi hJ
   simp only [putAll,Nat.reduceAdd]
   go_wp2
   exact⟨rfl,HJ.out.keep 38 _ (by decide) (by decide) (by decide) (by decide),trivial,rfl⟩
  ·intro vs w1 L hLi hd hdt hJ hp
   have q38:vs 38=(.pointer (some ⟨eb,0,none⟩)):=zd hp 38
   have HJ:=zh hJ
   clear hp hd hdt hLi hJ
   simp only [putAll,Nat.reduceAdd]
   go_wp2
   exact⟨rfl,HJ.out.keep 39 _ (by decide) (by decide) (by decide) (by decide),trivial,rfl⟩
  ·intro vs w1 L hLi hd hdt hJ hp
   have q39:vs 39=(.pointer (some ⟨eb,11,none⟩)):=zd hp 39
   have H0:=zh (zd hd 0)
   have HJ:=zh hJ
   have hb:=hJ.B H0.out
   have hv0:=hb.1
   clear hp hd hdt hJ
   simp only [putAll,Nat.reduceAdd,Act.put,List.setIfInBounds_toArray,List.set_cons_zero,List.set_cons_succ]
   refine wp_ins hb.2.2 rfl _ _ _ 254 _ rfl Tryz.underlying254 apart73 (e:=(40,116,11)) (by decide) hLi (by decide) (by decide) hv0 rfl q39 ?_
   intro w2 hmo hg
   exact⟨rfl,HJ.out.ins H0.out 40 _ (by decide) (by decide) (by decide) hmo hg,trivial,trivial⟩
  ·intro vs w1 L hLi hd hdt hJ hp
   have HJ:=zh hJ
   clear hp hd hdt hLi hJ
   simp only [putAll,Nat.reduceAdd]
   go_wp2
   exact⟨rfl,HJ.out.keep 41 _ (by decide) (by decide) (by decide) (by decide),trivial,rfl⟩
  ·intro vs w1 L hLi hd hdt hJ hp
   have q41:vs 41=(.pointer (some ⟨eb,0,none⟩)):=zd hp 41
   have HJ:=zh hJ
   clear hp hd hdt hLi hJ
   simp only [putAll,Nat.reduceAdd]
   go_wp2
   exact⟨rfl,HJ.out.keep 42 _ (by decide) (by decide) (by decide) (by decide),trivial,rfl⟩
  ·intro vs w1 L hLi hd hdt hJ hp
   have q42:vs 42=(.pointer (some ⟨eb,0,none⟩)):=zd hp 42
   have HJ:=zh hJ
   clear hp hd hdt hLi hJ
   simp only [putAll,Nat.reduceAdd]
   go_wp2
   exact⟨rfl,HJ.out.keep 43 _ (by decide) (by decide) (by decide) (by decide),trivial,rfl⟩
  ·intro vs w1 L hLi hd hdt hJ hp
   have q43:vs 43=(.pointer (some ⟨eb,12,none⟩)):=zd hp 43
   have H0:=zh (zd hd 0)
   have HJ:=zh hJ
   have hb:=hJ.B H0.out
   have hv0:=hb.1
   clear hp hd hdt hJ
   simp only [putAll,Nat.reduceAdd,Act.put,List.setIfInBounds_toArray,List.set_cons_zero,List.set_cons_succ]
   refine wp_ins hb.2.2 rfl _ _ _ 254 _ rfl Tryz.underlying254 apart73 (e:=(44,99,12)) (by decide) hLi (by decide) (by decide) hv0 rfl q43 ?_
   intro w2 hmo hg
   exact⟨rfl,HJ.out.ins H0.out 44 _ (by decide) (by decide) (by decide) hmo hg,trivial,trivial⟩
  ·intro vs w1 L hLi hd hdt hJ hp
   have HJ:=zh hJ
   clear hp hd hdt hLi hJ
   simp only [putAll,Nat.reduceAdd]
   go_wp2
   exact⟨rfl,HJ.out.keep 45 _ (by decide) (by decide) (by decide) (by decide),trivial,rfl⟩
  ·intro vs w1 L hLi hd hdt hJ hp
   have q45:vs 45=(.pointer (some ⟨eb,0,none⟩)):=zd hp 45
   have HJ:=zh hJ
   clear hp hd hdt hLi hJ
   simp only [putAll,Nat.reduceAdd]
   go_wp2
   exact⟨rfl,HJ.out.keep 46 _ (by decide) (by decide) (by decide) (by decide),trivial,rfl⟩
  ·intro vs w1 L hLi hd hdt hJ hp
   have q46:vs 46=(.pointer (some ⟨eb,0,none⟩)):=zd hp 46
   have HJ:=zh hJ
   clear hp hd hdt hLi hJ
   simp only [putAll,Nat.reduceAdd]
   go_wp2
   exact⟨rfl,HJ.out.keep 47 _ (by decide) (by decide) (by decide) (by decide),trivial,rfl⟩
  ·intro vs w1 L hLi hd hdt hJ hp
   have q47:vs 47=(.pointer (some ⟨eb,13,none⟩)):=zd hp 47
   have H0:=zh (zd hd 0)
   have HJ:=zh hJ
   have hb:=hJ.B H0.out
   have hv0:=hb.1
   clear hp hd hdt hJ
   simp only [putAll,Nat.reduceAdd,Act.put,List.setIfInBounds_toArray,List.set_cons_zero,List.set_cons_succ]
   refine wp_ins hb.2.2 rfl _ _ _ 254 _ rfl Tryz.underlying254 apart73 (e:=(48,100,13)) (by decide) hLi (by decide) (by decide) hv0 rfl q47 ?_
   intro w2 hmo hg
   exact⟨rfl,HJ.out.ins H0.out 48 _ (by decide) (by decide) (by decide) hmo hg,trivial,trivial⟩
  ·intro vs w1 L hLi hd hdt hJ hp
   have HJ:=zh hJ
   clear hp hd hdt hLi hJ
   simp only [putAll,Nat.reduceAdd]
   go_wp2
   exact⟨rfl,HJ.out.keep 49 _ (by decide) (by decide) (by decide) (by decide),trivial,rfl⟩
  ·intro vs w1 L hLi hd hdt hJ hp
   have q49:vs 49=(.pointer (some ⟨eb,0,none⟩)):=zd hp 49
   have HJ:=zh hJ
   clear hp hd hdt hLi hJ
   simp only [putAll,Nat.reduceAdd]
   go_wp2
   exact⟨rfl,HJ.out.keep 50 _ (by decide) (by decide) (by decide) (by decide),trivial,rfl⟩
  ·intro vs w1 L hLi hd hdt hJ hp
   have q50:vs 50=(.pointer (some ⟨eb,0,none⟩)):=zd hp 50
   have HJ:=zh hJ
   clear hp hd hdt hLi hJ
   simp only [putAll,Nat.reduceAdd]
   go_wp2
   exact⟨rfl,HJ.out.keep 51 _ (by decide) (by decide) (by decide) (by decide),trivial,rfl⟩
  ·intro vs w1 L hLi hd hdt hJ hp
   have q51:vs 51=(.pointer (some ⟨eb,14,none⟩)):=zd hp 51
   have H0:=zh (zd hd 0)
   have HJ:=zh hJ
   have hb:=hJ.B H0.out
   have hv0:=hb.1
   clear hp hd hdt hJ
   simp only [putAll,Nat.reduceAdd,Act.put,List.setIfInBounds_toArray,List.set_cons_zero,List.set_cons_succ]
   refine wp_ins hb.2.2 rfl _ _ _ 254 _ rfl Tryz.underlying254 apart73 (e:=(52,110,14)) (by decide) hLi (by decide) (by decide) hv0 rfl q51 ?_
   intro w2 hmo hg
   exact⟨rfl,HJ.out.ins H0.out 52 _ (by decide) (by decide) (by decide) hmo hg,trivial,trivial⟩
  ·intro vs w1 L hLi hd hdt hJ hp
   have HJ:=zh hJ
   clear hp hd hdt hLi hJ
   simp only [putAll,Nat.reduceAdd]
   go_wp2
   exact⟨rfl,HJ.out.keep 53 _ (by decide) (by decide) (by decide) (by decide),trivial,rfl⟩
  ·intro vs w1 L hLi hd hdt hJ hp
   have q53:vs 53=(.pointer (some ⟨eb,0,none⟩)):=zd hp 53
   have HJ:=zh hJ
   clear hp hd hdt hLi hJ
   simp only [putAll,Nat.reduceAdd]
   go_wp2
   exact⟨rfl,HJ.out.keep 54 _ (by decide) (by decide) (by decide) (by decide),trivial,rfl⟩
  ·intro vs w1 L hLi hd hdt hJ hp
   have q54:vs 54=(.pointer (some ⟨eb,0,none⟩)):=zd hp 54
   have HJ:=zh hJ
   clear hp hd hdt hLi hJ
   simp only [putAll,Nat.reduceAdd]
   go_wp2
   exact⟨rfl,HJ.out.keep 55 _ (by decide) (by decide) (by decide) (by decide),trivial,rfl⟩
  ·intro vs w1 L hLi hd hdt hJ hp
   have q55:vs 55=(.pointer (some ⟨eb,15,none⟩)):=zd hp 55
   have H0:=zh (zd hd 0)
   have HJ:=zh hJ
   have hb:=hJ.B H0.out
   have hv0:=hb.1
   clear hp hd hdt hJ
   simp only [putAll,Nat.reduceAdd,Act.put,List.setIfInBounds_toArray,List.set_cons_zero,List.set_cons_succ]
   refine wp_ins hb.2.2 rfl _ _ _ 254 _ rfl Tryz.underlying254 apart73 (e:=(56,70,15)) (by decide) hLi (by decide) (by decide) hv0 rfl q55 ?_
   intro w2 hmo hg
   exact⟨rfl,HJ.out.ins H0.out 56 _ (by decide) (by decide) (by decide) hmo hg,trivial,trivial⟩
  ·intro vs w1 L hLi hd hdt hJ hp
   have HJ:=zh hJ
   clear hp hd hdt hLi hJ
   simp only [putAll,Nat.reduceAdd]
   go_wp2
   exact⟨rfl,HJ.out.keep 57 _ (by decide) (by decide) (by decide) (by decide),trivial,rfl⟩
  ·intro vs w1 L hLi hd hdt hJ hp
   have q57:vs 57=(.pointer (some ⟨eb,0,none⟩)):=zd hp 57
   have HJ:=zh hJ
   clear hp hd hdt hLi hJ
   simp only [putAll,Nat.reduceAdd]
   go_wp2
   exact⟨rfl,HJ.out.keep 58 _ (by decide) (by decide) (by decide) (by decide),trivial,rfl⟩
  ·intro vs w1 L hLi hd hdt hJ hp
   have q58:vs 58=(.pointer (some ⟨eb,0,none⟩)):=zd hp 58
   have HJ:=zh hJ
   clear hp hd hdt hLi hJ
   simp only [putAll,Nat.reduceAdd]
   go_wp2
   exact⟨rfl,HJ.out.keep 59 _ (by decide) (by decide) (by decide) (by decide),trivial,rfl⟩
  ·intro vs w1 L hLi hd hdt hJ hp
   have q59:vs 59=(.pointer (some ⟨eb,17,none⟩)):=zd hp 59
   have H0:=zh (zd hd 0)
   have HJ:=zh hJ
   have hb:=hJ.B H0.out
   have hv0:=hb.1
   clear hp hd hdt hJ
   simp only [putAll,Nat.reduceAdd,Act.put,List.setIfInBounds_toArray,List.set_cons_zero,List.set_cons_succ]
   refine wp_ins hb.2.2 rfl _ _ _ 254 _ rfl Tryz.underlying254 apart73 (e:=(60,82,17)) (by decide) hLi (by decide) (by decide) hv0 rfl q59 ?_
   intro w2 hmo hg
   exact⟨rfl,HJ.out.ins H0.out 60 _ (by decide) (by decide) (by decide) hmo hg,trivial,trivial⟩
  ·intro vs w1 L hLi hd hdt hJ hp
   have HJ:=zh hJ
   clear hp hd hdt hLi hJ
   simp only [putAll,Nat.reduceAdd]
   go_wp2
   exact⟨rfl,HJ.out.move 61 _ rfl (by decide) (by decide),trivial,trivial⟩
  ·intro vs w1 L hLi hd hdt hJ hp
   have HJ:=zh hJ
   have hl:=zd hd 61
   have hc:=hJ.C hl
   have HCC:=zh hc
   clear hp hd hdt hLi hJ hc hl
   simp only [putAll,Nat.reduceAdd]
   go_wp2
   exact⟨rfl,HJ.out.move 62 _ HCC.out (by decide) (by decide),trivial,trivial⟩
 ·intro vs w1 L hall hJ hp
  have HJ:=zh hJ
  have HA:=zh hall
  have h62:=hJ.D (zd hall 62)
  have hb:=hJ.B (zd hall 0)
  rw [hb.1]at h62
  have HBB:=zh hb
  clear hp hall hJ hb
  simp only [putAll,Nat.reduceAdd,Act.put,h62,List.setIfInBounds_toArray,List.set_cons_zero,List.set_cons_succ]
  clear h62
  simp only [Exit.inBlock,Exit.then]
  try go_at_K
  go_wp2
  go_ret
  exact⟨_,rfl,HJ.out.A,HBB.out.2.1,L,fun e he=>HA.out e.1 (by revert e he;decide),HBB.out.2.2⟩
def tab74:List (Nat×Int×Nat):=[(4,80,6),(8,112,7),(12,76,16)]
theorem apart74:Apart tab74:=by unfold Apart tab74;decide
set_option maxHeartbeats 4000000 in
theorem map74 (eb:Nat)(w:World):Calls Tryz.prog 74 #[.pointer (some ⟨eb,0,none⟩)] w (fun e w'=>∃b,e=.returned (.map (some b))/\Ext w w'/\w.heap.size<=b/\∃L:Nat->Bool,(∀e∈tab74,L e.1=true)/\MapOwn eb tab74 L b w'):=by
 go_enter Tryz.func74,Tryz.ntmps74
 go_wp2
 refine wp_region_ogL (J:=MapJ eb tab74 13 14 w) (R:=fun _ _=>True) [Sp.any _,Sp.eq _ (.pointer (some ⟨eb,0,none⟩)),Sp.eq _ (.pointer (some ⟨eb,0,none⟩)),Sp.eq _ (.pointer (some ⟨eb,6,none⟩)),Sp.any _,Sp.eq _ (.pointer (some ⟨eb,0,none⟩)),Sp.eq _ (.pointer (some ⟨eb,0,none⟩)),Sp.eq _ (.pointer (some ⟨eb,7,none⟩)),Sp.any _,Sp.eq _ (.pointer (some ⟨eb,0,none⟩)),Sp.eq _ (.pointer (some ⟨eb,0,none⟩)),Sp.eq _ (.pointer (some ⟨eb,16,none⟩)),Sp.any _,Sp.any _,Sp.any _] (by kernel_rfl) (by kernel_rfl) ?_ ?_ ?_
 ·exact MapJ.start eb tab74 13 14 w _
 ·refine⟨?_,?_,?_,?_,?_,?_,?_,?_,?_,?_,?_,?_,?_,?_,?_,trivial⟩
  ·intro vs w1 L hLi hd hdt hJ hp
   have HJ:=zh hJ
   have HT:=zh hdt
   have hmk:=run_makeMap (P:=Tryz.prog) 256 w1
   clear hp hd hdt hLi hJ
   simp only [putAll,Nat.reduceAdd]
   go_wp2
   exact⟨rfl,HJ.out.make (fun e he=>HT.out e.1 (by revert e he;decide)) (by decide) (HT.out _ (by decide)) (HT.out _ (by decide)) (by decide) (by decide),trivial,trivial⟩
  ·intro vs w1 L hLi hd hdt hJ hp
   have HJ:=zh hJ
   clear hp hd hdt hLi hJ
   simp only [putAll,Nat.reduceAdd]
   go_wp2
   exact⟨rfl,HJ.out.keep 1 _ (by decide) (by decide) (by decide) (by decide),trivial,rfl⟩
  ·intro vs w1 L hLi hd hdt hJ hp
   have q1:vs 1=(.pointer (some ⟨eb,0,none⟩)):=zd hp 1
   have HJ:=zh hJ
   clear hp hd hdt hLi hJ
   simp only [putAll,Nat.reduceAdd]
   go_wp2
   exact⟨rfl,HJ.out.keep 2 _ (by decide) (by decide) (by decide) (by decide),trivial,rfl⟩
  ·intro vs w1 L hLi hd hdt hJ hp
   have q2:vs 2=(.pointer (some ⟨eb,0,none⟩)):=zd hp 2
   have HJ:=zh hJ
   clear hp hd hdt hLi hJ
   simp only [putAll,Nat.reduceAdd]
   go_wp2
   exact⟨rfl,HJ.out.keep 3 _ (by decide) (by decide) (by decide) (by decide),trivial,rfl⟩
  ·intro vs w1 L hLi hd hdt hJ hp
   have q3:vs 3=(.pointer (some ⟨eb,6,none⟩)):=zd hp 3
   have H0:=zh (zd hd 0)
   have HJ:=zh hJ
   have hb:=hJ.B H0.out
   have hv0:=hb.1
   clear hp hd hdt hJ
   simp only [putAll,Nat.reduceAdd,Act.put,List.setIfInBounds_toArray,List.set_cons_zero,List.set_cons_succ]
   refine wp_ins hb.2.2 rfl _ _ _ 256 _ rfl Tryz.underlying256 apart74 (e:=(4,80,6)) (by decide) hLi (by decide) (by decide) hv0 rfl q3 ?_
   intro w2 hmo hg
   exact⟨rfl,HJ.out.ins H0.out 4 _ (by decide) (by decide) (by decide) hmo hg,trivial,trivial⟩
  ·intro vs w1 L hLi hd hdt hJ hp
   have HJ:=zh hJ
   clear hp hd hdt hLi hJ
   simp only [putAll,Nat.reduceAdd]
   go_wp2
   exact⟨rfl,HJ.out.keep 5 _ (by decide) (by decide) (by decide) (by decide),trivial,rfl⟩
  ·intro vs w1 L hLi hd hdt hJ hp
   have q5:vs 5=(.pointer (some ⟨eb,0,none⟩)):=zd hp 5
   have HJ:=zh hJ
   clear hp hd hdt hLi hJ
   simp only [putAll,Nat.reduceAdd]
   go_wp2
   exact⟨rfl,HJ.out.keep 6 _ (by decide) (by decide) (by decide) (by decide),trivial,rfl⟩
  ·intro vs w1 L hLi hd hdt hJ hp
   have q6:vs 6=(.pointer (some ⟨eb,0,none⟩)):=zd hp 6
   have HJ:=zh hJ
   clear hp hd hdt hLi hJ
   simp only [putAll,Nat.reduceAdd]
   go_wp2
   exact⟨rfl,HJ.out.keep 7 _ (by decide) (by decide) (by decide) (by decide),trivial,rfl⟩
  ·intro vs w1 L hLi hd hdt hJ hp
   have q7:vs 7=(.pointer (some ⟨eb,7,none⟩)):=zd hp 7
   have H0:=zh (zd hd 0)
   have HJ:=zh hJ
   have hb:=hJ.B H0.out
   have hv0:=hb.1
   clear hp hd hdt hJ
   simp only [putAll,Nat.reduceAdd,Act.put,List.setIfInBounds_toArray,List.set_cons_zero,List.set_cons_succ]
   refine wp_ins hb.2.2 rfl _ _ _ 256 _ rfl Tryz.underlying256 apart74 (e:=(8,112,7)) (by decide) hLi (by decide) (by decide) hv0 rfl q7 ?_
   intro w2 hmo hg
   exact⟨rfl,HJ.out.ins H0.out 8 _ (by decide) (by decide) (by decide) hmo hg,trivial,trivial⟩
  ·intro vs w1 L hLi hd hdt hJ hp
   have HJ:=zh hJ
   clear hp hd hdt hLi hJ
   simp only [putAll,Nat.reduceAdd]
   go_wp2
   exact⟨rfl,HJ.out.keep 9 _ (by decide) (by decide) (by decide) (by decide),trivial,rfl⟩
  ·intro vs w1 L hLi hd hdt hJ hp
   have q9:vs 9=(.pointer (some ⟨eb,0,none⟩)):=zd hp 9
   have HJ:=zh hJ
   clear hp hd hdt hLi hJ
   simp only [putAll,Nat.reduceAdd]
   go_wp2
   exact⟨rfl,HJ.out.keep 10 _ (by decide) (by decide) (by decide) (by decide),trivial,rfl⟩
  ·intro vs w1 L hLi hd hdt hJ hp
   have q10:vs 10=(.pointer (some ⟨eb,0,none⟩)):=zd hp 10
   have HJ:=zh hJ
   clear hp hd hdt hLi hJ
   simp only [putAll,Nat.reduceAdd]
   go_wp2
   exact⟨rfl,HJ.out.keep 11 _ (by decide) (by decide) (by decide) (by decide),trivial,rfl⟩
  ·intro vs w1 L hLi hd hdt hJ hp
   have q11:vs 11=(.pointer (some ⟨eb,16,none⟩)):=zd hp 11
   have H0:=zh (zd hd 0)
   have HJ:=zh hJ
   have hb:=hJ.B H0.out
   have hv0:=hb.1
   clear hp hd hdt hJ
   simp only [putAll,Nat.reduceAdd,Act.put,List.setIfInBounds_toArray,List.set_cons_zero,List.set_cons_succ]
   refine wp_ins hb.2.2 rfl _ _ _ 256 _ rfl Tryz.underlying256 apart74 (e:=(12,76,16)) (by decide) hLi (by decide) (by decide) hv0 rfl q11 ?_
   intro w2 hmo hg
   exact⟨rfl,HJ.out.ins H0.out 12 _ (by decide) (by decide) (by decide) hmo hg,trivial,trivial⟩
  ·intro vs w1 L hLi hd hdt hJ hp
   have HJ:=zh hJ
   clear hp hd hdt hLi hJ
   simp only [putAll,Nat.reduceAdd]
   go_wp2
   exact⟨rfl,HJ.out.move 13 _ rfl (by decide) (by decide),trivial,trivial⟩
  ·intro vs w1 L hLi hd hdt hJ hp
   have HJ:=zh hJ
   have hl:=zd hd 13
   have hc:=hJ.C hl
   have HCC:=zh hc
   clear hp hd hdt hLi hJ hc hl
   simp only [putAll,Nat.reduceAdd]
   go_wp2
   exact⟨rfl,HJ.out.move 14 _ HCC.out (by decide) (by decide),trivial,trivial⟩
 ·intro vs w1 L hall hJ hp
  have HJ:=zh hJ
  have HA:=zh hall
  have h62:=hJ.D (zd hall 14)
  have hb:=hJ.B (zd hall 0)
  rw [hb.1]at h62
  have HBB:=zh hb
  clear hp hall hJ hb
  simp only [putAll,Nat.reduceAdd,Act.put,h62,List.setIfInBounds_toArray,List.set_cons_zero,List.set_cons_succ]
  clear h62
  simp only [Exit.inBlock,Exit.then]
  try go_at_K
  go_wp2
  go_ret
  exact⟨_,rfl,HJ.out.A,HBB.out.2.1,L,fun e he=>HA.out e.1 (by revert e he;decide),HBB.out.2.2⟩
end Go.Proofs.YtdenjanihikolaaGreatDoor
