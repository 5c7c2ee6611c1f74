/- told and answered by kind: told18. -/
import Derived.Test.YtdenjanihikolaaGreatDoorDqA0
import Derived.Test.YtdenjanihikolaaGreatDoorDqA1
import Derived.Shelf.SlSortCmp.NoneTotal
import Derived.Test.YtdenjanihikolaaGreatDoorDqErb
import Derived.Test.YtdenjanihikolaaGreatDoorDqDkf
import Derived.Test.YtdenjanihikolaaGreatDoorDqLtr
import Derived.Test.YtdenjanihikolaaGreatDoorDqTa
import Derived.Test.YtdenjanihikolaaGreatDoorDqErf
namespace Go.Proofs.YtdenjanihikolaaGreatDoor
set_option linter.unusedVariables false
set_option linter.unusedSimpArgs false
set_option maxRecDepth 100000
open Go.RowKit Go.Shelf Og
open Go.Sort (flatK get_flatK size_flatK HoldsK grow putRow putCells Holds grow_grow alloc_eq_grow heap_grow_old size_grow mapBlock onCells PermIn SortedIn SWO)
def sortPr_ren:Go.Shelf.Ren:=⟨fun|6=>70|15=>77|14=>76|28=>89|29=>90|20=>81|21=>82|22=>83|23=>84|24=>85|25=>86|26=>87|27=>88|46=>97|47=>98|48=>99|49=>100|50=>101|57=>107|n=>n,fun|22=>28|24=>60|25=>252|3=>3|39=>264|0=>0|53=>22|55=>277|4=>4|46=>269|45=>268|50=>273|5=>5|9=>9|66=>284|70=>288|76=>296|77=>297|n=>n,fun|n=>n⟩
theorem sortPr:Go.Proofs.SlLaysF0.n6 Tryz.prog sortPr_ren:=
 {mixed:=by kernel_rfl,
  f6:=⟨ "slices.SortFunc[[]pgproto3/impl.Pair,pgproto3/impl.Pair]",by decide,Tryz.func70.trans (congrArg some (by kernel_rfl))⟩,
  f14:=⟨ "slices.pdqsortCmpFunc[pgproto3/impl.Pair]",by decide,Tryz.func76.trans (congrArg some (by kernel_rfl))⟩,
  f15:=Tryz.func77.trans (congrArg some (by kernel_rfl)),
  f20:=⟨ "slices.insertionSortCmpFunc[pgproto3/impl.Pair]",by decide,Tryz.func81.trans (congrArg some (by kernel_rfl))⟩,
  f21:=⟨ "slices.heapSortCmpFunc[pgproto3/impl.Pair]",by decide,Tryz.func82.trans (congrArg some (by kernel_rfl))⟩,
  f22:=⟨ "slices.breakPatternsCmpFunc[pgproto3/impl.Pair]",by decide,Tryz.func83.trans (congrArg some (by kernel_rfl))⟩,
  f23:=⟨ "slices.choosePivotCmpFunc[pgproto3/impl.Pair]",by decide,Tryz.func84.trans (congrArg some (by kernel_rfl))⟩,
  f24:=⟨ "slices.reverseRangeCmpFunc[pgproto3/impl.Pair]",by decide,Tryz.func85.trans (congrArg some (by kernel_rfl))⟩,
  f25:=⟨ "slices.partialInsertionSortCmpFunc[pgproto3/impl.Pair]",by decide,Tryz.func86.trans (congrArg some (by kernel_rfl))⟩,
  f26:=⟨ "slices.partitionEqualCmpFunc[pgproto3/impl.Pair]",by decide,Tryz.func87.trans (congrArg some (by kernel_rfl))⟩,
  f27:=⟨ "slices.partitionCmpFunc[pgproto3/impl.Pair]",by decide,Tryz.func88.trans (congrArg some (by kernel_rfl))⟩,
  f28:=Tryz.func89.trans (congrArg some (by kernel_rfl)),
  f29:=Tryz.func90.trans (congrArg some (by kernel_rfl)),
  f46:=⟨ "slices.siftDownCmpFunc[pgproto3/impl.Pair]",by decide,Tryz.func97.trans (congrArg some (by kernel_rfl))⟩,
  f47:=Tryz.func98.trans (congrArg some (by kernel_rfl)),
  f48:=Tryz.func99.trans (congrArg some (by kernel_rfl)),
  f49:=⟨ "slices.medianAdjacentCmpFunc[pgproto3/impl.Pair]",by decide,Tryz.func100.trans (congrArg some (by kernel_rfl))⟩,
  f50:=⟨ "slices.medianCmpFunc[pgproto3/impl.Pair]",by decide,Tryz.func101.trans (congrArg some (by kernel_rfl))⟩,
  f57:=⟨ "slices.order2CmpFunc[pgproto3/impl.Pair]",by decide,Tryz.func107.trans (congrArg some (by kernel_rfl))⟩,
  t0:=Tryz.underlying0,
  a0:=Tryz.isAgg0,
  z0:=Tryz.sizeOf0,
  v0:=Tryz.zeroValue0,
  t3:=Tryz.underlying3,
  a3:=Tryz.isAgg3,
  z3:=Tryz.sizeOf3,
  v3:=Tryz.zeroValue3,
  t4:=Tryz.underlying4,
  a4:=Tryz.isAgg4,
  z4:=Tryz.sizeOf4,
  v4:=Tryz.zeroValue4,
  t5:=Tryz.underlying5,
  a5:=Tryz.isAgg5,
  z5:=Tryz.sizeOf5,
  v5:=Tryz.zeroValue5,
  t9:=Tryz.underlying9,
  a9:=Tryz.isAgg9,
  z9:=Tryz.sizeOf9,
  v9:=Tryz.zeroValue9,
  t22:=Tryz.underlying28,
  a22:=Tryz.isAgg28,
  z22:=Tryz.sizeOf28,
  v22:=Tryz.zeroValue28,
  t25:=Tryz.underlying252,
  a25:=Tryz.isAgg252,
  z25:=Tryz.sizeOf252,
  v25:=Tryz.zeroValue252,
  t39:=Tryz.underlying264,
  a39:=Tryz.isAgg264,
  z39:=Tryz.sizeOf264,
  v39:=Tryz.zeroValue264,
  t45:=Tryz.underlying268,
  a45:=Tryz.isAgg268,
  z45:=Tryz.sizeOf268,
  v45:=Tryz.zeroValue268,
  t46:=Tryz.underlying269,
  a46:=Tryz.isAgg269,
  z46:=Tryz.sizeOf269,
  v46:=Tryz.zeroValue269,
  t50:=Tryz.underlying273,
  a50:=Tryz.isAgg273,
  z50:=Tryz.sizeOf273,
  v50:=Tryz.zeroValue273,
  t53:=Tryz.underlying22,
  a53:=Tryz.isAgg22,
  z53:=Tryz.sizeOf22,
  v53:=Tryz.zeroValue22,
  t55:=Tryz.underlying277,
  a55:=Tryz.isAgg277,
  z55:=Tryz.sizeOf277,
  v55:=Tryz.zeroValue277,
  t66:=Tryz.underlying284,
  a66:=Tryz.isAgg284,
  z66:=Tryz.sizeOf284,
  v66:=Tryz.zeroValue284,
  t70:=Tryz.underlying288,
  a70:=Tryz.isAgg288,
  z70:=Tryz.sizeOf288,
  v70:=Tryz.zeroValue288,
  t76:=Tryz.underlying296,
  a76:=Tryz.isAgg296,
  z76:=Tryz.sizeOf296,
  v76:=Tryz.zeroValue296,
  t77:=Tryz.underlying297,
  a77:=Tryz.isAgg297,
  z77:=Tryz.sizeOf297,
  v77:=Tryz.zeroValue297}
def cfP (x y:Pr):Int:=if Op.bytesLess x.1.toList y.1.toList then -1 else if x.1.toList == y.1.toList then 0 else 1
theorem lt_cfP (x y:Pr):ltOf cfP x y=decide (ltP x y):=by
 unfold ltOf cfP
 rw [ltP_iff]
 by_cases h:ltP x y
 ·simp [h]
 ·simp only [h,decide_false,Bool.false_eq_true,if_false]
  split <;> rfl
theorem swoP:SWO (ltOf cfP) where
 irrefl x:=by rw [lt_cfP];exact decide_eq_false (List.lt_irrefl _)
 trans x y z h1 h2:=by
  rw [lt_cfP]at *
  exact decide_eq_true (List.lt_trans (of_decide_eq_true h1) (of_decide_eq_true h2))
 ntrans x y z h1 h2:=by
  rw [lt_cfP]at *
  have h3:leP y x:=of_decide_eq_false h1
  have h4:leP z y:=of_decide_eq_false h2
  exact decide_eq_false (leP_trans h4 h3)
theorem closure71 (x y:Pr)(W:World):Calls Tryz.prog 71 #[.agg #[.string x.1,.string x.2],.agg #[.string y.1,.string y.2]] W (fun e w'=>e=.returned (.int .i64 (cfP x y))/\∃q os',w'=grow (W.drewN q) os'):=by
 unfold cfP
 cases h1:Op.bytesLess x.1.toList y.1.toList with
 | true=>
   go_enter Tryz.func71,Tryz.ntmps71
   go_wp2
   go_ret
   exact⟨rfl,0,_,by rw [alloc_eq_grow,alloc_eq_grow,grow_grow];rfl⟩
 | false=>
   cases h2:(x.1.toList == y.1.toList)with
   | true=>
     go_enter Tryz.func71,Tryz.ntmps71
     go_wp2
     go_ret
     exact⟨rfl,0,_,by rw [alloc_eq_grow,alloc_eq_grow,grow_grow];rfl⟩
   | false=>
     go_enter Tryz.func71,Tryz.ntmps71
     go_wp2
     go_ret
     exact⟨rfl,0,_,by rw [alloc_eq_grow,alloc_eq_grow,grow_grow];rfl⟩
theorem cmpP (blk off size:Nat)(w:World):CmpLays Tryz.prog 71 #[] prV 2 cfP blk off size w:=fun _ _ _ _ x y=>closure71 x y _
theorem flat_flatK (l:List Pr):(flatK prV 2 l.toArray).toList=l.flatMap prV:=by
 apply List.ext_getElem?
 intro t
 have hs:(flatK prV 2 l.toArray).size=l.length * 2:=by simp
 by_cases ht:t < l.length * 2
 ·obtain⟨s,hsl,he⟩:∃s,s < l.length/\(t=s * 2∨t=s * 2+1):=⟨t / 2,by omega,by omega⟩
  obtain⟨h0,h1⟩:=flat2_at l s hsl
  have hg:(flatK prV 2 l.toArray).toList[t]?=some ((flatK prV 2 l.toArray)[t]!):=by
   rw [Array.getElem?_toList,getElem!_pos _ t (by rw [hs];exact ht)]
   exact Array.getElem?_eq_getElem (by rw [hs];exact ht)
  rw [hg,get_flatK prV 2 l.toArray t (by simpa using ht)]
  have hd:∀j,j=t / 2->l.toArray[j]! =l[t / 2]'(by omega):=fun j hj=>by subst hj;rw [getElem!_pos _ _ (by simp;omega)];simp
  rw [hd _ rfl]
  rcases he with rfl|rfl
  ·have e1:s * 2 / 2=s:=by omega
   have e2:s * 2 % 2=0:=by omega
   simp only [e1,e2]
   rw [h0];rfl
  ·have e1:(s * 2+1) / 2=s:=by omega
   have e2:(s * 2+1) % 2=1:=by omega
   simp only [e1,e2]
   rw [h1];rfl
 ·rw [List.getElem?_eq_none (by rw [Array.length_toList,hs];omega),List.getElem?_eq_none (by rw [flat2_len];omega)]
theorem heap_put {w:World} {g n:Nat} {os:Array Obj} {cur:Array Value} {e:TypeId} {fr:Nat×Nat} (F:Array Value)(hb:w.heap[g]?=some (.cells cur e fr)):
 (grow (putRow id (Sort.ahead w n) g 0 F) os).heap[g]?=some (.cells (putCells id 0 F cur) e fr):=by
 have hg:g < w.heap.size:=(Array.getElem?_eq_some_iff.1 hb).1
 rw [heap_grow_old _ _ (by simpa using hg)]
 simp [putRow,mapBlock,Sort.ahead,Array.getElem?_modify,hb,onCells]
theorem grownBy_put {w:World} {g n:Nat} {os:Array Obj} (F:Array Value):w.grownBy (grow (putRow id (Sort.ahead w n) g 0 F) os) (some g):=by
 refine⟨rfl,rfl,rfl,by simp,fun k hk hne=>?_⟩
 rw [heap_grow_old _ _ (by simpa using hk)]
 have:g≠k:=fun e=>hne (by rw [e])
 simp [putRow,mapBlock,Sort.ahead,Array.getElem?_modify,this]
theorem take_put (cur F:Array Value)(h:F.size<=cur.size):(putCells id 0 F cur).toList.take F.size=F.toList:=by
 apply List.ext_getElem?
 intro j
 by_cases hj:j < F.size
 ·rw [List.getElem?_take_of_lt hj,Array.getElem?_toList]
  simp [putCells,hj,show j < cur.size by omega]
 ·rw [List.getElem?_take_eq_none (by omega),List.getElem?_eq_none (by simp;omega)]
theorem holds_pr {w:World} {g c:Nat} {cur:Array Value} {l:List Pr} (hb:w.heap[g]?=some (.cells cur 60 (0,0)))(ht:cur.toList.take (l.length * 2)=l.flatMap prV):HoldsK prV 2 w g 0 l.toArray:=by
 intro j hj
 have hj':j < l.length * 2:=by simpa using hj
 refine⟨?_,by simp [World.frozen?,hb]⟩
 have h1:(cur.toList.take (l.length * 2))[j]?=(l.flatMap prV)[j]?:=by rw [ht]
 rw [List.getElem?_take_of_lt hj',<-flat_flatK,Array.getElem?_toList,Array.getElem?_toList]at h1
 simp only [World.cell?,hb,Nat.zero_add,id]
 rw [getElem!_pos _ j hj]
 rw [h1]
 exact Array.getElem?_eq_getElem hj
theorem agg60 (w:World):(isAgg 60).run Tryz.prog w=.ok true w:=Tryz.isAgg60 w
theorem size60 (w:World):(Go.sizeOf 60).run Tryz.prog w=.ok 2 w:=Tryz.sizeOf60 w
def SrtP (B:Nat) (out:List Pr) (A:Option Addr) (c:Nat) (w:World):Ending->World->Prop:=fun e w'=>e=.returned (.slice A out.length c)/\w.grownBy w' (Value.slice A out.length c).ownBlock/\∃l:List Pr,l.Perm out/\l.Pairwise leP/\w'.ownsRow B 60 2 (.slice A out.length c) out.length (l.flatMap prV)
set_option maxHeartbeats 2000000 in
theorem sorted64 (out:List Pr)(A:Option Addr)(c:Nat)(B:Nat)(w:World)(hr:w.ownsRow B 60 2 (.slice A out.length c) out.length (out.flatMap prV))(hl:out.length<=1000):
 Calls Tryz.prog 64 #[.slice A out.length c] w (SrtP B out A c w):=by
 have eg:∀args w,(callFunc 71 args).run Tryz.prog w=.ok (.enter 71 args) w:=enters_of Tryz.func71 (by kernel_rfl) rfl
 have HR:=zh hr
 rcases hr.2 with ⟨hv,h0⟩|⟨g,cap,cur,hv,h3,h4,h5,h6,h7,h8⟩
 ·obtain⟨rfl,_,rfl⟩:A=none/\out.length=0/\c=0:=by simpa using hv
  obtain rfl:out=[]:=List.eq_nil_of_length_eq_zero h0
  have hcon:=AnyF.slices_SortFunc_none {sortPr with} none 0 (.func (.func 71) #[] #[]) w
  change Calls Tryz.prog 70 _ _ _ at hcon
  clear hr hv h0
  go_enter Tryz.func64,Tryz.ntmps64
  go_wp2_with (go_at_call 70;refine hcon.mono ?_;rintro e w' ⟨rfl,hw⟩;rw [hw];clear hw)
  go_ret
  exact⟨rfl,World.grownBy.refl _ _,[],List.Perm.refl _,List.Pairwise.nil,HR.out⟩
 ·obtain⟨rfl,rfl⟩:A=some ⟨g,0,none⟩/\c=cap:=by simpa using hv
  have hH:=holds_pr (c:=c) h4 h8
  have hg:g < w.heap.size:=(Array.getElem?_eq_some_iff.1 h4).1
  have hcon:=AnyQ.slices_SortFunc sortPr 2 agg60 size60 prV (fun _=>rfl) (fun x v hv=>by simp [prV]at hv;rcases hv with rfl|rfl <;> rfl) cfP swoP 71 #[] g 0 c out.toArray w eg (cmpP g 0 out.toArray.size w) hH hg (by simp;omega)
  change Calls Tryz.prog 70 _ _ _ at hcon
  rw [List.size_toArray]at hcon
  have HC:=zh hcon
  have H4:=zh h4
  have HQ:=zh (And.intro h3 (And.intro h5 (And.intro h6 h7)))
  clear hr hv h3 h4 h5 h6 h7 h8 hH hcon
  go_enter Tryz.func64,Tryz.ntmps64
  go_wp2_with (go_at_call 70;refine HC.out.mono ?_;rintro e w' ⟨rfl,d',n,os,hp,hs,hw⟩;have HP:=zh hp;have HS:=zh hs;have HW:=zh hw;clear hp hs hw)
  go_ret
  obtain⟨hp1,_,hp2⟩:=HP.out
  have hsz:d'.size=out.length:=by rw [hp1];simp
  have hpe:d'.toList.Perm out:=by
   have e1:d'.extract 0 out.length=d':=by rw [<-hsz];simp
   have e2:out.toArray.extract 0 out.length=out.toArray:=by simp
   rw [e1,e2]at hp2
   simpa using hp2
  have hfl:d'.toList.length=out.length:=hpe.length_eq
  refine⟨rfl,?_,d'.toList,hpe,?_,?_⟩
  ·rw [HW.out]
   exact grownBy_put _
  ·rw [List.pairwise_iff_getElem]
   intro i j hi hj hij
   have h9:=HS.out i j (Nat.zero_le _) hij (by rw [<-hfl];exact hj)
   rw [lt_cfP]at h9
   have e1:d'[i]! =d'.toList[i]:=by rw [getElem!_pos _ i (by simpa using hi)];simp
   have e2:d'[j]! =d'.toList[j]:=by rw [getElem!_pos _ j (by simpa using hj)];simp
   rw [e1,e2]at h9
   exact of_decide_eq_false h9
  ·rw [HW.out]
   obtain⟨h3,h5,h6,h7⟩:=HQ.out
   have hF:(flatK prV 2 d').toList=d'.toList.flatMap prV:=by
    have:=flat_flatK d'.toList
    simpa using this
   have hFs:(flatK prV 2 d').size=out.length * 2:=by simp [hsz]
   refine⟨by rw [flat2_len,hfl],.inr ⟨g,c,_,rfl,h3,heap_put _ H4.out,h5,h6,by simp [putCells,h7],?_⟩⟩
   rw [<-hFs,<-hF]
   exact take_put _ _ (by rw [hFs,h7];exact Nat.mul_le_mul_right 2 h5)
open Go.RowKit Go.Maps Go.Sort Og
theorem info60:(Tryz.prog.info? 60).map (fun i=>(i.zero,i.size,i.bytes))=some (some (.agg #[.string ⟨#[]⟩,.string ⟨#[]⟩]),2,32):=by kernel_rfl
theorem own_zero {w:World} {B e size n:Nat} {v:Value} {xs:List Value} (h:w.ownsRow B e size v n xs):w.ownsRow 0 e size v n xs:=by
 refine⟨h.1,?_⟩
 rcases h.2 with h2|⟨g,cap,cur,hv,h3,h4,h5⟩
 ·exact .inl h2
 ·exact .inr ⟨g,cap,cur,hv,Nat.zero_le _,h4,h5⟩
theorem ExtBut.turned {b:Nat} {W w w':World} {row:Option Nat} (h:ExtBut b W w)(hg:w.grownBy w' row)(hlo:∀g,row=some g->W.heap.size<=g):ExtBut b W w':=
 ⟨hg.os.trans h.os,hg.tape.trans h.tape,hg.output.trans h.output,Nat.le_trans h.size hg.size,fun k hk hkb=>(hg.block k (Nat.lt_of_lt_of_le hk h.size) (fun e=>by have:=hlo k e.symm;omega)).trans (h.block k hk hkb)⟩
theorem perm_of_sub {α:Type} [DecidableEq α]:∀(out ps:List α),out.Nodup->(∀p∈out,p∈ps)->out.length=ps.length->out.Perm ps
 | [],ps,_,_,hl=>by
   obtain rfl:ps=[]:=List.eq_nil_of_length_eq_zero hl.symm
   exact List.Perm.refl _
 | p :: out,ps,hn,hs,hl=>by
   have hp:=hs p (List.mem_cons_self ..)
   have h1:=List.perm_cons_erase hp
   rw [List.nodup_cons]at hn
   have h2:out.Perm (ps.erase p):=perm_of_sub out (ps.erase p) hn.2 (fun q hq=>by
    have h3:=hs q (List.mem_cons_of_mem _ hq)
    exact(List.mem_erase_of_ne (fun e=>hn.1 (by rw [<-e];exact hq))).2 h3) (by
    rw [List.length_erase_of_mem hp,<-hl];simp)
   exact(h2.cons p).trans h1.symm
theorem kb_ext {s t:ByteArray} (h:kb s=kb t):s=t:=by
 cases s;cases t
 simp only [kb]at h
 simp [Array.toList_inj.1 h]
theorem mem_of_at {ps:List Pr} (hs:Srt ps) {x:List UInt8} {c:ByteArray} {yd:DataW Unit} (hat:∀zd,(mapOf ps).atKey (.string x) zd=yd)(hy:yd=.lit (.string (kb c))):((⟨x.toArray⟩,c):Pr)∈ps:=by
 have hh:=has_true_of_atKey hat
 rw [show has (mapOf ps) (.string x)=_ from has_from ps _ isMap_empty x]at hh
 simp [has_eq,List.any_eq_true]at hh
 obtain⟨a,⟨b,hq⟩,hx⟩:=hh
 have h1:=at_from ps _ isMap_empty hs.ne _ hq .nil
 have h2:=hat .nil
 simp only []at h1
 rw [hx]at h1
 have h3:(mapOf ps).atKey (.string x) .nil=.lit (.string (kb b)):=h1
 rw [h3,hy]at h2
 have h4:kb b=kb c:=by simpa using h2
 have h5:a=⟨x.toArray⟩:=kb_ext (by rw [hx];simp [kb])
 rw [<-kb_ext h4,<-h5]
 exact hq
theorem tells_ofP {kd n:Int} {ps:List Pr} {w w':World} {A:Option Addr} {c:Nat} (hx:Ext w w')(hp:Keeps w w' (fun w3=>RdM 2 isPr w3 (.slice A ps.length c) ps))(hn:0<=n/\n < 4294967296)(hkd: -9223372036854775808<=kd/\kd<=9223372036854775807:=by decide):
 Tells kd (DecP kd ⟨#[]⟩ ⟨#[]⟩ n [] [] [] [] [] [] ps []) w (.returned (.agg #[.int .i64 kd,.string ⟨#[]⟩,.string ⟨#[]⟩,.int .u32 n,.int .u32 0,.slice none 0 0,.slice none 0 0,.slice none 0 0,.slice none 0 0,.slice none 0 0,.slice none 0 0,.slice A ps.length c,.slice none 0 0])) w':=
 ⟨⟨#[]⟩,⟨#[]⟩,n,0,none,0,0,none,0,0,none,0,0,none,0,0,none,0,0,none,0,0,A,_,c,none,0,0,rfl,hx,fun w3 k3=>⟨none,none,none,none,none,none,A,none,0,0,0,0,0,0,c,0,rfl,rdi_nil _ _,rdi_nil _ _,rdi_nil _ _,rdm_nil _ _ _,RdB.nil _,rd1_nil _ _,hp w3 k3,rdm_nil _ _ _,hn,hkd,nofun,nofun,nofun,nofun⟩⟩
theorem cell_two_new (w:World)(x y:Value)(t:TypeId):∀j u,[x,y][j]?=some u->(w.alloc (.cells #[x,y] t)).cell? ((⟨w.heap.size,0,none⟩:Addr).add j)=some u:=by
 intro j u hj
 rw [add_lit0,Nat.zero_add]
 exact zc (heap_alloc_new _ _) j u (by simpa using hj)
set_option maxHeartbeats 8000000 in
theorem told18 (n:Int)(ps:List Pr)(w:World)(bk mb nn:Nat)(hblk:w.heap[bk]?=some (.cells #[.int .u32 n,.map (some mb)] 152 (0,0)))(hown:w.ownsMap Tryz.prog 9 (plainElem (H:=Unit) Tryz.prog 9) mb nn (mapOf ps))(hnn:nn<=1000)(hsr:Srt ps)(hn:0<=n/\n < 4294967296)(hl:ps.length<=20):
 Calls Tryz.prog 48 #[.int .i64 18,.iface 149 (.pointer (some ⟨bk,0,none⟩))] w (Tells 18 (DecP 18 ⟨#[]⟩ ⟨#[]⟩ n [] [] [] [] [] [] ps []) w):=by
 have n101:=no101 149 (by decide)
 have n108:=no108 149 (by decide)
 have n111:=no111 149 (by decide)
 have n114:=no114 149 (by decide)
 have n116:=no116 149 (by decide)
 have n119:=no119 149 (by decide)
 have n122:=no122 149 (by decide)
 have n125:=no125 149 (by decide)
 have n132:=no132 149 (by decide)
 have n134:=no134 149 (by decide)
 have n138:=no138 149 (by decide)
 have n141:=no141 149 (by decide)
 have n144:=no144 149 (by decide)
 have n147:=no147 149 (by decide)
 have y149:=yes149
 have hq0:((w.alloc (.cells #[.int .i64 0,.string ⟨#[]⟩,.string ⟨#[]⟩,.int .u32 0,.int .u32 0,.slice none 0 0,.slice none 0 0,.slice none 0 0,.slice none 0 0,.slice none 0 0,.slice none 0 0,.slice none 0 0,.slice none 0 0] 31)).alloc (.cells #[.int .i64 18,.string ⟨#[]⟩,.string ⟨#[]⟩,.int .u32 0,.int .u32 0,.slice none 0 0,.slice none 0 0,.slice none 0 0,.slice none 0 0,.slice none 0 0,.slice none 0 0,.slice none 0 0,.slice none 0 0] 31)).cell? ⟨bk,0,none⟩=some (.int .u32 n):=((ext_alloc w _).alloc _).cell (zc hblk 0 (.int .u32 n) rfl)
 obtain⟨W3,hW3⟩:∃W3,W3=((w.alloc (.cells #[.int .i64 0,.string ⟨#[]⟩,.string ⟨#[]⟩,.int .u32 0,.int .u32 0,.slice none 0 0,.slice none 0 0,.slice none 0 0,.slice none 0 0,.slice none 0 0,.slice none 0 0,.slice none 0 0,.slice none 0 0] 31)).alloc (.cells #[.int .i64 18,.string ⟨#[]⟩,.string ⟨#[]⟩,.int .u32 n,.int .u32 0,.slice none 0 0,.slice none 0 0,.slice none 0 0,.slice none 0 0,.slice none 0 0,.slice none 0 0,.slice none 0 0,.slice none 0 0] 31)):=⟨_,rfl⟩
 have XW:Hid (Ext w W3):=zh (by rw [hW3];exact(ext_alloc w _).alloc _)
 have HM3:Hid (W3.heap[w.heap.size+1]?=some (.cells #[.int .i64 18,.string ⟨#[]⟩,.string ⟨#[]⟩,.int .u32 n,.int .u32 0,.slice none 0 0,.slice none 0 0,.slice none 0 0,.slice none 0 0,.slice none 0 0,.slice none 0 0,.slice none 0 0,.slice none 0 0] 31 (0,0))):=zh (by
  have e:(w.alloc (.cells #[.int .i64 0,.string ⟨#[]⟩,.string ⟨#[]⟩,.int .u32 0,.int .u32 0,.slice none 0 0,.slice none 0 0,.slice none 0 0,.slice none 0 0,.slice none 0 0,.slice none 0 0,.slice none 0 0,.slice none 0 0] 31)).heap.size=w.heap.size+1:=by simp
  rw [hW3,<-e]
  exact heap_alloc_new _ _)
 have HO:Hid (W3.heap[w.heap.size]?=some (.cells #[.int .i64 0,.string ⟨#[]⟩,.string ⟨#[]⟩,.int .u32 0,.int .u32 0,.slice none 0 0,.slice none 0 0,.slice none 0 0,.slice none 0 0,.slice none 0 0,.slice none 0 0,.slice none 0 0,.slice none 0 0] 31 (0,0))):=zh (by
  rw [hW3,(ext_alloc (w.alloc (.cells #[.int .i64 0,.string ⟨#[]⟩,.string ⟨#[]⟩,.int .u32 0,.int .u32 0,.slice none 0 0,.slice none 0 0,.slice none 0 0,.slice none 0 0,.slice none 0 0,.slice none 0 0,.slice none 0 0,.slice none 0 0] 31)) (.cells #[.int .i64 18,.string ⟨#[]⟩,.string ⟨#[]⟩,.int .u32 n,.int .u32 0,.slice none 0 0,.slice none 0 0,.slice none 0 0,.slice none 0 0,.slice none 0 0,.slice none 0 0,.slice none 0 0,.slice none 0 0] 31)).block w.heap.size (by simp)]
  exact heap_alloc_new _ _)
 have HMB:Hid (w.heap.size+1 < W3.heap.size):=zh (zl HM3.out)
 have HOB:Hid (w.heap.size < W3.heap.size):=zh (zl HO.out)
 have HLM:Hid (mb < w.heap.size):=zh hown.lt
 have hq1:=XW.out.cell (zc hblk 1 (.map (some mb)) rfl)
 have HOWN:Hid (W3.ownsMap Tryz.prog 9 (plainElem (H:=Unit) Tryz.prog 9) mb nn (mapOf ps)):=zh (own_map (w:=w) hown (XW.out.block _ HLM.out))
 have HSZ:Hid (Maps.size (mapOf ps)<=1000):=zh (Nat.le_trans (size_map hown) hnn)
 have HSR:=zh hsr
 have HN:=zh hn
 have HNP:=zh (names_perm hsr hown)
 have hqm:=HOWN
 rw [hW3]at hq1
 obtain⟨i0,hi,hz0,hz1,hz2⟩:=info_parts info60
 clear hblk hown hnn hsr hn
 go_enter Tryz.func48,Tryz.ntmps48
 go_wp2_with (first|(at_range;rw [<-hW3];clear hq0 hq1 hqm hW3;refine wpList_range_own _ rfl _ 150 rfl 9 9 lawS Tryz.underlying150 _ mb nn _ rfl HOWN.out ?_;intro w0 hrg0 hg0 hs0)|go_in)
 try go_frame
 go_loopw [21] (fun _ wr=>∃(left:Lit->Bool) (cnt:Nat) (out:List Pr) (A:Option Addr) (c:Nat),wr.ranges Tryz.prog 9 (plainElem (H:=Unit) Tryz.prog 9) mb W3.heap.size nn (mapOf ps) left cnt/\Hid (out.length+cnt<=Maps.size (mapOf ps)/\wr.heap[w.heap.size+1]?=some (.cells #[.int .i64 18,.string ⟨#[]⟩,.string ⟨#[]⟩,.int .u32 n,.int .u32 0,.slice none 0 0,.slice none 0 0,.slice none 0 0,.slice none 0 0,.slice none 0 0,.slice none 0 0,.slice A out.length c,.slice none 0 0] 31 (0,0))/\ExtBut (w.heap.size+1) W3 wr)/\wr.ownsRow W3.heap.size 60 2 (.slice A out.length c) out.length (out.flatMap prV)/\Collected (mapOf ps) left (out.map fun p=>kb p.1)/\Hid (∀p∈out,p∈ps)) (fun _ wr=>wr.rangeLeft mb W3.heap.size)
 case atStart=>
  have hg0b:ExtBut (w.heap.size+1) W3 w0:=⟨hg0.os,hg0.tape,hg0.output,hg0.size,fun k hk _=>hg0.block k hk (by simp)⟩
  exact⟨_,_,[],none,0,hrg0,zh ⟨by simp,(hg0.block _ (zl HM3.out) (by simp)).trans HM3.out,hg0b⟩,World.ownsRow_nil _ _ _ _,Collected.start _,zh nofun⟩
 case round=>
  obtain⟨left,cnt,out,A,c,hrg,HH,hrow,hC,HI⟩:=hrel
  clear hrg0 hg0 hs0
  have hcM:=zc HH.out.2.1 11 (.slice A out.length c) rfl
  go_wp2_with (first
   | (at_next;refine wpList_next_ranges _ rfl _ rfl 9 lawS (plainElem Tryz.prog 9) encStr (Value.string) (fun key kl hk=>by obtain⟨x,hx,_⟩:=Maps.keyOf_str Tryz.underlying9 hk;exact⟨x,hx⟩) (fun v y hv=>by obtain⟨c,rfl,_⟩:=plainElem_string_inv Tryz.underlying9 hv;exact⟨c,rfl⟩) mb W3.heap.size nn _ _ _ rfl hrg ?_ ?_)
   | go_in)
  ·intro hc0 hl0
   have hP:=(hC.perm hrg.owns lawS Tryz.underlying9 hl0).trans HNP.out.symm
   have hlen:out.length=ps.length:=by have:=hP.length_eq;simpa using this
   have hnd:out.Nodup:=(List.pairwise_map.1 hC.1).imp fun {p q} h e=>h (by rw [e])
   have HPE:=zh (perm_of_sub out ps hnd HI.out hlen)
   have HLN:=zh hlen
   have HSO:=zh (sorted64 out A c W3.heap.size wr hrow (by omega))
   clear hP hlen hnd hrow hC HI
   go_wp2_with (first|(go_at_call 64;refine HSO.out.mono ?_;rintro e w5 ⟨rfl,hg5,l,hl5,hs5,hr5⟩;have HL:=zh (sort_unique l ps (hl5.trans HPE.out) hs5 (srt_lt HSR.out));have HR5:=zh hr5;have hoff:∀g,(Value.slice A out.length c).ownBlock=some g->W3.heap.size<=g:=fun g hg=>(hr5.lt g hg).1;have HG5:=zh hg5;have HM5:=zh ((hg5.block _ (zl HH.out.2.1) (fun e=>by have:=hoff _ e.symm;have:=HMB.out;omega)).trans HH.out.2.1);have HX5:Hid (ExtBut (w.heap.size+1) W3 w5):=zh (HH.out.2.2.turned hg5 hoff);have HO5:=zh ((HX5.out.block w.heap.size HOB.out (by omega)).trans HO.out);clear hg5 hl5 hs5 hr5 hoff hcM;have hz11:=zc HM5.out 11 (.slice A out.length c) rfl;have hy11:=free_slot HM5.out 11;have HO6:Hid (∀u,(w5.setCell ⟨w.heap.size+1,11,none⟩ u).heap[w.heap.size]?=some (.cells #[.int .i64 0,.string ⟨#[]⟩,.string ⟨#[]⟩,.int .u32 0,.int .u32 0,.slice none 0 0,.slice none 0 0,.slice none 0 0,.slice none 0 0,.slice none 0 0,.slice none 0 0,.slice none 0 0,.slice none 0 0] 31 (0,0))):=zh (fun u=>(heap_setCell_other _ _ _ _ (by simp only [ne_eq];omega)).trans HO5.out))|(refine wpList_load_row rfl 31 (.tmp 5) rfl (w.heap.size+1) rfl 31 #[.int .i64 18,.string ⟨#[]⟩,.string ⟨#[]⟩,.int .u32 n,.int .u32 0,.slice none 0 0,.slice none 0 0,.slice none 0 0,.slice none 0 0,.slice none 0 0,.slice none 0 0,.slice A out.length c,.slice none 0 0] (0,0) _ (slot_setCell (j:=11) HM5.out) Tryz.underlying31 rfl size31 ?_)|(refine wpList_store_row rfl 31 (.tmp 4) (.tmp 256) rfl w.heap.size #[.int .i64 18,.string ⟨#[]⟩,.string ⟨#[]⟩,.int .u32 n,.int .u32 0,.slice none 0 0,.slice none 0 0,.slice none 0 0,.slice none 0 0,.slice none 0 0,.slice none 0 0,.slice A out.length c,.slice none 0 0] (by simp only [evp_none,ne_eq,Nat.reduceEqDiff,not_false_eq_true,evp_ne];rfl) (by rw [evp_same _ _ _ (by simp [evp_size])]) 31 _ (HO6.out _) size31 rfl one13 ?_))
   (try simp only [Exit.inBlock,Exit.then])
   refine bodyPost_end (results_cell_row (P:=Tryz.prog) rfl _ _ w.heap.size 31 #[.int .i64 18,.string ⟨#[]⟩,.string ⟨#[]⟩,.int .u32 n,.int .u32 0,.slice none 0 0,.slice none 0 0,.slice none 0 0,.slice none 0 0,.slice none 0 0,.slice none 0 0,.slice A out.length c,.slice none 0 0] (0,0) _ rfl (setRow_heap _ _ _ _ _ _ (HO6.out _)) Tryz.underlying31 rfl size31) rfl ?_
   have hR:=HR5.out
   rw [HL.out,HLN.out]at hR
   rw [HLN.out]
   refine tells_ofP (((zr.but.row _).ext ((HX5.out.ext XW.out (by omega)).set (by omega) _ _) (Nat.le_refl _))) ?_ HN.out
   refine keeps_tell (W:=W3) (fun w3 h3=>?_) XW.out.size HOB.out HMB.out
   exact rdm_of (own_stay (w:=W3) (w':=w5) (own_zero hR) (fun g hg=>by have:=(hR.lt g hg).1;omega) h3) (rws_flat _ _)
  ·intro x cv kl yd yp w2 cnt2 hkey hlk hv hat hrg2 hlt hg2 hs2 hen
   obtain⟨x',ex,rfl,_⟩:=Maps.keyOf_str Tryz.underlying9 hkey
   obtain rfl:x=x':=encStr_inj ex
   have hrow2:=hrow.kept hg2 (Or.inr (row_ne_iter hrow hrg).symm)
   have HMI:Hid (((⟨x.toArray⟩,cv):Pr)∈ps):=zh (mem_of_at HSR.out hat (by obtain⟨s,e1,e2,_⟩:=plainElem_string_inv Tryz.underlying9 hv;cases e1;exact congrArg Prod.fst e2))
   have hrM:w.heap.size+1≠W3.heap.size:=by have:=zl HM3.out;omega
   have HM2:=zh ((hg2.block _ (zl HH.out.2.1) (fun e=>hrM (Option.some.inj e))).trans HH.out.2.1)
   have HX2:Hid (ExtBut (w.heap.size+1) W3 w2):=zh (HH.out.2.2.turned hg2 (fun g hg=>by have h9:=Option.some.inj hg;omega))
   have hc2:=zc HM2.out 11 (.slice A out.length c) rfl
   have HL2:=zh (show out.length+1<=1000 from by have:=HH.out.1;have:=HSZ.out;omega)
   have hol:out.length+1<=1000:=HL2.out
   clear hs2 hcM hv hkey ex
   have HRW:=zh hrow2
   have HCK:=zh hC
   have HRG:=zh hrg
   clear hrow hC hrg
   go_wp2_with (first
    | (at_builtin;refine wpList_append_own _ rfl (.tmp 245) (.tmp 249) 28 rfl W3.heap.size 60 i0 _ 2 32 Tryz.underlying28 hi hz0 hz1 hz2 rfl (by decide) _ _ _ rfl (HRW.out.alloc _) ⟨w2.heap.size,0,none⟩ 1 1 [encStr x,.string cv] rfl rfl (cell_two_new _ _ _ _) (by simp [Value.oneCell',encStr]) (by unfold maxLen;omega) (by omega) (by have:=HX2.out.size;simp;omega) ?_;intro v' w3 hown' hg3 hnil3;obtain⟨A9,c9,hv9⟩:=own_slice (own_zero hown');subst hv9;have HOW:=zh hown';have HG3:=zh hg3;have hneM:some (w.heap.size+1)≠(Value.slice A out.length c).ownBlock:=(fun e=>by have:=(HRW.out.lt _ e.symm).1;have:=HMB.out;omega);have HM3':=zh ((hg3.block _ (by have:=zl HM2.out;simp;omega) hneM).trans (((ext_alloc w2 _).block _ (zl HM2.out)).trans HM2.out));have hz11:=zc HM3'.out 11 (.slice A out.length c) rfl;have hy11:=free_slot HM3'.out 11;clear hown' hg3 hnil3 hneM)
    | go_in)
   have hrow2:=HRW.out
   have hrg3:=(hrg2.alloc (.cells #[encStr x,.string cv] 60)).kept HG3.out (row_ne_low hrow2 (by have:=HLM.out;have:=XW.out.size;omega)) (row_ne_iter hrow2 hrg2)
   have hgS:w3.grownBy (w3.setCell ⟨w.heap.size+1,11,none⟩ (.slice A9 (out.length+1) c9)) (some (w.heap.size+1)):=⟨rfl,rfl,rfl,by simp [World.setCell],fun k hk hkb=>heap_setCell_other _ _ _ _ (fun e=>hkb (by rw [e]))⟩
   have hrg4:=hrg3.kept hgS (fun e=>by have h9:=Option.some.inj e;have:=HLM.out;omega) (fun e=>hrM (Option.some.inj e).symm)
   go_roundw
   case rel=>
    refine⟨_,cnt2,out++ [(⟨x.toArray⟩,cv)],A9,c9,hrg4,zh ⟨by have:=HH.out.1;simp;omega,?_,?_⟩,?_,?_,zh ?_⟩
    ·have h9:=slot_setCell (j:=11) (u:=.slice A9 (out.length+1) c9) HM3'.out
     rw [List.length_append]
     exact h9
    ·exact((HX2.out.trans (ext_alloc w2 (.cells #[encStr x,.string cv] 60)).but).turned HG3.out (fun g hg=>(HRW.out.lt g hg).1)).set _ _
    ·have h9:=HOW.out.kept hgS (Or.inr (fun e=>by have:=(HOW.out.lt _ e).1;have:=HMB.out;omega))
     rw [List.length_append,List.flatMap_append]
     exact h9
    ·rw [List.map_append]
     exact HCK.out.step hlk hat
    ·intro p hp
     rcases List.mem_append.1 hp with h|h
     ·exact HI.out p h
     ·rw [List.mem_singleton.1 h];exact HMI.out
   case measure=>rw [hrg4.left_eq,HRG.out.left_eq];exact hlt
end Go.Proofs.YtdenjanihikolaaGreatDoor
