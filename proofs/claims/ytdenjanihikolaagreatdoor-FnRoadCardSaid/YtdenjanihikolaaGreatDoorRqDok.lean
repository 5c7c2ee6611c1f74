/- Clones, by contract. -/
import Derived.Test.YtdenjanihikolaaGreatDoorRqA2
import Derived.Test.YtdenjanihikolaaGreatDoorRqA0
import Derived.Test.YtdenjanihikolaaGreatDoorRqA1
import Derived.Test.YtdenjanihikolaaGreatDoorRqEncc
namespace Go.Proofs.YtdenjanihikolaaGreatDoor
set_option linter.unusedVariables false
set_option linter.unusedSimpArgs false
set_option maxRecDepth 100000
set_option maxHeartbeats 4000000
open Go.RowKit Og
def Tells (kd:Int) (P:Value->World->Prop) (w:World):Ending->World->Prop:=fun e w'=>∃(a' b':ByteArray) (n' m':Int) (E5:Option Addr) (e5 f5:Nat) (E6:Option Addr) (e6 f6:Nat) (E7:Option Addr) (e7 f7:Nat) (E8:Option Addr) (e8 f8:Nat) (E9:Option Addr) (e9 f9:Nat) (E10:Option Addr) (e10 f10:Nat) (E11:Option Addr) (e11 f11:Nat) (E12:Option Addr) (e12 f12:Nat),e=.returned (.agg #[.int .i64 kd,.string a',.string b',.int .u32 n',.int .u32 m',.slice E5 e5 f5,.slice E6 e6 f6,.slice E7 e7 f7,.slice E8 e8 f8,.slice E9 e9 f9,.slice E10 e10 f10,.slice E11 e11 f11,.slice E12 e12 f12])/\Ext w w'/\Keeps w w' (P (.agg #[.int .i64 kd,.string a',.string b',.int .u32 n',.int .u32 m',.slice E5 e5 f5,.slice E6 e6 f6,.slice E7 e7 f7,.slice E8 e8 f8,.slice E9 e9 f9,.slice E10 e10 f10,.slice E11 e11 f11,.slice E12 e12 f12]))
def DecOk (P:Value->World->Prop) (w:World):Ending->World->Prop:=fun e w'=>∃v,e=.returned (.tuple #[v,.bool true])/\Ext w w'/\Keeps w w' (P v)
def Deced (b:Nat) (Q:Nat->World->Prop) (w1:World):Ending->World->Prop:=fun e w2=>e=.returned .nilIface/\ExtBut b w1 w2/\Q b w2
theorem dec_ok (T FN ty:Nat)(cs0:Array Value)(kd:Int)(vb:Value)(xs:List Int)(P:Value->World->Prop)(Q:Nat->World->Prop)(w:World)(hb:RdB w vb xs)(hl:xs.length<=1000000)
 (hmeth:∀b w,(method 480 T (.pointer (some ⟨b,0,none⟩)) "Decode").run Tryz.prog w=.ok (FN,.pointer (some ⟨b,0,none⟩)) w)
 (hnil:∀b w,(nilAhead 480 T (.pointer (some ⟨b,0,none⟩)) "Decode").run Tryz.prog w=.ok (some false) w)
 (hcall:∀args w,(callFunc FN args).run Tryz.prog w=.ok (.enter FN args) w)
 (hE:∀w,Calls Tryz.prog 46 #[.int .i64 kd] w (fun e w'=>e=.returned (.iface T (.pointer (some ⟨w.heap.size,0,none⟩)))/\w'=w.alloc (.cells cs0 ty)))
 (hD:∀w1 b v,Ext w w1->w.heap.size<=b->w1.heap[b]?=some (.cells cs0 ty (0,0))->RdB w1 v xs->v.ownBlock≠some b->Calls Tryz.prog FN #[.pointer (some ⟨b,0,none⟩),v] w1 (Deced b Q w1))
 (hT:∀b w2,Q b w2->Ext w w2->Calls Tryz.prog 48 #[.int .i64 kd,.iface T (.pointer (some ⟨b,0,none⟩))] w2 (Tells kd P w2)):
  Calls Tryz.prog 19 #[.int .i64 kd,vb] w (DecOk P w):=by
 have hmf:∀(fn:Fn) (first cap:Array Value) (w:World),(Instr.makeFunc fn first cap).run Tryz.prog w=.ok (.func fn first cap) w:=fun _ _ _ _=>rfl
 obtain⟨W3,hW3⟩:∃W3,W3=(((w.alloc (.cells #[.int .i64 0,.string ⟨#[]⟩,.string ⟨#[]⟩,.int .u32 0,.int .u32 0,.slice none 0 0,.slice none 0 0,.slice none 0 0,.slice none 0 0,.slice none 0 0,.slice none 0 0,.slice none 0 0,.slice none 0 0] 31)).alloc (.cells #[.bool false] 4)).alloc (.cells cs0 ty)):=⟨_,rfl⟩
 have XW:Hid (Ext w W3):=zh (by rw [hW3];exact((ext_alloc w _).alloc _).alloc _)
 have BX4:Hid (W3.heap[w.heap.size]?=some (.cells #[.int .i64 0,.string ⟨#[]⟩,.string ⟨#[]⟩,.int .u32 0,.int .u32 0,.slice none 0 0,.slice none 0 0,.slice none 0 0,.slice none 0 0,.slice none 0 0,.slice none 0 0,.slice none 0 0,.slice none 0 0] 31 (0,0))):=zh (by
  rw [hW3]
  have e1:=((ext_alloc (w.alloc (.cells #[.int .i64 0,.string ⟨#[]⟩,.string ⟨#[]⟩,.int .u32 0,.int .u32 0,.slice none 0 0,.slice none 0 0,.slice none 0 0,.slice none 0 0,.slice none 0 0,.slice none 0 0,.slice none 0 0,.slice none 0 0] 31)) (.cells #[.bool false] 4)).alloc (.cells cs0 ty)).block w.heap.size (by simp)
  rw [e1];exact heap_alloc_new _ _)
 have BX5:Hid (W3.heap[w.heap.size+1]?=some (.cells #[.bool false] 4 (0,0))):=zh (by
  rw [hW3]
  have e1:=(ext_alloc ((w.alloc (.cells #[.int .i64 0,.string ⟨#[]⟩,.string ⟨#[]⟩,.int .u32 0,.int .u32 0,.slice none 0 0,.slice none 0 0,.slice none 0 0,.slice none 0 0,.slice none 0 0,.slice none 0 0,.slice none 0 0,.slice none 0 0] 31)).alloc (.cells #[.bool false] 4)) (.cells cs0 ty)).block (w.heap.size+1) (by simp)
  rw [e1]
  have:=heap_alloc_new (w.alloc (.cells #[.int .i64 0,.string ⟨#[]⟩,.string ⟨#[]⟩,.int .u32 0,.int .u32 0,.slice none 0 0,.slice none 0 0,.slice none 0 0,.slice none 0 0,.slice none 0 0,.slice none 0 0,.slice none 0 0,.slice none 0 0] 31)) (.cells #[.bool false] 4)
  simpa using this)
 have HBB:Hid (W3.heap[w.heap.size+1+1]?=some (.cells cs0 ty (0,0))):=zh (by
  rw [hW3]
  have:=heap_alloc_new ((w.alloc (.cells #[.int .i64 0,.string ⟨#[]⟩,.string ⟨#[]⟩,.int .u32 0,.int .u32 0,.slice none 0 0,.slice none 0 0,.slice none 0 0,.slice none 0 0,.slice none 0 0,.slice none 0 0,.slice none 0 0,.slice none 0 0] 31)).alloc (.cells #[.bool false] 4)) (.cells cs0 ty)
  simpa using this)
 have HBL:Hid (w.heap.size+1+1 < W3.heap.size):=zh (zl HBB.out)
 have HB:=zh hb
 have HE:=zh hE
 have HT:=zh hT
 obtain⟨D,hDD⟩:∃D:Value->World->Prop,D=fun u w2=>u=.nilIface/\ExtBut (w.heap.size+1+1) W3 w2/\Q (w.heap.size+1+1) w2:=⟨_,rfl⟩
 have HD:Hid (∀w1 v,Ext W3 w1->RdB w1 v xs/\v.ownBlock≠some (w.heap.size+1+1)->Calls Tryz.prog FN #[.pointer (some ⟨w.heap.size+1+1,0,none⟩),v] w1 (fun e w2=>∃u,e=.returned u/\D u w2)):=zh (by
  intro w1 v h1 h2
  refine(hD w1 _ v (XW.out.trans h1) (by omega) ((h1.block _ HBL.out).trans HBB.out) h2.1 h2.2).mono ?_
  rintro e w2 ⟨rfl,hx,hq⟩
  exact⟨_,rfl,by rw [hDD];exact⟨rfl,h1.but.trans hx,hq⟩⟩)
 clear hb hE hD hT
 go_enter_defers Tryz.func19,Tryz.ntmps19
 go_wp2_with (go_at_call 46;refine(HE.out _).mono ?_;rintro e w1 ⟨rfl,rfl⟩)
 rw [<-hW3]
 clear hW3
 have hJ0:Hid (DecK W3 (w.heap.size+1+1) xs D (fun _=>false) (fun _=>undef) W3.drew):=zh (by unfold DecK;exact⟨(Ext.refl W3).drew,fun h=>by cases h⟩)
 refine wp_region_ogL (J:=DecK W3 (w.heap.size+1+1) xs D) (R:=fun _ _=>True) [Sp.eq _ (.iface T (.pointer (some ⟨w.heap.size+1+1,0,none⟩))),Sp.eq _ (.bool false),Sp.eq _ (.bool false),Sp.eq _ (.iface T (.pointer (some ⟨w.heap.size+1+1,0,none⟩))),Sp.eq _ (vb),Sp.any _,Sp.eq _ (.func (.method "Decode") #[.iface T (.pointer (some ⟨w.heap.size+1+1,0,none⟩))] #[]),Sp.eq _ (.func (.method "Decode") #[.iface T (.pointer (some ⟨w.heap.size+1+1,0,none⟩))] #[]),Sp.eq _ (.iface T (.pointer (some ⟨w.heap.size+1+1,0,none⟩))),Sp.any _,Sp.eq _ (.bool false),Sp.eq _ (.bool false)] (by kernel_rfl) (by kernel_rfl) ?_ ?_ ?_
 ·exact hJ0.out
 ·refine⟨zu,zu,zu,zu,zu,?_,zu,zu,zu,?_,?_,zu,trivial⟩
  ·intro vs w1 L hLi hd hdt hJ hp
   have q2:vs 2=_:=zd hp 2
   have q4:vs 4=_:=zd hp 4
   have hL9:L 9=false:=zd hdt 9
   unfold DecK at hJ
   rw [hL9]at hJ
   simp only [Bool.false_eq_true,if_false]at hJ
   have HJ:=zh hJ.1
   have HL9:=zh hL9
   clear hp hd hdt hLi hJ hL9
   simp only [putAll,Nat.reduceAdd]
   go_wp2_with (go_at_call 47;refine(copied47 vb xs _ (HB.out.ext (XW.out.trans HJ.out)) hl).mono ?_;rintro e w2 ⟨v2,rfl,hbu⟩;obtain⟨A2,c2,hv2⟩:=hbu.len;subst hv2;have HX2:=zh (HJ.out.trans hbu.bel);have HR2:=zh (And.intro (RdB.of_own hbu.own) (fun e=>hbu.off _ e (Nat.lt_of_lt_of_le HBL.out HJ.out.size)));clear hbu)
   refine⟨rfl,?_,trivial,trivial⟩
   unfold DecK
   simp only [updB,upd,HL9.out,Bool.false_or,Nat.reduceBEq,Bool.false_eq_true,if_false,beq_self_eq_true,Bool.or_true,if_true]
   exact⟨HX2.out,fun _=>HR2.out⟩
  ·intro vs w1 L hLi hd hdt hJ hp
   have q2:vs 2=_:=zd hp 2
   have q8:vs 8=_:=zd hp 8
   have hL5:L 5=true:=zd hd 5
   unfold DecK at hJ
   rw [hLi]at hJ
   simp only [Bool.false_eq_true,if_false]at hJ
   have HJ:=zh hJ.1
   have HR:=zh (hJ.2 hL5)
   have HL5:=zh hL5
   clear hp hd hdt hLi hJ hL5
   simp only [putAll,Nat.reduceAdd]
   go_wp2_with (with_reducible refine(HD.out _ (vs 5) HJ.out HR.out).mono ?_;rintro e w2 ⟨ue,rfl,hue⟩;have HU:=zh hue;clear hue)
   refine⟨rfl,?_,trivial,trivial⟩
   unfold DecK
   simp only [updB,upd,beq_self_eq_true,Bool.or_true,if_true]
   exact HU.out
  ·intro vs w1 L hLi hd hdt hJ hp
   have q2:vs 2=_:=zd hp 2
   have hL9:L 9=true:=zd hd 9
   unfold DecK at hJ
   rw [hL9]at hJ
   simp only [if_true]at hJ
   have HDD:=zh hJ
   have HL9:=zh hL9
   have hJ2:vs 9=.nilIface/\ExtBut (w.heap.size+1+1) W3 w1/\Q (w.heap.size+1+1) w1:=by rw [hDD]at HDD;exact HDD.out
   have hv9:=hJ2.1
   have HV9:=zh hv9
   clear hp hd hdt hLi hJ hL9 hJ2 hv9
   simp only [putAll,Nat.reduceAdd]
   rw [HV9.out]
   go_wp2
   refine⟨rfl,?_,trivial,rfl⟩
   unfold DecK
   simp only [updB,upd,HL9.out,Bool.true_or,Nat.reduceBEq,if_true,Nat.reduceEqDiff,if_false]
   exact HDD.out
 ·intro vs w1 L hall hJ hp
  have q0:vs 0=_:=zd hp 0
  have q1:vs 1=_:=zd hp 1
  have q2:vs 2=_:=zd hp 2
  have q3:vs 3=_:=zd hp 3
  have q4:vs 4=_:=zd hp 4
  have q6:vs 6=_:=zd hp 6
  have q7:vs 7=_:=zd hp 7
  have q8:vs 8=_:=zd hp 8
  have q10:vs 10=_:=zd hp 10
  have q11:vs 11=_:=zd hp 11
  have hL9:=zd hall 9
  unfold DecK at hJ
  rw [hL9]at hJ
  simp only [if_true]at hJ
  rw [hDD]at hJ
  have HX:=zh hJ.2.1
  have HQ:=zh hJ.2.2
  clear hJ hp hall hL9
  have B4:=zh ((HX.out.block w.heap.size (zl BX4.out) (by omega)).trans BX4.out)
  have B5:=zh ((HX.out.block (w.heap.size+1) (zl BX5.out) (by omega)).trans BX5.out)
  simp only [putAll,Nat.reduceAdd]
  simp only [Exit.then]
  go_at_K
  simp only [Act.put,q0,q1,q2,q3,q4,q6,q7,q8,q10,q11,List.setIfInBounds_toArray,List.set_cons_zero,List.set_cons_succ]
  go_wp2_with (go_at_call 48;refine(HT.out _ _ HQ.out (HX.out.ext XW.out (by omega))).mono ?_;rintro e w3 ⟨a',b',n',m',E5,e5,f5,E6,e6,f6,E7,e7,f7,E8,e8,f8,E9,e9,f9,E10,e10,f10,E11,e11,f11,E12,e12,f12,rfl,hx3,hk3⟩;have HX3:=zh hx3;have HK3:=zh hk3;have c4:=(hx3.block _ (zl B4.out)).trans B4.out;have c5:=(hx3.block _ (zl B5.out)).trans B5.out;have hz0:=zc c4 0 (.int .i64 0) rfl;have hz1:=zc c4 1 (.string ⟨#[]⟩) rfl;have hz2:=zc c4 2 (.string ⟨#[]⟩) rfl;have hz3:=zc c4 3 (.int .u32 0) rfl;have hz4:=zc c4 4 (.int .u32 0) rfl;have hz5:=zc c4 5 (.slice none 0 0) rfl;have hz6:=zc c4 6 (.slice none 0 0) rfl;have hz7:=zc c4 7 (.slice none 0 0) rfl;have hz8:=zc c4 8 (.slice none 0 0) rfl;have hz9:=zc c4 9 (.slice none 0 0) rfl;have hz10:=zc c4 10 (.slice none 0 0) rfl;have hz11:=zc c4 11 (.slice none 0 0) rfl;have hz12:=zc c4 12 (.slice none 0 0) rfl;have hy0:=free_slot c4 0;have hy1:=free_slot c4 1;have hy2:=free_slot c4 2;have hy3:=free_slot c4 3;have hy4:=free_slot c4 4;have hy5:=free_slot c4 5;have hy6:=free_slot c4 6;have hy7:=free_slot c4 7;have hy8:=free_slot c4 8;have hy9:=free_slot c4 9;have hy10:=free_slot c4 10;have hy11:=free_slot c4 11;have hy12:=free_slot c4 12;have hz13:=zc c5 0 (.bool false) rfl;have hy13:=free_slot c5 0;clear c4 c5 hx3 hk3)
  refine leaves_cons (f:=45) (args:= #[.pointer (some ⟨w.heap.size,0,none⟩),.pointer (some ⟨w.heap.size+1,0,none⟩)]) (by simp) (by simp [go_sem]) ?_
  refine(idle45 _ _ _).mono ?_
  rintro e u' w'' ⟨rfl,rfl,rfl⟩
  have hfin:DecOk P w (.returned (.tuple #[.agg #[.int .i64 kd,.string a',.string b',.int .u32 n',.int .u32 m',.slice E5 e5 f5,.slice E6 e6 f6,.slice E7 e7 f7,.slice E8 e8 f8,.slice E9 e9 f9,.slice E10 e10 f10,.slice E11 e11 f11,.slice E12 e12 f12],.bool true])) ((((((((((((((w3.setCell ⟨w.heap.size,0,none⟩ (.int .i64 kd)).setCell ⟨w.heap.size,1,none⟩ (.string a')).setCell ⟨w.heap.size,2,none⟩ (.string b')).setCell ⟨w.heap.size,3,none⟩ (.int .u32 n')).setCell ⟨w.heap.size,4,none⟩ (.int .u32 m')).setCell ⟨w.heap.size,5,none⟩ (.slice E5 e5 f5)).setCell ⟨w.heap.size,6,none⟩ (.slice E6 e6 f6)).setCell ⟨w.heap.size,7,none⟩ (.slice E7 e7 f7)).setCell ⟨w.heap.size,8,none⟩ (.slice E8 e8 f8)).setCell ⟨w.heap.size,9,none⟩ (.slice E9 e9 f9)).setCell ⟨w.heap.size,10,none⟩ (.slice E10 e10 f10)).setCell ⟨w.heap.size,11,none⟩ (.slice E11 e11 f11)).setCell ⟨w.heap.size,12,none⟩ (.slice E12 e12 f12)).setCell ⟨w.heap.size+1,0,none⟩ (.bool true)):=⟨_,rfl,((((((((((((((((HX.out.ext XW.out (by omega)).trans HX3.out).set (Nat.le_refl _) 0 (.int .i64 kd)).set (Nat.le_refl _) 1 (.string a')).set (Nat.le_refl _) 2 (.string b')).set (Nat.le_refl _) 3 (.int .u32 n')).set (Nat.le_refl _) 4 (.int .u32 m')).set (Nat.le_refl _) 5 (.slice E5 e5 f5)).set (Nat.le_refl _) 6 (.slice E6 e6 f6)).set (Nat.le_refl _) 7 (.slice E7 e7 f7)).set (Nat.le_refl _) 8 (.slice E8 e8 f8)).set (Nat.le_refl _) 9 (.slice E9 e9 f9)).set (Nat.le_refl _) 10 (.slice E10 e10 f10)).set (Nat.le_refl _) 11 (.slice E11 e11 f11)).set (Nat.le_refl _) 12 (.slice E12 e12 f12)).set (by omega) 0 (.bool true)),fun w5 h5=>HK3.out w5 (fun k hk hk3=>(h5 k (Nat.le_trans (Nat.le_trans XW.out.size HX.out.size) hk) (by simpa [World.setCell]using hk3)).trans (by have hk2:w.heap.size+1 < k:=Nat.lt_of_lt_of_le (Nat.lt_of_lt_of_le (zl BX5.out) HX.out.size) hk;rw [heap_setCell_other _ _ _ _ (by simp only [ne_eq];omega),heap_setCell_other _ _ _ _ (by simp only [ne_eq];omega),heap_setCell_other _ _ _ _ (by simp only [ne_eq];omega),heap_setCell_other _ _ _ _ (by simp only [ne_eq];omega),heap_setCell_other _ _ _ _ (by simp only [ne_eq];omega),heap_setCell_other _ _ _ _ (by simp only [ne_eq];omega),heap_setCell_other _ _ _ _ (by simp only [ne_eq];omega),heap_setCell_other _ _ _ _ (by simp only [ne_eq];omega),heap_setCell_other _ _ _ _ (by simp only [ne_eq];omega),heap_setCell_other _ _ _ _ (by simp only [ne_eq];omega),heap_setCell_other _ _ _ _ (by simp only [ne_eq];omega),heap_setCell_other _ _ _ _ (by simp only [ne_eq];omega),heap_setCell_other _ _ _ _ (by simp only [ne_eq];omega),heap_setCell_other _ _ _ _ (by simp only [ne_eq];omega)]))⟩
  have HF:=zh hfin
  clear hfin
  simp [Leaves,settle,results,Tryz.results19,go_sem,hz0,hz1,hz2,hz3,hz4,hz5,hz6,hz7,hz8,hz9,hz10,hz11,hz12,hz13]
  exact HF.out
open Go.RowKit
theorem info243:(Tryz.prog.info? 243).map (fun i=>(i.zero,i.size,i.bytes))=some (some (.int .i16 0),1,2):=by kernel_rfl
theorem info128:(Tryz.prog.info? 128).map (fun i=>(i.zero,i.size,i.bytes))=some (some (.int .u16 0),1,2):=by kernel_rfl
theorem info22:(Tryz.prog.info? 22).map (fun i=>(i.zero,i.size,i.bytes))=some (some (.int .u32 0),1,4):=by kernel_rfl
theorem Row.bel {e size:Nat} {w0 w:World} {v:Value} {n:Nat} {xs:List Value} (h:Row e size (Lt w0.heap.size) w0 w v n xs):Ext w0 w:=
 ⟨h.os,h.tape,h.output,Nat.le_of_not_lt fun hl=>Nat.lt_irrefl _ (h.lt _ hl),fun k hk=>h.kept k hk⟩
theorem Row.start (e size:Nat)(w:World):Row e size (Lt w.heap.size) w w (.slice none 0 0) 0 []:=
 ⟨World.ownsRow_nil _ _ _ _,fun g hg=>by simp [Value.ownBlock]at hg,fun _ _=>rfl,fun k hk=>hk,rfl,rfl,rfl⟩
theorem RdI.of_own {kd:IntKind} {w:World} {B e:Nat} {v:Value} {xs:List Int} (h:w.ownsRow B e 1 v xs.length (xs.map (Value.int kd))):RdI kd w v xs:=by
 rcases h.2 with ⟨rfl,hn⟩|⟨g,cap,cur,rfl,hbg,hg,hnc,hcm,hcs,htake⟩
 ·exact⟨none,0,by rw [hn],by omega,by unfold maxLen;omega,fun h=>by omega⟩
 ·refine⟨_,cap,rfl,hnc,hcm,fun _=>⟨g,0,rfl,fun j hj=>?_⟩⟩
  have:=h.cells (g:=g) rfl j (.int kd (xs.getD j 0)) (by
   rw [List.getElem?_map,List.getElem?_eq_getElem hj]
   simp [List.getD,List.getElem?_eq_getElem hj])
  rwa [add_lit0]at this
theorem Row.keepsI {kd:IntKind} {e:Nat} {w w':World} {v:Value} {xs:List Int} (h:Row e 1 (Lt w.heap.size) w w' v xs.length (xs.map (Value.int kd))):Keeps w w' (fun w3=>RdI kd w3 v xs):=
 fun w3 hx=>RdI.of_own (own_stay h.own h.off hx)
theorem wrap_small16 {x:Int} (h:0<=x/\x < 32768):IntKind.i16.wrap x=x:=by
 have:IntKind.i16.wrap x=(x+32768) % 65536 - 32768:=by unfold IntKind.wrap;simp [IntKind.bits,IntKind.signed];omega
 omega
theorem shortsK (l:List Int)(A_l:Option Addr)(c_l:Nat)(w:World)(hr:RdI .i64 w (.slice A_l l.length c_l) l)(hl:l.length<=1000)(hg:∀y∈l,0<=y/\y < 32768):
 Calls Tryz.prog 55 #[.slice A_l l.length c_l] w (GaveR (fun v w=>RdI .i16 w v l) l.length w):=by
 have HR:=zh hr
 clear hr
 go_enter Tryz.func55,Tryz.ntmps55
 go_wp2
 go_loopw [3,8] (fun v i wr=>∃k:Nat,k<=l.length/\i=.int .i64 k/\Hid (Row 243 1 (Lt w.heap.size) w wr v k ((l.take k).map (Value.int .i16)))) (fun _ i _=>l.length - (intOf i).toNat)
 case atStart=>exact⟨0,Nat.zero_le _,rfl,zh (by simpa using Row.start 243 1 w)⟩
 case round=>
  rename_i vv0 _
  obtain⟨k,hk1,rfl,HS⟩:=hrel
  obtain⟨Av,cv,hv⟩:=own_slice HS.out.own
  subst hv
  by_cases hlt:k < l.length
  ·obtain⟨b1,o1,rfl,hcell⟩:=HR.out.at_ hlt
   replace hcell:=HS.out.bel.cell hcell
   rw [getD_at hlt]at hcell
   have hgx:=hg _ (List.getElem_mem hlt)
   obtain⟨x,hx⟩:∃x,x=l[k]:=⟨_,rfl⟩
   rw [<-hx]at hcell hgx
   have HX:=zh hx
   clear hx
   have hwr:=wrap_small16 hgx
   go_wp2_with (at_builtin;refine ap_built rfl (.tmp 12) (.tmp 15) 102 243 1 2 _ _ _ rfl Tryz.underlying102 info243 rfl (by decide) rfl rfl HS.out rfl rfl (List.all_eq_true.1 rfl) (by omega) (by decide) ?_;intro v2 w2 hn;obtain⟨A2,c2,hv2⟩:=own_slice hn.own;subst hv2;have HN:=zh hn;clear hn)
   go_roundw
   case rel=>
    refine⟨k+1,by omega,by go_num,zh ?_⟩
    rw [List.take_succ_eq_append_getElem hlt,<-HX.out,List.map_append]
    exact HN.out
   case measure=>simp only [intOf];omega
  ·obtain rfl:k=l.length:=by omega
   go_wp2
   go_ret
   have h1:=HS.out
   rw [List.take_length]at h1
   exact⟨_,_,rfl,h1.bel,h1.keepsI⟩
theorem halvesK (l:List Int)(A_l:Option Addr)(c_l:Nat)(w:World)(hr:RdI .i64 w (.slice A_l l.length c_l) l)(hl:l.length<=1000)(hg:∀y∈l,0<=y/\y < 32768):
 Calls Tryz.prog 57 #[.slice A_l l.length c_l] w (GaveR (fun v w=>RdI .u16 w v l) l.length w):=by
 have HR:=zh hr
 clear hr
 go_enter Tryz.func57,Tryz.ntmps57
 go_wp2
 go_loopw [3,8] (fun v i wr=>∃k:Nat,k<=l.length/\i=.int .i64 k/\Hid (Row 128 1 (Lt w.heap.size) w wr v k ((l.take k).map (Value.int .u16)))) (fun _ i _=>l.length - (intOf i).toNat)
 case atStart=>exact⟨0,Nat.zero_le _,rfl,zh (by simpa using Row.start 128 1 w)⟩
 case round=>
  rename_i vv0 _
  obtain⟨k,hk1,rfl,HS⟩:=hrel
  obtain⟨Av,cv,hv⟩:=own_slice HS.out.own
  subst hv
  by_cases hlt:k < l.length
  ·obtain⟨b1,o1,rfl,hcell⟩:=HR.out.at_ hlt
   replace hcell:=HS.out.bel.cell hcell
   rw [getD_at hlt]at hcell
   have hgx:=hg _ (List.getElem_mem hlt)
   obtain⟨x,hx⟩:∃x,x=l[k]:=⟨_,rfl⟩
   rw [<-hx]at hcell hgx
   have HX:=zh hx
   clear hx
   have hwr:IntKind.u16.wrap x=x:=by rw [IntKind.wrap_u16];omega
   have hwr2:x % 65536=x:=by omega
   go_wp2_with (at_builtin;refine ap_built rfl (.tmp 12) (.tmp 15) 126 128 1 2 _ _ _ rfl Tryz.underlying126 info128 rfl (by decide) rfl rfl HS.out rfl rfl (List.all_eq_true.1 rfl) (by omega) (by decide) ?_;intro v2 w2 hn;obtain⟨A2,c2,hv2⟩:=own_slice hn.own;subst hv2;have HN:=zh hn;clear hn)
   go_roundw
   case rel=>
    refine⟨k+1,by omega,by go_num,zh ?_⟩
    rw [List.take_succ_eq_append_getElem hlt,<-HX.out,List.map_append]
    exact HN.out
   case measure=>simp only [intOf];omega
  ·obtain rfl:k=l.length:=by omega
   go_wp2
   go_ret
   have h1:=HS.out
   rw [List.take_length]at h1
   exact⟨_,_,rfl,h1.bel,h1.keepsI⟩
theorem ap_many {ops:Array Oper} {rest:List Oper} {o:Oper} {a:Act} {Q:Exit->Act->World->Prop} {w:World} (hgd:o.guard=none)(s x:Operand)(t e bytes:Nat)(z:Value)
 (ho:o.op=.call {callee:=.builtin .append,args:= #[s,x],argTypes:= #[t,t]})
 (ht:Tryz.prog.underlying t=some (.slice e)) (hi:(Tryz.prog.info? e).map (fun i=>(i.zero,i.size,i.bytes))=some (some z,1,bytes)) (hzs:z.cells.size=1)
 {K:Nat->Prop} {w0:World} {a0:Addr} {n c0:Nat} {xs:List Value} (hs:a.eval s=.slice (some a0) n c0) (hb:Row e 1 K w0 w (.slice (some a0) n c0) n xs) {p:Addr} {m c:Nat} {ys:List Value} (hx:a.eval x=.slice (some p) m c) (hl:ys.length=m) (hcell:∀j u,ys[j]?=some u->w.cell? (p.add j)=some u) (h1:∀u∈ys,u.oneCell'=true) (hn:n+m < 1000000000000) (hby:bytes<=100)
 (h:∀a1 c1 w',Row e 1 K w0 w' (.slice (some a1) (n+m) c1) (n+m) (xs++ys)->wpList Tryz.prog ops Q rest (a.put o.dst (.slice (some a1) (n+m) c1)) w'):wpList Tryz.prog ops Q (o :: rest) a w:=by
 obtain⟨i0,hi,hz0,hz1,hz2⟩:=info_parts hi
 refine wpList_plain hgd fun C hC=>?_
 by_cases hm:0 < m
 ·have hbb:(n+m) * bytes<=140737488355328:=Nat.le_trans (Nat.mul_le_mul (show n+m<=1000000000000 by omega) hby) (by omega)
  obtain⟨v',w',hr,h2,h3,h4,h5⟩:=run_append_own_at (P:=Tryz.prog) w 0 t o.type e i0 z 1 bytes ht hi hz0 hz1 hz2 hzs (by decide) _ n xs hb.own p m c ys (by rw [hl,Nat.mul_one]) hcell h1 (by unfold maxLen;omega) hbb (Nat.zero_le _)
  have hsome:∃a1 c1,v'=.slice (some a1) (n+m) c1:=by
   rcases h2.2 with ⟨_,h0⟩|⟨g,cap,_,hv,_⟩
   ·omega
   ·exact⟨_,_,hv⟩
  unfold Oper.wp execOp
  simp only [ho,resolve,invoke,builtin,Sem.run_bind,Sem.run_pure,Result.andThen_ok,List.map_toArray,List.map_cons,List.map_nil,hs,hx,hr]
  obtain⟨a1,c1,rfl⟩:=hsome
  refine hC _ _ (h a1 c1 w' (hb.step h3 h2 fun g hg=>?_))
  rcases h5 with h5|h5
  ·exact .inl (h5▸hg)
  ·exact .inr (by rw [h5]at hg;cases hg;exact Nat.le_refl _)
 ·obtain rfl:m=0:=by omega
  have hy:ys=[]:=List.eq_nil_of_length_eq_zero hl
  subst hy
  have hnc:n<=c0:=by
   rcases hb.own.2 with ⟨h0,_⟩|⟨g,cap,cur,hv,hbg,hg,hnc,_⟩
   ·cases h0
   ·simp only [Value.slice.injEq]at hv
    omega
  have hr:(Builtin.append_ #[t,t] o.type #[.slice (some a0) n c0,.slice (some p) 0 c]).run Tryz.prog w=.ok (.slice (some a0) n c0) w:=by
   simp [Builtin.append_,run_underlying ht,sizeOf,typeInfo,hi,Builtin.lenOf,Builtin.firstCells,loadCells,loadCellsFrom,hnc,storeCells]
  unfold Oper.wp execOp
  simp only [ho,resolve,invoke,builtin,Sem.run_bind,Sem.run_pure,Result.andThen_ok,List.map_toArray,List.map_cons,List.map_nil,hs,hx,hr]
  exact hC _ _ (h a0 c0 w (by simpa using hb))
theorem ap_none {ops:Array Oper} {rest:List Oper} {o:Oper} {a:Act} {Q:Exit->Act->World->Prop} {w:World} (hgd:o.guard=none)(s x:Operand)(t e bytes:Nat)(z:Value)
 (ho:o.op=.call {callee:=.builtin .append,args:= #[s,x],argTypes:= #[t,t]})
 (ht:Tryz.prog.underlying t=some (.slice e)) (hi:(Tryz.prog.info? e).map (fun i=>(i.zero,i.size,i.bytes))=some (some z,1,bytes))
 {a0:Addr} {n c0 c:Nat} (hs:a.eval s=.slice (some a0) n c0) (hnc:n<=c0) (hx:a.eval x=.slice none 0 c)
 (h:wpList Tryz.prog ops Q rest (a.put o.dst (.slice (some a0) n c0)) w):wpList Tryz.prog ops Q (o :: rest) a w:=by
 obtain⟨i0,hi,hz0,hz1,hz2⟩:=info_parts hi
 refine wpList_plain hgd fun C hC=>?_
 have hr:(Builtin.append_ #[t,t] o.type #[.slice (some a0) n c0,.slice none 0 c]).run Tryz.prog w=.ok (.slice (some a0) n c0) w:=by
  simp [Builtin.append_,run_underlying ht,sizeOf,typeInfo,hi,Builtin.lenOf,Builtin.firstCells,loadCells,loadCellsFrom,hnc,storeCells]
 unfold Oper.wp execOp
 simp only [ho,resolve,invoke,builtin,Sem.run_bind,Sem.run_pure,Result.andThen_ok,List.map_toArray,List.map_cons,List.map_nil,hs,hx,hr]
 exact hC _ _ h
theorem Row.fresh (e:Nat)(w:World)(size:Nat):Row e size (Lt w.heap.size) w (w.alloc (.cells #[] e)) (.slice (some ⟨w.heap.size,0,none⟩) 0 0) 0 []:=by
 have hx:=ext_alloc w (.cells #[] e)
 refine⟨⟨by simp,.inr ⟨w.heap.size,0, #[],rfl,Nat.zero_le _,heap_alloc_new _ _,Nat.le_refl _,by unfold maxLen;omega,by simp,by simp⟩⟩,?_,fun k hk=>hx.block k hk,fun k hk=>Nat.lt_of_lt_of_le hk hx.size,hx.os,hx.tape,hx.output⟩
 intro g hg hk
 have:w.heap.size=g:=by simpa [Value.ownBlock]using hg
 exact Nat.lt_irrefl _ (this▸hk)
def optV (x:Bool×List Int):Option (List Int):=if x.1 then none else some x.2
def GaveO (x:Bool×List Int) (w:World):Ending->World->Prop:=fun e w'=>∃A n c,e=.returned (.slice A n c)/\Ext w w'/\Keeps w w' (fun w3=>isOpt w3 (optV x) (.slice A n c))
theorem oneK (x:Bool×List Int)(A:Option Addr)(c:Nat)(w:World)(h:RdB w (.slice A x.2.length c) x.2)(hl:x.2.length<=1000000):Calls Tryz.prog 66 #[.agg #[.bool x.1,.slice A x.2.length c]] w (GaveO x w):=by
 obtain⟨b,d⟩:=x
 simp only at h hl⊢
 cases b
 ·obtain⟨A',c',hv,h1,h2,h3⟩:=h
  obtain⟨rfl,rfl⟩:A=A'/\c=c':=by simpa using hv
  have HR:=zh h3
  clear h3 hv
  by_cases hA:∃p,A=some p
  ·obtain⟨p,rfl⟩:=hA
   have hx:=ext_alloc w (.cells #[.bool false,.slice (some p) d.length c] 58)
   have hcell:∀j u,(bys d)[j]?=some u->((w.alloc (.cells #[.bool false,.slice (some p) d.length c] 58)).alloc (.cells #[] 5)).cell? (p.add j)=some u:=by
    intro j u hj
    have hjl:j < d.length:=by
     rcases Nat.lt_or_ge j d.length with h|h
     ·exact h
     ·simp [bys,List.getElem?_eq_none h]at hj
    obtain⟨b1,o1,hA,hc⟩:=HR.out (by omega)
    have hp:p=⟨b1,o1,none⟩:=by simpa using hA
    have hpj:p.add j=⟨b1,o1+j,none⟩:=by rw [hp,add_lit0]
    rw [hpj]
    refine Ext.cell (w:=w) (hx.trans (ext_alloc _ _)) ?_
    rw [hc j hjl]
    unfold bys at hj
    rw [List.getElem?_map,List.getElem?_eq_getElem hjl]at hj
    simp at hj
    subst hj
    simp [List.getD,List.getElem?_eq_getElem hjl]
   have HC:=zh hcell
   have HF:=zh (Row.fresh 5 (w.alloc (.cells #[.bool false,.slice (some p) d.length c] 58)) 1)
   clear hcell
   go_enter Tryz.func66,Tryz.ntmps66
   go_wp2_with (at_builtin;refine ap_many (p:=p) (m:=d.length) (c:=c) (ys:=bys d) rfl (.tmp 5) (.tmp 7) 26 5 1 _ rfl Tryz.underlying26 info5 rfl (by first|rfl|(simp;rfl)) (by simpa using HF.out) rfl (by simp [bys]) HC.out (bys_one d) (by omega) (by decide) ?_;intro a1 c1 w2 hn;have HN:=zh hn;clear hn)
   go_ret
   have hn:=HN.out
   rw [Nat.zero_add,List.nil_append]at hn
   replace hn:Row 5 1 (Lt (w.alloc (.cells #[.bool false,.slice (some p) d.length c] 58)).heap.size) (w.alloc (.cells #[.bool false,.slice (some p) d.length c] 58)) w2 (.slice (some a1) d.length c1) d.length (bys d):=by simpa using hn
   refine⟨some a1,d.length,c1,by simp,hx.trans hn.bel,fun w3 h3=>?_⟩
   refine⟨a1,c1,rfl,RdB.of_own (own_stay hn.own hn.off fun k hk hk2=>h3 k (Nat.le_trans hx.size hk) hk2)⟩
  ·have hA':A=none:=by cases A with|none=>rfl|some p=>exact absurd ⟨p,rfl⟩ hA
   subst hA'
   have hd:d=[]:=by
    rcases Nat.eq_zero_or_pos d.length with h|h
    ·exact List.eq_nil_of_length_eq_zero h
    ·obtain⟨_,_,hA,_⟩:=HR.out h;cases hA
   subst hd
   have hx:=ext_alloc w (.cells #[.bool false,.slice none 0 c] 58)
   have HF:=zh (Row.fresh 5 (w.alloc (.cells #[.bool false,.slice none 0 c] 58)) 1)
   go_enter Tryz.func66,Tryz.ntmps66
   go_wp2_with (at_builtin;refine ap_none rfl (.tmp 5) (.tmp 7) 26 5 1 _ rfl Tryz.underlying26 info5 rfl (Nat.le_refl _) rfl ?_)
   go_ret
   have hn:=HF.out
   refine⟨_,_,_,rfl,hx.trans hn.bel,fun w3 h3=>?_⟩
   have hk:=own_stay hn.own hn.off fun k hk hk2=>h3 k (Nat.le_trans hx.size hk) hk2
   refine⟨_,_,rfl,RdB.of_own (B:=0) ?_⟩
   simpa [bys]using hk
 ·go_enter Tryz.func66,Tryz.ntmps66
  go_wp2
  go_ret
  exact⟨none,0,0,rfl,ext_alloc _ _,fun w3 _=>rfl⟩
theorem info26:(Tryz.prog.info? 26).map (fun i=>(i.zero,i.size,i.bytes))=some (some (.slice none 0 0),1,24):=by kernel_rfl
theorem info9:(Tryz.prog.info? 9).map (fun i=>(i.zero,i.size,i.bytes))=some (some (.string ⟨#[]⟩),1,16):=by kernel_rfl
theorem Row.rebase {e size:Nat} {K K':Nat->Prop} {w0 w:World} {v:Value} {n:Nat} {xs:List Value} (h:Row e size K w0 w v n xs)(hlt:∀k,K' k->k < w.heap.size)(hne:∀g,v.ownBlock=some g->¬K' g):Row e size K' w w v n xs:=
 ⟨h.own,hne,fun _ _=>rfl,hlt,rfl,rfl,rfl⟩
def But (w:World) (v:Value) (k:Nat):Prop:=k < w.heap.size/\v.ownBlock≠some k
theorem Row.but {e size:Nat} {K:Nat->Prop} {w0 w:World} {v:Value} {n:Nat} {xs:List Value} (h:Row e size K w0 w v n xs):Row e size (But w v) w w v n xs:=
 h.rebase (fun k hk=>hk.1) fun g hg hk=>hk.2 hg
theorem Row.unbut {e size:Nat} {w w2 w3:World} {v v2:Value} {n m:Nat} {xs ys:List Value} (h:Row e size (Lt w.heap.size) w w2 v n xs)(h2:Row e size (But w2 v) w2 w3 v2 m ys):Row e size (Lt w.heap.size) w w3 v2 m ys:=by
 have hb:∀k,k < w.heap.size->But w2 v k:=fun k hk=>⟨h.lt k hk,fun e=>h.off k e hk⟩
 exact⟨h2.own,fun g hg hk=>h2.off g hg (hb g hk),fun k hk=>(h2.kept k (hb k hk)).trans (h.kept k hk),fun k hk=>h2.lt k (hb k hk),h2.os.trans h.os,h2.tape.trans h.tape,h2.output.trans h.output⟩
def ElK (w wr:World) (v:Value) (o:Option (List Int)) (u:Value):Prop:=(∃A n c,u=.slice A n c)/\∀w3:World,(∀q,w.heap.size<=q->q < wr.heap.size->v.ownBlock≠some q->w3.heap[q]?=wr.heap[q]?)->isOpt w3 o u
theorem ElK.step {w wr w2 w3:World} {v v2:Value} {o:Option (List Int)} {u:Value} {e size m:Nat} {ys:List Value} (h:ElK w wr v o u)(hx:Ext wr w2)(h2:Row e size (But w2 v) w2 w3 v2 m ys):ElK w w3 v2 o u:=by
 refine⟨h.1,fun w4 h4=>h.2 w4 fun q h1 h3 h5=>?_⟩
 have hq:But w2 v q:=⟨Nat.lt_of_lt_of_le h3 hx.size,h5⟩
 have h6:=h4 q h1 (h2.lt q hq) fun e=>h2.off q e hq
 exact h6.trans ((h2.kept q hq).trans (hx.block q h3))
theorem ElK.new {w wr w2 w3:World} {v v2:Value} {o:Option (List Int)} {A:Option Addr} {n c:Nat} {e size m:Nat} {ys:List Value} (h:Keeps wr w2 (fun w3=>isOpt w3 o (.slice A n c)))(hw:w.heap.size<=wr.heap.size)(hv:∀g,v.ownBlock=some g->g < wr.heap.size)(h2:Row e size (But w2 v) w2 w3 v2 m ys):ElK w w3 v2 o (.slice A n c):=by
 refine⟨⟨A,n,c,rfl⟩,fun w4 h4=>h w4 fun q h1 h3=>?_⟩
 have hq:But w2 v q:=⟨h3,fun e=>by have:=hv q e;omega⟩
 exact(h4 q (by omega) (h2.lt q hq) fun e=>h2.off q e hq).trans (h2.kept q hq)
def Els (w wr:World) (v:Value) (l:List (Bool×List Int)) (xs:List Value):Prop:=xs.length=l.length/\∀j (h:j < l.length),∃u,xs[j]?=some u/\ElK w wr v (optV l[j]) u
theorem Els.snoc {w wr w2 w3:World} {v v2:Value} {l:List (Bool×List Int)} {xs ys:List Value} {x:Bool×List Int} {u:Value} {e size m:Nat} (h:Els w wr v l xs)(hx:Ext wr w2)(h2:Row e size (But w2 v) w2 w3 v2 m ys)(hu:ElK w w3 v2 (optV x) u):Els w w3 v2 (l++ [x]) (xs++ [u]):=by
 refine⟨by simp [h.1],fun j hj=>?_⟩
 rcases Nat.lt_or_ge j l.length with hl|hl
 ·obtain⟨u',h1,h3⟩:=h.2 j hl
  refine⟨u',by rw [List.getElem?_append_left (by rw [h.1];exact hl)];exact h1,?_⟩
  rw [List.getElem_append_left hl]
  exact h3.step hx h2
 ·have hj2:j=l.length:=by simp at hj;omega
  subst hj2
  refine⟨u,by rw [List.getElem?_append_right (by rw [h.1];omega),h.1];simp,by simpa using hu⟩
theorem Els.rd {w wr:World} {v:Value} {l:List (Bool×List Int)} {xs:List Value} (h:Els w wr v l xs)(hb:Row 26 1 (Lt w.heap.size) w wr v l.length xs):Keeps w wr (fun w3=>Rd1 isOpt w3 v (l.map optV)):=by
 intro w3 h3
 have hown:=own_stay hb.own hb.off h3
 rcases hown.2 with ⟨rfl,hn⟩|⟨g,cap,cur,rfl,_,hg,hnc,hcm,hcs,ht⟩
 ·exact⟨none,0,by simp [hn],by simp [hn],by unfold maxLen;omega,fun h0=>by simp at h0;omega⟩
 ·refine⟨some ⟨g,0,none⟩,cap,by simp,by simpa using hnc,hcm,fun _=>⟨g,0,rfl,fun j hj=>?_⟩⟩
  have hj':j < l.length:=by simpa using hj
  obtain⟨u,h1,h2⟩:=h.2 j hj'
  refine⟨u,?_,?_⟩
  ·rw [<-ht,List.getElem?_take]at h1
   split at h1
   ·refine(cell_of_row _ _ _ _ _ _ hg).trans ?_
    rw [Nat.zero_add,<-Array.getElem?_toList]
    exact h1
   ·cases h1
  ·simpa using h2.2 w3 fun q a1 a2 _=>h3 q a1 a2
theorem bytesOfK (l:List (Bool×List Int))(A_l:Option Addr)(c_l:Nat)(w:World)(hr:RdM 2 isVal w (.slice A_l l.length c_l) l)(hl:l.length<=1000)(hg:∀y∈l,y.2.length<=2000):
 Calls Tryz.prog 56 #[.slice A_l l.length c_l] w (GaveR (fun v w=>Rd1 isOpt w v (l.map optV)) l.length w):=by
 have HR:=zh hr
 clear hr
 go_enter Tryz.func56,Tryz.ntmps56
 go_wp2
 go_loopw [3,8] (fun v i wr=>∃k:Nat,k<=l.length/\i=.int .i64 k/\∃xs,Hid (Row 26 1 (Lt w.heap.size) w wr v k xs/\Els w wr v (l.take k) xs)) (fun _ i _=>l.length - (intOf i).toNat)
 case atStart=>exact⟨0,Nat.zero_le _,rfl,[],zh ⟨Row.start 26 1 w,by simp,fun j h=>by simp at h⟩⟩
 case round=>
  obtain⟨k,hk1,rfl,xs,HS⟩:=hrel
  obtain⟨Av,cv,hv⟩:=own_slice HS.out.1.own
  subst hv
  by_cases hlt:k < l.length
  ·obtain⟨b1,o1,f,rfl,hcell,hv⟩:=HR.out.at_ hlt
   have hgx:=hg _ (List.getElem_mem hlt)
   obtain⟨⟨x1,x2⟩,hx⟩:∃x,x=l[k]:=⟨_,rfl⟩
   rw [<-hx]at hv hgx
   replace hgx:x2.length<=2000:=hgx
   have hf0:f 0=.bool x1:=hv.1
   obtain⟨Ax,cx,hf1,hrd⟩:∃A c,f 1=.slice A x2.length c/\RdB w (.slice A x2.length c) x2:=hv.2
   have hd0:=HS.out.1.bel.cell (hcell 0 (by omega))
   rw [hf0,Nat.add_zero]at hd0
   have hd1:=HS.out.1.bel.cell (hcell 1 (by omega))
   rw [hf1]at hd1
   have HX:=zh hx
   have HE1:=zh (ext_alloc wr (.cells #[.bool x1,.slice Ax x2.length cx] 58))
   have HD:=zh (hrd.ext (HS.out.1.bel.trans HE1.out))
   clear hx hrd hf0 hf1 hcell hv
   go_wp2_with (first|(go_at_call 66;refine(oneK (x1,x2) Ax cx _ HD.out (by simp only [];omega)).mono ?_;rintro e w2 ⟨A2,n2,c2,rfl,hx2,hk2⟩;have HX2:=zh hx2;have HK2:=zh hk2;clear hx2 hk2;have HB2:=zh ((HS.out.1.ext (HE1.out.trans HX2.out)).but))|(at_builtin;refine ap_built rfl (.tmp 12) (.tmp 15) 104 26 1 24 _ _ _ rfl Tryz.underlying104 info26 rfl (by decide) rfl rfl HB2.out rfl rfl (List.all_eq_true.1 rfl) (by omega) (by decide) ?_;intro v3 w3 hn;obtain⟨A3,c3,hv3⟩:=own_slice hn.own;subst hv3;have HN:=zh hn;clear hn))
   go_roundw
   case rel=>
    refine⟨k+1,by omega,by go_num,_,zh ⟨(HS.out.1.ext (HE1.out.trans HX2.out)).unbut HN.out,?_⟩⟩
    rw [List.take_succ_eq_append_getElem hlt,<-HX.out]
    refine HS.out.2.snoc (HE1.out.trans HX2.out) HN.out (ElK.new HK2.out (HS.out.1.bel.trans HE1.out).size ?_ HN.out)
    intro g hg
    exact Nat.lt_of_lt_of_le (HS.out.1.own.lt g hg).2 HE1.out.size
   case measure=>simp only [intOf];omega
  ·obtain rfl:k=l.length:=by omega
   go_wp2
   go_ret
   have h1:=HS.out
   rw [List.take_length]at h1
   exact⟨_,_,rfl,h1.1.bel,h1.2.rd h1.1⟩
theorem resultK (x:Int)(A:Option Addr)(c:Nat)(w:World)(h:RdI .i64 w (.slice A 1 c) [x])(hx:0<=x/\x < 32768):Calls Tryz.prog 58 #[.slice A 1 c] w (fun e w'=>e=.returned (.int .u16 x)/\w'=w):=by
 obtain⟨b1,o1,rfl,hcell⟩:=RdI.at_ h (k:=0) (by simp)
 have hwr:IntKind.u16.wrap x=x:=by rw [IntKind.wrap_u16];omega
 have hwr2:x % 65536=x:=by omega
 simp only [List.getD_cons_zero,Nat.add_zero]at hcell
 go_enter Tryz.func58,Tryz.ntmps58
 go_wp2
 go_ret
 exact⟨rfl,rfl⟩
theorem Rd1.of_ownS {w:World} {B e:Nat} {v:Value} {xs:List ByteArray} (h:w.ownsRow B e 1 v xs.length (xs.map Value.string)):Rd1 isStr w v xs:=by
 rcases h.2 with ⟨rfl,hn⟩|⟨g,cap,cur,rfl,hbg,hg,hnc,hcm,hcs,htake⟩
 ·exact⟨none,0,by rw [hn],by omega,by unfold maxLen;omega,fun h=>by omega⟩
 ·refine⟨_,cap,rfl,hnc,hcm,fun _=>⟨g,0,rfl,fun j hj=>?_⟩⟩
  have:=h.cells (g:=g) rfl j (.string xs[j]) (by
   rw [List.getElem?_map,List.getElem?_eq_getElem hj];rfl)
  rw [add_lit0]at this
  exact⟨_,this,rfl⟩
theorem one_strs (xs:List ByteArray):∀u∈xs.map Value.string,u.oneCell'=true:=by
 intro u hu
 obtain⟨_,_,rfl⟩:=List.mem_map.1 hu
 rfl
theorem one_ints (k:IntKind)(xs:List Int):∀u∈xs.map (Value.int k),u.oneCell'=true:=by
 intro u hu
 obtain⟨_,_,rfl⟩:=List.mem_map.1 hu
 rfl
theorem cloneI (l:List Int)(A:Option Addr)(c:Nat)(w:World)(h:RdI .u32 w (.slice A l.length c) l)(hl:l.length<=1000):Calls Tryz.prog 59 #[.slice A l.length c] w (GaveR (fun v w=>RdI .u32 w v l) l.length w):=by
 have HR:=zh h
 obtain⟨A',c',hv,h1,h2,h3⟩:=h
 obtain⟨rfl,rfl⟩:A=A'/\c=c':=by simpa using hv
 have H3:=zh h3
 clear h3 hv
 cases A with
 | none=>
   have hd:l=[]:=by
    rcases Nat.eq_zero_or_pos l.length with h|h
    ·exact List.eq_nil_of_length_eq_zero h
    ·obtain⟨_,_,hA,_⟩:=H3.out h;cases hA
   subst hd
   have hq:=fun wx=>Lib.run_eql_slice_nil (P:=Tryz.prog) wx 24 22 none 0 c 0 0 Tryz.underlying24
   go_enter Tryz.func59,Tryz.ntmps59
   go_wp2
   go_ret
   exact⟨none,0,rfl,zr,fun w3 _=>⟨none,0,rfl,Nat.le_refl _,by unfold maxLen;omega,fun h=>absurd h (Nat.lt_irrefl 0)⟩⟩
 | some p=>
   have hcell:∀j u,(l.map (Value.int .u32))[j]?=some u->(w.alloc (.cells #[] 22)).cell? (p.add j)=some u:=by
    intro j u hj
    have hjl:j < l.length:=by
     rcases Nat.lt_or_ge j l.length with h|h
     ·exact h
     ·simp [List.getElem?_eq_none h]at hj
    obtain⟨b1,o1,hA,hc⟩:=H3.out (by omega)
    have hp:p=⟨b1,o1,none⟩:=by simpa using hA
    have hpj:p.add j=⟨b1,o1+j,none⟩:=by rw [hp,add_lit0]
    rw [hpj]
    refine Ext.cell (w:=w) (ext_alloc _ _) ?_
    rw [hc j hjl]
    rw [List.getElem?_map,List.getElem?_eq_getElem hjl]at hj
    simp at hj
    subst hj
    simp [List.getD,List.getElem?_eq_getElem hjl]
   have HC:=zh hcell
   have HF:=zh (Row.fresh 22 w 1)
   clear hcell
   have hq:=fun wx=>Lib.run_eql_slice_nil (P:=Tryz.prog) wx 24 22 (some p) l.length c 0 0 Tryz.underlying24
   go_enter Tryz.func59,Tryz.ntmps59
   go_wp2_with (at_builtin;refine ap_many (p:=p) (m:=l.length) (c:=c) (ys:=l.map (Value.int .u32)) rfl (.tmp 5) (.tmp 6) 24 22 4 _ rfl Tryz.underlying24 info22 rfl (by first|rfl|(simp;rfl)) HF.out rfl (by simp) HC.out (one_ints _ l) (by omega) (by decide) ?_;intro a1 c1 w2 hn;have HN:=zh hn;clear hn)
   go_ret
   have hn:=HN.out
   rw [Nat.zero_add,List.nil_append]at hn
   refine⟨some a1,c1,by simp,hn.bel,fun w3 h3=>RdI.of_own (own_stay hn.own hn.off h3)⟩
theorem cloneS (l:List ByteArray)(A:Option Addr)(c:Nat)(w:World)(h:Rd1 isStr w (.slice A l.length c) l)(hl:l.length<=1000):Calls Tryz.prog 67 #[.slice A l.length c] w (GaveR (fun v w=>Rd1 isStr w v l) l.length w):=by
 have HR:=zh h
 obtain⟨A',c',hv,h1,h2,h3⟩:=h
 obtain⟨rfl,rfl⟩:A=A'/\c=c':=by simpa using hv
 have H3:=zh h3
 clear h3 hv
 cases A with
 | none=>
   have hd:l=[]:=by
    rcases Nat.eq_zero_or_pos l.length with h|h
    ·exact List.eq_nil_of_length_eq_zero h
    ·obtain⟨_,_,hA,_⟩:=H3.out h;cases hA
   subst hd
   have hq:=fun wx=>Lib.run_eql_slice_nil (P:=Tryz.prog) wx 27 9 none 0 c 0 0 Tryz.underlying27
   go_enter Tryz.func67,Tryz.ntmps67
   go_wp2
   go_ret
   exact⟨none,0,rfl,zr,fun w3 _=>⟨none,0,rfl,Nat.le_refl _,by unfold maxLen;omega,fun h=>absurd h (Nat.lt_irrefl 0)⟩⟩
 | some p=>
   have hcell:∀j u,(l.map Value.string)[j]?=some u->(w.alloc (.cells #[] 9)).cell? (p.add j)=some u:=by
    intro j u hj
    have hjl:j < l.length:=by
     rcases Nat.lt_or_ge j l.length with h|h
     ·exact h
     ·simp [List.getElem?_eq_none h]at hj
    obtain⟨b1,o1,hA,hc⟩:=H3.out (by omega)
    have hp:p=⟨b1,o1,none⟩:=by simpa using hA
    have hpj:p.add j=⟨b1,o1+j,none⟩:=by rw [hp,add_lit0]
    rw [hpj]
    refine Ext.cell (w:=w) (ext_alloc _ _) ?_
    obtain⟨u',hu,hs⟩:=hc j hjl
    rw [hu,show u'=Value.string l[j]from hs]
    rw [List.getElem?_map,List.getElem?_eq_getElem hjl]at hj
    simpa using hj
   have HC:=zh hcell
   have HF:=zh (Row.fresh 9 w 1)
   clear hcell
   have hq:=fun wx=>Lib.run_eql_slice_nil (P:=Tryz.prog) wx 27 9 (some p) l.length c 0 0 Tryz.underlying27
   go_enter Tryz.func67,Tryz.ntmps67
   go_wp2_with (at_builtin;refine ap_many (p:=p) (m:=l.length) (c:=c) (ys:=l.map Value.string) rfl (.tmp 5) (.tmp 6) 27 9 16 _ rfl Tryz.underlying27 info9 rfl (by first|rfl|(simp;rfl)) HF.out rfl (by simp) HC.out (one_strs l) (by omega) (by decide) ?_;intro a1 c1 w2 hn;have HN:=zh hn;clear hn)
   go_ret
   have hn:=HN.out
   rw [Nat.zero_add,List.nil_append]at hn
   refine⟨some a1,c1,by simp,hn.bel,fun w3 h3=>Rd1.of_ownS (own_stay hn.own hn.off h3)⟩
end Go.Proofs.YtdenjanihikolaaGreatDoor
