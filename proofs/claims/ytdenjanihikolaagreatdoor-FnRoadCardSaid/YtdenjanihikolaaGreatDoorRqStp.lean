/- A message that starts, made: its map is filled pair by pair. -/
import Derived.Test.YtdenjanihikolaaGreatDoorRqA2
import Derived.Test.YtdenjanihikolaaGreatDoorRqA0
import Derived.Test.YtdenjanihikolaaGreatDoorRqA1
import Derived.StringKeys
import Derived.Test.YtdenjanihikolaaGreatDoorRqFit
import Derived.Test.YtdenjanihikolaaGreatDoorRqSms
import Derived.Test.YtdenjanihikolaaGreatDoorRqPpc
import Derived.Test.YtdenjanihikolaaGreatDoorRqEncc
import Derived.Test.YtdenjanihikolaaGreatDoorRqMkk
import Derived.Test.YtdenjanihikolaaGreatDoorRqMkn
namespace Go.Proofs.YtdenjanihikolaaGreatDoor
set_option linter.unusedVariables false
set_option linter.unusedSimpArgs false
set_option maxRecDepth 100000
set_option maxHeartbeats 4000000
open Go.RowKit Go.Maps Go.Sort
theorem kb_of (s:ByteArray):Lib.bytesOf (sby s)=kb s:=by
 unfold Lib.bytesOf sby kb
 rw [List.map_map]
 conv=>rhs;rw [<-List.map_id s.data.toList]
 refine List.map_congr_left fun x _=>?_
 simp
theorem idx_plain (s:ByteArray)(hs:plainP s)(w:World):Calls Tryz.prog 194 #[.string s,.int .u8 0] w (fun e w'=>e=.returned (.int .i64 (-1))/\w'=w):=by
 have h:=idxS s 0 w
 have e:Lib.indexByte s.data.toList (0:Int).toNat.toUInt8= -1:=by
  have h1:=index_none (sby s) (plain_pos hs)
  rwa [kb_of]at h1
 rw [e]at h
 exact h
theorem str_kb (s:ByteArray):encStr (kb s)=.string s:=by
 show Value.string ⟨(kb s).toArray⟩=_
 simp [kb]
theorem lookS {w:World} {mb n:Nat} {ps:List (ByteArray×ByteArray)} (hown:w.ownsMap Tryz.prog 9 (plainElem Tryz.prog 9) mb n (mapOf ps))(hs:Srt ps) {p:ByteArray×ByteArray} (hp:p∈ps)(hz:p.1.size<=maxLen):(Instr.lookup 150 (.map (some mb)) (.string p.1) false).run Tryz.prog w=.ok (.string p.2) w:=by
 obtain⟨i0,hi,hz0,hz1,hz2⟩:=info_parts info9s
 have hzero:(zeroValue 9).run Tryz.prog w=.ok (.string ⟨#[]⟩) w:=by simp [zeroValue,typeInfo,hi,hz0]
 obtain⟨v,pl,hrun,hv⟩:=hown.lookup lawS Tryz.underlying150 hzero (plainElem_string Tryz.underlying9 (by show 0<=_;omega)) (Go.WideMaps.keyOf_string_mk Tryz.underlying9 hz)
 have h1:=at_from ps _ isMap_empty hs.ne p hp (.lit (.string []))
 obtain⟨s,rfl,hz,_⟩:=plainElem_string_inv Tryz.underlying9 hv
 have h2:(mapOf ps).atKey (.string p.1.data.toList) (.lit (.string (ByteArray.mk #[]).data.toList))=.lit (.string (kb p.2)):=h1
 rw [h2]at hz
 have h3:kb p.2=s.data.toList:=by simpa using congrArg Prod.fst hz
 have h4:p.2=s:=by
  cases p with
  | mk a b=>
    cases b;cases s
    simp only [kb]at h3
    simp [Array.toList_inj.1 h3]
 rw [hrun,h4]
theorem own_map {w w':World} {mb n:Nat} {D:DataW Unit} (h:w.ownsMap Tryz.prog 9 (plainElem Tryz.prog 9) mb n D)(hx:w'.heap[mb]?=w.heap[mb]?):w'.ownsMap Tryz.prog 9 (plainElem Tryz.prog 9) mb n D:=by
 obtain⟨es,clock,hb,h2⟩:=h
 exact⟨es,clock,hx.trans hb,h2⟩
theorem size_map {w:World} {mb n:Nat} {D:DataW Unit} (h:w.ownsMap Tryz.prog 9 (plainElem Tryz.prog 9) mb n D):Maps.size D<=n:=by
 obtain⟨es,clock,hb,F,hs,rfl⟩:=h
 rw [size_eq,length_sorted]
 simpa using hs
theorem names_perm {ps:List (ByteArray×ByteArray)} (h:Srt ps) {b n:Nat} {w:World} (hown:w.ownsMap Tryz.prog 9 (plainElem Tryz.prog 9) b n (mapOf ps)):(ps.map fun p=>kb p.1).Perm (strKeys (mapOf ps)):=by
 have hC:Collected (mapOf ps) (fun _=>false) (ps.map fun p=>kb p.1):=by
  refine⟨List.pairwise_map.2 h.ne,fun x=>?_⟩
  rw [show has (mapOf ps) (.string x)=_ from has_from ps _ isMap_empty x]
  simp [has_eq,List.any_eq_true]
 exact hC.perm hown lawS Tryz.underlying9 fun _=>rfl
theorem encStartup (b mb nn:Nat)(n:Int)(ps:List (ByteArray×ByteArray))(w:World)(hblk:w.heap[b]?=some (.cells #[.int .u32 n,.map (some mb)] 152 (0,0)))(hown:w.ownsMap Tryz.prog 9 (plainElem Tryz.prog 9) mb nn (mapOf ps))(hnn:nn<=1000)(hsr:Srt ps)(hne:ps≠[])(hn:0<=n/\n < 4294967296)(hp:∀y∈ps,plainP y.1/\plainP y.2)(hl:ps.length<=20)(R:List Int)(HR:Hid (R=msg0 (b32 n++ps.flatMap prB++ [0]))):
 Calls Tryz.prog 191 #[.pointer (some ⟨b,0,none⟩),.slice none 0 0] w (Gives w R):=by
 have HLT:Hid (Lt w.heap.size b):=zh (zl hblk)
 have HLM:Hid (Lt w.heap.size mb):=zh hown.lt
 have HC0:=zh (zc hblk 0 _ rfl)
 have HC1:=zh (zc hblk 1 _ rfl)
 have hc0:=zc hblk 0 _ rfl
 have hc1:=zc hblk 1 _ rfl
 have HN:=zh hn
 have HOWN:=zh hown
 have HSR:=zh hsr
 have HP:=zh hp
 have HSZ:Hid (Maps.size (mapOf ps)<=1000):=zh (Nat.le_trans (size_map hown) hnn)
 have HPOS:Hid (strKeys (mapOf ps)≠[]):=zh (fun e=>by
  have h9:=names_perm hsr hown
  rw [e]at h9
  exact hne (List.map_eq_nil_iff.1 (List.perm_nil.1 h9)))
 have HB:=zh (Buf.nil w)
 clear hblk hown hn hp hsr hne
 go_enter Tryz.func191,Tryz.ntmps191
 go_wp2_with (first|(go_at_call 142;refine(appendI32 _ _ _ _ HB.out (by first|omega|(simp only [List.length_append,List.length_cons,List.length_nil,sby_length,b32_len];omega))).mono ?_;rintro e w1 ⟨v1,rfl,hn⟩;have hc0:=(cell_of_heap (hn.kept b HLT.out) 0).trans HC0.out;have hc1:=(cell_of_heap (hn.kept b HLT.out) 1).trans HC1.out;replace HB:=zh hn;clear hn)|(go_at_call 145;refine(appendU32 _ _ _ _ HN.out.1 HN.out.2 HB.out (by first|omega|(simp only [List.length_append,List.length_cons,List.length_nil,sby_length,b32_len];omega))).mono ?_;rintro e w1 ⟨v1,rfl,hn⟩;clear hc0 hc1;have hc1:=(cell_of_heap (hn.kept b HLT.out) 1).trans HC1.out;replace HB:=zh hn;clear hn)|(go_at_call 193;refine(names193 sortS (mapOf ps) mb nn _ (own_map HOWN.out (HB.out.kept mb HLM.out)) HPOS.out HSZ.out).mono ?_;rintro e w5 ⟨g,cg,ss,rfl,hpm,hrow,hbel⟩;have HNM:=zh (names_of HSR.out HOWN.out hpm);have HROW:=zh hrow;have HBEL:=zh hbel;clear hpm hrow hbel hc1))
 have HB5:=zh (HB.out.ext HBEL.out)
 obtain⟨PRE,HP0⟩:∃P,Hid (P=[]++b32 (-1)++b32 n):=⟨_,zh rfl⟩
 have HB5':Hid (Buf (Lt w.heap.size) w w5 v1 PRE):=zh (by rw [HP0.out];exact HB5.out)
 have hpl:PRE.length=8:=by rw [HP0.out];simp [b32_len]
 have hln:ss.length=ps.length:=by have h9:=congrArg List.length HNM.out;simpa using h9
 obtain⟨K5,hK5⟩:∃K:Nat->Prop,K=fun q=>q < w5.heap.size/\v1.ownBlock≠some q:=⟨_,rfl⟩
 have HKL:Hid (∀q,Lt w.heap.size q->K5 q):=zh (fun q hq=>by
  rw [hK5]
  exact⟨Nat.lt_of_lt_of_le (HB.out.lt q hq) HBEL.out.size,fun e=>HB.out.off q e hq⟩)
 have HB6:Hid (Buf K5 w5 w5 v1 PRE):=zh (HB5'.out.rebase (fun k hk=>by rw [hK5]at hk;exact hk.1) (fun g hg hk=>by rw [hK5]at hk;exact hk.2 hg))
 have HKG:Hid (K5 g):=zh (by
  rw [hK5]
  have h9:=HROW.out.lt g rfl
  exact⟨h9.2,fun e=>by have:=HB.out.own_lt g e;omega⟩)
 have HCG:Hid (∀j (h:j < ps.length),w5.cell? ⟨g,j,none⟩=some (.string ps[j].1)):=zh (fun j hj=>by
  have h9:=HROW.out.cells (g:=g) rfl j (.string ps[j].1) (by rw [HNM.out,List.map_map,List.getElem?_map,List.getElem?_eq_getElem hj];simp only [Option.map_some,Function.comp];exact congrArg some (str_kb _))
  rwa [add_lit0,Nat.zero_add]at h9)
 have HFL:Hid (∀y∈ps,(prB y).length<=402):=zh (fun y hy=>by
  have h1:=(HP.out y hy).1.1
  have h2:=(HP.out y hy).2.1
  simp only [prB,txt,List.length_append,List.length_cons,List.length_nil,sby_length]
  omega)
 clear hK5 HB HB5
 rw [hln]
 clear hln
 go_loopw [1,26] (fun v i wr=>∃k:Nat,k<=ps.length/\i=.int .i64 k/\Hid (Buf K5 w5 wr v (PRE++(ps.take k).flatMap prB))) (fun _ i _=>ps.length - (intOf i).toNat)
 case atStart=>exact⟨0,Nat.zero_le _,rfl,by simpa using HB6⟩
 case round=>
  clear HB6
  obtain⟨k,hk1,rfl,HB⟩:=hrel
  have hc1:=(cell_of_heap ((HB.out.kept b (HKL.out b HLT.out)).trans (HB5'.out.kept b HLT.out)) 1).trans HC1.out
  by_cases hlt:k < ps.length
  ·have hfl:=flat_take_len prB 402 k ps HFL.out
   have hcg:=(cell_of_heap (HB.out.kept g HKG.out) k).trans (HCG.out k hlt)
   have hpp:=HP.out _ (List.getElem_mem hlt)
   have hlk:=lookS (own_map HOWN.out ((HB.out.kept mb (HKL.out mb HLM.out)).trans (HB5'.out.kept mb HLM.out))) HSR.out (List.getElem_mem hlt) (by have:=hpp.1.1;unfold maxLen;omega)
   obtain⟨⟨x1,x2⟩,hx⟩:∃x,x=ps[k]:=⟨_,rfl⟩
   rw [<-hx]at hcg hpp hlk
   simp only []at hcg hlk
   have HX:=zh hx
   have HPP:=zh hpp
   have hs1:=hpp.1.1
   have hs2:=hpp.2.1
   simp only []at hs1 hs2
   clear hx hpp
   go_wp2_with (first|(go_at_call_of 194 x1;refine(idx_plain x1 HPP.out.1 _).mono ?_;rintro e w6 ⟨rfl,hw6⟩;rw [hw6];clear hw6)|(go_at_call_of 194 x2;refine(idx_plain x2 HPP.out.2 _).mono ?_;rintro e w6 ⟨rfl,hw6⟩;rw [hw6];clear hw6)|(at_builtin;refine ap_str rfl _ _ 26 rfl Tryz.underlying26 rfl rfl HB.out (by first|omega|(simp only [List.length_append,List.length_cons,List.length_nil,sby_length,b32_len];omega)) ?_;intro v3 w7 hn;replace HB:=zh hn;clear hn hc1;have hc1:=(cell_of_heap ((HB.out.kept b (HKL.out b HLT.out)).trans (HB5'.out.kept b HLT.out)) 1).trans HC1.out)|(at_builtin;refine ap_lit1 rfl _ _ 26 26 rfl Tryz.underlying26 Tryz.underlying26 rfl rfl HB.out (by first|omega|(simp only [List.length_append,List.length_cons,List.length_nil,sby_length,b32_len];omega)) ?_;intro v3 w7 hn;replace HB:=zh hn;clear hn hc1;have hc1:=(cell_of_heap ((HB.out.kept b (HKL.out b HLT.out)).trans (HB5'.out.kept b HLT.out)) 1).trans HC1.out))
   go_roundw
   case rel=>
    refine⟨k+1,by omega,by go_num,?_⟩
    rw [take_flat prB ps k hlt,<-HX.out]
    have hz:=HB.out
    simp only [prB,txt,List.append_assoc]at hz⊢
    exact zh hz
   case measure=>simp only [intOf];omega
  ·obtain rfl:k=ps.length:=by omega
   rw [List.take_length]at HB
   have hfl:=flat_len prB 402 ps HFL.out
   have HEQ:Hid (PRE++ps.flatMap prB++ [0]=[]++ [255,255,255,255]++(b32 n++ps.flatMap prB++ [0])):=zh (by rw [HP0.out,show b32 (-1)=[255,255,255,255]from by decide];simp only [List.nil_append,List.append_assoc])
   go_wp2_with (first|(at_builtin;refine ap_lit1 rfl _ _ 26 26 rfl Tryz.underlying26 Tryz.underlying26 rfl rfl HB.out (by first|omega|(simp only [List.length_append,List.length_cons,List.length_nil,sby_length,b32_len];omega)) ?_;intro v3 w7 hn;replace HB:=zh hn;clear hn)|(go_at_call 143;go_loud (refine(finish_any _ [] (b32 n++ps.flatMap prB++ [0]) 255 255 255 255 _ (by have h9:=HB5'.out.unbase HB.out HKL.out;rw [HEQ.out]at h9;exact h9) (by simp only [List.length_append,List.length_cons,List.length_nil,b32_len];omega)).mono ?_;rintro e w8 ⟨v8,rfl,hn⟩;have HF:=zh hn;clear hn)))
   go_ret2
   exact gives_of HF.out (by rw [HR.out];simp [msg0])
open Go.RowKit Go.Maps Go.Sort Og
theorem ExtBut.grown {b:Nat} {W w w':World} (h:ExtBut b W w)(hg:w.grownBy w' (some b)):ExtBut b W w':=
 ⟨hg.os.trans h.os,hg.tape.trans h.tape,hg.output.trans h.output,Nat.le_trans h.size hg.size,fun k hk hne=>(hg.block k (Nat.lt_of_lt_of_le hk h.size) (fun e=>hne (Option.some.inj e))).trans (h.block k hk hne)⟩
theorem ExtBut.alloc {b:Nat} {W w:World} (h:ExtBut b W w)(o:Obj):ExtBut b W (w.alloc o):=h.trans (ext_alloc w o).but
theorem ExtBut.refl (b:Nat)(w:World):ExtBut b w w:=(Ext.refl w).but
theorem take_snoc1 {α} (l:List α)(k:Nat)(h:k < l.length):l.take (k+1)=l.take k++ [l[k]]:=List.take_succ_eq_append_getElem h
theorem key_of (s:ByteArray)(h:s.size<=maxLen):keyOf Tryz.prog 9 (.string s)=some (.string (kb s)):=Go.WideMaps.keyOf_string_mk Tryz.underlying9 h
theorem elem_of (s:ByteArray)(h:s.size<=maxLen):plainElem (H:=Unit) Tryz.prog 9 (.string s)=some (.lit (.string (kb s)),[]):=plainElem_string Tryz.underlying9 h
theorem made18 (a b:ByteArray)(n:Int)(v4 v5 v6 v7 v8 v9 v10 v12:Value)(ps:List (ByteArray×ByteArray))(A11:Option Addr)(c11:Nat)(w:World)(hp:Hid (RdM 2 isPr w (.slice A11 ps.length c11) ps))(hl:ps.length<=20)(hm:∀y∈ps,plainP y.1/\plainP y.2)(hsr:Srt ps)(hne:ps≠[])(hn:0<=n/\n < 4294967296)(R:List Int)(HR:Hid (R=msg0 (b32 n++ps.flatMap prB++ [0]))):Calls Tryz.prog 34 #[.agg #[.int .i64 18,.string a,.string b,.int .u32 n,v4,v5,v6,v7,v8,v9,v10,.slice A11 ps.length c11,v12]] w (Made 149 191 w R):=by
 have n101:=no101 149
 have n108:=no108 149
 have n111:=no111 149
 have n114:=no114 149
 have n116:=no116 149
 have n119:=no119 149
 have n122:=no122 149
 have n125:=no125 149
 have n132:=no132 149
 have n134:=no134 149
 have n138:=no138 149
 have n141:=no141 149
 have n144:=no144 149
 have n147:=no147 149
 have y149:=yes149
 obtain⟨W1,hW1⟩:∃W1,W1=(w.alloc (.cells #[.int .i64 18,.string a,.string b,.int .u32 n,v4,v5,v6,v7,v8,v9,v10,.slice A11 ps.length c11,v12] 31)).alloc (.cells #[.int .u32 0,.map none] 152):=⟨_,rfl⟩
 have XW:Hid (Ext w W1):=zh (by rw [hW1];exact(ext_alloc w _).alloc _)
 have SW:Hid (W1.heap.size=w.heap.size+2):=zh (by rw [hW1];simp)
 have HB:Hid (W1.heap[w.heap.size+1]?=some (.cells #[.int .u32 0,.map none] 152 (0,0))):=zh (by
  rw [hW1]
  have:=heap_alloc_new (w.alloc (.cells #[.int .i64 18,.string a,.string b,.int .u32 n,v4,v5,v6,v7,v8,v9,v10,.slice A11 ps.length c11,v12] 31)) (.cells #[.int .u32 0,.map none] 152)
  simpa using this)
 have HO:Hid (W1.heap[w.heap.size]?=some (.cells #[.int .i64 18,.string a,.string b,.int .u32 n,v4,v5,v6,v7,v8,v9,v10,.slice A11 ps.length c11,v12] 31 (0,0))):=zh (by
  rw [hW1]
  have e1:=(ext_alloc (w.alloc (.cells #[.int .i64 18,.string a,.string b,.int .u32 n,v4,v5,v6,v7,v8,v9,v10,.slice A11 ps.length c11,v12] 31)) (.cells #[.int .u32 0,.map none] 152)).block w.heap.size (by simp)
  rw [e1];exact heap_alloc_new _ _)
 have hb0:=zc HO.out 0 (.int .i64 18) rfl
 have hb3:=zc HO.out 3 (.int .u32 n) rfl
 have HB2:Hid ((W1.alloc (.map #[] 0)).heap[w.heap.size+1]?=some (.cells #[.int .u32 0,.map none] 152 (0,0))):=zh (((ext_alloc W1 _).block _ (zl HB.out)).trans HB.out)
 have hz0:=zc HB2.out 0 (.int .u32 0) rfl
 have hy0:=free_slot HB2.out 0
 have hz1:=zc HB2.out 1 (.map none) rfl
 have hy1:=free_slot HB2.out 1
 obtain⟨W2,hW2⟩:∃W2,W2=((W1.alloc (.map #[] 0)).setCell ⟨w.heap.size+1,0,none⟩ (.int .u32 n)).setCell ⟨w.heap.size+1,1,none⟩ (.map (some W1.heap.size)):=⟨_,rfl⟩
 have HO2:Hid (W2.heap[w.heap.size]?=some (.cells #[.int .i64 18,.string a,.string b,.int .u32 n,v4,v5,v6,v7,v8,v9,v10,.slice A11 ps.length c11,v12] 31 (0,0))):=zh (by
  rw [hW2,heap_setCell_other _ _ _ _ (by show w.heap.size≠w.heap.size+1;omega),heap_setCell_other _ _ _ _ (by show w.heap.size≠w.heap.size+1;omega),(ext_alloc W1 _).block _ (zl HO.out)]
  exact HO.out)
 have HB3:Hid (W2.heap[w.heap.size+1]?=some (.cells #[.int .u32 n,.map (some W1.heap.size)] 152 (0,0))):=zh (by
  rw [hW2]
  exact slot_setCell (j:=1) (u:=.map (some W1.heap.size)) (slot_setCell (j:=0) (u:=.int .u32 n) HB2.out))
 have XW2:Hid (Ext w W2):=zh (by
  rw [hW2]
  exact((XW.out.alloc _).set (by omega) _ _).set (by omega) _ _)
 have HM0:Hid (W2.ownsMap Tryz.prog 9 (plainElem (H:=Unit) Tryz.prog 9) W1.heap.size 0 (mapOf [])):=zh (by
  refine own_map (World.ownsMap_made W1 _ _ _) ?_
  have e9:=SW.out
  rw [hW2,heap_setCell_other _ _ _ _ (by show W1.heap.size≠w.heap.size+1;omega),heap_setCell_other _ _ _ _ (by show W1.heap.size≠w.heap.size+1;omega)])
 have hb11:=zc HO2.out 11 (.slice A11 ps.length c11) rfl
 rw [hW2]at hb11
 have HP:=hp
 have HN:=zh hn
 have HPM:=zh hm
 have HSR:=zh hsr
 have HNE:=zh hne
 clear hp hn hm hsr hne
 have hmk:=run_makeMap (P:=Tryz.prog) 150 W1
 go_enter Tryz.func34,Tryz.ntmps34
 go_wp2_with (first|(go_at_call 46;refine(emp18 _).mono ?_;rintro e w1 ⟨rfl,rfl⟩)|(go_at_call 54;rw [<-hW1];clear hW1;refine(let54 n _).mono ?_;rintro e w54 ⟨rfl,hw54⟩;rw [hw54];clear hw54))
 rw [<-hW2]
 clear hW2 hz0 hy0 hz1 hy1 hb0 hb3 hb11
 go_loopw [208] (fun i wr=>∃k:Nat,k<=ps.length/\i=.int .i64 k/\Hid (ExtBut W1.heap.size W2 wr)/\Hid (wr.ownsMap Tryz.prog 9 (plainElem (H:=Unit) Tryz.prog 9) W1.heap.size k (mapOf (ps.take k)))) (fun i _=>ps.length - (intOf i).toNat)
 case atStart=>exact⟨0,Nat.zero_le _,rfl,zh (ExtBut.refl _ _),by simpa using HM0⟩
 case round=>
  obtain⟨k,hk1,rfl,HX,HM⟩:=hrel
  by_cases hlt:k < ps.length
  ·obtain⟨b1,o1,f,rfl,hcell,hv⟩:=HP.out.at_ hlt
   have hpp:=HPM.out _ (List.getElem_mem hlt)
   obtain⟨⟨x1,x2⟩,hx⟩:∃x,x=ps[k]:=⟨_,rfl⟩
   rw [<-hx]at hv hpp
   have HXX:=zh hx
   obtain⟨hf0,hf1⟩:=hv
   simp only []at hf0 hf1
   have hne1:b1≠W1.heap.size:=by have:=lt_of_cell (hcell 0 (by omega));have:=SW.out;omega
   have hd0:=HX.out.cell (XW2.out.cell (hcell 0 (by omega))) hne1
   rw [hf0,Nat.add_zero]at hd0
   have hd1:=HX.out.cell (XW2.out.cell (hcell 1 (by omega))) hne1
   rw [hf1]at hd1
   have HPP:=zh hpp
   have HS1:Hid (x1.size<=maxLen):=zh (by have:=hpp.1.1;simp only []at this;unfold maxLen;omega)
   have HS2:Hid (x2.size<=maxLen):=zh (by have:=hpp.2.1;simp only []at this;unfold maxLen;omega)
   have HXA:Hid (ExtBut W1.heap.size W2 (wr.alloc (.cells #[.string x1,.string x2] 60))):=zh (HX.out.alloc _)
   have HMA:Hid ((wr.alloc (.cells #[.string x1,.string x2] 60)).ownsMap Tryz.prog 9 (plainElem (H:=Unit) Tryz.prog 9) W1.heap.size k (mapOf (ps.take k))):=zh (HM.out.alloc _)
   have HBA:Hid ((wr.alloc (.cells #[.string x1,.string x2] 60)).heap[w.heap.size+1]?=some (.cells #[.int .u32 n,.map (some W1.heap.size)] 152 (0,0))):=zh ((HXA.out.block _ (zl HB3.out) (by have:=SW.out;omega)).trans HB3.out)
   have HNA:Hid ((wr.alloc (.cells #[.string x1,.string x2] 60)).heap[wr.heap.size]?=some (.cells #[.string x1,.string x2] 60 (0,0))):=zh (heap_alloc_new _ _)
   have HL3:=zh (zc HBA.out 1 (.map (some W1.heap.size)) rfl)
   have HL5:=zh (zc HNA.out 0 (.string x1) rfl)
   have HL7:=zh (zc HNA.out 1 (.string x2) rfl)
   clear hx hcell hf0 hf1 hpp hne1
   have hz0:(wr.alloc (.cells #[.string ⟨#[]⟩,.string ⟨#[]⟩] 60)).cell? ⟨wr.heap.size,0,none⟩=some (.string ⟨#[]⟩):=zc (heap_alloc_new _ _) 0 _ rfl
   go_wp2
   refine wp_region_cut (J:=fun x=>Ext (wr.alloc (.cells #[.string x1,.string x2] 60)) x) (R:=Ext) 8 [Sp.eq _ ((.pointer (some ⟨w.heap.size+1,0,none⟩))),Sp.eq _ ((.pointer (some ⟨w.heap.size+1,0,none⟩))),Sp.eq _ ((.pointer (some ⟨w.heap.size+1,1,none⟩))),Sp.eq _ ((.map (some W1.heap.size))),Sp.eq _ ((.pointer (some ⟨wr.heap.size,0,none⟩))),Sp.eq _ ((.string x1)),Sp.eq _ ((.pointer (some ⟨wr.heap.size,1,none⟩))),Sp.eq _ ((.string x2))] (by kernel_rfl) (by kernel_rfl) ?_ ?_ ?_
   ·exact(Ext.refl (wr.alloc (.cells #[.string x1,.string x2] 60))).drew
   ·refine⟨zj,zj,zj,?_,zj,?_,zj,?_,trivial⟩
    ·intro vs w1 hJ hp
     have q2:vs 2=_:=zd hp 2
     have HJ:=zh hJ
     have hq:=hJ.cell HL3.out
     clear hp hJ
     simp only [List.take_succ_cons,List.take_zero,putAll,Nat.reduceAdd]
     go_wp2
     exact⟨rfl,HJ.out,zr,rfl⟩
    ·intro vs w1 hJ hp
     have q4:vs 4=_:=zd hp 4
     have HJ:=zh hJ
     have hq:=hJ.cell HL5.out
     clear hp hJ
     simp only [List.take_succ_cons,List.take_zero,putAll,Nat.reduceAdd]
     go_wp2
     exact⟨rfl,HJ.out,zr,rfl⟩
    ·intro vs w1 hJ hp
     have q6:vs 6=_:=zd hp 6
     have HJ:=zh hJ
     have hq:=hJ.cell HL7.out
     clear hp hJ
     simp only [List.take_succ_cons,List.take_zero,putAll,Nat.reduceAdd]
     go_wp2
     exact⟨rfl,HJ.out,zr,rfl⟩
   ·intro vs w1 hJ hp
    have q0:vs 0=_:=zd hp 0
    have q1:vs 1=_:=zd hp 1
    have q2:vs 2=_:=zd hp 2
    have q3:vs 3=_:=zd hp 3
    have q4:vs 4=_:=zd hp 4
    have q5:vs 5=_:=zd hp 5
    have q6:vs 6=_:=zd hp 6
    have q7:vs 7=_:=zd hp 7
    have HJ:=zh hJ
    clear hJ hp
    have HMW:=zh (own_map HMA.out (HJ.out.block _ HMA.out.lt))
    simp only [List.drop_succ_cons,List.drop_zero,List.take_succ_cons,List.take_zero,putAll,Nat.reduceAdd,Act.put,q0,q1,q2,q3,q4,q5,q6,q7,List.setIfInBounds_toArray,List.set_cons_zero,List.set_cons_succ]
    clear q0 q1 q2 q3 q4 q5 q6 q7
    go_wp2_with (first|(at_mapUpdate;refine wpList_mapUpdate_own _ rfl _ _ _ 150 rfl 9 9 lawS Tryz.underlying150 _ W1.heap.size k _ rfl HMW.out (by unfold maxLen;omega) _ _ (.string (kb x1)) rfl rfl (key_of _ HS1.out) (.lit (.string (kb x2))) [] (elem_of _ HS2.out) ?_;intro w9 hown9 hg9))
    try simp only [Exit.inBlock,Exit.then]
    try go_at_K
    try simp only [Act.put,List.setIfInBounds_toArray,List.set_cons_zero,List.set_cons_succ]
    try go_wp2
    go_roundw
    case rel=>
     refine⟨k+1,by omega,by go_num,zh ((HXA.out.trans HJ.out.but).grown hg9),zh ?_⟩
     rw [take_snoc1 ps k hlt,<-HXX.out,mapOf_snoc]
     exact hown9
    case measure=>simp only [intOf];omega
  ·obtain rfl:k=ps.length:=by omega
   rw [List.take_length]at HM
   have HB4:Hid (wr.heap[w.heap.size+1]?=some (.cells #[.int .u32 n,.map (some W1.heap.size)] 152 (0,0))):=zh ((HX.out.block _ (zl HB3.out) (by have:=SW.out;omega)).trans HB3.out)
   go_wp2
   go_ret2
   refine⟨w.heap.size+1,rfl,HX.out.ext XW2.out (by have:=SW.out;omega),?_⟩
   exact encStartup _ W1.heap.size _ n ps _ HB4.out HM.out (by omega) HSR.out HNE.out HN.out HPM.out hl R HR
end Go.Proofs.YtdenjanihikolaaGreatDoor
