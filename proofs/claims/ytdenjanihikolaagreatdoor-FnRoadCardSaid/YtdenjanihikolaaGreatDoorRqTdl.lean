/- told and answered by kind: told18. -/
import Derived.Test.YtdenjanihikolaaGreatDoorRqA0
import Derived.Test.YtdenjanihikolaaGreatDoorRqA1
import Derived.Test.YtdenjanihikolaaGreatDoorRqMkn
import Derived.Test.YtdenjanihikolaaGreatDoorRqFit
import Derived.Test.YtdenjanihikolaaGreatDoorRqTa
import Derived.Test.YtdenjanihikolaaGreatDoorRqRkb
import Derived.Test.YtdenjanihikolaaGreatDoorRqStp
import Derived.Test.YtdenjanihikolaaGreatDoorRqTdc
import Derived.Test.YtdenjanihikolaaGreatDoorRqDcj
namespace Go.Proofs.YtdenjanihikolaaGreatDoor
set_option linter.unusedVariables false
set_option linter.unusedSimpArgs false
set_option maxRecDepth 100000
set_option maxHeartbeats 4000000
open Go.RowKit Go.Maps Go.Sort Og
theorem info60:(Tryz.prog.info? 60).map (fun i=>(i.zero,i.size,i.bytes))=some (some (.agg #[.string ⟨#[]⟩,.string ⟨#[]⟩]),2,32):=by kernel_rfl
theorem own_zero {w:World} {B e size n:Nat} {v:Value} {xs:List Value} (h:w.ownsRow B e size v n xs):w.ownsRow 0 e size v n xs:=by
 refine⟨h.1,?_⟩
 rcases h.2 with h2|⟨g,cap,cur,hv,h3,h4,h5⟩
 ·exact .inl h2
 ·exact .inr ⟨g,cap,cur,hv,Nat.zero_le _,h4,h5⟩
theorem ExtBut.turned {b:Nat} {W w w':World} {row:Option Nat} (h:ExtBut b W w)(hg:w.grownBy w' row)(hlo:∀g,row=some g->W.heap.size<=g):ExtBut b W w':=
 ⟨hg.os.trans h.os,hg.tape.trans h.tape,hg.output.trans h.output,Nat.le_trans h.size hg.size,fun k hk hkb=>(hg.block k (Nat.lt_of_lt_of_le hk h.size) (fun e=>by have:=hlo k e.symm;omega)).trans (h.block k hk hkb)⟩
theorem perm_of_sub {α:Type} [DecidableEq α]:∀(out ps:List α),out.Nodup->(∀p∈out,p∈ps)->out.length=ps.length->out.Perm ps
 | [],ps,_,_,hl=>by
   obtain rfl:ps=[]:=List.eq_nil_of_length_eq_zero hl.symm
   exact List.Perm.refl _
 | p :: out,ps,hn,hs,hl=>by
   have hp:=hs p (List.mem_cons_self ..)
   have h1:=List.perm_cons_erase hp
   rw [List.nodup_cons]at hn
   have h2:out.Perm (ps.erase p):=perm_of_sub out (ps.erase p) hn.2 (fun q hq=>by
    have h3:=hs q (List.mem_cons_of_mem _ hq)
    exact(List.mem_erase_of_ne (fun e=>hn.1 (by rw [<-e];exact hq))).2 h3) (by
    rw [List.length_erase_of_mem hp,<-hl];simp)
   exact(h2.cons p).trans h1.symm
theorem kb_ext {s t:ByteArray} (h:kb s=kb t):s=t:=by
 cases s;cases t
 simp only [kb]at h
 simp [Array.toList_inj.1 h]
theorem mem_of_at {ps:List Pr} (hs:Srt ps) {x:List UInt8} {c:ByteArray} {yd:DataW Unit} (hat:∀zd,(mapOf ps).atKey (.string x) zd=yd)(hy:yd=.lit (.string (kb c))):((⟨x.toArray⟩,c):Pr)∈ps:=by
 have hh:=has_true_of_atKey hat
 rw [show has (mapOf ps) (.string x)=_ from has_from ps _ isMap_empty x]at hh
 simp [has_eq,List.any_eq_true]at hh
 obtain⟨a,⟨b,hq⟩,hx⟩:=hh
 have h1:=at_from ps _ isMap_empty hs.ne _ hq .nil
 have h2:=hat .nil
 simp only []at h1
 rw [hx]at h1
 have h3:(mapOf ps).atKey (.string x) .nil=.lit (.string (kb b)):=h1
 rw [h3,hy]at h2
 have h4:kb b=kb c:=by simpa using h2
 have h5:a=⟨x.toArray⟩:=kb_ext (by rw [hx];simp [kb])
 rw [<-kb_ext h4,<-h5]
 exact hq
theorem tells_ofP {kd n:Int} {ps:List Pr} {w w':World} {A:Option Addr} {c:Nat} (hx:Ext w w')(hp:Keeps w w' (fun w3=>RdM 2 isPr w3 (.slice A ps.length c) ps))(hn:0<=n/\n < 4294967296)(hkd: -9223372036854775808<=kd/\kd<=9223372036854775807:=by decide):
 Tells kd (DecP kd ⟨#[]⟩ ⟨#[]⟩ n [] [] [] [] [] [] ps []) w (.returned (.agg #[.int .i64 kd,.string ⟨#[]⟩,.string ⟨#[]⟩,.int .u32 n,.int .u32 0,.slice none 0 0,.slice none 0 0,.slice none 0 0,.slice none 0 0,.slice none 0 0,.slice none 0 0,.slice A ps.length c,.slice none 0 0])) w':=
 ⟨⟨#[]⟩,⟨#[]⟩,n,0,none,0,0,none,0,0,none,0,0,none,0,0,none,0,0,none,0,0,A,_,c,none,0,0,rfl,hx,fun w3 k3=>⟨none,none,none,none,none,none,A,none,0,0,0,0,0,0,c,0,rfl,rdi_nil _ _,rdi_nil _ _,rdi_nil _ _,rdm_nil _ _ _,RdB.nil _,rd1_nil _ _,hp w3 k3,rdm_nil _ _ _,hn,hkd,nofun,nofun,nofun,nofun⟩⟩
theorem cell_two_new (w:World)(x y:Value)(t:TypeId):∀j u,[x,y][j]?=some u->(w.alloc (.cells #[x,y] t)).cell? ((⟨w.heap.size,0,none⟩:Addr).add j)=some u:=by
 intro j u hj
 rw [add_lit0,Nat.zero_add]
 exact zc (heap_alloc_new _ _) j u (by simpa using hj)
set_option maxHeartbeats 8000000 in
theorem told18 (n:Int)(ps:List Pr)(w:World)(bk mb nn:Nat)(hblk:w.heap[bk]?=some (.cells #[.int .u32 n,.map (some mb)] 152 (0,0)))(hown:w.ownsMap Tryz.prog 9 (plainElem (H:=Unit) Tryz.prog 9) mb nn (mapOf ps))(hnn:nn<=1000)(hsr:Srt ps)(hn:0<=n/\n < 4294967296)(hl:ps.length<=20):
 Calls Tryz.prog 48 #[.int .i64 18,.iface 149 (.pointer (some ⟨bk,0,none⟩))] w (Tells 18 (DecP 18 ⟨#[]⟩ ⟨#[]⟩ n [] [] [] [] [] [] ps []) w):=by
 have n101:=no101 149
 have n108:=no108 149
 have n111:=no111 149
 have n114:=no114 149
 have n116:=no116 149
 have n119:=no119 149
 have n122:=no122 149
 have n125:=no125 149
 have n132:=no132 149
 have n134:=no134 149
 have n138:=no138 149
 have n141:=no141 149
 have n144:=no144 149
 have n147:=no147 149
 have y149:=yes149
 have hq0:((w.alloc (.cells #[.int .i64 0,.string ⟨#[]⟩,.string ⟨#[]⟩,.int .u32 0,.int .u32 0,.slice none 0 0,.slice none 0 0,.slice none 0 0,.slice none 0 0,.slice none 0 0,.slice none 0 0,.slice none 0 0,.slice none 0 0] 31)).alloc (.cells #[.int .i64 18,.string ⟨#[]⟩,.string ⟨#[]⟩,.int .u32 0,.int .u32 0,.slice none 0 0,.slice none 0 0,.slice none 0 0,.slice none 0 0,.slice none 0 0,.slice none 0 0,.slice none 0 0,.slice none 0 0] 31)).cell? ⟨bk,0,none⟩=some (.int .u32 n):=((ext_alloc w _).alloc _).cell (zc hblk 0 (.int .u32 n) rfl)
 obtain⟨W3,hW3⟩:∃W3,W3=((w.alloc (.cells #[.int .i64 0,.string ⟨#[]⟩,.string ⟨#[]⟩,.int .u32 0,.int .u32 0,.slice none 0 0,.slice none 0 0,.slice none 0 0,.slice none 0 0,.slice none 0 0,.slice none 0 0,.slice none 0 0,.slice none 0 0] 31)).alloc (.cells #[.int .i64 18,.string ⟨#[]⟩,.string ⟨#[]⟩,.int .u32 n,.int .u32 0,.slice none 0 0,.slice none 0 0,.slice none 0 0,.slice none 0 0,.slice none 0 0,.slice none 0 0,.slice none 0 0,.slice none 0 0] 31)):=⟨_,rfl⟩
 have XW:Hid (Ext w W3):=zh (by rw [hW3];exact(ext_alloc w _).alloc _)
 have HM3:Hid (W3.heap[w.heap.size+1]?=some (.cells #[.int .i64 18,.string ⟨#[]⟩,.string ⟨#[]⟩,.int .u32 n,.int .u32 0,.slice none 0 0,.slice none 0 0,.slice none 0 0,.slice none 0 0,.slice none 0 0,.slice none 0 0,.slice none 0 0,.slice none 0 0] 31 (0,0))):=zh (by
  have e:(w.alloc (.cells #[.int .i64 0,.string ⟨#[]⟩,.string ⟨#[]⟩,.int .u32 0,.int .u32 0,.slice none 0 0,.slice none 0 0,.slice none 0 0,.slice none 0 0,.slice none 0 0,.slice none 0 0,.slice none 0 0,.slice none 0 0] 31)).heap.size=w.heap.size+1:=by simp
  rw [hW3,<-e]
  exact heap_alloc_new _ _)
 have HO:Hid (W3.heap[w.heap.size]?=some (.cells #[.int .i64 0,.string ⟨#[]⟩,.string ⟨#[]⟩,.int .u32 0,.int .u32 0,.slice none 0 0,.slice none 0 0,.slice none 0 0,.slice none 0 0,.slice none 0 0,.slice none 0 0,.slice none 0 0,.slice none 0 0] 31 (0,0))):=zh (by
  rw [hW3,(ext_alloc (w.alloc (.cells #[.int .i64 0,.string ⟨#[]⟩,.string ⟨#[]⟩,.int .u32 0,.int .u32 0,.slice none 0 0,.slice none 0 0,.slice none 0 0,.slice none 0 0,.slice none 0 0,.slice none 0 0,.slice none 0 0,.slice none 0 0] 31)) (.cells #[.int .i64 18,.string ⟨#[]⟩,.string ⟨#[]⟩,.int .u32 n,.int .u32 0,.slice none 0 0,.slice none 0 0,.slice none 0 0,.slice none 0 0,.slice none 0 0,.slice none 0 0,.slice none 0 0,.slice none 0 0] 31)).block w.heap.size (by simp)]
  exact heap_alloc_new _ _)
 have HMB:Hid (w.heap.size+1 < W3.heap.size):=zh (zl HM3.out)
 have HOB:Hid (w.heap.size < W3.heap.size):=zh (zl HO.out)
 have HLM:Hid (mb < w.heap.size):=zh hown.lt
 have hq1:=XW.out.cell (zc hblk 1 (.map (some mb)) rfl)
 have HOWN:Hid (W3.ownsMap Tryz.prog 9 (plainElem (H:=Unit) Tryz.prog 9) mb nn (mapOf ps)):=zh (own_map (w:=w) hown (XW.out.block _ HLM.out))
 have HSZ:Hid (Maps.size (mapOf ps)<=1000):=zh (Nat.le_trans (size_map hown) hnn)
 have HSR:=zh hsr
 have HN:=zh hn
 have HNP:=zh (names_perm hsr hown)
 have hqm:=HOWN
 rw [hW3]at hq1
 obtain⟨i0,hi,hz0,hz1,hz2⟩:=info_parts info60
 clear hblk hown hnn hsr hn
 go_enter Tryz.func48,Tryz.ntmps48
 go_wp2_with (first|(at_range;rw [<-hW3];clear hq0 hq1 hqm hW3;refine wpList_range_own _ rfl _ 150 rfl 9 9 lawS Tryz.underlying150 _ mb nn _ rfl HOWN.out ?_;intro w0 hrg0 hg0 hs0)|go_in)
 try go_frame
 go_loopw [21] (fun _ wr=>∃(left:Lit->Bool) (cnt:Nat) (out:List Pr) (A:Option Addr) (c:Nat),wr.ranges Tryz.prog 9 (plainElem (H:=Unit) Tryz.prog 9) mb W3.heap.size nn (mapOf ps) left cnt/\Hid (out.length+cnt<=Maps.size (mapOf ps)/\wr.heap[w.heap.size+1]?=some (.cells #[.int .i64 18,.string ⟨#[]⟩,.string ⟨#[]⟩,.int .u32 n,.int .u32 0,.slice none 0 0,.slice none 0 0,.slice none 0 0,.slice none 0 0,.slice none 0 0,.slice none 0 0,.slice A out.length c,.slice none 0 0] 31 (0,0))/\ExtBut (w.heap.size+1) W3 wr)/\wr.ownsRow W3.heap.size 60 2 (.slice A out.length c) out.length (out.flatMap prV)/\Collected (mapOf ps) left (out.map fun p=>kb p.1)/\Hid (∀p∈out,p∈ps)) (fun _ wr=>wr.rangeLeft mb W3.heap.size)
 case atStart=>
  have hg0b:ExtBut (w.heap.size+1) W3 w0:=⟨hg0.os,hg0.tape,hg0.output,hg0.size,fun k hk _=>hg0.block k hk (by simp)⟩
  exact⟨_,_,[],none,0,hrg0,zh ⟨by simp,(hg0.block _ (zl HM3.out) (by simp)).trans HM3.out,hg0b⟩,World.ownsRow_nil _ _ _ _,Collected.start _,zh nofun⟩
 case round=>
  obtain⟨left,cnt,out,A,c,hrg,HH,hrow,hC,HI⟩:=hrel
  clear hrg0 hg0 hs0
  have hcM:=zc HH.out.2.1 11 (.slice A out.length c) rfl
  go_wp2_with (first
   | (at_next;refine wpList_next_ranges _ rfl _ rfl 9 lawS (plainElem Tryz.prog 9) encStr (Value.string) (fun key kl hk=>by obtain⟨x,hx,_⟩:=Maps.keyOf_str Tryz.underlying9 hk;exact⟨x,hx⟩) (fun v y hv=>by obtain⟨c,rfl,_⟩:=plainElem_string_inv Tryz.underlying9 hv;exact⟨c,rfl⟩) mb W3.heap.size nn _ _ _ rfl hrg ?_ ?_)
   | go_in)
  ·intro hc0 hl0
   have hP:=(hC.perm hrg.owns lawS Tryz.underlying9 hl0).trans HNP.out.symm
   have hlen:out.length=ps.length:=by have:=hP.length_eq;simpa using this
   have hnd:out.Nodup:=(List.pairwise_map.1 hC.1).imp fun {p q} h e=>h (by rw [e])
   have HPE:=zh (perm_of_sub out ps hnd HI.out hlen)
   have HLN:=zh hlen
   have HSO:=zh (sorted64 out A c W3.heap.size wr hrow (by omega))
   clear hP hlen hnd hrow hC HI
   go_wp2_with (first|(go_at_call 64;refine HSO.out.mono ?_;rintro e w5 ⟨rfl,hg5,l,hl5,hs5,hr5⟩;have HL:=zh (sort_unique l ps (hl5.trans HPE.out) hs5 (srt_lt HSR.out));have HR5:=zh hr5;have hoff:∀g,(Value.slice A out.length c).ownBlock=some g->W3.heap.size<=g:=fun g hg=>(hr5.lt g hg).1;have HG5:=zh hg5;have HM5:=zh ((hg5.block _ (zl HH.out.2.1) (fun e=>by have:=hoff _ e.symm;have:=HMB.out;omega)).trans HH.out.2.1);have HX5:Hid (ExtBut (w.heap.size+1) W3 w5):=zh (HH.out.2.2.turned hg5 hoff);have HO5:=zh ((HX5.out.block w.heap.size HOB.out (by omega)).trans HO.out);clear hg5 hl5 hs5 hr5 hoff hcM;have hz11:=zc HM5.out 11 (.slice A out.length c) rfl;have hy11:=free_slot HM5.out 11;have HO6:Hid (∀u,(w5.setCell ⟨w.heap.size+1,11,none⟩ u).heap[w.heap.size]?=some (.cells #[.int .i64 0,.string ⟨#[]⟩,.string ⟨#[]⟩,.int .u32 0,.int .u32 0,.slice none 0 0,.slice none 0 0,.slice none 0 0,.slice none 0 0,.slice none 0 0,.slice none 0 0,.slice none 0 0,.slice none 0 0] 31 (0,0))):=zh (fun u=>(heap_setCell_other _ _ _ _ (by simp only [ne_eq];omega)).trans HO5.out))|(refine wpList_load_row rfl 31 (.tmp 5) rfl (w.heap.size+1) rfl 31 #[.int .i64 18,.string ⟨#[]⟩,.string ⟨#[]⟩,.int .u32 n,.int .u32 0,.slice none 0 0,.slice none 0 0,.slice none 0 0,.slice none 0 0,.slice none 0 0,.slice none 0 0,.slice A out.length c,.slice none 0 0] (0,0) _ (slot_setCell (j:=11) HM5.out) Tryz.underlying31 rfl size31 ?_)|(refine wpList_store_row rfl 31 (.tmp 4) (.tmp 256) rfl w.heap.size #[.int .i64 18,.string ⟨#[]⟩,.string ⟨#[]⟩,.int .u32 n,.int .u32 0,.slice none 0 0,.slice none 0 0,.slice none 0 0,.slice none 0 0,.slice none 0 0,.slice none 0 0,.slice A out.length c,.slice none 0 0] (by simp only [evp_none,ne_eq,Nat.reduceEqDiff,not_false_eq_true,evp_ne];rfl) (by rw [evp_same _ _ _ (by simp [evp_size])]) 31 _ (HO6.out _) size31 rfl one13 ?_))
   (try simp only [Exit.inBlock,Exit.then])
   refine bodyPost_end (results_cell_row (P:=Tryz.prog) rfl _ _ w.heap.size 31 #[.int .i64 18,.string ⟨#[]⟩,.string ⟨#[]⟩,.int .u32 n,.int .u32 0,.slice none 0 0,.slice none 0 0,.slice none 0 0,.slice none 0 0,.slice none 0 0,.slice none 0 0,.slice A out.length c,.slice none 0 0] (0,0) _ rfl (setRow_heap _ _ _ _ _ _ (HO6.out _)) Tryz.underlying31 rfl size31) rfl ?_
   have hR:=HR5.out
   rw [HL.out,HLN.out]at hR
   rw [HLN.out]
   refine tells_ofP (((zr.but.row _).ext ((HX5.out.ext XW.out (by omega)).set (by omega) _ _) (Nat.le_refl _))) ?_ HN.out
   refine keeps_tell (W:=W3) (fun w3 h3=>?_) XW.out.size HOB.out HMB.out
   exact rdm_of (own_stay (w:=W3) (w':=w5) (own_zero hR) (fun g hg=>by have:=(hR.lt g hg).1;omega) h3) (rws_flat _ _)
  ·intro x cv kl yd yp w2 cnt2 hkey hlk hv hat hrg2 hlt hg2 hs2 hen
   obtain⟨x',ex,rfl,_⟩:=Maps.keyOf_str Tryz.underlying9 hkey
   obtain rfl:x=x':=encStr_inj ex
   have hrow2:=hrow.kept hg2 (Or.inr (row_ne_iter hrow hrg).symm)
   have HMI:Hid (((⟨x.toArray⟩,cv):Pr)∈ps):=zh (mem_of_at HSR.out hat (by obtain⟨s,e1,e2,_⟩:=plainElem_string_inv Tryz.underlying9 hv;cases e1;exact congrArg Prod.fst e2))
   have hrM:w.heap.size+1≠W3.heap.size:=by have:=zl HM3.out;omega
   have HM2:=zh ((hg2.block _ (zl HH.out.2.1) (fun e=>hrM (Option.some.inj e))).trans HH.out.2.1)
   have HX2:Hid (ExtBut (w.heap.size+1) W3 w2):=zh (HH.out.2.2.turned hg2 (fun g hg=>by have h9:=Option.some.inj hg;omega))
   have hc2:=zc HM2.out 11 (.slice A out.length c) rfl
   have HL2:=zh (show out.length+1<=1000 from by have:=HH.out.1;have:=HSZ.out;omega)
   have hol:out.length+1<=1000:=HL2.out
   clear hs2 hcM hv hkey ex
   have HRW:=zh hrow2
   have HCK:=zh hC
   have HRG:=zh hrg
   clear hrow hC hrg
   go_wp2_with (first
    | (at_builtin;refine wpList_append_own _ rfl (.tmp 245) (.tmp 249) 28 rfl W3.heap.size 60 i0 _ 2 32 Tryz.underlying28 hi hz0 hz1 hz2 rfl (by decide) _ _ _ rfl (HRW.out.alloc _) ⟨w2.heap.size,0,none⟩ 1 1 [encStr x,.string cv] rfl rfl (cell_two_new _ _ _ _) (by simp [Value.oneCell',encStr]) (by unfold maxLen;omega) (by omega) (by have:=HX2.out.size;simp;omega) ?_;intro v' w3 hown' hg3 hnil3;obtain⟨A9,c9,hv9⟩:=own_slice (own_zero hown');subst hv9;have HOW:=zh hown';have HG3:=zh hg3;have hneM:some (w.heap.size+1)≠(Value.slice A out.length c).ownBlock:=(fun e=>by have:=(HRW.out.lt _ e.symm).1;have:=HMB.out;omega);have HM3':=zh ((hg3.block _ (by have:=zl HM2.out;simp;omega) hneM).trans (((ext_alloc w2 _).block _ (zl HM2.out)).trans HM2.out));have hz11:=zc HM3'.out 11 (.slice A out.length c) rfl;have hy11:=free_slot HM3'.out 11;clear hown' hg3 hnil3 hneM)
    | go_in)
   have hrow2:=HRW.out
   have hrg3:=(hrg2.alloc (.cells #[encStr x,.string cv] 60)).kept HG3.out (row_ne_low hrow2 (by have:=HLM.out;have:=XW.out.size;omega)) (row_ne_iter hrow2 hrg2)
   have hgS:w3.grownBy (w3.setCell ⟨w.heap.size+1,11,none⟩ (.slice A9 (out.length+1) c9)) (some (w.heap.size+1)):=⟨rfl,rfl,rfl,by simp [World.setCell],fun k hk hkb=>heap_setCell_other _ _ _ _ (fun e=>hkb (by rw [e]))⟩
   have hrg4:=hrg3.kept hgS (fun e=>by have h9:=Option.some.inj e;have:=HLM.out;omega) (fun e=>hrM (Option.some.inj e).symm)
   go_roundw
   case rel=>
    refine⟨_,cnt2,out++ [(⟨x.toArray⟩,cv)],A9,c9,hrg4,zh ⟨by have:=HH.out.1;simp;omega,?_,?_⟩,?_,?_,zh ?_⟩
    ·have h9:=slot_setCell (j:=11) (u:=.slice A9 (out.length+1) c9) HM3'.out
     rw [List.length_append]
     exact h9
    ·exact((HX2.out.trans (ext_alloc w2 (.cells #[encStr x,.string cv] 60)).but).turned HG3.out (fun g hg=>(HRW.out.lt g hg).1)).set _ _
    ·have h9:=HOW.out.kept hgS (Or.inr (fun e=>by have:=(HOW.out.lt _ e).1;have:=HMB.out;omega))
     rw [List.length_append,List.flatMap_append]
     exact h9
    ·rw [List.map_append]
     exact HCK.out.step hlk hat
    ·intro p hp
     rcases List.mem_append.1 hp with h|h
     ·exact HI.out p h
     ·rw [List.mem_singleton.1 h];exact HMI.out
   case measure=>rw [hrg4.left_eq,HRG.out.left_eq];exact hlt
end Go.Proofs.YtdenjanihikolaaGreatDoor
