/- told and answered by kind: Tdd. -/
import Derived.Test.YtdenjanihikolaaGreatDoorRqA0
import Derived.Test.YtdenjanihikolaaGreatDoorRqA1
import Derived.Test.YtdenjanihikolaaGreatDoorRqDkg
import Derived.Test.YtdenjanihikolaaGreatDoorRqFit
import Derived.Test.YtdenjanihikolaaGreatDoorRqTa
import Derived.Test.YtdenjanihikolaaGreatDoorRqSmu
namespace Go.Proofs.YtdenjanihikolaaGreatDoor
set_option linter.unusedVariables false
set_option linter.unusedSimpArgs false
set_option maxRecDepth 100000
set_option maxHeartbeats 4000000
open Go.RowKit Og
theorem told1 (n:Int)(d:List Int)(Ad:Option Addr)(cd:Nat)(w:World)(bk:Nat)(hblk:w.heap[bk]?=some (.cells #[.int .u32 n,.slice Ad d.length cd] 110 (0,0)))(hn:0<=n/\n < 4294967296)(HD:Hid (RdB w (.slice Ad d.length cd) d))(hld:d.length<=500)(hgd:∀y∈d,0<=y/\y < 256):
 Calls Tryz.prog 48 #[.int .i64 1,.iface 108 (.pointer (some ⟨bk,0,none⟩))] w (Tells 1 (DecP 1 ⟨#[]⟩ ⟨#[]⟩ n [] [] [] d [] [] [] []) w):=by
 have n101:=no101 108
 have y108:=yes108
 obtain⟨W2,hW2,XW,HM,HO,HMB,HOB⟩:=made31 w 1
 have HX0:=zh (zc hblk 0 (.int .u32 n) rfl)
 have HX1:=zh (zc hblk 1 (.slice Ad d.length cd) rfl)
 clear hblk
 go_enter Tryz.func48,Tryz.ntmps48
 go_wp2
 rw [<-hW2]
 clear hW2
 refine wp_region_ogL (J:=TJ (w.heap.size+1) W2 #[.int .i64 1,.string ⟨#[]⟩,.string ⟨#[]⟩,.int .u32 0,.int .u32 0,.slice none 0 0,.slice none 0 0,.slice none 0 0,.slice none 0 0,.slice none 0 0,.slice none 0 0,.slice none 0 0,.slice none 0 0] [(10,3,(fun _=> .int .u32 n)),(12,9,(fun vs=> .slice (slA (vs 8)) (d.length) (slC (vs 8))))]) (R:=ExtBut (w.heap.size+1)) [Sp.eq _ (.pointer (some ⟨bk,0,none⟩)),Sp.eq _ (.pointer (some ⟨bk,0,none⟩)),Sp.eq _ (.pointer (some ⟨bk,0,none⟩)),Sp.eq _ (.int .u32 n),Sp.eq _ (.pointer (some ⟨bk,0,none⟩)),Sp.eq _ (.pointer (some ⟨bk,0,none⟩)),Sp.eq _ (.pointer (some ⟨bk,1,none⟩)),Sp.eq _ (.slice Ad d.length cd),spB (fun v w=>RdB w v d) (d.length) (w.heap.size+1) W2 HMB.out,Sp.eq _ (.pointer (some ⟨w.heap.size+1,3,none⟩)),Sp.any _,Sp.eq _ (.pointer (some ⟨w.heap.size+1,9,none⟩)),Sp.any _] (by kernel_rfl) (by kernel_rfl) ?_ ?_ ?_
 ·exact TJ.start HM.out
 ·refine⟨?_,?_,?_,?_,?_,?_,?_,?_,?_,?_,?_,?_,?_,trivial⟩
  all_goals try(intro vs w1 L hLi hd hdt hJ hp;have HXW:=zh (hJ.ext.ext XW.out (by omega));have h0:=HXW.out.cell HX0.out;have h1:=HXW.out.cell HX1.out;have HJ:=zh hJ;simp [deps,Region.binds,Sp.eq,Sp.any]at hp;(try obtain⟨hp,hp'⟩:=hp);clear hd hdt hLi hJ;simp only [putAll,Nat.reduceAdd];go_wp2;exact⟨rfl,HJ.out.keep zr _ _ (by simp [upd]),zr.but,rfl⟩)
  ·intro vs w1 L hLi hd hdt hJ hp
   have q7:vs 7=_:=zd hp 7
   have HJ:=zh hJ
   have HXW:=zh (hJ.ext.ext XW.out (by omega))
   have hLs12:=zh (zd hdt 12)
   clear hp hd hdt hLi hJ
   simp only [putAll,Nat.reduceAdd]
   go_wp2_with (go_at_call 47;refine(copiedK _ d _ (HD.out.ext HXW.out) (by omega)).mono ?_;rintro e w2 ⟨A2,c2,rfl,hx2,hk2⟩;have HX2:=zh hx2;have HK2:=zh hk2;clear hx2 hk2)
   exact⟨rfl,HJ.out.keep HX2.out _ _ (by simp [upd,hLs12.out]),HX2.out.but,PR.made (R:=(fun v w=>RdB w v d)) HK2.out HJ.out.ext.size⟩
  ·intro vs w1 L hLi hd hdt hJ hp
   have q0:vs 0=_:=zd hp 0
   have q1:vs 1=_:=zd hp 1
   have q2:vs 2=_:=zd hp 2
   have q3:vs 3=_:=zd hp 3
   have q7:vs 7=_:=zd hp 7
   have q9:vs 9=_:=zd hp 9
   have HJ:=zh hJ
   obtain⟨⟨_,hz⟩,hy⟩:=hJ.has 3 (show 3 < 13 by omega)
   have HL:=zh hLi
   clear hp hd hdt hLi hJ
   simp only [putAll,Nat.reduceAdd]
   go_wp2
   exact⟨rfl,HJ.out.on HL.out _ _ _ (by simp [upd]) (by simp),zr.but.set _ _,trivial⟩
  ·intro vs w1 L hLi hd hdt hJ hp
   have q0:vs 0=_:=zd hp 0
   have q1:vs 1=_:=zd hp 1
   have q2:vs 2=_:=zd hp 2
   have q3:vs 3=_:=zd hp 3
   have q4:vs 4=_:=zd hp 4
   have q5:vs 5=_:=zd hp 5
   have q6:vs 6=_:=zd hp 6
   have q7:vs 7=_:=zd hp 7
   have q9:vs 9=_:=zd hp 9
   have q11:vs 11=_:=zd hp 11
   have HJ:=zh hJ
   have hpv:PR (fun v w=>RdB w v d) (d.length) W2 (vs 8) w1:=zd hp 8
   have HV:=zh hpv.1
   clear hpv
   obtain⟨⟨_,hz⟩,hy⟩:=hJ.has 9 (show 9 < 13 by omega)
   have HL:=zh hLi
   clear hp hd hdt hLi hJ
   simp only [putAll,Nat.reduceAdd]
   rw [HV.out]
   go_wp2
   exact⟨rfl,HJ.out.on HL.out _ _ _ (by simp [upd]) (by simp),zr.but.set _ _,trivial⟩
 ·intro vs w1 L hall hJ hp
  have hL10:=zd hall 10
  have hL12:=zd hall 12
  have hbk:=hJ.blk
  simp [cellsT,hL10,hL12]at hbk
  have HBK:=zh hbk
  have HE:=zh hJ.ext
  have HP9:Hid (PR (fun v w=>RdB w v d) (d.length) W2 (vs 8) w1):=zh (zd hp 8)
  clear hp hall hJ hbk hL10 hL12
  simp only [putAll,Nat.reduceAdd]
  have HOX:=zh ((HE.out.block _ HOB.out (by omega)).trans HO.out)
  have HK9:=zh (HP9.out.tell (b:=w.heap.size) (cs:= #[.int .i64 1,.string ⟨#[]⟩,.string ⟨#[]⟩,.int .u32 n,.int .u32 0,.slice none 0 0,.slice none 0 0,.slice none 0 0,.slice none 0 0,.slice (slA (vs 8)) (d.length) (slC (vs 8)),.slice none 0 0,.slice none 0 0,.slice none 0 0]) XW.out.size HOB.out)
  simp only [Exit.then,Exit.inBlock]
  go_at_K
  simp only [Act.put,List.setIfInBounds_toArray,List.set_cons_zero,List.set_cons_succ]
  go_wp2_with (first|(refine wpList_load_row rfl 31 (.tmp 5) rfl (w.heap.size+1) rfl 31 #[.int .i64 1,.string ⟨#[]⟩,.string ⟨#[]⟩,.int .u32 n,.int .u32 0,.slice none 0 0,.slice none 0 0,.slice none 0 0,.slice none 0 0,.slice (slA (vs 8)) (d.length) (slC (vs 8)),.slice none 0 0,.slice none 0 0,.slice none 0 0] (0,0) _ HBK.out Tryz.underlying31 rfl size31 ?_)|(refine wpList_store_row rfl 31 (.tmp 4) (.tmp 256) rfl w.heap.size #[.int .i64 1,.string ⟨#[]⟩,.string ⟨#[]⟩,.int .u32 n,.int .u32 0,.slice none 0 0,.slice none 0 0,.slice none 0 0,.slice none 0 0,.slice (slA (vs 8)) (d.length) (slC (vs 8)),.slice none 0 0,.slice none 0 0,.slice none 0 0] (by simp only [evp_none,ne_eq,Nat.reduceEqDiff,not_false_eq_true,evp_ne];rfl) (by rw [evp_same _ _ _ (by simp [evp_size])]) 31 _ HOX.out size31 rfl one13 ?_))
  (try simp only [Exit.inBlock,Exit.then])
  refine bodyPost_end (results_cell_row (P:=Tryz.prog) rfl _ _ w.heap.size 31 #[.int .i64 1,.string ⟨#[]⟩,.string ⟨#[]⟩,.int .u32 n,.int .u32 0,.slice none 0 0,.slice none 0 0,.slice none 0 0,.slice none 0 0,.slice (slA (vs 8)) (d.length) (slC (vs 8)),.slice none 0 0,.slice none 0 0,.slice none 0 0] (0,0) _ rfl (setRow_heap _ _ _ _ _ _ HOX.out) Tryz.underlying31 rfl size31) rfl ?_
  exact tells_of (((Ext.refl w1).but.row _).ext (HE.out.ext XW.out (by omega)) (Nat.le_refl _)) (fun _ _=>rdi_nil _ _) (fun _ _=>rdi_nil _ _) (fun _ _=>rdi_nil _ _) (fun _ _=>rdm_nil _ _ _) HK9.out (fun _ _=>rd1_nil _ _) hn (nofun) hgd (nofun)
theorem told2 (n:Int)(a:ByteArray)(w:World)(bk:Nat)(hblk:w.heap[bk]?=some (.cells #[.int .u8 n,.string a] 113 (0,0)))(hn:0<=n/\n < 256):
 Calls Tryz.prog 48 #[.int .i64 2,.iface 111 (.pointer (some ⟨bk,0,none⟩))] w (Tells 2 (DecP 2 a ⟨#[]⟩ n [] [] [] [] [] [] [] []) w):=by
 have n101:=no101 111
 have n108:=no108 111
 have y111:=yes111
 obtain⟨W2,hW2,XW,HM,HO,HMB,HOB⟩:=made31 w 2
 have HX0:=zh (zc hblk 0 (.int .u8 n) rfl)
 have HX1:=zh (zc hblk 1 (.string a) rfl)
 clear hblk
 go_enter Tryz.func48,Tryz.ntmps48
 go_wp2
 rw [<-hW2]
 clear hW2
 have hwr:IntKind.u32.wrap n=n:=by rw [IntKind.wrap_u32];omega
 have hwr2:n % 4294967296=n:=by omega
 refine wp_region_ogL (J:=TJ (w.heap.size+1) W2 #[.int .i64 2,.string ⟨#[]⟩,.string ⟨#[]⟩,.int .u32 0,.int .u32 0,.slice none 0 0,.slice none 0 0,.slice none 0 0,.slice none 0 0,.slice none 0 0,.slice none 0 0,.slice none 0 0,.slice none 0 0] [(10,3,(fun _=> .int .u32 n)),(12,1,(fun _=> .string a))]) (R:=ExtBut (w.heap.size+1)) [Sp.eq _ (.pointer (some ⟨bk,0,none⟩)),Sp.eq _ (.pointer (some ⟨bk,0,none⟩)),Sp.eq _ (.pointer (some ⟨bk,0,none⟩)),Sp.eq _ (.int .u8 n),Sp.eq _ (.int .u32 n),Sp.eq _ (.pointer (some ⟨bk,0,none⟩)),Sp.eq _ (.pointer (some ⟨bk,0,none⟩)),Sp.eq _ (.pointer (some ⟨bk,1,none⟩)),Sp.eq _ (.string a),Sp.eq _ (.pointer (some ⟨w.heap.size+1,3,none⟩)),Sp.any _,Sp.eq _ (.pointer (some ⟨w.heap.size+1,1,none⟩)),Sp.any _] (by kernel_rfl) (by kernel_rfl) ?_ ?_ ?_
 ·exact TJ.start HM.out
 ·refine⟨?_,?_,?_,?_,?_,?_,?_,?_,?_,?_,?_,?_,?_,trivial⟩
  all_goals try(intro vs w1 L hLi hd hdt hJ hp;have HXW:=zh (hJ.ext.ext XW.out (by omega));have h0:=HXW.out.cell HX0.out;have h1:=HXW.out.cell HX1.out;have HJ:=zh hJ;simp [deps,Region.binds,Sp.eq,Sp.any]at hp;(try obtain⟨hp,hp'⟩:=hp);clear hd hdt hLi hJ;simp only [putAll,Nat.reduceAdd];go_wp2;exact⟨rfl,HJ.out.keep zr _ _ (by simp [upd]),zr.but,rfl⟩)
  all_goals try(intro vs w1 L hLi hd hdt hJ hp;obtain⟨⟨_,hz3⟩,hy3⟩:=hJ.has 3 (show 3 < 13 by omega);obtain⟨⟨_,hz1⟩,hy1⟩:=hJ.has 1 (show 1 < 13 by omega);have HJ:=zh hJ;have HL:=zh hLi;simp [deps,Region.binds,Sp.eq,Sp.any]at hp;clear hd hdt hLi hJ;simp only [putAll,Nat.reduceAdd,hp];clear hp;go_wp2;exact⟨rfl,HJ.out.on HL.out _ _ _ (by simp [upd]) (by simp),zr.but.set _ _,trivial⟩)
 ·intro vs w1 L hall hJ hp
  have hL10:=zd hall 10
  have hL12:=zd hall 12
  have hbk:=hJ.blk
  simp [cellsT,hL10,hL12]at hbk
  have HBK:=zh hbk
  have HE:=zh hJ.ext
  clear hp hall hJ hbk hL10 hL12
  simp only [putAll,Nat.reduceAdd]
  have HOX:=zh ((HE.out.block _ HOB.out (by omega)).trans HO.out)
  simp only [Exit.then,Exit.inBlock]
  go_at_K
  simp only [Act.put,List.setIfInBounds_toArray,List.set_cons_zero,List.set_cons_succ]
  go_wp2_with (first|(refine wpList_load_row rfl 31 (.tmp 5) rfl (w.heap.size+1) rfl 31 #[.int .i64 2,.string a,.string ⟨#[]⟩,.int .u32 n,.int .u32 0,.slice none 0 0,.slice none 0 0,.slice none 0 0,.slice none 0 0,.slice none 0 0,.slice none 0 0,.slice none 0 0,.slice none 0 0] (0,0) _ HBK.out Tryz.underlying31 rfl size31 ?_)|(refine wpList_store_row rfl 31 (.tmp 4) (.tmp 256) rfl w.heap.size #[.int .i64 2,.string a,.string ⟨#[]⟩,.int .u32 n,.int .u32 0,.slice none 0 0,.slice none 0 0,.slice none 0 0,.slice none 0 0,.slice none 0 0,.slice none 0 0,.slice none 0 0,.slice none 0 0] (by simp only [evp_none,ne_eq,Nat.reduceEqDiff,not_false_eq_true,evp_ne];rfl) (by rw [evp_same _ _ _ (by simp [evp_size])]) 31 _ HOX.out size31 rfl one13 ?_))
  (try simp only [Exit.inBlock,Exit.then])
  refine bodyPost_end (results_cell_row (P:=Tryz.prog) rfl _ _ w.heap.size 31 #[.int .i64 2,.string a,.string ⟨#[]⟩,.int .u32 n,.int .u32 0,.slice none 0 0,.slice none 0 0,.slice none 0 0,.slice none 0 0,.slice none 0 0,.slice none 0 0,.slice none 0 0,.slice none 0 0] (0,0) _ rfl (setRow_heap _ _ _ _ _ _ HOX.out) Tryz.underlying31 rfl size31) rfl ?_
  exact tells_of (((Ext.refl w1).but.row _).ext (HE.out.ext XW.out (by omega)) (Nat.le_refl _)) (fun _ _=>rdi_nil _ _) (fun _ _=>rdi_nil _ _) (fun _ _=>rdi_nil _ _) (fun _ _=>rdm_nil _ _ _) (fun _ _=>RdB.nil _) (fun _ _=>rd1_nil _ _) ⟨hn.1,by have:=hn.2;omega⟩ (nofun) (nofun) (nofun)
theorem told6 (n:Int)(a:ByteArray)(w:World)(bk:Nat)(hblk:w.heap[bk]?=some (.cells #[.int .u8 n,.string a] 115 (0,0)))(hn:0<=n/\n < 256):
 Calls Tryz.prog 48 #[.int .i64 6,.iface 114 (.pointer (some ⟨bk,0,none⟩))] w (Tells 6 (DecP 6 a ⟨#[]⟩ n [] [] [] [] [] [] [] []) w):=by
 have n101:=no101 114
 have n108:=no108 114
 have n111:=no111 114
 have y114:=yes114
 obtain⟨W2,hW2,XW,HM,HO,HMB,HOB⟩:=made31 w 6
 have HX0:=zh (zc hblk 0 (.int .u8 n) rfl)
 have HX1:=zh (zc hblk 1 (.string a) rfl)
 clear hblk
 go_enter Tryz.func48,Tryz.ntmps48
 go_wp2
 rw [<-hW2]
 clear hW2
 have hwr:IntKind.u32.wrap n=n:=by rw [IntKind.wrap_u32];omega
 have hwr2:n % 4294967296=n:=by omega
 refine wp_region_ogL (J:=TJ (w.heap.size+1) W2 #[.int .i64 6,.string ⟨#[]⟩,.string ⟨#[]⟩,.int .u32 0,.int .u32 0,.slice none 0 0,.slice none 0 0,.slice none 0 0,.slice none 0 0,.slice none 0 0,.slice none 0 0,.slice none 0 0,.slice none 0 0] [(10,3,(fun _=> .int .u32 n)),(12,1,(fun _=> .string a))]) (R:=ExtBut (w.heap.size+1)) [Sp.eq _ (.pointer (some ⟨bk,0,none⟩)),Sp.eq _ (.pointer (some ⟨bk,0,none⟩)),Sp.eq _ (.pointer (some ⟨bk,0,none⟩)),Sp.eq _ (.int .u8 n),Sp.eq _ (.int .u32 n),Sp.eq _ (.pointer (some ⟨bk,0,none⟩)),Sp.eq _ (.pointer (some ⟨bk,0,none⟩)),Sp.eq _ (.pointer (some ⟨bk,1,none⟩)),Sp.eq _ (.string a),Sp.eq _ (.pointer (some ⟨w.heap.size+1,3,none⟩)),Sp.any _,Sp.eq _ (.pointer (some ⟨w.heap.size+1,1,none⟩)),Sp.any _] (by kernel_rfl) (by kernel_rfl) ?_ ?_ ?_
 ·exact TJ.start HM.out
 ·refine⟨?_,?_,?_,?_,?_,?_,?_,?_,?_,?_,?_,?_,?_,trivial⟩
  all_goals try(intro vs w1 L hLi hd hdt hJ hp;have HXW:=zh (hJ.ext.ext XW.out (by omega));have h0:=HXW.out.cell HX0.out;have h1:=HXW.out.cell HX1.out;have HJ:=zh hJ;simp [deps,Region.binds,Sp.eq,Sp.any]at hp;(try obtain⟨hp,hp'⟩:=hp);clear hd hdt hLi hJ;simp only [putAll,Nat.reduceAdd];go_wp2;exact⟨rfl,HJ.out.keep zr _ _ (by simp [upd]),zr.but,rfl⟩)
  all_goals try(intro vs w1 L hLi hd hdt hJ hp;obtain⟨⟨_,hz3⟩,hy3⟩:=hJ.has 3 (show 3 < 13 by omega);obtain⟨⟨_,hz1⟩,hy1⟩:=hJ.has 1 (show 1 < 13 by omega);have HJ:=zh hJ;have HL:=zh hLi;simp [deps,Region.binds,Sp.eq,Sp.any]at hp;clear hd hdt hLi hJ;simp only [putAll,Nat.reduceAdd,hp];clear hp;go_wp2;exact⟨rfl,HJ.out.on HL.out _ _ _ (by simp [upd]) (by simp),zr.but.set _ _,trivial⟩)
 ·intro vs w1 L hall hJ hp
  have hL10:=zd hall 10
  have hL12:=zd hall 12
  have hbk:=hJ.blk
  simp [cellsT,hL10,hL12]at hbk
  have HBK:=zh hbk
  have HE:=zh hJ.ext
  clear hp hall hJ hbk hL10 hL12
  simp only [putAll,Nat.reduceAdd]
  have HOX:=zh ((HE.out.block _ HOB.out (by omega)).trans HO.out)
  simp only [Exit.then,Exit.inBlock]
  go_at_K
  simp only [Act.put,List.setIfInBounds_toArray,List.set_cons_zero,List.set_cons_succ]
  go_wp2_with (first|(refine wpList_load_row rfl 31 (.tmp 5) rfl (w.heap.size+1) rfl 31 #[.int .i64 6,.string a,.string ⟨#[]⟩,.int .u32 n,.int .u32 0,.slice none 0 0,.slice none 0 0,.slice none 0 0,.slice none 0 0,.slice none 0 0,.slice none 0 0,.slice none 0 0,.slice none 0 0] (0,0) _ HBK.out Tryz.underlying31 rfl size31 ?_)|(refine wpList_store_row rfl 31 (.tmp 4) (.tmp 256) rfl w.heap.size #[.int .i64 6,.string a,.string ⟨#[]⟩,.int .u32 n,.int .u32 0,.slice none 0 0,.slice none 0 0,.slice none 0 0,.slice none 0 0,.slice none 0 0,.slice none 0 0,.slice none 0 0,.slice none 0 0] (by simp only [evp_none,ne_eq,Nat.reduceEqDiff,not_false_eq_true,evp_ne];rfl) (by rw [evp_same _ _ _ (by simp [evp_size])]) 31 _ HOX.out size31 rfl one13 ?_))
  (try simp only [Exit.inBlock,Exit.then])
  refine bodyPost_end (results_cell_row (P:=Tryz.prog) rfl _ _ w.heap.size 31 #[.int .i64 6,.string a,.string ⟨#[]⟩,.int .u32 n,.int .u32 0,.slice none 0 0,.slice none 0 0,.slice none 0 0,.slice none 0 0,.slice none 0 0,.slice none 0 0,.slice none 0 0,.slice none 0 0] (0,0) _ rfl (setRow_heap _ _ _ _ _ _ HOX.out) Tryz.underlying31 rfl size31) rfl ?_
  exact tells_of (((Ext.refl w1).but.row _).ext (HE.out.ext XW.out (by omega)) (Nat.le_refl _)) (fun _ _=>rdi_nil _ _) (fun _ _=>rdi_nil _ _) (fun _ _=>rdi_nil _ _) (fun _ _=>rdm_nil _ _ _) (fun _ _=>RdB.nil _) (fun _ _=>rd1_nil _ _) ⟨hn.1,by have:=hn.2;omega⟩ (nofun) (nofun) (nofun)
theorem told7 (a:ByteArray)(n:Int)(w:World)(bk:Nat)(hblk:w.heap[bk]?=some (.cells #[.string a,.int .u32 n] 124 (0,0)))(hn:0<=n/\n < 4294967296):
 Calls Tryz.prog 48 #[.int .i64 7,.iface 122 (.pointer (some ⟨bk,0,none⟩))] w (Tells 7 (DecP 7 a ⟨#[]⟩ n [] [] [] [] [] [] [] []) w):=by
 have n101:=no101 122
 have n108:=no108 122
 have n111:=no111 122
 have n114:=no114 122
 have n116:=no116 122
 have n119:=no119 122
 have y122:=yes122
 obtain⟨W2,hW2,XW,HM,HO,HMB,HOB⟩:=made31 w 7
 have HX0:=zh (zc hblk 0 (.string a) rfl)
 have HX1:=zh (zc hblk 1 (.int .u32 n) rfl)
 clear hblk
 go_enter Tryz.func48,Tryz.ntmps48
 go_wp2
 rw [<-hW2]
 clear hW2
 refine wp_region_ogL (J:=TJ (w.heap.size+1) W2 #[.int .i64 7,.string ⟨#[]⟩,.string ⟨#[]⟩,.int .u32 0,.int .u32 0,.slice none 0 0,.slice none 0 0,.slice none 0 0,.slice none 0 0,.slice none 0 0,.slice none 0 0,.slice none 0 0,.slice none 0 0] [(9,1,(fun _=> .string a)),(11,3,(fun _=> .int .u32 n))]) (R:=ExtBut (w.heap.size+1)) [Sp.eq _ (.pointer (some ⟨bk,0,none⟩)),Sp.eq _ (.pointer (some ⟨bk,0,none⟩)),Sp.eq _ (.pointer (some ⟨bk,0,none⟩)),Sp.eq _ (.string a),Sp.eq _ (.pointer (some ⟨bk,0,none⟩)),Sp.eq _ (.pointer (some ⟨bk,0,none⟩)),Sp.eq _ (.pointer (some ⟨bk,1,none⟩)),Sp.eq _ (.int .u32 n),Sp.eq _ (.pointer (some ⟨w.heap.size+1,1,none⟩)),Sp.any _,Sp.eq _ (.pointer (some ⟨w.heap.size+1,3,none⟩)),Sp.any _] (by kernel_rfl) (by kernel_rfl) ?_ ?_ ?_
 ·exact TJ.start HM.out
 ·refine⟨?_,?_,?_,?_,?_,?_,?_,?_,?_,?_,?_,?_,trivial⟩
  all_goals try(intro vs w1 L hLi hd hdt hJ hp;have HXW:=zh (hJ.ext.ext XW.out (by omega));have h0:=HXW.out.cell HX0.out;have h1:=HXW.out.cell HX1.out;have HJ:=zh hJ;simp [deps,Region.binds,Sp.eq,Sp.any]at hp;(try obtain⟨hp,hp'⟩:=hp);clear hd hdt hLi hJ;simp only [putAll,Nat.reduceAdd];go_wp2;exact⟨rfl,HJ.out.keep zr _ _ (by simp [upd]),zr.but,rfl⟩)
  all_goals try(intro vs w1 L hLi hd hdt hJ hp;obtain⟨⟨_,hz1⟩,hy1⟩:=hJ.has 1 (show 1 < 13 by omega);obtain⟨⟨_,hz3⟩,hy3⟩:=hJ.has 3 (show 3 < 13 by omega);have HJ:=zh hJ;have HL:=zh hLi;simp [deps,Region.binds,Sp.eq,Sp.any]at hp;clear hd hdt hLi hJ;simp only [putAll,Nat.reduceAdd,hp];clear hp;go_wp2;exact⟨rfl,HJ.out.on HL.out _ _ _ (by simp [upd]) (by simp),zr.but.set _ _,trivial⟩)
 ·intro vs w1 L hall hJ hp
  have hL9:=zd hall 9
  have hL11:=zd hall 11
  have hbk:=hJ.blk
  simp [cellsT,hL9,hL11]at hbk
  have HBK:=zh hbk
  have HE:=zh hJ.ext
  clear hp hall hJ hbk hL9 hL11
  simp only [putAll,Nat.reduceAdd]
  have HOX:=zh ((HE.out.block _ HOB.out (by omega)).trans HO.out)
  simp only [Exit.then,Exit.inBlock]
  go_at_K
  simp only [Act.put,List.setIfInBounds_toArray,List.set_cons_zero,List.set_cons_succ]
  go_wp2_with (first|(refine wpList_load_row rfl 31 (.tmp 5) rfl (w.heap.size+1) rfl 31 #[.int .i64 7,.string a,.string ⟨#[]⟩,.int .u32 n,.int .u32 0,.slice none 0 0,.slice none 0 0,.slice none 0 0,.slice none 0 0,.slice none 0 0,.slice none 0 0,.slice none 0 0,.slice none 0 0] (0,0) _ HBK.out Tryz.underlying31 rfl size31 ?_)|(refine wpList_store_row rfl 31 (.tmp 4) (.tmp 256) rfl w.heap.size #[.int .i64 7,.string a,.string ⟨#[]⟩,.int .u32 n,.int .u32 0,.slice none 0 0,.slice none 0 0,.slice none 0 0,.slice none 0 0,.slice none 0 0,.slice none 0 0,.slice none 0 0,.slice none 0 0] (by simp only [evp_none,ne_eq,Nat.reduceEqDiff,not_false_eq_true,evp_ne];rfl) (by rw [evp_same _ _ _ (by simp [evp_size])]) 31 _ HOX.out size31 rfl one13 ?_))
  (try simp only [Exit.inBlock,Exit.then])
  refine bodyPost_end (results_cell_row (P:=Tryz.prog) rfl _ _ w.heap.size 31 #[.int .i64 7,.string a,.string ⟨#[]⟩,.int .u32 n,.int .u32 0,.slice none 0 0,.slice none 0 0,.slice none 0 0,.slice none 0 0,.slice none 0 0,.slice none 0 0,.slice none 0 0,.slice none 0 0] (0,0) _ rfl (setRow_heap _ _ _ _ _ _ HOX.out) Tryz.underlying31 rfl size31) rfl ?_
  exact tells_of (((Ext.refl w1).but.row _).ext (HE.out.ext XW.out (by omega)) (Nat.le_refl _)) (fun _ _=>rdi_nil _ _) (fun _ _=>rdi_nil _ _) (fun _ _=>rdi_nil _ _) (fun _ _=>rdm_nil _ _ _) (fun _ _=>RdB.nil _) (fun _ _=>rd1_nil _ _) hn (nofun) (nofun) (nofun)
theorem told3 (d:List Int)(Ad:Option Addr)(cd:Nat)(w:World)(bk:Nat)(hblk:w.heap[bk]?=some (.cells #[.slice Ad d.length cd] 118 (0,0)))(HD:Hid (RdB w (.slice Ad d.length cd) d))(hld:d.length<=500)(hgd:∀y∈d,0<=y/\y < 256):
 Calls Tryz.prog 48 #[.int .i64 3,.iface 116 (.pointer (some ⟨bk,0,none⟩))] w (Tells 3 (DecP 3 ⟨#[]⟩ ⟨#[]⟩ 0 [] [] [] d [] [] [] []) w):=by
 have n101:=no101 116
 have n108:=no108 116
 have n111:=no111 116
 have n114:=no114 116
 have y116:=yes116
 obtain⟨W2,hW2,XW,HM,HO,HMB,HOB⟩:=made31 w 3
 have HX0:=zh (zc hblk 0 (.slice Ad d.length cd) rfl)
 clear hblk
 have hq:=XW.out.cell HX0.out
 rw [hW2]at hq
 go_enter Tryz.func48,Tryz.ntmps48
 go_wp2_with (first|(go_at_call 47;clear hq;rw [<-hW2];clear hW2;refine(copiedK _ d _ (HD.out.ext XW.out) (by omega)).mono ?_;rintro e w2 ⟨A2,c2,rfl,hx2,hk2⟩;have HX2:=zh hx2;have HK2:=zh hk2;have HM2:=zh ((hx2.block _ HMB.out).trans HM.out);have HO2:=zh ((hx2.block _ HOB.out).trans HO.out);clear hx2 hk2;have HOB2:Hid (∀u,(w2.setCell ⟨w.heap.size+1,9,none⟩ u).heap[w.heap.size]?=some (.cells #[.int .i64 0,.string ⟨#[]⟩,.string ⟨#[]⟩,.int .u32 0,.int .u32 0,.slice none 0 0,.slice none 0 0,.slice none 0 0,.slice none 0 0,.slice none 0 0,.slice none 0 0,.slice none 0 0,.slice none 0 0] 31 (0,0))):=zh (fun u=>(heap_setCell_other _ _ _ _ (by simp only [ne_eq];omega)).trans HO2.out);have hz:=zc HM2.out 9 (.slice none 0 0) rfl;have hy:=free_slot HM2.out 9)|(refine wpList_load_row rfl 31 (.tmp 5) rfl (w.heap.size+1) rfl 31 #[.int .i64 3,.string ⟨#[]⟩,.string ⟨#[]⟩,.int .u32 0,.int .u32 0,.slice none 0 0,.slice none 0 0,.slice none 0 0,.slice none 0 0,.slice A2 (d.length) c2,.slice none 0 0,.slice none 0 0,.slice none 0 0] (0,0) _ (slot_setCell (j:=9) HM2.out) Tryz.underlying31 rfl size31 ?_)|(refine wpList_store_row rfl 31 (.tmp 4) (.tmp 256) rfl w.heap.size #[.int .i64 3,.string ⟨#[]⟩,.string ⟨#[]⟩,.int .u32 0,.int .u32 0,.slice none 0 0,.slice none 0 0,.slice none 0 0,.slice none 0 0,.slice A2 (d.length) c2,.slice none 0 0,.slice none 0 0,.slice none 0 0] (by simp only [evp_none,ne_eq,Nat.reduceEqDiff,not_false_eq_true,evp_ne];rfl) (by rw [evp_same _ _ _ (by simp [evp_size])]) 31 _ (HOB2.out _) size31 rfl one13 ?_))
 (try simp only [Exit.inBlock,Exit.then])
 refine bodyPost_end (results_cell_row (P:=Tryz.prog) rfl _ _ w.heap.size 31 #[.int .i64 3,.string ⟨#[]⟩,.string ⟨#[]⟩,.int .u32 0,.int .u32 0,.slice none 0 0,.slice none 0 0,.slice none 0 0,.slice none 0 0,.slice A2 (d.length) c2,.slice none 0 0,.slice none 0 0,.slice none 0 0] (0,0) _ rfl (setRow_heap _ _ _ _ _ _ (HOB2.out _)) Tryz.underlying31 rfl size31) rfl ?_
 exact tells_of (((zr.but.row _).ext (((XW.out.trans HX2.out)).set (by omega) _ _) (Nat.le_refl _))) (fun _ _=>rdi_nil _ _) (fun _ _=>rdi_nil _ _) (fun _ _=>rdi_nil _ _) (fun _ _=>rdm_nil _ _ _) (keeps_tell HK2.out XW.out.size HOB.out HMB.out) (fun _ _=>rd1_nil _ _) ⟨by decide,by decide⟩ (nofun) hgd (nofun)
theorem told5 (a:ByteArray)(w:World)(bk:Nat)(hblk:w.heap[bk]?=some (.cells #[.string a] 121 (0,0))):
 Calls Tryz.prog 48 #[.int .i64 5,.iface 119 (.pointer (some ⟨bk,0,none⟩))] w (Tells 5 (DecP 5 a ⟨#[]⟩ 0 [] [] [] [] [] [] [] []) w):=by
 have n101:=no101 119
 have n108:=no108 119
 have n111:=no111 119
 have n114:=no114 119
 have n116:=no116 119
 have y119:=yes119
 obtain⟨W2,hW2,XW,HM,HO,HMB,HOB⟩:=made31 w 5
 have HX0:=zh (zc hblk 0 (.string a) rfl)
 clear hblk
 have hq:=XW.out.cell HX0.out
 rw [hW2]at hq
 go_enter Tryz.func48,Tryz.ntmps48
 go_wp2_with (first|(refine wpList_load_row rfl 31 (.tmp 5) rfl (w.heap.size+1) rfl 31 #[.int .i64 5,.string a,.string ⟨#[]⟩,.int .u32 0,.int .u32 0,.slice none 0 0,.slice none 0 0,.slice none 0 0,.slice none 0 0,.slice none 0 0,.slice none 0 0,.slice none 0 0,.slice none 0 0] (0,0) _ _ Tryz.underlying31 rfl size31 ?_)|(refine wpList_store_row rfl 31 (.tmp 4) (.tmp 256) rfl w.heap.size #[.int .i64 5,.string a,.string ⟨#[]⟩,.int .u32 0,.int .u32 0,.slice none 0 0,.slice none 0 0,.slice none 0 0,.slice none 0 0,.slice none 0 0,.slice none 0 0,.slice none 0 0,.slice none 0 0] (by simp only [evp_none,ne_eq,Nat.reduceEqDiff,not_false_eq_true,evp_ne];rfl) (by rw [evp_same _ _ _ (by simp [evp_size])]) 31 _ _ size31 rfl one13 ?_))
 (try simp only [Exit.inBlock,Exit.then])
 have hob:((w.alloc (.cells #[.int .i64 5,.string a,.string ⟨#[]⟩,.int .u32 0,.int .u32 0,.slice none 0 0,.slice none 0 0,.slice none 0 0,.slice none 0 0,.slice none 0 0,.slice none 0 0,.slice none 0 0,.slice none 0 0] 31)).alloc (.cells #[.int .i64 5,.string a,.string ⟨#[]⟩,.int .u32 0,.int .u32 0,.slice none 0 0,.slice none 0 0,.slice none 0 0,.slice none 0 0,.slice none 0 0,.slice none 0 0,.slice none 0 0,.slice none 0 0] 31)).heap[w.heap.size]?=some (.cells #[.int .i64 5,.string a,.string ⟨#[]⟩,.int .u32 0,.int .u32 0,.slice none 0 0,.slice none 0 0,.slice none 0 0,.slice none 0 0,.slice none 0 0,.slice none 0 0,.slice none 0 0,.slice none 0 0] 31 (0,0)):=((ext_alloc _ _).block w.heap.size (by simp)).trans (heap_alloc_new w _)
 refine bodyPost_end (results_cell_row (P:=Tryz.prog) rfl _ _ w.heap.size 31 #[.int .i64 5,.string a,.string ⟨#[]⟩,.int .u32 0,.int .u32 0,.slice none 0 0,.slice none 0 0,.slice none 0 0,.slice none 0 0,.slice none 0 0,.slice none 0 0,.slice none 0 0,.slice none 0 0] (0,0) _ rfl hob Tryz.underlying31 rfl size31) rfl ?_
 exact tells_of ((ext_alloc w _).alloc _) (fun _ _=>rdi_nil _ _) (fun _ _=>rdi_nil _ _) (fun _ _=>rdi_nil _ _) (fun _ _=>rdm_nil _ _ _) (fun _ _=>RdB.nil _) (fun _ _=>rd1_nil _ _) ⟨by decide,by decide⟩ (nofun) (nofun) (nofun)
theorem told11 (d:List Int)(Ad:Option Addr)(cd:Nat)(w:World)(bk:Nat)(hblk:w.heap[bk]?=some (.cells #[.slice Ad d.length cd] 133 (0,0)))(HD:Hid (RdB w (.slice Ad d.length cd) d))(hld:d.length<=500)(hgd:∀y∈d,0<=y/\y < 256):
 Calls Tryz.prog 48 #[.int .i64 11,.iface 132 (.pointer (some ⟨bk,0,none⟩))] w (Tells 11 (DecP 11 ⟨#[]⟩ ⟨#[]⟩ 0 [] [] [] d [] [] [] []) w):=by
 have n101:=no101 132
 have n108:=no108 132
 have n111:=no111 132
 have n114:=no114 132
 have n116:=no116 132
 have n119:=no119 132
 have n122:=no122 132
 have n125:=no125 132
 have y132:=yes132
 obtain⟨W2,hW2,XW,HM,HO,HMB,HOB⟩:=made31 w 11
 have HX0:=zh (zc hblk 0 (.slice Ad d.length cd) rfl)
 clear hblk
 have hq:=XW.out.cell HX0.out
 rw [hW2]at hq
 go_enter Tryz.func48,Tryz.ntmps48
 go_wp2_with (first|(go_at_call 47;clear hq;rw [<-hW2];clear hW2;refine(copiedK _ d _ (HD.out.ext XW.out) (by omega)).mono ?_;rintro e w2 ⟨A2,c2,rfl,hx2,hk2⟩;have HX2:=zh hx2;have HK2:=zh hk2;have HM2:=zh ((hx2.block _ HMB.out).trans HM.out);have HO2:=zh ((hx2.block _ HOB.out).trans HO.out);clear hx2 hk2;have HOB2:Hid (∀u,(w2.setCell ⟨w.heap.size+1,9,none⟩ u).heap[w.heap.size]?=some (.cells #[.int .i64 0,.string ⟨#[]⟩,.string ⟨#[]⟩,.int .u32 0,.int .u32 0,.slice none 0 0,.slice none 0 0,.slice none 0 0,.slice none 0 0,.slice none 0 0,.slice none 0 0,.slice none 0 0,.slice none 0 0] 31 (0,0))):=zh (fun u=>(heap_setCell_other _ _ _ _ (by simp only [ne_eq];omega)).trans HO2.out);have hz:=zc HM2.out 9 (.slice none 0 0) rfl;have hy:=free_slot HM2.out 9)|(refine wpList_load_row rfl 31 (.tmp 5) rfl (w.heap.size+1) rfl 31 #[.int .i64 11,.string ⟨#[]⟩,.string ⟨#[]⟩,.int .u32 0,.int .u32 0,.slice none 0 0,.slice none 0 0,.slice none 0 0,.slice none 0 0,.slice A2 (d.length) c2,.slice none 0 0,.slice none 0 0,.slice none 0 0] (0,0) _ (slot_setCell (j:=9) HM2.out) Tryz.underlying31 rfl size31 ?_)|(refine wpList_store_row rfl 31 (.tmp 4) (.tmp 256) rfl w.heap.size #[.int .i64 11,.string ⟨#[]⟩,.string ⟨#[]⟩,.int .u32 0,.int .u32 0,.slice none 0 0,.slice none 0 0,.slice none 0 0,.slice none 0 0,.slice A2 (d.length) c2,.slice none 0 0,.slice none 0 0,.slice none 0 0] (by simp only [evp_none,ne_eq,Nat.reduceEqDiff,not_false_eq_true,evp_ne];rfl) (by rw [evp_same _ _ _ (by simp [evp_size])]) 31 _ (HOB2.out _) size31 rfl one13 ?_))
 (try simp only [Exit.inBlock,Exit.then])
 refine bodyPost_end (results_cell_row (P:=Tryz.prog) rfl _ _ w.heap.size 31 #[.int .i64 11,.string ⟨#[]⟩,.string ⟨#[]⟩,.int .u32 0,.int .u32 0,.slice none 0 0,.slice none 0 0,.slice none 0 0,.slice none 0 0,.slice A2 (d.length) c2,.slice none 0 0,.slice none 0 0,.slice none 0 0] (0,0) _ rfl (setRow_heap _ _ _ _ _ _ (HOB2.out _)) Tryz.underlying31 rfl size31) rfl ?_
 exact tells_of (((zr.but.row _).ext (((XW.out.trans HX2.out)).set (by omega) _ _) (Nat.le_refl _))) (fun _ _=>rdi_nil _ _) (fun _ _=>rdi_nil _ _) (fun _ _=>rdi_nil _ _) (fun _ _=>rdm_nil _ _ _) (keeps_tell HK2.out XW.out.size HOB.out HMB.out) (fun _ _=>rd1_nil _ _) ⟨by decide,by decide⟩ (nofun) hgd (nofun)
end Go.Proofs.YtdenjanihikolaaGreatDoor
