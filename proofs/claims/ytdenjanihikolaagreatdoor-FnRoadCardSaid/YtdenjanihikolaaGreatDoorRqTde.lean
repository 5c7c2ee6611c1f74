/- told and answered by kind: Tdf. -/
import Derived.Test.YtdenjanihikolaaGreatDoorRqA0
import Derived.Test.YtdenjanihikolaaGreatDoorRqA1
import Derived.Test.YtdenjanihikolaaGreatDoorRqDkg
import Derived.Test.YtdenjanihikolaaGreatDoorRqFit
import Derived.Test.YtdenjanihikolaaGreatDoorRqTa
import Derived.Test.YtdenjanihikolaaGreatDoorRqSmu
namespace Go.Proofs.YtdenjanihikolaaGreatDoor
set_option linter.unusedVariables false
set_option linter.unusedSimpArgs false
set_option maxRecDepth 100000
set_option maxHeartbeats 4000000
open Go.RowKit Og
theorem told12 (a:ByteArray)(b:ByteArray)(ty:List Int)(At:Option Addr)(ct:Nat)(w:World)(bk:Nat)(hblk:w.heap[bk]?=some (.cells #[.string a,.string b,.slice At ty.length ct] 137 (0,0)))(HT:Hid (RdI .u32 w (.slice At ty.length ct) ty))(hlt:ty.length<=20)(hgt:∀y∈ty,0<=y/\y < 4294967296):
 Calls Tryz.prog 48 #[.int .i64 12,.iface 134 (.pointer (some ⟨bk,0,none⟩))] w (Tells 12 (DecP 12 a b 0 [] [] ty [] [] [] [] []) w):=by
 have n101:=no101 134
 have n108:=no108 134
 have n111:=no111 134
 have n114:=no114 134
 have n116:=no116 134
 have n119:=no119 134
 have n122:=no122 134
 have n125:=no125 134
 have n132:=no132 134
 have y134:=yes134
 obtain⟨W2,hW2,XW,HM,HO,HMB,HOB⟩:=made31 w 12
 have HX0:=zh (zc hblk 0 (.string a) rfl)
 have HX1:=zh (zc hblk 1 (.string b) rfl)
 have HX2:=zh (zc hblk 2 (.slice At ty.length ct) rfl)
 clear hblk
 go_enter Tryz.func48,Tryz.ntmps48
 go_wp2
 rw [<-hW2]
 clear hW2
 refine wp_region_ogL (J:=TJ (w.heap.size+1) W2 #[.int .i64 12,.string ⟨#[]⟩,.string ⟨#[]⟩,.int .u32 0,.int .u32 0,.slice none 0 0,.slice none 0 0,.slice none 0 0,.slice none 0 0,.slice none 0 0,.slice none 0 0,.slice none 0 0,.slice none 0 0] [(14,1,(fun _=> .string a)),(16,2,(fun _=> .string b)),(18,7,(fun vs=> .slice (slA (vs 12)) (ty.length) (slC (vs 12))))]) (R:=ExtBut (w.heap.size+1)) [Sp.eq _ (.pointer (some ⟨bk,0,none⟩)),Sp.eq _ (.pointer (some ⟨bk,0,none⟩)),Sp.eq _ (.pointer (some ⟨bk,0,none⟩)),Sp.eq _ (.string a),Sp.eq _ (.pointer (some ⟨bk,0,none⟩)),Sp.eq _ (.pointer (some ⟨bk,0,none⟩)),Sp.eq _ (.pointer (some ⟨bk,1,none⟩)),Sp.eq _ (.string b),Sp.eq _ (.pointer (some ⟨bk,0,none⟩)),Sp.eq _ (.pointer (some ⟨bk,0,none⟩)),Sp.eq _ (.pointer (some ⟨bk,2,none⟩)),Sp.eq _ (.slice At ty.length ct),spB (fun v w=>RdI .u32 w v ty) (ty.length) (w.heap.size+1) W2 HMB.out,Sp.eq _ (.pointer (some ⟨w.heap.size+1,1,none⟩)),Sp.any _,Sp.eq _ (.pointer (some ⟨w.heap.size+1,2,none⟩)),Sp.any _,Sp.eq _ (.pointer (some ⟨w.heap.size+1,7,none⟩)),Sp.any _] (by kernel_rfl) (by kernel_rfl) ?_ ?_ ?_
 ·exact TJ.start HM.out
 ·refine⟨?_,?_,?_,?_,?_,?_,?_,?_,?_,?_,?_,?_,?_,?_,?_,?_,?_,?_,?_,trivial⟩
  all_goals try(intro vs w1 L hLi hd hdt hJ hp;have HXW:=zh (hJ.ext.ext XW.out (by omega));have h0:=HXW.out.cell HX0.out;have h1:=HXW.out.cell HX1.out;have h2:=HXW.out.cell HX2.out;have HJ:=zh hJ;simp [deps,Region.binds,Sp.eq,Sp.any]at hp;(try obtain⟨hp,hp'⟩:=hp);clear hd hdt hLi hJ;simp only [putAll,Nat.reduceAdd];go_wp2;exact⟨rfl,HJ.out.keep zr _ _ (by simp [upd]),zr.but,rfl⟩)
  all_goals try(intro vs w1 L hLi hd hdt hJ hp;obtain⟨⟨_,hz1⟩,hy1⟩:=hJ.has 1 (show 1 < 13 by omega);obtain⟨⟨_,hz2⟩,hy2⟩:=hJ.has 2 (show 2 < 13 by omega);have HJ:=zh hJ;have HL:=zh hLi;simp [deps,Region.binds,Sp.eq,Sp.any]at hp;clear hd hdt hLi hJ;simp only [putAll,Nat.reduceAdd,hp];clear hp;go_wp2;exact⟨rfl,HJ.out.on HL.out _ _ _ (by simp [upd]) (by simp),zr.but.set _ _,trivial⟩)
  ·intro vs w1 L hLi hd hdt hJ hp
   have q11:vs 11=_:=zd hp 11
   have HJ:=zh hJ
   have HXW:=zh (hJ.ext.ext XW.out (by omega))
   have hLs18:=zh (zd hdt 18)
   clear hp hd hdt hLi hJ
   simp only [putAll,Nat.reduceAdd]
   go_wp2_with (go_at_call 59;refine(cloneI ty At ct _ (HT.out.ext HXW.out) (by omega)).mono ?_;rintro e w2 ⟨A2,c2,rfl,hx2,hk2⟩;have HX2:=zh hx2;have HK2:=zh hk2;clear hx2 hk2)
   exact⟨rfl,HJ.out.keep HX2.out _ _ (by simp [upd,hLs18.out]),HX2.out.but,PR.made (R:=(fun v w=>RdI .u32 w v ty)) HK2.out HJ.out.ext.size⟩
  ·intro vs w1 L hLi hd hdt hJ hp
   have q0:vs 0=_:=zd hp 0
   have q1:vs 1=_:=zd hp 1
   have q2:vs 2=_:=zd hp 2
   have q3:vs 3=_:=zd hp 3
   have q4:vs 4=_:=zd hp 4
   have q5:vs 5=_:=zd hp 5
   have q6:vs 6=_:=zd hp 6
   have q7:vs 7=_:=zd hp 7
   have q8:vs 8=_:=zd hp 8
   have q9:vs 9=_:=zd hp 9
   have q10:vs 10=_:=zd hp 10
   have q11:vs 11=_:=zd hp 11
   have q13:vs 13=_:=zd hp 13
   have q15:vs 15=_:=zd hp 15
   have q17:vs 17=_:=zd hp 17
   have HJ:=zh hJ
   have hpv:PR (fun v w=>RdI .u32 w v ty) (ty.length) W2 (vs 12) w1:=zd hp 12
   have HV:=zh hpv.1
   clear hpv
   obtain⟨⟨_,hz⟩,hy⟩:=hJ.has 7 (show 7 < 13 by omega)
   have HL:=zh hLi
   clear hp hd hdt hLi hJ
   simp only [putAll,Nat.reduceAdd]
   rw [HV.out]
   go_wp2
   exact⟨rfl,HJ.out.on HL.out _ _ _ (by simp [upd]) (by simp),zr.but.set _ _,trivial⟩
 ·intro vs w1 L hall hJ hp
  have hL14:=zd hall 14
  have hL16:=zd hall 16
  have hL18:=zd hall 18
  have hbk:=hJ.blk
  simp [cellsT,hL14,hL16,hL18]at hbk
  have HBK:=zh hbk
  have HE:=zh hJ.ext
  have HP7:Hid (PR (fun v w=>RdI .u32 w v ty) (ty.length) W2 (vs 12) w1):=zh (zd hp 12)
  clear hp hall hJ hbk hL14 hL16 hL18
  simp only [putAll,Nat.reduceAdd]
  have HOX:=zh ((HE.out.block _ HOB.out (by omega)).trans HO.out)
  have HK7:=zh (HP7.out.tell (b:=w.heap.size) (cs:= #[.int .i64 12,.string a,.string b,.int .u32 0,.int .u32 0,.slice none 0 0,.slice none 0 0,.slice (slA (vs 12)) (ty.length) (slC (vs 12)),.slice none 0 0,.slice none 0 0,.slice none 0 0,.slice none 0 0,.slice none 0 0]) XW.out.size HOB.out)
  simp only [Exit.then,Exit.inBlock]
  go_at_K
  simp only [Act.put,List.setIfInBounds_toArray,List.set_cons_zero,List.set_cons_succ]
  go_wp2_with (first|(refine wpList_load_row rfl 31 (.tmp 5) rfl (w.heap.size+1) rfl 31 #[.int .i64 12,.string a,.string b,.int .u32 0,.int .u32 0,.slice none 0 0,.slice none 0 0,.slice (slA (vs 12)) (ty.length) (slC (vs 12)),.slice none 0 0,.slice none 0 0,.slice none 0 0,.slice none 0 0,.slice none 0 0] (0,0) _ HBK.out Tryz.underlying31 rfl size31 ?_)|(refine wpList_store_row rfl 31 (.tmp 4) (.tmp 256) rfl w.heap.size #[.int .i64 12,.string a,.string b,.int .u32 0,.int .u32 0,.slice none 0 0,.slice none 0 0,.slice (slA (vs 12)) (ty.length) (slC (vs 12)),.slice none 0 0,.slice none 0 0,.slice none 0 0,.slice none 0 0,.slice none 0 0] (by simp only [evp_none,ne_eq,Nat.reduceEqDiff,not_false_eq_true,evp_ne];rfl) (by rw [evp_same _ _ _ (by simp [evp_size])]) 31 _ HOX.out size31 rfl one13 ?_))
  (try simp only [Exit.inBlock,Exit.then])
  refine bodyPost_end (results_cell_row (P:=Tryz.prog) rfl _ _ w.heap.size 31 #[.int .i64 12,.string a,.string b,.int .u32 0,.int .u32 0,.slice none 0 0,.slice none 0 0,.slice (slA (vs 12)) (ty.length) (slC (vs 12)),.slice none 0 0,.slice none 0 0,.slice none 0 0,.slice none 0 0,.slice none 0 0] (0,0) _ rfl (setRow_heap _ _ _ _ _ _ HOX.out) Tryz.underlying31 rfl size31) rfl ?_
  exact tells_of (((Ext.refl w1).but.row _).ext (HE.out.ext XW.out (by omega)) (Nat.le_refl _)) (fun _ _=>rdi_nil _ _) (fun _ _=>rdi_nil _ _) HK7.out (fun _ _=>rdm_nil _ _ _) (fun _ _=>RdB.nil _) (fun _ _=>rd1_nil _ _) ⟨by decide,by decide⟩ hgt (nofun) (nofun)
theorem told15 (a:ByteArray)(d:List Int)(Ad:Option Addr)(cd:Nat)(w:World)(bk:Nat)(hblk:w.heap[bk]?=some (.cells #[.string a,.slice Ad d.length cd] 146 (0,0)))(HD:Hid (RdB w (.slice Ad d.length cd) d))(hld:d.length<=500)(hgd:∀y∈d,0<=y/\y < 256):
 Calls Tryz.prog 48 #[.int .i64 15,.iface 144 (.pointer (some ⟨bk,0,none⟩))] w (Tells 15 (DecP 15 a ⟨#[]⟩ 0 [] [] [] d [] [] [] []) w):=by
 have n101:=no101 144
 have n108:=no108 144
 have n111:=no111 144
 have n114:=no114 144
 have n116:=no116 144
 have n119:=no119 144
 have n122:=no122 144
 have n125:=no125 144
 have n132:=no132 144
 have n134:=no134 144
 have n138:=no138 144
 have n141:=no141 144
 have y144:=yes144
 obtain⟨W2,hW2,XW,HM,HO,HMB,HOB⟩:=made31 w 15
 have HX0:=zh (zc hblk 0 (.string a) rfl)
 have HX1:=zh (zc hblk 1 (.slice Ad d.length cd) rfl)
 clear hblk
 go_enter Tryz.func48,Tryz.ntmps48
 go_wp2
 rw [<-hW2]
 clear hW2
 refine wp_region_ogL (J:=TJ (w.heap.size+1) W2 #[.int .i64 15,.string ⟨#[]⟩,.string ⟨#[]⟩,.int .u32 0,.int .u32 0,.slice none 0 0,.slice none 0 0,.slice none 0 0,.slice none 0 0,.slice none 0 0,.slice none 0 0,.slice none 0 0,.slice none 0 0] [(10,1,(fun _=> .string a)),(12,9,(fun vs=> .slice (slA (vs 8)) (d.length) (slC (vs 8))))]) (R:=ExtBut (w.heap.size+1)) [Sp.eq _ (.pointer (some ⟨bk,0,none⟩)),Sp.eq _ (.pointer (some ⟨bk,0,none⟩)),Sp.eq _ (.pointer (some ⟨bk,0,none⟩)),Sp.eq _ (.string a),Sp.eq _ (.pointer (some ⟨bk,0,none⟩)),Sp.eq _ (.pointer (some ⟨bk,0,none⟩)),Sp.eq _ (.pointer (some ⟨bk,1,none⟩)),Sp.eq _ (.slice Ad d.length cd),spB (fun v w=>RdB w v d) (d.length) (w.heap.size+1) W2 HMB.out,Sp.eq _ (.pointer (some ⟨w.heap.size+1,1,none⟩)),Sp.any _,Sp.eq _ (.pointer (some ⟨w.heap.size+1,9,none⟩)),Sp.any _] (by kernel_rfl) (by kernel_rfl) ?_ ?_ ?_
 ·exact TJ.start HM.out
 ·refine⟨?_,?_,?_,?_,?_,?_,?_,?_,?_,?_,?_,?_,?_,trivial⟩
  all_goals try(intro vs w1 L hLi hd hdt hJ hp;have HXW:=zh (hJ.ext.ext XW.out (by omega));have h0:=HXW.out.cell HX0.out;have h1:=HXW.out.cell HX1.out;have HJ:=zh hJ;simp [deps,Region.binds,Sp.eq,Sp.any]at hp;(try obtain⟨hp,hp'⟩:=hp);clear hd hdt hLi hJ;simp only [putAll,Nat.reduceAdd];go_wp2;exact⟨rfl,HJ.out.keep zr _ _ (by simp [upd]),zr.but,rfl⟩)
  ·intro vs w1 L hLi hd hdt hJ hp
   have q7:vs 7=_:=zd hp 7
   have HJ:=zh hJ
   have HXW:=zh (hJ.ext.ext XW.out (by omega))
   have hLs12:=zh (zd hdt 12)
   clear hp hd hdt hLi hJ
   simp only [putAll,Nat.reduceAdd]
   go_wp2_with (go_at_call 47;refine(copiedK _ d _ (HD.out.ext HXW.out) (by omega)).mono ?_;rintro e w2 ⟨A2,c2,rfl,hx2,hk2⟩;have HX2:=zh hx2;have HK2:=zh hk2;clear hx2 hk2)
   exact⟨rfl,HJ.out.keep HX2.out _ _ (by simp [upd,hLs12.out]),HX2.out.but,PR.made (R:=(fun v w=>RdB w v d)) HK2.out HJ.out.ext.size⟩
  ·intro vs w1 L hLi hd hdt hJ hp
   have q0:vs 0=_:=zd hp 0
   have q1:vs 1=_:=zd hp 1
   have q2:vs 2=_:=zd hp 2
   have q3:vs 3=_:=zd hp 3
   have q7:vs 7=_:=zd hp 7
   have q9:vs 9=_:=zd hp 9
   have HJ:=zh hJ
   obtain⟨⟨_,hz⟩,hy⟩:=hJ.has 1 (show 1 < 13 by omega)
   have HL:=zh hLi
   clear hp hd hdt hLi hJ
   simp only [putAll,Nat.reduceAdd]
   go_wp2
   exact⟨rfl,HJ.out.on HL.out _ _ _ (by simp [upd]) (by simp),zr.but.set _ _,trivial⟩
  ·intro vs w1 L hLi hd hdt hJ hp
   have q0:vs 0=_:=zd hp 0
   have q1:vs 1=_:=zd hp 1
   have q2:vs 2=_:=zd hp 2
   have q3:vs 3=_:=zd hp 3
   have q4:vs 4=_:=zd hp 4
   have q5:vs 5=_:=zd hp 5
   have q6:vs 6=_:=zd hp 6
   have q7:vs 7=_:=zd hp 7
   have q9:vs 9=_:=zd hp 9
   have q11:vs 11=_:=zd hp 11
   have HJ:=zh hJ
   have hpv:PR (fun v w=>RdB w v d) (d.length) W2 (vs 8) w1:=zd hp 8
   have HV:=zh hpv.1
   clear hpv
   obtain⟨⟨_,hz⟩,hy⟩:=hJ.has 9 (show 9 < 13 by omega)
   have HL:=zh hLi
   clear hp hd hdt hLi hJ
   simp only [putAll,Nat.reduceAdd]
   rw [HV.out]
   go_wp2
   exact⟨rfl,HJ.out.on HL.out _ _ _ (by simp [upd]) (by simp),zr.but.set _ _,trivial⟩
 ·intro vs w1 L hall hJ hp
  have hL10:=zd hall 10
  have hL12:=zd hall 12
  have hbk:=hJ.blk
  simp [cellsT,hL10,hL12]at hbk
  have HBK:=zh hbk
  have HE:=zh hJ.ext
  have HP9:Hid (PR (fun v w=>RdB w v d) (d.length) W2 (vs 8) w1):=zh (zd hp 8)
  clear hp hall hJ hbk hL10 hL12
  simp only [putAll,Nat.reduceAdd]
  have HOX:=zh ((HE.out.block _ HOB.out (by omega)).trans HO.out)
  have HK9:=zh (HP9.out.tell (b:=w.heap.size) (cs:= #[.int .i64 15,.string a,.string ⟨#[]⟩,.int .u32 0,.int .u32 0,.slice none 0 0,.slice none 0 0,.slice none 0 0,.slice none 0 0,.slice (slA (vs 8)) (d.length) (slC (vs 8)),.slice none 0 0,.slice none 0 0,.slice none 0 0]) XW.out.size HOB.out)
  simp only [Exit.then,Exit.inBlock]
  go_at_K
  simp only [Act.put,List.setIfInBounds_toArray,List.set_cons_zero,List.set_cons_succ]
  go_wp2_with (first|(refine wpList_load_row rfl 31 (.tmp 5) rfl (w.heap.size+1) rfl 31 #[.int .i64 15,.string a,.string ⟨#[]⟩,.int .u32 0,.int .u32 0,.slice none 0 0,.slice none 0 0,.slice none 0 0,.slice none 0 0,.slice (slA (vs 8)) (d.length) (slC (vs 8)),.slice none 0 0,.slice none 0 0,.slice none 0 0] (0,0) _ HBK.out Tryz.underlying31 rfl size31 ?_)|(refine wpList_store_row rfl 31 (.tmp 4) (.tmp 256) rfl w.heap.size #[.int .i64 15,.string a,.string ⟨#[]⟩,.int .u32 0,.int .u32 0,.slice none 0 0,.slice none 0 0,.slice none 0 0,.slice none 0 0,.slice (slA (vs 8)) (d.length) (slC (vs 8)),.slice none 0 0,.slice none 0 0,.slice none 0 0] (by simp only [evp_none,ne_eq,Nat.reduceEqDiff,not_false_eq_true,evp_ne];rfl) (by rw [evp_same _ _ _ (by simp [evp_size])]) 31 _ HOX.out size31 rfl one13 ?_))
  (try simp only [Exit.inBlock,Exit.then])
  refine bodyPost_end (results_cell_row (P:=Tryz.prog) rfl _ _ w.heap.size 31 #[.int .i64 15,.string a,.string ⟨#[]⟩,.int .u32 0,.int .u32 0,.slice none 0 0,.slice none 0 0,.slice none 0 0,.slice none 0 0,.slice (slA (vs 8)) (d.length) (slC (vs 8)),.slice none 0 0,.slice none 0 0,.slice none 0 0] (0,0) _ rfl (setRow_heap _ _ _ _ _ _ HOX.out) Tryz.underlying31 rfl size31) rfl ?_
  exact tells_of (((Ext.refl w1).but.row _).ext (HE.out.ext XW.out (by omega)) (Nat.le_refl _)) (fun _ _=>rdi_nil _ _) (fun _ _=>rdi_nil _ _) (fun _ _=>rdi_nil _ _) (fun _ _=>rdm_nil _ _ _) HK9.out (fun _ _=>rd1_nil _ _) ⟨by decide,by decide⟩ (nofun) hgd (nofun)
theorem told13 (a:ByteArray)(w:World)(bk:Nat)(hblk:w.heap[bk]?=some (.cells #[.string a] 140 (0,0))):
 Calls Tryz.prog 48 #[.int .i64 13,.iface 138 (.pointer (some ⟨bk,0,none⟩))] w (Tells 13 (DecP 13 a ⟨#[]⟩ 0 [] [] [] [] [] [] [] []) w):=by
 have n101:=no101 138
 have n108:=no108 138
 have n111:=no111 138
 have n114:=no114 138
 have n116:=no116 138
 have n119:=no119 138
 have n122:=no122 138
 have n125:=no125 138
 have n132:=no132 138
 have n134:=no134 138
 have y138:=yes138
 obtain⟨W2,hW2,XW,HM,HO,HMB,HOB⟩:=made31 w 13
 have HX0:=zh (zc hblk 0 (.string a) rfl)
 clear hblk
 have hq:=XW.out.cell HX0.out
 rw [hW2]at hq
 go_enter Tryz.func48,Tryz.ntmps48
 go_wp2_with (first|(refine wpList_load_row rfl 31 (.tmp 5) rfl (w.heap.size+1) rfl 31 #[.int .i64 13,.string a,.string ⟨#[]⟩,.int .u32 0,.int .u32 0,.slice none 0 0,.slice none 0 0,.slice none 0 0,.slice none 0 0,.slice none 0 0,.slice none 0 0,.slice none 0 0,.slice none 0 0] (0,0) _ _ Tryz.underlying31 rfl size31 ?_)|(refine wpList_store_row rfl 31 (.tmp 4) (.tmp 256) rfl w.heap.size #[.int .i64 13,.string a,.string ⟨#[]⟩,.int .u32 0,.int .u32 0,.slice none 0 0,.slice none 0 0,.slice none 0 0,.slice none 0 0,.slice none 0 0,.slice none 0 0,.slice none 0 0,.slice none 0 0] (by simp only [evp_none,ne_eq,Nat.reduceEqDiff,not_false_eq_true,evp_ne];rfl) (by rw [evp_same _ _ _ (by simp [evp_size])]) 31 _ _ size31 rfl one13 ?_))
 (try simp only [Exit.inBlock,Exit.then])
 have hob:((w.alloc (.cells #[.int .i64 13,.string a,.string ⟨#[]⟩,.int .u32 0,.int .u32 0,.slice none 0 0,.slice none 0 0,.slice none 0 0,.slice none 0 0,.slice none 0 0,.slice none 0 0,.slice none 0 0,.slice none 0 0] 31)).alloc (.cells #[.int .i64 13,.string a,.string ⟨#[]⟩,.int .u32 0,.int .u32 0,.slice none 0 0,.slice none 0 0,.slice none 0 0,.slice none 0 0,.slice none 0 0,.slice none 0 0,.slice none 0 0,.slice none 0 0] 31)).heap[w.heap.size]?=some (.cells #[.int .i64 13,.string a,.string ⟨#[]⟩,.int .u32 0,.int .u32 0,.slice none 0 0,.slice none 0 0,.slice none 0 0,.slice none 0 0,.slice none 0 0,.slice none 0 0,.slice none 0 0,.slice none 0 0] 31 (0,0)):=((ext_alloc _ _).block w.heap.size (by simp)).trans (heap_alloc_new w _)
 refine bodyPost_end (results_cell_row (P:=Tryz.prog) rfl _ _ w.heap.size 31 #[.int .i64 13,.string a,.string ⟨#[]⟩,.int .u32 0,.int .u32 0,.slice none 0 0,.slice none 0 0,.slice none 0 0,.slice none 0 0,.slice none 0 0,.slice none 0 0,.slice none 0 0,.slice none 0 0] (0,0) _ rfl hob Tryz.underlying31 rfl size31) rfl ?_
 exact tells_of ((ext_alloc w _).alloc _) (fun _ _=>rdi_nil _ _) (fun _ _=>rdi_nil _ _) (fun _ _=>rdi_nil _ _) (fun _ _=>rdm_nil _ _ _) (fun _ _=>RdB.nil _) (fun _ _=>rd1_nil _ _) ⟨by decide,by decide⟩ (nofun) (nofun) (nofun)
theorem told14 (a:ByteArray)(w:World)(bk:Nat)(hblk:w.heap[bk]?=some (.cells #[.string a] 143 (0,0))):
 Calls Tryz.prog 48 #[.int .i64 14,.iface 141 (.pointer (some ⟨bk,0,none⟩))] w (Tells 14 (DecP 14 a ⟨#[]⟩ 0 [] [] [] [] [] [] [] []) w):=by
 have n101:=no101 141
 have n108:=no108 141
 have n111:=no111 141
 have n114:=no114 141
 have n116:=no116 141
 have n119:=no119 141
 have n122:=no122 141
 have n125:=no125 141
 have n132:=no132 141
 have n134:=no134 141
 have n138:=no138 141
 have y141:=yes141
 obtain⟨W2,hW2,XW,HM,HO,HMB,HOB⟩:=made31 w 14
 have HX0:=zh (zc hblk 0 (.string a) rfl)
 clear hblk
 have hq:=XW.out.cell HX0.out
 rw [hW2]at hq
 go_enter Tryz.func48,Tryz.ntmps48
 go_wp2_with (first|(refine wpList_load_row rfl 31 (.tmp 5) rfl (w.heap.size+1) rfl 31 #[.int .i64 14,.string a,.string ⟨#[]⟩,.int .u32 0,.int .u32 0,.slice none 0 0,.slice none 0 0,.slice none 0 0,.slice none 0 0,.slice none 0 0,.slice none 0 0,.slice none 0 0,.slice none 0 0] (0,0) _ _ Tryz.underlying31 rfl size31 ?_)|(refine wpList_store_row rfl 31 (.tmp 4) (.tmp 256) rfl w.heap.size #[.int .i64 14,.string a,.string ⟨#[]⟩,.int .u32 0,.int .u32 0,.slice none 0 0,.slice none 0 0,.slice none 0 0,.slice none 0 0,.slice none 0 0,.slice none 0 0,.slice none 0 0,.slice none 0 0] (by simp only [evp_none,ne_eq,Nat.reduceEqDiff,not_false_eq_true,evp_ne];rfl) (by rw [evp_same _ _ _ (by simp [evp_size])]) 31 _ _ size31 rfl one13 ?_))
 (try simp only [Exit.inBlock,Exit.then])
 have hob:((w.alloc (.cells #[.int .i64 14,.string a,.string ⟨#[]⟩,.int .u32 0,.int .u32 0,.slice none 0 0,.slice none 0 0,.slice none 0 0,.slice none 0 0,.slice none 0 0,.slice none 0 0,.slice none 0 0,.slice none 0 0] 31)).alloc (.cells #[.int .i64 14,.string a,.string ⟨#[]⟩,.int .u32 0,.int .u32 0,.slice none 0 0,.slice none 0 0,.slice none 0 0,.slice none 0 0,.slice none 0 0,.slice none 0 0,.slice none 0 0,.slice none 0 0] 31)).heap[w.heap.size]?=some (.cells #[.int .i64 14,.string a,.string ⟨#[]⟩,.int .u32 0,.int .u32 0,.slice none 0 0,.slice none 0 0,.slice none 0 0,.slice none 0 0,.slice none 0 0,.slice none 0 0,.slice none 0 0,.slice none 0 0] 31 (0,0)):=((ext_alloc _ _).block w.heap.size (by simp)).trans (heap_alloc_new w _)
 refine bodyPost_end (results_cell_row (P:=Tryz.prog) rfl _ _ w.heap.size 31 #[.int .i64 14,.string a,.string ⟨#[]⟩,.int .u32 0,.int .u32 0,.slice none 0 0,.slice none 0 0,.slice none 0 0,.slice none 0 0,.slice none 0 0,.slice none 0 0,.slice none 0 0,.slice none 0 0] (0,0) _ rfl hob Tryz.underlying31 rfl size31) rfl ?_
 exact tells_of ((ext_alloc w _).alloc _) (fun _ _=>rdi_nil _ _) (fun _ _=>rdi_nil _ _) (fun _ _=>rdi_nil _ _) (fun _ _=>rdm_nil _ _ _) (fun _ _=>RdB.nil _) (fun _ _=>rd1_nil _ _) ⟨by decide,by decide⟩ (nofun) (nofun) (nofun)
theorem told16 (d:List Int)(Ad:Option Addr)(cd:Nat)(w:World)(bk:Nat)(hblk:w.heap[bk]?=some (.cells #[.slice Ad d.length cd] 148 (0,0)))(HD:Hid (RdB w (.slice Ad d.length cd) d))(hld:d.length<=500)(hgd:∀y∈d,0<=y/\y < 256):
 Calls Tryz.prog 48 #[.int .i64 16,.iface 147 (.pointer (some ⟨bk,0,none⟩))] w (Tells 16 (DecP 16 ⟨#[]⟩ ⟨#[]⟩ 0 [] [] [] d [] [] [] []) w):=by
 have n101:=no101 147
 have n108:=no108 147
 have n111:=no111 147
 have n114:=no114 147
 have n116:=no116 147
 have n119:=no119 147
 have n122:=no122 147
 have n125:=no125 147
 have n132:=no132 147
 have n134:=no134 147
 have n138:=no138 147
 have n141:=no141 147
 have n144:=no144 147
 have y147:=yes147
 obtain⟨W2,hW2,XW,HM,HO,HMB,HOB⟩:=made31 w 16
 have HX0:=zh (zc hblk 0 (.slice Ad d.length cd) rfl)
 clear hblk
 have hq:=XW.out.cell HX0.out
 rw [hW2]at hq
 go_enter Tryz.func48,Tryz.ntmps48
 go_wp2_with (first|(go_at_call 47;clear hq;rw [<-hW2];clear hW2;refine(copiedK _ d _ (HD.out.ext XW.out) (by omega)).mono ?_;rintro e w2 ⟨A2,c2,rfl,hx2,hk2⟩;have HX2:=zh hx2;have HK2:=zh hk2;have HM2:=zh ((hx2.block _ HMB.out).trans HM.out);have HO2:=zh ((hx2.block _ HOB.out).trans HO.out);clear hx2 hk2;have HOB2:Hid (∀u,(w2.setCell ⟨w.heap.size+1,9,none⟩ u).heap[w.heap.size]?=some (.cells #[.int .i64 0,.string ⟨#[]⟩,.string ⟨#[]⟩,.int .u32 0,.int .u32 0,.slice none 0 0,.slice none 0 0,.slice none 0 0,.slice none 0 0,.slice none 0 0,.slice none 0 0,.slice none 0 0,.slice none 0 0] 31 (0,0))):=zh (fun u=>(heap_setCell_other _ _ _ _ (by simp only [ne_eq];omega)).trans HO2.out);have hz:=zc HM2.out 9 (.slice none 0 0) rfl;have hy:=free_slot HM2.out 9)|(refine wpList_load_row rfl 31 (.tmp 5) rfl (w.heap.size+1) rfl 31 #[.int .i64 16,.string ⟨#[]⟩,.string ⟨#[]⟩,.int .u32 0,.int .u32 0,.slice none 0 0,.slice none 0 0,.slice none 0 0,.slice none 0 0,.slice A2 (d.length) c2,.slice none 0 0,.slice none 0 0,.slice none 0 0] (0,0) _ (slot_setCell (j:=9) HM2.out) Tryz.underlying31 rfl size31 ?_)|(refine wpList_store_row rfl 31 (.tmp 4) (.tmp 256) rfl w.heap.size #[.int .i64 16,.string ⟨#[]⟩,.string ⟨#[]⟩,.int .u32 0,.int .u32 0,.slice none 0 0,.slice none 0 0,.slice none 0 0,.slice none 0 0,.slice A2 (d.length) c2,.slice none 0 0,.slice none 0 0,.slice none 0 0] (by simp only [evp_none,ne_eq,Nat.reduceEqDiff,not_false_eq_true,evp_ne];rfl) (by rw [evp_same _ _ _ (by simp [evp_size])]) 31 _ (HOB2.out _) size31 rfl one13 ?_))
 (try simp only [Exit.inBlock,Exit.then])
 refine bodyPost_end (results_cell_row (P:=Tryz.prog) rfl _ _ w.heap.size 31 #[.int .i64 16,.string ⟨#[]⟩,.string ⟨#[]⟩,.int .u32 0,.int .u32 0,.slice none 0 0,.slice none 0 0,.slice none 0 0,.slice none 0 0,.slice A2 (d.length) c2,.slice none 0 0,.slice none 0 0,.slice none 0 0] (0,0) _ rfl (setRow_heap _ _ _ _ _ _ (HOB2.out _)) Tryz.underlying31 rfl size31) rfl ?_
 exact tells_of (((zr.but.row _).ext (((XW.out.trans HX2.out)).set (by omega) _ _) (Nat.le_refl _))) (fun _ _=>rdi_nil _ _) (fun _ _=>rdi_nil _ _) (fun _ _=>rdi_nil _ _) (fun _ _=>rdm_nil _ _ _) (keeps_tell HK2.out XW.out.size HOB.out HMB.out) (fun _ _=>rd1_nil _ _) ⟨by decide,by decide⟩ (nofun) hgd (nofun)
theorem answd34 (d:List Int)(Ad:Option Addr)(cd:Nat)(w:World)(bk mb:Nat)(hblk:w.heap[bk]?=some (.cells #[.slice Ad d.length cd] 190 (0,0)))(HD:Hid (RdB w (.slice Ad d.length cd) d))(hld:d.length<=500)(hgd:∀y∈d,0<=y/\y < 256)(hmb:w.heap[mb]?=some (.cells #[.int .i64 34,.string ⟨#[]⟩,.string ⟨#[]⟩,.int .u32 0,.int .u32 0,.slice none 0 0,.slice none 0 0,.slice none 0 0,.slice none 0 0,.slice none 0 0,.slice none 0 0,.slice none 0 0,.slice none 0 0] 31 (0,0)))(hne:bk≠mb):
 Calls Tryz.prog 65 #[.iface 189 (.pointer (some ⟨bk,0,none⟩)),.pointer (some ⟨mb,0,none⟩)] w (Answd 34 mb (DecP 34 ⟨#[]⟩ ⟨#[]⟩ 0 [] [] [] d [] [] [] []) w):=by
 have n185:=no185 189
 have y189:=yes189
 have HM:=zh hmb
 have HMB:=zh (zl hmb)
 have HNE:=zh hne
 have HBB:=zh (zl hblk)
 have HBK0:=zh hblk
 have HX0:=zh (zc hblk 0 (.slice Ad d.length cd) rfl)
 clear hblk hmb hne
 have hq:=HX0.out
 go_enter Tryz.func65,Tryz.ntmps65
 go_wp2_with (go_at_call 47;clear hq;refine(copiedK _ d _ (HD.out.ext (Ext.refl w)) (by omega)).mono ?_;rintro e w2 ⟨A2,c2,rfl,hx2,hk2⟩;have HX2:=zh hx2;have HK2:=zh hk2;have HM2:=zh ((hx2.block _ HMB.out).trans HM.out);clear hx2 hk2;have hz:=zc HM2.out 9 (.slice none 0 0) rfl;have hy:=free_slot HM2.out 9)
 have hB:(w2.setCell ⟨mb,9,none⟩ (.slice A2 (d.length) c2)).heap[mb]?=some (.cells #[.int .i64 34,.string ⟨#[]⟩,.string ⟨#[]⟩,.int .u32 0,.int .u32 0,.slice none 0 0,.slice none 0 0,.slice none 0 0,.slice none 0 0,.slice A2 (d.length) c2,.slice none 0 0,.slice none 0 0,.slice none 0 0] 31 (0,0)):=slot_setCell HM2.out
 have HB:=zh hB
 clear hB
 (try simp only [Exit.inBlock,Exit.then]);first|refine bodyPost_end (results_none rfl _ _ _) rfl ?_|refine bodyPost_ret (results_none rfl _ _ _) rfl ?_
 exact answd_of (HX2.out.but.set _ _) HB.out (fun _ _=>rdi_nil _ _) (fun _ _=>rdi_nil _ _) (fun _ _=>rdi_nil _ _) (fun _ _=>rdm_nil _ _ _) (keeps_put HK2.out HMB.out) (fun _ _=>rd1_nil _ _) ⟨by decide,by decide⟩ (nofun) hgd (nofun)
theorem answd35 (ws:List ByteArray)(Aw:Option Addr)(cw:Nat)(w:World)(bk mb:Nat)(hblk:w.heap[bk]?=some (.cells #[.slice Aw ws.length cw] 193 (0,0)))(HW:Hid (Rd1 isStr w (.slice Aw ws.length cw) ws))(hlw:ws.length<=20)(hmb:w.heap[mb]?=some (.cells #[.int .i64 35,.string ⟨#[]⟩,.string ⟨#[]⟩,.int .u32 0,.int .u32 0,.slice none 0 0,.slice none 0 0,.slice none 0 0,.slice none 0 0,.slice none 0 0,.slice none 0 0,.slice none 0 0,.slice none 0 0] 31 (0,0)))(hne:bk≠mb):
 Calls Tryz.prog 65 #[.iface 191 (.pointer (some ⟨bk,0,none⟩)),.pointer (some ⟨mb,0,none⟩)] w (Answd 35 mb (DecP 35 ⟨#[]⟩ ⟨#[]⟩ 0 [] [] [] [] [] ws [] []) w):=by
 have n185:=no185 191
 have n189:=no189 191
 have y191:=yes191
 have HM:=zh hmb
 have HMB:=zh (zl hmb)
 have HNE:=zh hne
 have HBB:=zh (zl hblk)
 have HBK0:=zh hblk
 have HX0:=zh (zc hblk 0 (.slice Aw ws.length cw) rfl)
 clear hblk hmb hne
 have hq:=HX0.out
 go_enter Tryz.func65,Tryz.ntmps65
 go_wp2_with (go_at_call 67;clear hq;refine(cloneS ws Aw cw _ (HW.out.ext (Ext.refl w) (fun _ _ h=>h)) (by omega)).mono ?_;rintro e w2 ⟨A2,c2,rfl,hx2,hk2⟩;have HX2:=zh hx2;have HK2:=zh hk2;have HM2:=zh ((hx2.block _ HMB.out).trans HM.out);clear hx2 hk2;have hz:=zc HM2.out 10 (.slice none 0 0) rfl;have hy:=free_slot HM2.out 10)
 have hB:(w2.setCell ⟨mb,10,none⟩ (.slice A2 (ws.length) c2)).heap[mb]?=some (.cells #[.int .i64 35,.string ⟨#[]⟩,.string ⟨#[]⟩,.int .u32 0,.int .u32 0,.slice none 0 0,.slice none 0 0,.slice none 0 0,.slice none 0 0,.slice none 0 0,.slice A2 (ws.length) c2,.slice none 0 0,.slice none 0 0] 31 (0,0)):=slot_setCell HM2.out
 have HB:=zh hB
 clear hB
 (try simp only [Exit.inBlock,Exit.then]);first|refine bodyPost_end (results_none rfl _ _ _) rfl ?_|refine bodyPost_ret (results_none rfl _ _ _) rfl ?_
 exact answd_of (HX2.out.but.set _ _) HB.out (fun _ _=>rdi_nil _ _) (fun _ _=>rdi_nil _ _) (fun _ _=>rdi_nil _ _) (fun _ _=>rdm_nil _ _ _) (fun _ _=>RdB.nil _) (keeps_put HK2.out HMB.out) ⟨by decide,by decide⟩ (nofun) (nofun) (nofun)
theorem answd36 (d:List Int)(Ad:Option Addr)(cd:Nat)(w:World)(bk mb:Nat)(hblk:w.heap[bk]?=some (.cells #[.slice Ad d.length cd] 195 (0,0)))(HD:Hid (RdB w (.slice Ad d.length cd) d))(hld:d.length<=500)(hgd:∀y∈d,0<=y/\y < 256)(hmb:w.heap[mb]?=some (.cells #[.int .i64 36,.string ⟨#[]⟩,.string ⟨#[]⟩,.int .u32 0,.int .u32 0,.slice none 0 0,.slice none 0 0,.slice none 0 0,.slice none 0 0,.slice none 0 0,.slice none 0 0,.slice none 0 0,.slice none 0 0] 31 (0,0)))(hne:bk≠mb):
 Calls Tryz.prog 65 #[.iface 194 (.pointer (some ⟨bk,0,none⟩)),.pointer (some ⟨mb,0,none⟩)] w (Answd 36 mb (DecP 36 ⟨#[]⟩ ⟨#[]⟩ 0 [] [] [] d [] [] [] []) w):=by
 have n185:=no185 194
 have n189:=no189 194
 have n191:=no191 194
 have y194:=yes194
 have HM:=zh hmb
 have HMB:=zh (zl hmb)
 have HNE:=zh hne
 have HBB:=zh (zl hblk)
 have HBK0:=zh hblk
 have HX0:=zh (zc hblk 0 (.slice Ad d.length cd) rfl)
 clear hblk hmb hne
 have hq:=HX0.out
 go_enter Tryz.func65,Tryz.ntmps65
 go_wp2_with (go_at_call 47;clear hq;refine(copiedK _ d _ (HD.out.ext (Ext.refl w)) (by omega)).mono ?_;rintro e w2 ⟨A2,c2,rfl,hx2,hk2⟩;have HX2:=zh hx2;have HK2:=zh hk2;have HM2:=zh ((hx2.block _ HMB.out).trans HM.out);clear hx2 hk2;have hz:=zc HM2.out 9 (.slice none 0 0) rfl;have hy:=free_slot HM2.out 9)
 have hB:(w2.setCell ⟨mb,9,none⟩ (.slice A2 (d.length) c2)).heap[mb]?=some (.cells #[.int .i64 36,.string ⟨#[]⟩,.string ⟨#[]⟩,.int .u32 0,.int .u32 0,.slice none 0 0,.slice none 0 0,.slice none 0 0,.slice none 0 0,.slice A2 (d.length) c2,.slice none 0 0,.slice none 0 0,.slice none 0 0] 31 (0,0)):=slot_setCell HM2.out
 have HB:=zh hB
 clear hB
 (try simp only [Exit.inBlock,Exit.then]);first|refine bodyPost_end (results_none rfl _ _ _) rfl ?_|refine bodyPost_ret (results_none rfl _ _ _) rfl ?_
 exact answd_of (HX2.out.but.set _ _) HB.out (fun _ _=>rdi_nil _ _) (fun _ _=>rdi_nil _ _) (fun _ _=>rdi_nil _ _) (fun _ _=>rdm_nil _ _ _) (keeps_put HK2.out HMB.out) (fun _ _=>rd1_nil _ _) ⟨by decide,by decide⟩ (nofun) hgd (nofun)
theorem answd37 (d:List Int)(Ad:Option Addr)(cd:Nat)(w:World)(bk mb:Nat)(hblk:w.heap[bk]?=some (.cells #[.slice Ad d.length cd] 197 (0,0)))(HD:Hid (RdB w (.slice Ad d.length cd) d))(hld:d.length<=500)(hgd:∀y∈d,0<=y/\y < 256)(hmb:w.heap[mb]?=some (.cells #[.int .i64 37,.string ⟨#[]⟩,.string ⟨#[]⟩,.int .u32 0,.int .u32 0,.slice none 0 0,.slice none 0 0,.slice none 0 0,.slice none 0 0,.slice none 0 0,.slice none 0 0,.slice none 0 0,.slice none 0 0] 31 (0,0)))(hne:bk≠mb):
 Calls Tryz.prog 65 #[.iface 196 (.pointer (some ⟨bk,0,none⟩)),.pointer (some ⟨mb,0,none⟩)] w (Answd 37 mb (DecP 37 ⟨#[]⟩ ⟨#[]⟩ 0 [] [] [] d [] [] [] []) w):=by
 have n185:=no185 196
 have n189:=no189 196
 have n191:=no191 196
 have n194:=no194 196
 have y196:=yes196
 have HM:=zh hmb
 have HMB:=zh (zl hmb)
 have HNE:=zh hne
 have HBB:=zh (zl hblk)
 have HBK0:=zh hblk
 have HX0:=zh (zc hblk 0 (.slice Ad d.length cd) rfl)
 clear hblk hmb hne
 have hq:=HX0.out
 go_enter Tryz.func65,Tryz.ntmps65
 go_wp2_with (go_at_call 47;clear hq;refine(copiedK _ d _ (HD.out.ext (Ext.refl w)) (by omega)).mono ?_;rintro e w2 ⟨A2,c2,rfl,hx2,hk2⟩;have HX2:=zh hx2;have HK2:=zh hk2;have HM2:=zh ((hx2.block _ HMB.out).trans HM.out);clear hx2 hk2;have hz:=zc HM2.out 9 (.slice none 0 0) rfl;have hy:=free_slot HM2.out 9)
 have hB:(w2.setCell ⟨mb,9,none⟩ (.slice A2 (d.length) c2)).heap[mb]?=some (.cells #[.int .i64 37,.string ⟨#[]⟩,.string ⟨#[]⟩,.int .u32 0,.int .u32 0,.slice none 0 0,.slice none 0 0,.slice none 0 0,.slice none 0 0,.slice A2 (d.length) c2,.slice none 0 0,.slice none 0 0,.slice none 0 0] 31 (0,0)):=slot_setCell HM2.out
 have HB:=zh hB
 clear hB
 (try simp only [Exit.inBlock,Exit.then]);first|refine bodyPost_end (results_none rfl _ _ _) rfl ?_|refine bodyPost_ret (results_none rfl _ _ _) rfl ?_
 exact answd_of (HX2.out.but.set _ _) HB.out (fun _ _=>rdi_nil _ _) (fun _ _=>rdi_nil _ _) (fun _ _=>rdi_nil _ _) (fun _ _=>rdm_nil _ _ _) (keeps_put HK2.out HMB.out) (fun _ _=>rd1_nil _ _) ⟨by decide,by decide⟩ (nofun) hgd (nofun)
theorem answd45 (vls:List (Bool×List Int))(Av:Option Addr)(cv:Nat)(w:World)(bk mb:Nat)(hblk:w.heap[bk]?=some (.cells #[.slice Av vls.length cv] 212 (0,0)))(HV:Hid (Rd1 isOpt w (.slice Av vls.length cv) (vls.map optV)))(hlv:vls.length<=20)(hgv:∀y∈vls,y.2.length<=200/\(y.1=true->y.2.length=0))(hbv:∀y∈vls,∀z∈y.2,0<=z/\z < 256)(hmb:w.heap[mb]?=some (.cells #[.int .i64 45,.string ⟨#[]⟩,.string ⟨#[]⟩,.int .u32 0,.int .u32 0,.slice none 0 0,.slice none 0 0,.slice none 0 0,.slice none 0 0,.slice none 0 0,.slice none 0 0,.slice none 0 0,.slice none 0 0] 31 (0,0)))(hne:bk≠mb):
 Calls Tryz.prog 65 #[.iface 210 (.pointer (some ⟨bk,0,none⟩)),.pointer (some ⟨mb,0,none⟩)] w (Answd 45 mb (DecP 45 ⟨#[]⟩ ⟨#[]⟩ 0 [] [] [] [] vls [] [] []) w):=by
 have n185:=no185 210
 have n189:=no189 210
 have n191:=no191 210
 have n194:=no194 210
 have n196:=no196 210
 have n198:=no198 210
 have n200:=no200 210
 have n203:=no203 210
 have n206:=no206 210
 have n208:=no208 210
 have y210:=yes210
 have HM:=zh hmb
 have HMB:=zh (zl hmb)
 have HNE:=zh hne
 have HBB:=zh (zl hblk)
 have HBK0:=zh hblk
 have HX0:=zh (zc hblk 0 (.slice Av vls.length cv) rfl)
 clear hblk hmb hne
 have hq:=HX0.out
 go_enter Tryz.func65,Tryz.ntmps65
 go_wp2_with (go_at_call 62;clear hq;refine(valuesOfK vls Av cv _ (HV.out.ext (Ext.refl w) (isOpt.ext (Ext.refl w))) (by omega) (fun y hy=>⟨by have:=(hgv y hy).1;omega,(hgv y hy).2⟩)).mono ?_;rintro e w2 ⟨A2,c2,rfl,hx2,hk2⟩;have HX2:=zh hx2;have HK2:=zh hk2;have HM2:=zh ((hx2.block _ HMB.out).trans HM.out);clear hx2 hk2;have hz:=zc HM2.out 8 (.slice none 0 0) rfl;have hy:=free_slot HM2.out 8)
 have hB:(w2.setCell ⟨mb,8,none⟩ (.slice A2 (vls.length) c2)).heap[mb]?=some (.cells #[.int .i64 45,.string ⟨#[]⟩,.string ⟨#[]⟩,.int .u32 0,.int .u32 0,.slice none 0 0,.slice none 0 0,.slice none 0 0,.slice A2 (vls.length) c2,.slice none 0 0,.slice none 0 0,.slice none 0 0,.slice none 0 0] 31 (0,0)):=slot_setCell HM2.out
 have HB:=zh hB
 clear hB
 (try simp only [Exit.inBlock,Exit.then]);first|refine bodyPost_end (results_none rfl _ _ _) rfl ?_|refine bodyPost_ret (results_none rfl _ _ _) rfl ?_
 exact answd_of (HX2.out.but.set _ _) HB.out (fun _ _=>rdi_nil _ _) (fun _ _=>rdi_nil _ _) (fun _ _=>rdi_nil _ _) (keeps_put HK2.out HMB.out) (fun _ _=>RdB.nil _) (fun _ _=>rd1_nil _ _) ⟨by decide,by decide⟩ (nofun) (nofun) hbv
theorem answd52 (ty:List Int)(At:Option Addr)(ct:Nat)(w:World)(bk mb:Nat)(hblk:w.heap[bk]?=some (.cells #[.slice At ty.length ct] 227 (0,0)))(HT:Hid (RdI .u32 w (.slice At ty.length ct) ty))(hlt:ty.length<=20)(hgt:∀y∈ty,0<=y/\y < 4294967296)(hmb:w.heap[mb]?=some (.cells #[.int .i64 52,.string ⟨#[]⟩,.string ⟨#[]⟩,.int .u32 0,.int .u32 0,.slice none 0 0,.slice none 0 0,.slice none 0 0,.slice none 0 0,.slice none 0 0,.slice none 0 0,.slice none 0 0,.slice none 0 0] 31 (0,0)))(hne:bk≠mb):
 Calls Tryz.prog 65 #[.iface 225 (.pointer (some ⟨bk,0,none⟩)),.pointer (some ⟨mb,0,none⟩)] w (Answd 52 mb (DecP 52 ⟨#[]⟩ ⟨#[]⟩ 0 [] [] ty [] [] [] [] []) w):=by
 have n185:=no185 225
 have n189:=no189 225
 have n191:=no191 225
 have n194:=no194 225
 have n196:=no196 225
 have n198:=no198 225
 have n200:=no200 225
 have n203:=no203 225
 have n206:=no206 225
 have n208:=no208 225
 have n210:=no210 225
 have n213:=no213 225
 have n217:=no217 225
 have n219:=no219 225
 have n222:=no222 225
 have y225:=yes225
 have HM:=zh hmb
 have HMB:=zh (zl hmb)
 have HNE:=zh hne
 have HBB:=zh (zl hblk)
 have HBK0:=zh hblk
 have HX0:=zh (zc hblk 0 (.slice At ty.length ct) rfl)
 clear hblk hmb hne
 have hq:=HX0.out
 go_enter Tryz.func65,Tryz.ntmps65
 go_wp2_with (go_at_call 59;clear hq;refine(cloneI ty At ct _ (HT.out.ext (Ext.refl w)) (by omega)).mono ?_;rintro e w2 ⟨A2,c2,rfl,hx2,hk2⟩;have HX2:=zh hx2;have HK2:=zh hk2;have HM2:=zh ((hx2.block _ HMB.out).trans HM.out);clear hx2 hk2;have hz:=zc HM2.out 7 (.slice none 0 0) rfl;have hy:=free_slot HM2.out 7)
 have hB:(w2.setCell ⟨mb,7,none⟩ (.slice A2 (ty.length) c2)).heap[mb]?=some (.cells #[.int .i64 52,.string ⟨#[]⟩,.string ⟨#[]⟩,.int .u32 0,.int .u32 0,.slice none 0 0,.slice none 0 0,.slice A2 (ty.length) c2,.slice none 0 0,.slice none 0 0,.slice none 0 0,.slice none 0 0,.slice none 0 0] 31 (0,0)):=slot_setCell HM2.out
 have HB:=zh hB
 clear hB
 (try simp only [Exit.inBlock,Exit.then]);first|refine bodyPost_end (results_none rfl _ _ _) rfl ?_|refine bodyPost_ret (results_none rfl _ _ _) rfl ?_
 exact answd_of (HX2.out.but.set _ _) HB.out (fun _ _=>rdi_nil _ _) (fun _ _=>rdi_nil _ _) (keeps_put HK2.out HMB.out) (fun _ _=>rdm_nil _ _ _) (fun _ _=>RdB.nil _) (fun _ _=>rd1_nil _ _) ⟨by decide,by decide⟩ hgt (nofun) (nofun)
theorem answd56 (n:Int)(w:World)(bk mb:Nat)(hblk:w.heap[bk]?=some (.cells #[.int .u8 n] 232 (0,0)))(hn:0<=n/\n < 256)(hmb:w.heap[mb]?=some (.cells #[.int .i64 56,.string ⟨#[]⟩,.string ⟨#[]⟩,.int .u32 0,.int .u32 0,.slice none 0 0,.slice none 0 0,.slice none 0 0,.slice none 0 0,.slice none 0 0,.slice none 0 0,.slice none 0 0,.slice none 0 0] 31 (0,0)))(hne:bk≠mb):
 Calls Tryz.prog 65 #[.iface 230 (.pointer (some ⟨bk,0,none⟩)),.pointer (some ⟨mb,0,none⟩)] w (Answd 56 mb (DecP 56 ⟨#[]⟩ ⟨#[]⟩ n [] [] [] [] [] [] [] []) w):=by
 have n185:=no185 230
 have n189:=no189 230
 have n191:=no191 230
 have n194:=no194 230
 have n196:=no196 230
 have n198:=no198 230
 have n200:=no200 230
 have n203:=no203 230
 have n206:=no206 230
 have n208:=no208 230
 have n210:=no210 230
 have n213:=no213 230
 have n217:=no217 230
 have n219:=no219 230
 have n222:=no222 230
 have n225:=no225 230
 have n228:=no228 230
 have y230:=yes230
 have HM:=zh hmb
 have HMB:=zh (zl hmb)
 have HNE:=zh hne
 have HBB:=zh (zl hblk)
 have HBK0:=zh hblk
 have HX0:=zh (zc hblk 0 (.int .u8 n) rfl)
 clear hblk hmb hne
 have hz:=zc HM.out 3 (.int .u32 0) rfl
 have hy:=free_slot HM.out 3
 have hq:=HX0.out
 have hwr:IntKind.u32.wrap n=n:=by rw [IntKind.wrap_u32];omega
 have hwr2:n % 4294967296=n:=by omega
 have hB:(w.setCell ⟨mb,3,none⟩ (.int .u32 n)).heap[mb]?=some (.cells #[.int .i64 56,.string ⟨#[]⟩,.string ⟨#[]⟩,.int .u32 n,.int .u32 0,.slice none 0 0,.slice none 0 0,.slice none 0 0,.slice none 0 0,.slice none 0 0,.slice none 0 0,.slice none 0 0,.slice none 0 0] 31 (0,0)):=slot_setCell HM.out
 have HB:=zh hB
 clear hB
 go_enter Tryz.func65,Tryz.ntmps65
 go_wp2
 (try simp only [Exit.inBlock,Exit.then]);first|refine bodyPost_end (results_none rfl _ _ _) rfl ?_|refine bodyPost_ret (results_none rfl _ _ _) rfl ?_
 exact answd_of ((Ext.refl w).but.set _ _) HB.out (fun _ _=>rdi_nil _ _) (fun _ _=>rdi_nil _ _) (fun _ _=>rdi_nil _ _) (fun _ _=>rdm_nil _ _ _) (fun _ _=>RdB.nil _) (fun _ _=>rd1_nil _ _) ⟨hn.1,by have:=hn.2;omega⟩ (nofun) (nofun) (nofun)
end Go.Proofs.YtdenjanihikolaaGreatDoor
