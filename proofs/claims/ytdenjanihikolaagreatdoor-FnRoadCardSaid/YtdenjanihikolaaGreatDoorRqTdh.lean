/- told and answered by kind: Tdj. -/
import Derived.Test.YtdenjanihikolaaGreatDoorRqA0
import Derived.Test.YtdenjanihikolaaGreatDoorRqA1
import Derived.Test.YtdenjanihikolaaGreatDoorRqDkg
import Derived.Test.YtdenjanihikolaaGreatDoorRqFit
import Derived.Test.YtdenjanihikolaaGreatDoorRqTa
import Derived.Test.YtdenjanihikolaaGreatDoorRqSmu
import Derived.Test.YtdenjanihikolaaGreatDoorRqTdc
import Derived.Test.YtdenjanihikolaaGreatDoorRqDcj
namespace Go.Proofs.YtdenjanihikolaaGreatDoor
set_option linter.unusedVariables false
set_option linter.unusedSimpArgs false
set_option maxRecDepth 100000
set_option maxHeartbeats 4000000
open Go.RowKit Og
theorem told0 (a:ByteArray)(b:ByteArray)(lf:List Int)(Af:Option Addr)(cf:Nat)(vls:List (Bool×List Int))(Av:Option Addr)(cv:Nat)(lr:List Int)(Ar:Option Addr)(cr:Nat)(w:World)(bk:Nat)(hblk:w.heap[bk]?=some (.cells #[.string a,.string b,.slice Af lf.length cf,.slice Av vls.length cv,.slice Ar lr.length cr] 107 (0,0)))(HF:Hid (RdI .i16 w (.slice Af lf.length cf) lf))(hlf:lf.length<=20)(hgf:∀y∈lf,0<=y/\y < 32768)(HV:Hid (Rd1 isOpt w (.slice Av vls.length cv) (vls.map optV)))(hlv:vls.length<=20)(hgv:∀y∈vls,y.2.length<=200/\(y.1=true->y.2.length=0))(hbv:∀y∈vls,∀z∈y.2,0<=z/\z < 256)(HRR:Hid (RdI .i16 w (.slice Ar lr.length cr) lr))(hlr:lr.length<=20)(hgr:∀y∈lr,0<=y/\y < 32768):
 Calls Tryz.prog 48 #[.int .i64 0,.iface 101 (.pointer (some ⟨bk,0,none⟩))] w (Tells 0 (DecP 0 a b 0 lf lr [] [] vls [] [] []) w):=by
 have y101:=yes101
 obtain⟨W2,hW2,XW,HM,HO,HMB,HOB⟩:=made31 w 0
 have HX0:=zh (zc hblk 0 (.string a) rfl)
 have HX1:=zh (zc hblk 1 (.string b) rfl)
 have HX2:=zh (zc hblk 2 (.slice Af lf.length cf) rfl)
 have HX3:=zh (zc hblk 3 (.slice Av vls.length cv) rfl)
 have HX4:=zh (zc hblk 4 (.slice Ar lr.length cr) rfl)
 clear hblk
 go_enter Tryz.func48,Tryz.ntmps48
 go_wp2
 rw [<-hW2]
 clear hW2
 refine wp_region_ogL (J:=TJ (w.heap.size+1) W2 #[.int .i64 0,.string ⟨#[]⟩,.string ⟨#[]⟩,.int .u32 0,.int .u32 0,.slice none 0 0,.slice none 0 0,.slice none 0 0,.slice none 0 0,.slice none 0 0,.slice none 0 0,.slice none 0 0,.slice none 0 0] [(24,1,(fun _=> .string a)),(26,2,(fun _=> .string b)),(28,5,(fun vs=> .slice (slA (vs 12)) (lf.length) (slC (vs 12)))),(30,8,(fun vs=> .slice (slA (vs 17)) (vls.length) (slC (vs 17)))),(32,6,(fun vs=> .slice (slA (vs 22)) (lr.length) (slC (vs 22))))]) (R:=ExtBut (w.heap.size+1)) [Sp.eq _ (.pointer (some ⟨bk,0,none⟩)),Sp.eq _ (.pointer (some ⟨bk,0,none⟩)),Sp.eq _ (.pointer (some ⟨bk,0,none⟩)),Sp.eq _ (.string a),Sp.eq _ (.pointer (some ⟨bk,0,none⟩)),Sp.eq _ (.pointer (some ⟨bk,0,none⟩)),Sp.eq _ (.pointer (some ⟨bk,1,none⟩)),Sp.eq _ (.string b),Sp.eq _ (.pointer (some ⟨bk,0,none⟩)),Sp.eq _ (.pointer (some ⟨bk,0,none⟩)),Sp.eq _ (.pointer (some ⟨bk,2,none⟩)),Sp.eq _ (.slice Af lf.length cf),spB (fun v w=>RdI .i64 w v lf) (lf.length) (w.heap.size+1) W2 HMB.out,Sp.eq _ (.pointer (some ⟨bk,0,none⟩)),Sp.eq _ (.pointer (some ⟨bk,0,none⟩)),Sp.eq _ (.pointer (some ⟨bk,3,none⟩)),Sp.eq _ (.slice Av vls.length cv),spB (fun v w=>RdM 2 isVal w v vls) (vls.length) (w.heap.size+1) W2 HMB.out,Sp.eq _ (.pointer (some ⟨bk,0,none⟩)),Sp.eq _ (.pointer (some ⟨bk,0,none⟩)),Sp.eq _ (.pointer (some ⟨bk,4,none⟩)),Sp.eq _ (.slice Ar lr.length cr),spB (fun v w=>RdI .i64 w v lr) (lr.length) (w.heap.size+1) W2 HMB.out,Sp.eq _ (.pointer (some ⟨w.heap.size+1,1,none⟩)),Sp.any _,Sp.eq _ (.pointer (some ⟨w.heap.size+1,2,none⟩)),Sp.any _,Sp.eq _ (.pointer (some ⟨w.heap.size+1,5,none⟩)),Sp.any _,Sp.eq _ (.pointer (some ⟨w.heap.size+1,8,none⟩)),Sp.any _,Sp.eq _ (.pointer (some ⟨w.heap.size+1,6,none⟩)),Sp.any _] (by kernel_rfl) (by kernel_rfl) ?_ ?_ ?_
 ·exact TJ.start HM.out
 ·refine⟨?_,?_,?_,?_,?_,?_,?_,?_,?_,?_,?_,?_,?_,?_,?_,?_,?_,?_,?_,?_,?_,?_,?_,?_,?_,?_,?_,?_,?_,?_,?_,?_,?_,trivial⟩
  all_goals try(intro vs w1 L hLi hd hdt hJ hp;have HXW:=zh (hJ.ext.ext XW.out (by omega));have h0:=HXW.out.cell HX0.out;have h1:=HXW.out.cell HX1.out;have h2:=HXW.out.cell HX2.out;have h3:=HXW.out.cell HX3.out;have h4:=HXW.out.cell HX4.out;have HJ:=zh hJ;simp [deps,Region.binds,Sp.eq,Sp.any]at hp;(try obtain⟨hp,hp'⟩:=hp);clear hd hdt hLi hJ;simp only [putAll,Nat.reduceAdd];go_wp2;exact⟨rfl,HJ.out.keep zr _ _ (by simp [upd]),zr.but,rfl⟩)
  all_goals try(intro vs w1 L hLi hd hdt hJ hp;obtain⟨⟨_,hz1⟩,hy1⟩:=hJ.has 1 (show 1 < 13 by omega);obtain⟨⟨_,hz2⟩,hy2⟩:=hJ.has 2 (show 2 < 13 by omega);have HJ:=zh hJ;have HL:=zh hLi;simp [deps,Region.binds,Sp.eq,Sp.any]at hp;clear hd hdt hLi hJ;simp only [putAll,Nat.reduceAdd,hp];clear hp;go_wp2;exact⟨rfl,HJ.out.on HL.out _ _ _ (by simp [upd]) (by simp),zr.but.set _ _,trivial⟩)
  ·intro vs w1 L hLi hd hdt hJ hp
   have q11:vs 11=_:=zd hp 11
   have HJ:=zh hJ
   have HXW:=zh (hJ.ext.ext XW.out (by omega))
   have hLs28:=zh (zd hdt 28)
   clear hp hd hdt hLi hJ
   simp only [putAll,Nat.reduceAdd]
   go_wp2_with (go_at_call 61;refine(fromShortsK lf Af cf _ (HF.out.ext HXW.out) (by omega) hgf).mono ?_;rintro e w2 ⟨A2,c2,rfl,hx2,hk2⟩;have HX2:=zh hx2;have HK2:=zh hk2;clear hx2 hk2)
   exact⟨rfl,HJ.out.keep HX2.out _ _ (by simp [upd,hLs28.out]),HX2.out.but,PR.made (R:=(fun v w=>RdI .i64 w v lf)) HK2.out HJ.out.ext.size⟩
  ·intro vs w1 L hLi hd hdt hJ hp
   have q16:vs 16=_:=zd hp 16
   have HJ:=zh hJ
   have HXW:=zh (hJ.ext.ext XW.out (by omega))
   have hLs30:=zh (zd hdt 30)
   clear hp hd hdt hLi hJ
   simp only [putAll,Nat.reduceAdd]
   go_wp2_with (go_at_call 62;refine(valuesOfK vls Av cv _ (HV.out.ext HXW.out (isOpt.ext HXW.out)) (by omega) (fun y hy=>⟨by have:=(hgv y hy).1;omega,(hgv y hy).2⟩)).mono ?_;rintro e w2 ⟨A2,c2,rfl,hx2,hk2⟩;have HX2:=zh hx2;have HK2:=zh hk2;clear hx2 hk2)
   exact⟨rfl,HJ.out.keep HX2.out _ _ (by simp [upd,hLs30.out]),HX2.out.but,PR.made (R:=(fun v w=>RdM 2 isVal w v vls)) HK2.out HJ.out.ext.size⟩
  ·intro vs w1 L hLi hd hdt hJ hp
   have q21:vs 21=_:=zd hp 21
   have HJ:=zh hJ
   have HXW:=zh (hJ.ext.ext XW.out (by omega))
   have hLs32:=zh (zd hdt 32)
   clear hp hd hdt hLi hJ
   simp only [putAll,Nat.reduceAdd]
   go_wp2_with (go_at_call 61;refine(fromShortsK lr Ar cr _ (HRR.out.ext HXW.out) (by omega) hgr).mono ?_;rintro e w2 ⟨A2,c2,rfl,hx2,hk2⟩;have HX2:=zh hx2;have HK2:=zh hk2;clear hx2 hk2)
   exact⟨rfl,HJ.out.keep HX2.out _ _ (by simp [upd,hLs32.out]),HX2.out.but,PR.made (R:=(fun v w=>RdI .i64 w v lr)) HK2.out HJ.out.ext.size⟩
  ·intro vs w1 L hLi hd hdt hJ hp
   have q0:vs 0=_:=zd hp 0
   have q1:vs 1=_:=zd hp 1
   have q2:vs 2=_:=zd hp 2
   have q3:vs 3=_:=zd hp 3
   have q4:vs 4=_:=zd hp 4
   have q5:vs 5=_:=zd hp 5
   have q6:vs 6=_:=zd hp 6
   have q7:vs 7=_:=zd hp 7
   have q8:vs 8=_:=zd hp 8
   have q9:vs 9=_:=zd hp 9
   have q10:vs 10=_:=zd hp 10
   have q11:vs 11=_:=zd hp 11
   have q16:vs 16=_:=zd hp 16
   have q21:vs 21=_:=zd hp 21
   have q23:vs 23=_:=zd hp 23
   have q25:vs 25=_:=zd hp 25
   have q27:vs 27=_:=zd hp 27
   have HJ:=zh hJ
   have hpv:PR (fun v w=>RdI .i64 w v lf) (lf.length) W2 (vs 12) w1:=zd hp 12
   have HV:=zh hpv.1
   clear hpv
   obtain⟨⟨_,hz⟩,hy⟩:=hJ.has 5 (show 5 < 13 by omega)
   have HL:=zh hLi
   clear hp hd hdt hLi hJ
   simp only [putAll,Nat.reduceAdd]
   rw [HV.out]
   go_wp2
   exact⟨rfl,HJ.out.on HL.out _ _ _ (by simp [upd]) (by simp),zr.but.set _ _,trivial⟩
  ·intro vs w1 L hLi hd hdt hJ hp
   have q0:vs 0=_:=zd hp 0
   have q1:vs 1=_:=zd hp 1
   have q2:vs 2=_:=zd hp 2
   have q3:vs 3=_:=zd hp 3
   have q4:vs 4=_:=zd hp 4
   have q5:vs 5=_:=zd hp 5
   have q6:vs 6=_:=zd hp 6
   have q7:vs 7=_:=zd hp 7
   have q8:vs 8=_:=zd hp 8
   have q9:vs 9=_:=zd hp 9
   have q10:vs 10=_:=zd hp 10
   have q11:vs 11=_:=zd hp 11
   have q13:vs 13=_:=zd hp 13
   have q14:vs 14=_:=zd hp 14
   have q15:vs 15=_:=zd hp 15
   have q16:vs 16=_:=zd hp 16
   have q21:vs 21=_:=zd hp 21
   have q23:vs 23=_:=zd hp 23
   have q25:vs 25=_:=zd hp 25
   have q27:vs 27=_:=zd hp 27
   have q29:vs 29=_:=zd hp 29
   have HJ:=zh hJ
   have hpv:PR (fun v w=>RdM 2 isVal w v vls) (vls.length) W2 (vs 17) w1:=zd hp 17
   have HV:=zh hpv.1
   clear hpv
   obtain⟨⟨_,hz⟩,hy⟩:=hJ.has 8 (show 8 < 13 by omega)
   have HL:=zh hLi
   clear hp hd hdt hLi hJ
   simp only [putAll,Nat.reduceAdd]
   rw [HV.out]
   go_wp2
   exact⟨rfl,HJ.out.on HL.out _ _ _ (by simp [upd]) (by simp),zr.but.set _ _,trivial⟩
  ·intro vs w1 L hLi hd hdt hJ hp
   have q0:vs 0=_:=zd hp 0
   have q1:vs 1=_:=zd hp 1
   have q2:vs 2=_:=zd hp 2
   have q3:vs 3=_:=zd hp 3
   have q4:vs 4=_:=zd hp 4
   have q5:vs 5=_:=zd hp 5
   have q6:vs 6=_:=zd hp 6
   have q7:vs 7=_:=zd hp 7
   have q8:vs 8=_:=zd hp 8
   have q9:vs 9=_:=zd hp 9
   have q10:vs 10=_:=zd hp 10
   have q11:vs 11=_:=zd hp 11
   have q13:vs 13=_:=zd hp 13
   have q14:vs 14=_:=zd hp 14
   have q15:vs 15=_:=zd hp 15
   have q16:vs 16=_:=zd hp 16
   have q18:vs 18=_:=zd hp 18
   have q19:vs 19=_:=zd hp 19
   have q20:vs 20=_:=zd hp 20
   have q21:vs 21=_:=zd hp 21
   have q23:vs 23=_:=zd hp 23
   have q25:vs 25=_:=zd hp 25
   have q27:vs 27=_:=zd hp 27
   have q29:vs 29=_:=zd hp 29
   have q31:vs 31=_:=zd hp 31
   have HJ:=zh hJ
   have hpv:PR (fun v w=>RdI .i64 w v lr) (lr.length) W2 (vs 22) w1:=zd hp 22
   have HV:=zh hpv.1
   clear hpv
   obtain⟨⟨_,hz⟩,hy⟩:=hJ.has 6 (show 6 < 13 by omega)
   have HL:=zh hLi
   clear hp hd hdt hLi hJ
   simp only [putAll,Nat.reduceAdd]
   rw [HV.out]
   go_wp2
   exact⟨rfl,HJ.out.on HL.out _ _ _ (by simp [upd]) (by simp),zr.but.set _ _,trivial⟩
 ·intro vs w1 L hall hJ hp
  have hL24:=zd hall 24
  have hL26:=zd hall 26
  have hL28:=zd hall 28
  have hL30:=zd hall 30
  have hL32:=zd hall 32
  have hbk:=hJ.blk
  simp [cellsT,hL24,hL26,hL28,hL30,hL32]at hbk
  have HBK:=zh hbk
  have HE:=zh hJ.ext
  have HP5:Hid (PR (fun v w=>RdI .i64 w v lf) (lf.length) W2 (vs 12) w1):=zh (zd hp 12)
  have HP8:Hid (PR (fun v w=>RdM 2 isVal w v vls) (vls.length) W2 (vs 17) w1):=zh (zd hp 17)
  have HP6:Hid (PR (fun v w=>RdI .i64 w v lr) (lr.length) W2 (vs 22) w1):=zh (zd hp 22)
  clear hp hall hJ hbk hL24 hL26 hL28 hL30 hL32
  simp only [putAll,Nat.reduceAdd]
  have HOX:=zh ((HE.out.block _ HOB.out (by omega)).trans HO.out)
  have HK5:=zh (HP5.out.tell (b:=w.heap.size) (cs:= #[.int .i64 0,.string a,.string b,.int .u32 0,.int .u32 0,.slice (slA (vs 12)) (lf.length) (slC (vs 12)),.slice (slA (vs 22)) (lr.length) (slC (vs 22)),.slice none 0 0,.slice (slA (vs 17)) (vls.length) (slC (vs 17)),.slice none 0 0,.slice none 0 0,.slice none 0 0,.slice none 0 0]) XW.out.size HOB.out)
  have HK8:=zh (HP8.out.tell (b:=w.heap.size) (cs:= #[.int .i64 0,.string a,.string b,.int .u32 0,.int .u32 0,.slice (slA (vs 12)) (lf.length) (slC (vs 12)),.slice (slA (vs 22)) (lr.length) (slC (vs 22)),.slice none 0 0,.slice (slA (vs 17)) (vls.length) (slC (vs 17)),.slice none 0 0,.slice none 0 0,.slice none 0 0,.slice none 0 0]) XW.out.size HOB.out)
  have HK6:=zh (HP6.out.tell (b:=w.heap.size) (cs:= #[.int .i64 0,.string a,.string b,.int .u32 0,.int .u32 0,.slice (slA (vs 12)) (lf.length) (slC (vs 12)),.slice (slA (vs 22)) (lr.length) (slC (vs 22)),.slice none 0 0,.slice (slA (vs 17)) (vls.length) (slC (vs 17)),.slice none 0 0,.slice none 0 0,.slice none 0 0,.slice none 0 0]) XW.out.size HOB.out)
  simp only [Exit.then,Exit.inBlock]
  go_at_K
  simp only [Act.put,List.setIfInBounds_toArray,List.set_cons_zero,List.set_cons_succ]
  go_wp2_with (first|(refine wpList_load_row rfl 31 (.tmp 5) rfl (w.heap.size+1) rfl 31 #[.int .i64 0,.string a,.string b,.int .u32 0,.int .u32 0,.slice (slA (vs 12)) (lf.length) (slC (vs 12)),.slice (slA (vs 22)) (lr.length) (slC (vs 22)),.slice none 0 0,.slice (slA (vs 17)) (vls.length) (slC (vs 17)),.slice none 0 0,.slice none 0 0,.slice none 0 0,.slice none 0 0] (0,0) _ HBK.out Tryz.underlying31 rfl size31 ?_)|(refine wpList_store_row rfl 31 (.tmp 4) (.tmp 256) rfl w.heap.size #[.int .i64 0,.string a,.string b,.int .u32 0,.int .u32 0,.slice (slA (vs 12)) (lf.length) (slC (vs 12)),.slice (slA (vs 22)) (lr.length) (slC (vs 22)),.slice none 0 0,.slice (slA (vs 17)) (vls.length) (slC (vs 17)),.slice none 0 0,.slice none 0 0,.slice none 0 0,.slice none 0 0] (by simp only [evp_none,ne_eq,Nat.reduceEqDiff,not_false_eq_true,evp_ne];rfl) (by rw [evp_same _ _ _ (by simp [evp_size])]) 31 _ HOX.out size31 rfl one13 ?_))
  (try simp only [Exit.inBlock,Exit.then])
  refine bodyPost_end (results_cell_row (P:=Tryz.prog) rfl _ _ w.heap.size 31 #[.int .i64 0,.string a,.string b,.int .u32 0,.int .u32 0,.slice (slA (vs 12)) (lf.length) (slC (vs 12)),.slice (slA (vs 22)) (lr.length) (slC (vs 22)),.slice none 0 0,.slice (slA (vs 17)) (vls.length) (slC (vs 17)),.slice none 0 0,.slice none 0 0,.slice none 0 0,.slice none 0 0] (0,0) _ rfl (setRow_heap _ _ _ _ _ _ HOX.out) Tryz.underlying31 rfl size31) rfl ?_
  exact tells_of (((Ext.refl w1).but.row _).ext (HE.out.ext XW.out (by omega)) (Nat.le_refl _)) HK5.out HK6.out (fun _ _=>rdi_nil _ _) HK8.out (fun _ _=>RdB.nil _) (fun _ _=>rd1_nil _ _) ⟨by decide,by decide⟩ (nofun) (nofun) hbv
theorem told9 (n:Int)(lf:List Int)(Af:Option Addr)(cf:Nat)(vls:List (Bool×List Int))(Av:Option Addr)(cv:Nat)(x:Int)(w:World)(bk:Nat)(hblk:w.heap[bk]?=some (.cells #[.int .u32 n,.slice Af lf.length cf,.slice Av vls.length cv,.int .u16 x] 131 (0,0)))(hn:0<=n/\n < 4294967296)(HF:Hid (RdI .u16 w (.slice Af lf.length cf) lf))(hlf:lf.length<=20)(hgf:∀y∈lf,0<=y/\y < 32768)(HV:Hid (Rd1 isOpt w (.slice Av vls.length cv) (vls.map optV)))(hlv:vls.length<=20)(hgv:∀y∈vls,y.2.length<=200/\(y.1=true->y.2.length=0))(hbv:∀y∈vls,∀z∈y.2,0<=z/\z < 256)(hx16:0<=x/\x < 32768):
 Calls Tryz.prog 48 #[.int .i64 9,.iface 125 (.pointer (some ⟨bk,0,none⟩))] w (Tells 9 (DecP 9 ⟨#[]⟩ ⟨#[]⟩ n lf [x] [] [] vls [] [] []) w):=by
 have n101:=no101 125
 have n108:=no108 125
 have n111:=no111 125
 have n114:=no114 125
 have n116:=no116 125
 have n119:=no119 125
 have n122:=no122 125
 have y125:=yes125
 obtain⟨W2,hW2,XW,HM,HO,HMB,HOB⟩:=made31 w 9
 have HX0:=zh (zc hblk 0 (.int .u32 n) rfl)
 have HX1:=zh (zc hblk 1 (.slice Af lf.length cf) rfl)
 have HX2:=zh (zc hblk 2 (.slice Av vls.length cv) rfl)
 have HX3:=zh (zc hblk 3 (.int .u16 x) rfl)
 clear hblk
 go_enter Tryz.func48,Tryz.ntmps48
 go_wp2
 rw [<-hW2]
 clear hW2
 have hwr:IntKind.i64.wrap x=x:=by rw [IntKind.wrap_i64];omega
 have hwr2:x % 65536=x:=by omega
 refine wp_region_ogL (J:=TJ (w.heap.size+1) W2 #[.int .i64 9,.string ⟨#[]⟩,.string ⟨#[]⟩,.int .u32 0,.int .u32 0,.slice none 0 0,.slice none 0 0,.slice none 0 0,.slice none 0 0,.slice none 0 0,.slice none 0 0,.slice none 0 0,.slice none 0 0] [(21,3,(fun _=> .int .u32 n)),(23,5,(fun vs=> .slice (slA (vs 8)) (lf.length) (slC (vs 8)))),(25,8,(fun vs=> .slice (slA (vs 13)) (vls.length) (slC (vs 13)))),(27,6,(fun vs=> .slice (slA (vs 19)) (1) (slC (vs 19))))]) (R:=ExtBut (w.heap.size+1)) [Sp.eq _ (.pointer (some ⟨bk,0,none⟩)),Sp.eq _ (.pointer (some ⟨bk,0,none⟩)),Sp.eq _ (.pointer (some ⟨bk,0,none⟩)),Sp.eq _ (.int .u32 n),Sp.eq _ (.pointer (some ⟨bk,0,none⟩)),Sp.eq _ (.pointer (some ⟨bk,0,none⟩)),Sp.eq _ (.pointer (some ⟨bk,1,none⟩)),Sp.eq _ (.slice Af lf.length cf),spB (fun v w=>RdI .i64 w v lf) (lf.length) (w.heap.size+1) W2 HMB.out,Sp.eq _ (.pointer (some ⟨bk,0,none⟩)),Sp.eq _ (.pointer (some ⟨bk,0,none⟩)),Sp.eq _ (.pointer (some ⟨bk,2,none⟩)),Sp.eq _ (.slice Av vls.length cv),spB (fun v w=>RdM 2 isVal w v vls) (vls.length) (w.heap.size+1) W2 HMB.out,Sp.eq _ (.pointer (some ⟨bk,0,none⟩)),Sp.eq _ (.pointer (some ⟨bk,0,none⟩)),Sp.eq _ (.pointer (some ⟨bk,3,none⟩)),Sp.eq _ (.int .u16 x),Sp.eq _ (.int .i64 x),spB (fun v w=>RdI .i64 w v [x]) (1) (w.heap.size+1) W2 HMB.out,Sp.eq _ (.pointer (some ⟨w.heap.size+1,3,none⟩)),Sp.any _,Sp.eq _ (.pointer (some ⟨w.heap.size+1,5,none⟩)),Sp.any _,Sp.eq _ (.pointer (some ⟨w.heap.size+1,8,none⟩)),Sp.any _,Sp.eq _ (.pointer (some ⟨w.heap.size+1,6,none⟩)),Sp.any _] (by kernel_rfl) (by kernel_rfl) ?_ ?_ ?_
 ·exact TJ.start HM.out
 ·refine⟨?_,?_,?_,?_,?_,?_,?_,?_,?_,?_,?_,?_,?_,?_,?_,?_,?_,?_,?_,?_,?_,?_,?_,?_,?_,?_,?_,?_,trivial⟩
  all_goals try(intro vs w1 L hLi hd hdt hJ hp;have HXW:=zh (hJ.ext.ext XW.out (by omega));have h0:=HXW.out.cell HX0.out;have h1:=HXW.out.cell HX1.out;have h2:=HXW.out.cell HX2.out;have h3:=HXW.out.cell HX3.out;have HJ:=zh hJ;simp [deps,Region.binds,Sp.eq,Sp.any]at hp;(try obtain⟨hp,hp'⟩:=hp);clear hd hdt hLi hJ;simp only [putAll,Nat.reduceAdd];go_wp2;exact⟨rfl,HJ.out.keep zr _ _ (by simp [upd]),zr.but,rfl⟩)
  ·intro vs w1 L hLi hd hdt hJ hp
   have q7:vs 7=_:=zd hp 7
   have HJ:=zh hJ
   have HXW:=zh (hJ.ext.ext XW.out (by omega))
   have hLs23:=zh (zd hdt 23)
   clear hp hd hdt hLi hJ
   simp only [putAll,Nat.reduceAdd]
   go_wp2_with (go_at_call 63;refine(fromHalvesK lf Af cf _ (HF.out.ext HXW.out) (by omega) hgf).mono ?_;rintro e w2 ⟨A2,c2,rfl,hx2,hk2⟩;have HX2:=zh hx2;have HK2:=zh hk2;clear hx2 hk2)
   exact⟨rfl,HJ.out.keep HX2.out _ _ (by simp [upd,hLs23.out]),HX2.out.but,PR.made (R:=(fun v w=>RdI .i64 w v lf)) HK2.out HJ.out.ext.size⟩
  ·intro vs w1 L hLi hd hdt hJ hp
   have q12:vs 12=_:=zd hp 12
   have HJ:=zh hJ
   have HXW:=zh (hJ.ext.ext XW.out (by omega))
   have hLs25:=zh (zd hdt 25)
   clear hp hd hdt hLi hJ
   simp only [putAll,Nat.reduceAdd]
   go_wp2_with (go_at_call 62;refine(valuesOfK vls Av cv _ (HV.out.ext HXW.out (isOpt.ext HXW.out)) (by omega) (fun y hy=>⟨by have:=(hgv y hy).1;omega,(hgv y hy).2⟩)).mono ?_;rintro e w2 ⟨A2,c2,rfl,hx2,hk2⟩;have HX2:=zh hx2;have HK2:=zh hk2;clear hx2 hk2)
   exact⟨rfl,HJ.out.keep HX2.out _ _ (by simp [upd,hLs25.out]),HX2.out.but,PR.made (R:=(fun v w=>RdM 2 isVal w v vls)) HK2.out HJ.out.ext.size⟩
  ·intro vs w1 L hLi hd hdt hJ hp
   have q18:vs 18=_:=zd hp 18
   have HJ:=zh hJ
   have hLs27:=zh (zd hdt 27)
   clear hp hd hdt hLi hJ
   simp only [putAll,Nat.reduceAdd]
   go_wp2
   exact⟨rfl,HJ.out.keep (ext_alloc _ _) _ _ (by simp [upd,hLs27.out]),(ext_alloc _ _).but,pr_new _ _ _ HJ.out.ext.size⟩
  ·intro vs w1 L hLi hd hdt hJ hp
   have q0:vs 0=_:=zd hp 0
   have q1:vs 1=_:=zd hp 1
   have q2:vs 2=_:=zd hp 2
   have q3:vs 3=_:=zd hp 3
   have q7:vs 7=_:=zd hp 7
   have q12:vs 12=_:=zd hp 12
   have q17:vs 17=_:=zd hp 17
   have q20:vs 20=_:=zd hp 20
   have HJ:=zh hJ
   obtain⟨⟨_,hz⟩,hy⟩:=hJ.has 3 (show 3 < 13 by omega)
   have HL:=zh hLi
   clear hp hd hdt hLi hJ
   simp only [putAll,Nat.reduceAdd]
   go_wp2
   exact⟨rfl,HJ.out.on HL.out _ _ _ (by simp [upd]) (by simp),zr.but.set _ _,trivial⟩
  ·intro vs w1 L hLi hd hdt hJ hp
   have q0:vs 0=_:=zd hp 0
   have q1:vs 1=_:=zd hp 1
   have q2:vs 2=_:=zd hp 2
   have q3:vs 3=_:=zd hp 3
   have q4:vs 4=_:=zd hp 4
   have q5:vs 5=_:=zd hp 5
   have q6:vs 6=_:=zd hp 6
   have q7:vs 7=_:=zd hp 7
   have q12:vs 12=_:=zd hp 12
   have q17:vs 17=_:=zd hp 17
   have q20:vs 20=_:=zd hp 20
   have q22:vs 22=_:=zd hp 22
   have HJ:=zh hJ
   have hpv:PR (fun v w=>RdI .i64 w v lf) (lf.length) W2 (vs 8) w1:=zd hp 8
   have HV:=zh hpv.1
   clear hpv
   obtain⟨⟨_,hz⟩,hy⟩:=hJ.has 5 (show 5 < 13 by omega)
   have HL:=zh hLi
   clear hp hd hdt hLi hJ
   simp only [putAll,Nat.reduceAdd]
   rw [HV.out]
   go_wp2
   exact⟨rfl,HJ.out.on HL.out _ _ _ (by simp [upd]) (by simp),zr.but.set _ _,trivial⟩
  ·intro vs w1 L hLi hd hdt hJ hp
   have q0:vs 0=_:=zd hp 0
   have q1:vs 1=_:=zd hp 1
   have q2:vs 2=_:=zd hp 2
   have q3:vs 3=_:=zd hp 3
   have q4:vs 4=_:=zd hp 4
   have q5:vs 5=_:=zd hp 5
   have q6:vs 6=_:=zd hp 6
   have q7:vs 7=_:=zd hp 7
   have q9:vs 9=_:=zd hp 9
   have q10:vs 10=_:=zd hp 10
   have q11:vs 11=_:=zd hp 11
   have q12:vs 12=_:=zd hp 12
   have q17:vs 17=_:=zd hp 17
   have q20:vs 20=_:=zd hp 20
   have q22:vs 22=_:=zd hp 22
   have q24:vs 24=_:=zd hp 24
   have HJ:=zh hJ
   have hpv:PR (fun v w=>RdM 2 isVal w v vls) (vls.length) W2 (vs 13) w1:=zd hp 13
   have HV:=zh hpv.1
   clear hpv
   obtain⟨⟨_,hz⟩,hy⟩:=hJ.has 8 (show 8 < 13 by omega)
   have HL:=zh hLi
   clear hp hd hdt hLi hJ
   simp only [putAll,Nat.reduceAdd]
   rw [HV.out]
   go_wp2
   exact⟨rfl,HJ.out.on HL.out _ _ _ (by simp [upd]) (by simp),zr.but.set _ _,trivial⟩
  ·intro vs w1 L hLi hd hdt hJ hp
   have q0:vs 0=_:=zd hp 0
   have q1:vs 1=_:=zd hp 1
   have q2:vs 2=_:=zd hp 2
   have q3:vs 3=_:=zd hp 3
   have q4:vs 4=_:=zd hp 4
   have q5:vs 5=_:=zd hp 5
   have q6:vs 6=_:=zd hp 6
   have q7:vs 7=_:=zd hp 7
   have q9:vs 9=_:=zd hp 9
   have q10:vs 10=_:=zd hp 10
   have q11:vs 11=_:=zd hp 11
   have q12:vs 12=_:=zd hp 12
   have q14:vs 14=_:=zd hp 14
   have q15:vs 15=_:=zd hp 15
   have q16:vs 16=_:=zd hp 16
   have q17:vs 17=_:=zd hp 17
   have q18:vs 18=_:=zd hp 18
   have q20:vs 20=_:=zd hp 20
   have q22:vs 22=_:=zd hp 22
   have q24:vs 24=_:=zd hp 24
   have q26:vs 26=_:=zd hp 26
   have HJ:=zh hJ
   have hpv:PR (fun v w=>RdI .i64 w v [x]) (1) W2 (vs 19) w1:=zd hp 19
   have HV:=zh hpv.1
   clear hpv
   obtain⟨⟨_,hz⟩,hy⟩:=hJ.has 6 (show 6 < 13 by omega)
   have HL:=zh hLi
   clear hp hd hdt hLi hJ
   simp only [putAll,Nat.reduceAdd]
   rw [HV.out]
   go_wp2
   exact⟨rfl,HJ.out.on HL.out _ _ _ (by simp [upd]) (by simp),zr.but.set _ _,trivial⟩
 ·intro vs w1 L hall hJ hp
  have hL21:=zd hall 21
  have hL23:=zd hall 23
  have hL25:=zd hall 25
  have hL27:=zd hall 27
  have hbk:=hJ.blk
  simp [cellsT,hL21,hL23,hL25,hL27]at hbk
  have HBK:=zh hbk
  have HE:=zh hJ.ext
  have HP5:Hid (PR (fun v w=>RdI .i64 w v lf) (lf.length) W2 (vs 8) w1):=zh (zd hp 8)
  have HP8:Hid (PR (fun v w=>RdM 2 isVal w v vls) (vls.length) W2 (vs 13) w1):=zh (zd hp 13)
  have HP6:Hid (PR (fun v w=>RdI .i64 w v [x]) (1) W2 (vs 19) w1):=zh (zd hp 19)
  clear hp hall hJ hbk hL21 hL23 hL25 hL27
  simp only [putAll,Nat.reduceAdd]
  have HOX:=zh ((HE.out.block _ HOB.out (by omega)).trans HO.out)
  have HK5:=zh (HP5.out.tell (b:=w.heap.size) (cs:= #[.int .i64 9,.string ⟨#[]⟩,.string ⟨#[]⟩,.int .u32 n,.int .u32 0,.slice (slA (vs 8)) (lf.length) (slC (vs 8)),.slice (slA (vs 19)) (1) (slC (vs 19)),.slice none 0 0,.slice (slA (vs 13)) (vls.length) (slC (vs 13)),.slice none 0 0,.slice none 0 0,.slice none 0 0,.slice none 0 0]) XW.out.size HOB.out)
  have HK8:=zh (HP8.out.tell (b:=w.heap.size) (cs:= #[.int .i64 9,.string ⟨#[]⟩,.string ⟨#[]⟩,.int .u32 n,.int .u32 0,.slice (slA (vs 8)) (lf.length) (slC (vs 8)),.slice (slA (vs 19)) (1) (slC (vs 19)),.slice none 0 0,.slice (slA (vs 13)) (vls.length) (slC (vs 13)),.slice none 0 0,.slice none 0 0,.slice none 0 0,.slice none 0 0]) XW.out.size HOB.out)
  have HK6:=zh (HP6.out.tell (b:=w.heap.size) (cs:= #[.int .i64 9,.string ⟨#[]⟩,.string ⟨#[]⟩,.int .u32 n,.int .u32 0,.slice (slA (vs 8)) (lf.length) (slC (vs 8)),.slice (slA (vs 19)) (1) (slC (vs 19)),.slice none 0 0,.slice (slA (vs 13)) (vls.length) (slC (vs 13)),.slice none 0 0,.slice none 0 0,.slice none 0 0,.slice none 0 0]) XW.out.size HOB.out)
  simp only [Exit.then,Exit.inBlock]
  go_at_K
  simp only [Act.put,List.setIfInBounds_toArray,List.set_cons_zero,List.set_cons_succ]
  go_wp2_with (first|(refine wpList_load_row rfl 31 (.tmp 5) rfl (w.heap.size+1) rfl 31 #[.int .i64 9,.string ⟨#[]⟩,.string ⟨#[]⟩,.int .u32 n,.int .u32 0,.slice (slA (vs 8)) (lf.length) (slC (vs 8)),.slice (slA (vs 19)) (1) (slC (vs 19)),.slice none 0 0,.slice (slA (vs 13)) (vls.length) (slC (vs 13)),.slice none 0 0,.slice none 0 0,.slice none 0 0,.slice none 0 0] (0,0) _ HBK.out Tryz.underlying31 rfl size31 ?_)|(refine wpList_store_row rfl 31 (.tmp 4) (.tmp 256) rfl w.heap.size #[.int .i64 9,.string ⟨#[]⟩,.string ⟨#[]⟩,.int .u32 n,.int .u32 0,.slice (slA (vs 8)) (lf.length) (slC (vs 8)),.slice (slA (vs 19)) (1) (slC (vs 19)),.slice none 0 0,.slice (slA (vs 13)) (vls.length) (slC (vs 13)),.slice none 0 0,.slice none 0 0,.slice none 0 0,.slice none 0 0] (by simp only [evp_none,ne_eq,Nat.reduceEqDiff,not_false_eq_true,evp_ne];rfl) (by rw [evp_same _ _ _ (by simp [evp_size])]) 31 _ HOX.out size31 rfl one13 ?_))
  (try simp only [Exit.inBlock,Exit.then])
  refine bodyPost_end (results_cell_row (P:=Tryz.prog) rfl _ _ w.heap.size 31 #[.int .i64 9,.string ⟨#[]⟩,.string ⟨#[]⟩,.int .u32 n,.int .u32 0,.slice (slA (vs 8)) (lf.length) (slC (vs 8)),.slice (slA (vs 19)) (1) (slC (vs 19)),.slice none 0 0,.slice (slA (vs 13)) (vls.length) (slC (vs 13)),.slice none 0 0,.slice none 0 0,.slice none 0 0,.slice none 0 0] (0,0) _ rfl (setRow_heap _ _ _ _ _ _ HOX.out) Tryz.underlying31 rfl size31) rfl ?_
  exact tells_of (((Ext.refl w1).but.row _).ext (HE.out.ext XW.out (by omega)) (Nat.le_refl _)) HK5.out HK6.out (fun _ _=>rdi_nil _ _) HK8.out (fun _ _=>RdB.nil _) (fun _ _=>rd1_nil _ _) hn (nofun) (nofun) hbv
theorem answd41 (a:ByteArray)(Ad:Option Addr)(cd:Nat)(w:World)(bk mb:Nat)(hblk:w.heap[bk]?=some (.cells #[.slice Ad (sby a).length cd] 202 (0,0)))(HD:Hid (RdB w (.slice Ad (sby a).length cd) (sby a)))(hmb:w.heap[mb]?=some (.cells #[.int .i64 41,.string ⟨#[]⟩,.string ⟨#[]⟩,.int .u32 0,.int .u32 0,.slice none 0 0,.slice none 0 0,.slice none 0 0,.slice none 0 0,.slice none 0 0,.slice none 0 0,.slice none 0 0,.slice none 0 0] 31 (0,0)))(hne:bk≠mb):
 Calls Tryz.prog 65 #[.iface 200 (.pointer (some ⟨bk,0,none⟩)),.pointer (some ⟨mb,0,none⟩)] w (Answd 41 mb (DecP 41 a ⟨#[]⟩ 0 [] [] [] [] [] [] [] []) w):=by
 have n185:=no185 200
 have n189:=no189 200
 have n191:=no191 200
 have n194:=no194 200
 have n196:=no196 200
 have n198:=no198 200
 have y200:=yes200
 have HM:=zh hmb
 have hz:=zc HM.out 1 (.string ⟨#[]⟩) rfl
 have hy:=free_slot HM.out 1
 have hq:=zc hblk 0 (.slice Ad (sby a).length cd) rfl
 have hcv:=conv_rd HD.out
 rw [str_sby]at hcv
 have HB:Hid ((w.setCell ⟨mb,1,none⟩ (.string a)).heap[mb]?=some (.cells #[.int .i64 41,.string a,.string ⟨#[]⟩,.int .u32 0,.int .u32 0,.slice none 0 0,.slice none 0 0,.slice none 0 0,.slice none 0 0,.slice none 0 0,.slice none 0 0,.slice none 0 0,.slice none 0 0] 31 (0,0))):=zh (slot_setCell HM.out)
 clear hblk hmb hne
 go_enter Tryz.func65,Tryz.ntmps65
 go_wp2
 (try simp only [Exit.inBlock,Exit.then]);first|refine bodyPost_end (results_none rfl _ _ _) rfl ?_|refine bodyPost_ret (results_none rfl _ _ _) rfl ?_
 exact answd_of ((Ext.refl w).but.set _ _) HB.out (fun _ _=>rdi_nil _ _) (fun _ _=>rdi_nil _ _) (fun _ _=>rdi_nil _ _) (fun _ _=>rdm_nil _ _ _) (fun _ _=>RdB.nil _) (fun _ _=>rd1_nil _ _) ⟨by decide,by decide⟩ (nofun) (nofun) (nofun)
theorem answd32 (d0 d1 d2 d3:Int)(w:World)(bk mb:Nat)(hblk:w.heap[bk]?=some (.cells #[.int .u8 d0,.int .u8 d1,.int .u8 d2,.int .u8 d3] 188 (0,0)))(hgd:∀y∈[d0,d1,d2,d3],0<=y/\y < 256)(hmb:w.heap[mb]?=some (.cells #[.int .i64 32,.string ⟨#[]⟩,.string ⟨#[]⟩,.int .u32 0,.int .u32 0,.slice none 0 0,.slice none 0 0,.slice none 0 0,.slice none 0 0,.slice none 0 0,.slice none 0 0,.slice none 0 0,.slice none 0 0] 31 (0,0)))(hne:bk≠mb):
 Calls Tryz.prog 65 #[.iface 185 (.pointer (some ⟨bk,0,none⟩)),.pointer (some ⟨mb,0,none⟩)] w (Answd 32 mb (DecP 32 ⟨#[]⟩ ⟨#[]⟩ 0 [] [] [] [d0,d1,d2,d3] [] [] [] []) w):=by
 have y185:=yes185
 have HM:=zh hmb
 have HMB:=zh (zl hmb)
 have HD:=zh (rdb4 hblk)
 clear hblk hmb hne
 go_enter Tryz.func65,Tryz.ntmps65
 go_wp2_with (go_at_call 47;refine(copiedK _ [d0,d1,d2,d3] _ HD.out (by simp)).mono ?_;rintro e w2 ⟨A2,c2,rfl,hx2,hk2⟩;have HX2:=zh hx2;have HK2:=zh hk2;have HM2:=zh ((hx2.block _ HMB.out).trans HM.out);clear hx2 hk2;have hz:=zc HM2.out 9 (.slice none 0 0) rfl;have hy:=free_slot HM2.out 9)
 have hB:(w2.setCell ⟨mb,9,none⟩ (.slice A2 ([d0,d1,d2,d3]:List Int).length c2)).heap[mb]?=some (.cells #[.int .i64 32,.string ⟨#[]⟩,.string ⟨#[]⟩,.int .u32 0,.int .u32 0,.slice none 0 0,.slice none 0 0,.slice none 0 0,.slice none 0 0,.slice A2 ([d0,d1,d2,d3]:List Int).length c2,.slice none 0 0,.slice none 0 0,.slice none 0 0] 31 (0,0)):=slot_setCell HM2.out
 have HB:=zh hB
 clear hB
 (try simp only [Exit.inBlock,Exit.then]);first|refine bodyPost_end (results_none rfl _ _ _) rfl ?_|refine bodyPost_ret (results_none rfl _ _ _) rfl ?_
 exact answd_of (HX2.out.but.set _ _) HB.out (fun _ _=>rdi_nil _ _) (fun _ _=>rdi_nil _ _) (fun _ _=>rdi_nil _ _) (fun _ _=>rdm_nil _ _ _) (keeps_put HK2.out HMB.out) (fun _ _=>rd1_nil _ _) ⟨by decide,by decide⟩ (nofun) hgd (nofun)
theorem rdm_one {x:Bool×List Int} {A:Option Addr} {c g:Nat} {w3:World} (hg:w3.heap[g]?=some (.cells #[.bool x.1,.slice A x.2.length c] 58 (0,0)))(hr:RdB w3 (.slice A x.2.length c) x.2):RdM 2 isVal w3 (.slice (some ⟨g,0,none⟩) 1 1) [x]:=by
 refine⟨_,1,rfl,Nat.le_refl _,by unfold maxLen;omega,fun _=>⟨g,0,rfl,fun j hj=>?_⟩⟩
 obtain rfl:j=0:=by simp at hj;omega
 refine⟨fun k=>if k=0 then .bool x.1 else .slice A x.2.length c,fun k hk=>?_,rfl,A,c,rfl,hr⟩
 rcases k with _|_|k
 ·exact zc hg 0 _ rfl
 ·exact zc hg 1 _ rfl
 ·omega
theorem answd49 (x:Bool×List Int)(u:Value)(w:World)(bk mb:Nat)(hblk:w.heap[bk]?=some (.cells #[u] 221 (0,0)))(HU:Hid (isOpt w (optV x) u))(hxl:x.2.length<=200)(hx0:x.1=true->x.2.length=0)(hgb:∀z∈x.2,0<=z/\z < 256)(hmb:w.heap[mb]?=some (.cells #[.int .i64 49,.string ⟨#[]⟩,.string ⟨#[]⟩,.int .u32 0,.int .u32 0,.slice none 0 0,.slice none 0 0,.slice none 0 0,.slice none 0 0,.slice none 0 0,.slice none 0 0,.slice none 0 0,.slice none 0 0] 31 (0,0)))(hne:bk≠mb):
 Calls Tryz.prog 65 #[.iface 219 (.pointer (some ⟨bk,0,none⟩)),.pointer (some ⟨mb,0,none⟩)] w (Answd 49 mb (DecP 49 ⟨#[]⟩ ⟨#[]⟩ 0 [] [] [] [] [x] [] [] []) w):=by
 have hc:Hid (Calls Tryz.prog 69 #[u] w (GaveV x w)):=zh (by
  obtain⟨x1,x2⟩:=x
  have h1:=HU.out
  cases x1 with
  | true=>
    have h2:x2=[]:=List.eq_nil_of_length_eq_zero (hx0 rfl)
    subst h2
    have h3:u=.slice none 0 0:=h1
    rw [h3]
    exact valueOfN w
  | false=>
    obtain⟨p,c,h3,h4⟩:=h1
    rw [h3]at h4⊢
    exact valueOfK x2 p c w h4 (by have:x2.length<=200:=hxl;omega))
 have n185:=no185 219
 have n189:=no189 219
 have n191:=no191 219
 have n194:=no194 219
 have n196:=no196 219
 have n198:=no198 219
 have n200:=no200 219
 have n203:=no203 219
 have n206:=no206 219
 have n208:=no208 219
 have n210:=no210 219
 have n213:=no213 219
 have n217:=no217 219
 have y219:=yes219
 have HM:=zh hmb
 have HMB:=zh (zl hmb)
 have hq:=zc hblk 0 u rfl
 clear hblk hmb hne
 go_enter Tryz.func65,Tryz.ntmps65
 go_wp2_with (go_at_call 69;refine hc.out.mono ?_;rintro e w2 ⟨A2,c2,rfl,hx2,hk2⟩;clear hq;have HX2:=zh hx2;have HK2:=zh hk2;have HM2:=zh ((hx2.block _ HMB.out).trans HM.out);have HM3:=zh (((ext_alloc w2 (.cells #[.bool x.1,.slice A2 x.2.length c2] 58)).block _ (zl HM2.out)).trans HM2.out);clear hx2 hk2;have hz:=zc HM3.out 8 (.slice none 0 0) rfl;have hy:=free_slot HM3.out 8)
 have hB:((w2.alloc (.cells #[.bool x.1,.slice A2 x.2.length c2] 58)).setCell ⟨mb,8,none⟩ (.slice (some ⟨w2.heap.size,0,none⟩) 1 1)).heap[mb]?=some (.cells #[.int .i64 49,.string ⟨#[]⟩,.string ⟨#[]⟩,.int .u32 0,.int .u32 0,.slice none 0 0,.slice none 0 0,.slice none 0 0,.slice (some ⟨w2.heap.size,0,none⟩) 1 1,.slice none 0 0,.slice none 0 0,.slice none 0 0,.slice none 0 0] 31 (0,0)):=slot_setCell HM3.out
 have HB:=zh hB
 clear hB
 (try simp only [Exit.inBlock,Exit.then]);first|refine bodyPost_end (results_none rfl _ _ _) rfl ?_|refine bodyPost_ret (results_none rfl _ _ _) rfl ?_
 refine answd_of (((HX2.out.trans (ext_alloc _ _)).but).set _ _) HB.out (fun _ _=>rdi_nil _ _) (fun _ _=>rdi_nil _ _) (fun _ _=>rdi_nil _ _) ?_ (fun _ _=>RdB.nil _) (fun _ _=>rd1_nil _ _) ⟨by decide,by decide⟩ (nofun) (nofun) (by intro y hy;simp at hy;subst hy;exact hgb)
 have hK:=keeps_put (j:=8) (u:=.slice (some ⟨w2.heap.size,0,none⟩) 1 1) (R:=fun w3=>RdM 2 isVal w3 (.slice (some ⟨w2.heap.size,0,none⟩) 1 1) [x]) (W:=w) (x:=w2.alloc (.cells #[.bool x.1,.slice A2 x.2.length c2] 58)) (fun w3 h3=>?_) HMB.out
 ·exact hK
 ·have h9:=h3 w2.heap.size HX2.out.size (by simp)
  rw [heap_alloc_new]at h9
  exact rdm_one h9 (HK2.out w3 fun k h1 h2=>(h3 k h1 (by simp;omega)).trans ((ext_alloc w2 _).block k h2))
end Go.Proofs.YtdenjanihikolaaGreatDoor
