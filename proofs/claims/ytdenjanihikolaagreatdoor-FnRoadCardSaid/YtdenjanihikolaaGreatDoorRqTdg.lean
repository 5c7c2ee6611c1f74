/- told and answered by kind: Tdg. -/
import Derived.Test.YtdenjanihikolaaGreatDoorRqA0
import Derived.Test.YtdenjanihikolaaGreatDoorRqA1
import Derived.Test.YtdenjanihikolaaGreatDoorRqDkg
import Derived.Test.YtdenjanihikolaaGreatDoorRqFit
import Derived.Test.YtdenjanihikolaaGreatDoorRqTa
import Derived.Test.YtdenjanihikolaaGreatDoorRqSmu
namespace Go.Proofs.YtdenjanihikolaaGreatDoor
set_option linter.unusedVariables false
set_option linter.unusedSimpArgs false
set_option maxRecDepth 100000
set_option maxHeartbeats 4000000
open Go.RowKit Og
theorem answd38 (n:Int)(d:List Int)(Ad:Option Addr)(cd:Nat)(w:World)(bk mb:Nat)(hblk:w.heap[bk]?=some (.cells #[.int .u32 n,.slice Ad d.length cd] 199 (0,0)))(hn:0<=n/\n < 4294967296)(HD:Hid (RdB w (.slice Ad d.length cd) d))(hld:d.length<=500)(hgd:∀y∈d,0<=y/\y < 256)(hmb:w.heap[mb]?=some (.cells #[.int .i64 38,.string ⟨#[]⟩,.string ⟨#[]⟩,.int .u32 0,.int .u32 0,.slice none 0 0,.slice none 0 0,.slice none 0 0,.slice none 0 0,.slice none 0 0,.slice none 0 0,.slice none 0 0,.slice none 0 0] 31 (0,0)))(hne:bk≠mb):
 Calls Tryz.prog 65 #[.iface 198 (.pointer (some ⟨bk,0,none⟩)),.pointer (some ⟨mb,0,none⟩)] w (Answd 38 mb (DecP 38 ⟨#[]⟩ ⟨#[]⟩ n [] [] [] d [] [] [] []) w):=by
 have n185:=no185 198
 have n189:=no189 198
 have n191:=no191 198
 have n194:=no194 198
 have n196:=no196 198
 have y198:=yes198
 have HM:=zh hmb
 have HMB:=zh (zl hmb)
 have HNE:=zh hne
 have HBB:=zh (zl hblk)
 have HBK0:=zh hblk
 have HX0:=zh (zc hblk 0 (.int .u32 n) rfl)
 have HX1:=zh (zc hblk 1 (.slice Ad d.length cd) rfl)
 clear hblk hmb hne
 go_enter Tryz.func65,Tryz.ntmps65
 go_wp2
 refine wp_region_ogL (J:=TJ (mb) w #[.int .i64 38,.string ⟨#[]⟩,.string ⟨#[]⟩,.int .u32 0,.int .u32 0,.slice none 0 0,.slice none 0 0,.slice none 0 0,.slice none 0 0,.slice none 0 0,.slice none 0 0,.slice none 0 0,.slice none 0 0] [(13,3,(fun _=> .int .u32 n)),(16,9,(fun vs=> .slice (slA (vs 10)) (d.length) (slC (vs 10))))]) (R:=ExtBut (mb)) [Sp.eq _ (.pointer (some ⟨mb,0,none⟩)),Sp.eq _ (.pointer (some ⟨mb,0,none⟩)),Sp.eq _ (.pointer (some ⟨bk,0,none⟩)),Sp.eq _ (.pointer (some ⟨bk,0,none⟩)),Sp.eq _ (.pointer (some ⟨bk,0,none⟩)),Sp.eq _ (.int .u32 n),Sp.eq _ (.pointer (some ⟨bk,0,none⟩)),Sp.eq _ (.pointer (some ⟨bk,0,none⟩)),Sp.eq _ (.pointer (some ⟨bk,1,none⟩)),Sp.eq _ (.slice Ad d.length cd),spB (fun v w=>RdB w v d) (d.length) (mb) w HMB.out,Sp.eq _ (.pointer (some ⟨mb,0,none⟩)),Sp.eq _ (.pointer (some ⟨mb,3,none⟩)),Sp.any _,Sp.eq _ (.pointer (some ⟨mb,0,none⟩)),Sp.eq _ (.pointer (some ⟨mb,9,none⟩)),Sp.any _] (by kernel_rfl) (by kernel_rfl) ?_ ?_ ?_
 ·exact TJ.start HM.out
 ·refine⟨?_,?_,?_,?_,?_,?_,?_,?_,?_,?_,?_,?_,?_,?_,?_,?_,?_,trivial⟩
  all_goals try(intro vs w1 L hLi hd hdt hJ hp;have hb:=(hJ.ext.block bk HBB.out HNE.out).trans HBK0.out;have h0:=zc hb 0 (.int .u32 n) rfl;have h1:=zc hb 1 (.slice Ad d.length cd) rfl;clear hb;have HJ:=zh hJ;simp [deps,Region.binds,Sp.eq,Sp.any]at hp;(try obtain⟨hp,hp'⟩:=hp);clear hd hdt hLi hJ;simp only [putAll,Nat.reduceAdd];go_wp2;exact⟨rfl,HJ.out.keep zr _ _ (by simp [upd]),zr.but,rfl⟩)
  ·intro vs w1 L hLi hd hdt hJ hp
   have q9:vs 9=_:=zd hp 9
   have HJ:=zh hJ
   have hS13:=zd hdt 13
   have hS16:=zd hdt 16
   have HXW:=zh (hJ.ext.full (by rw [hJ.blk,HM.out];simp [cellsT,hS13,hS16]))
   clear hS13 hS16
   have hLs16:=zh (zd hdt 16)
   clear hp hd hdt hLi hJ
   simp only [putAll,Nat.reduceAdd]
   go_wp2_with (go_at_call 47;refine(copiedK _ d _ (HD.out.ext HXW.out) (by omega)).mono ?_;rintro e w2 ⟨A2,c2,rfl,hx2,hk2⟩;have HX2:=zh hx2;have HK2:=zh hk2;clear hx2 hk2)
   exact⟨rfl,HJ.out.keep HX2.out _ _ (by simp [upd,hLs16.out]),HX2.out.but,PR.made (R:=(fun v w=>RdB w v d)) HK2.out HJ.out.ext.size⟩
  ·intro vs w1 L hLi hd hdt hJ hp
   have q0:vs 0=_:=zd hp 0
   have q2:vs 2=_:=zd hp 2
   have q3:vs 3=_:=zd hp 3
   have q4:vs 4=_:=zd hp 4
   have q5:vs 5=_:=zd hp 5
   have q9:vs 9=_:=zd hp 9
   have q12:vs 12=_:=zd hp 12
   have HJ:=zh hJ
   obtain⟨⟨_,hz⟩,hy⟩:=hJ.has 3 (show 3 < 13 by omega)
   have HL:=zh hLi
   clear hp hd hdt hLi hJ
   simp only [putAll,Nat.reduceAdd]
   go_wp2
   exact⟨rfl,HJ.out.on HL.out _ _ _ (by simp [upd]) (by simp),zr.but.set _ _,trivial⟩
  ·intro vs w1 L hLi hd hdt hJ hp
   have q0:vs 0=_:=zd hp 0
   have q1:vs 1=_:=zd hp 1
   have q2:vs 2=_:=zd hp 2
   have q3:vs 3=_:=zd hp 3
   have q4:vs 4=_:=zd hp 4
   have q5:vs 5=_:=zd hp 5
   have q6:vs 6=_:=zd hp 6
   have q7:vs 7=_:=zd hp 7
   have q8:vs 8=_:=zd hp 8
   have q9:vs 9=_:=zd hp 9
   have q11:vs 11=_:=zd hp 11
   have q12:vs 12=_:=zd hp 12
   have q15:vs 15=_:=zd hp 15
   have HJ:=zh hJ
   have hpv:PR (fun v w=>RdB w v d) (d.length) w (vs 10) w1:=zd hp 10
   have HV:=zh hpv.1
   clear hpv
   obtain⟨⟨_,hz⟩,hy⟩:=hJ.has 9 (show 9 < 13 by omega)
   have HL:=zh hLi
   clear hp hd hdt hLi hJ
   simp only [putAll,Nat.reduceAdd]
   rw [HV.out]
   go_wp2
   exact⟨rfl,HJ.out.on HL.out _ _ _ (by simp [upd]) (by simp),zr.but.set _ _,trivial⟩
 ·intro vs w1 L hall hJ hp
  have hL13:=zd hall 13
  have hL16:=zd hall 16
  have hbk:=hJ.blk
  simp [cellsT,hL13,hL16]at hbk
  have HBK:=zh hbk
  have HE:=zh hJ.ext
  have HP9:Hid (PR (fun v w=>RdB w v d) (d.length) w (vs 10) w1):=zh (zd hp 10)
  clear hp hall hJ hbk hL13 hL16
  simp only [putAll,Nat.reduceAdd]
  (try simp only [Exit.then,Exit.inBlock])
  (try go_at_K)
  (try go_wp2)
  (try simp only [Exit.inBlock,Exit.then]);first|refine bodyPost_end (results_none rfl _ _ _) rfl ?_|refine bodyPost_ret (results_none rfl _ _ _) rfl ?_
  exact answd_of HE.out HBK.out (fun _ _=>rdi_nil _ _) (fun _ _=>rdi_nil _ _) (fun _ _=>rdi_nil _ _) (fun _ _=>rdm_nil _ _ _) HP9.out.keeps (fun _ _=>rd1_nil _ _) hn (nofun) hgd (nofun)
theorem answd42 (n:Int)(lf:List Int)(Af:Option Addr)(cf:Nat)(w:World)(bk mb:Nat)(hblk:w.heap[bk]?=some (.cells #[.int .u8 n,.slice Af lf.length cf] 205 (0,0)))(hn:0<=n/\n < 256)(HF:Hid (RdI .u16 w (.slice Af lf.length cf) lf))(hlf:lf.length<=20)(hgf:∀y∈lf,0<=y/\y < 32768)(hmb:w.heap[mb]?=some (.cells #[.int .i64 42,.string ⟨#[]⟩,.string ⟨#[]⟩,.int .u32 0,.int .u32 0,.slice none 0 0,.slice none 0 0,.slice none 0 0,.slice none 0 0,.slice none 0 0,.slice none 0 0,.slice none 0 0,.slice none 0 0] 31 (0,0)))(hne:bk≠mb):
 Calls Tryz.prog 65 #[.iface 203 (.pointer (some ⟨bk,0,none⟩)),.pointer (some ⟨mb,0,none⟩)] w (Answd 42 mb (DecP 42 ⟨#[]⟩ ⟨#[]⟩ n lf [] [] [] [] [] [] []) w):=by
 have n185:=no185 203
 have n189:=no189 203
 have n191:=no191 203
 have n194:=no194 203
 have n196:=no196 203
 have n198:=no198 203
 have n200:=no200 203
 have y203:=yes203
 have HM:=zh hmb
 have HMB:=zh (zl hmb)
 have HNE:=zh hne
 have HBB:=zh (zl hblk)
 have HBK0:=zh hblk
 have HX0:=zh (zc hblk 0 (.int .u8 n) rfl)
 have HX1:=zh (zc hblk 1 (.slice Af lf.length cf) rfl)
 clear hblk hmb hne
 go_enter Tryz.func65,Tryz.ntmps65
 go_wp2
 have hwr:IntKind.u32.wrap n=n:=by rw [IntKind.wrap_u32];omega
 have hwr2:n % 4294967296=n:=by omega
 refine wp_region_ogL (J:=TJ (mb) w #[.int .i64 42,.string ⟨#[]⟩,.string ⟨#[]⟩,.int .u32 0,.int .u32 0,.slice none 0 0,.slice none 0 0,.slice none 0 0,.slice none 0 0,.slice none 0 0,.slice none 0 0,.slice none 0 0,.slice none 0 0] [(14,3,(fun _=> .int .u32 n)),(17,5,(fun vs=> .slice (slA (vs 11)) (lf.length) (slC (vs 11))))]) (R:=ExtBut (mb)) [Sp.eq _ (.pointer (some ⟨mb,0,none⟩)),Sp.eq _ (.pointer (some ⟨mb,0,none⟩)),Sp.eq _ (.pointer (some ⟨bk,0,none⟩)),Sp.eq _ (.pointer (some ⟨bk,0,none⟩)),Sp.eq _ (.pointer (some ⟨bk,0,none⟩)),Sp.eq _ (.int .u8 n),Sp.eq _ (.int .u32 n),Sp.eq _ (.pointer (some ⟨bk,0,none⟩)),Sp.eq _ (.pointer (some ⟨bk,0,none⟩)),Sp.eq _ (.pointer (some ⟨bk,1,none⟩)),Sp.eq _ (.slice Af lf.length cf),spB (fun v w=>RdI .i64 w v lf) (lf.length) (mb) w HMB.out,Sp.eq _ (.pointer (some ⟨mb,0,none⟩)),Sp.eq _ (.pointer (some ⟨mb,3,none⟩)),Sp.any _,Sp.eq _ (.pointer (some ⟨mb,0,none⟩)),Sp.eq _ (.pointer (some ⟨mb,5,none⟩)),Sp.any _] (by kernel_rfl) (by kernel_rfl) ?_ ?_ ?_
 ·exact TJ.start HM.out
 ·refine⟨?_,?_,?_,?_,?_,?_,?_,?_,?_,?_,?_,?_,?_,?_,?_,?_,?_,?_,trivial⟩
  all_goals try(intro vs w1 L hLi hd hdt hJ hp;have hb:=(hJ.ext.block bk HBB.out HNE.out).trans HBK0.out;have h0:=zc hb 0 (.int .u8 n) rfl;have h1:=zc hb 1 (.slice Af lf.length cf) rfl;clear hb;have HJ:=zh hJ;simp [deps,Region.binds,Sp.eq,Sp.any]at hp;(try obtain⟨hp,hp'⟩:=hp);clear hd hdt hLi hJ;simp only [putAll,Nat.reduceAdd];go_wp2;exact⟨rfl,HJ.out.keep zr _ _ (by simp [upd]),zr.but,rfl⟩)
  ·intro vs w1 L hLi hd hdt hJ hp
   have q10:vs 10=_:=zd hp 10
   have HJ:=zh hJ
   have hS14:=zd hdt 14
   have hS17:=zd hdt 17
   have HXW:=zh (hJ.ext.full (by rw [hJ.blk,HM.out];simp [cellsT,hS14,hS17]))
   clear hS14 hS17
   have hLs17:=zh (zd hdt 17)
   clear hp hd hdt hLi hJ
   simp only [putAll,Nat.reduceAdd]
   go_wp2_with (go_at_call 63;refine(fromHalvesK lf Af cf _ (HF.out.ext HXW.out) (by omega) hgf).mono ?_;rintro e w2 ⟨A2,c2,rfl,hx2,hk2⟩;have HX2:=zh hx2;have HK2:=zh hk2;clear hx2 hk2)
   exact⟨rfl,HJ.out.keep HX2.out _ _ (by simp [upd,hLs17.out]),HX2.out.but,PR.made (R:=(fun v w=>RdI .i64 w v lf)) HK2.out HJ.out.ext.size⟩
  ·intro vs w1 L hLi hd hdt hJ hp
   have q0:vs 0=_:=zd hp 0
   have q2:vs 2=_:=zd hp 2
   have q3:vs 3=_:=zd hp 3
   have q4:vs 4=_:=zd hp 4
   have q5:vs 5=_:=zd hp 5
   have q6:vs 6=_:=zd hp 6
   have q10:vs 10=_:=zd hp 10
   have q13:vs 13=_:=zd hp 13
   have HJ:=zh hJ
   obtain⟨⟨_,hz⟩,hy⟩:=hJ.has 3 (show 3 < 13 by omega)
   have HL:=zh hLi
   clear hp hd hdt hLi hJ
   simp only [putAll,Nat.reduceAdd]
   go_wp2
   exact⟨rfl,HJ.out.on HL.out _ _ _ (by simp [upd]) (by simp),zr.but.set _ _,trivial⟩
  ·intro vs w1 L hLi hd hdt hJ hp
   have q0:vs 0=_:=zd hp 0
   have q1:vs 1=_:=zd hp 1
   have q2:vs 2=_:=zd hp 2
   have q3:vs 3=_:=zd hp 3
   have q4:vs 4=_:=zd hp 4
   have q5:vs 5=_:=zd hp 5
   have q6:vs 6=_:=zd hp 6
   have q7:vs 7=_:=zd hp 7
   have q8:vs 8=_:=zd hp 8
   have q9:vs 9=_:=zd hp 9
   have q10:vs 10=_:=zd hp 10
   have q12:vs 12=_:=zd hp 12
   have q13:vs 13=_:=zd hp 13
   have q16:vs 16=_:=zd hp 16
   have HJ:=zh hJ
   have hpv:PR (fun v w=>RdI .i64 w v lf) (lf.length) w (vs 11) w1:=zd hp 11
   have HV:=zh hpv.1
   clear hpv
   obtain⟨⟨_,hz⟩,hy⟩:=hJ.has 5 (show 5 < 13 by omega)
   have HL:=zh hLi
   clear hp hd hdt hLi hJ
   simp only [putAll,Nat.reduceAdd]
   rw [HV.out]
   go_wp2
   exact⟨rfl,HJ.out.on HL.out _ _ _ (by simp [upd]) (by simp),zr.but.set _ _,trivial⟩
 ·intro vs w1 L hall hJ hp
  have hL14:=zd hall 14
  have hL17:=zd hall 17
  have hbk:=hJ.blk
  simp [cellsT,hL14,hL17]at hbk
  have HBK:=zh hbk
  have HE:=zh hJ.ext
  have HP5:Hid (PR (fun v w=>RdI .i64 w v lf) (lf.length) w (vs 11) w1):=zh (zd hp 11)
  clear hp hall hJ hbk hL14 hL17
  simp only [putAll,Nat.reduceAdd]
  (try simp only [Exit.then,Exit.inBlock])
  (try go_at_K)
  (try go_wp2)
  (try simp only [Exit.inBlock,Exit.then]);first|refine bodyPost_end (results_none rfl _ _ _) rfl ?_|refine bodyPost_ret (results_none rfl _ _ _) rfl ?_
  exact answd_of HE.out HBK.out HP5.out.keeps (fun _ _=>rdi_nil _ _) (fun _ _=>rdi_nil _ _) (fun _ _=>rdm_nil _ _ _) (fun _ _=>RdB.nil _) (fun _ _=>rd1_nil _ _) ⟨hn.1,by have:=hn.2;omega⟩ (nofun) (nofun) (nofun)
theorem answd43 (n:Int)(lf:List Int)(Af:Option Addr)(cf:Nat)(w:World)(bk mb:Nat)(hblk:w.heap[bk]?=some (.cells #[.int .u8 n,.slice Af lf.length cf] 207 (0,0)))(hn:0<=n/\n < 256)(HF:Hid (RdI .u16 w (.slice Af lf.length cf) lf))(hlf:lf.length<=20)(hgf:∀y∈lf,0<=y/\y < 32768)(hmb:w.heap[mb]?=some (.cells #[.int .i64 43,.string ⟨#[]⟩,.string ⟨#[]⟩,.int .u32 0,.int .u32 0,.slice none 0 0,.slice none 0 0,.slice none 0 0,.slice none 0 0,.slice none 0 0,.slice none 0 0,.slice none 0 0,.slice none 0 0] 31 (0,0)))(hne:bk≠mb):
 Calls Tryz.prog 65 #[.iface 206 (.pointer (some ⟨bk,0,none⟩)),.pointer (some ⟨mb,0,none⟩)] w (Answd 43 mb (DecP 43 ⟨#[]⟩ ⟨#[]⟩ n lf [] [] [] [] [] [] []) w):=by
 have n185:=no185 206
 have n189:=no189 206
 have n191:=no191 206
 have n194:=no194 206
 have n196:=no196 206
 have n198:=no198 206
 have n200:=no200 206
 have n203:=no203 206
 have y206:=yes206
 have HM:=zh hmb
 have HMB:=zh (zl hmb)
 have HNE:=zh hne
 have HBB:=zh (zl hblk)
 have HBK0:=zh hblk
 have HX0:=zh (zc hblk 0 (.int .u8 n) rfl)
 have HX1:=zh (zc hblk 1 (.slice Af lf.length cf) rfl)
 clear hblk hmb hne
 go_enter Tryz.func65,Tryz.ntmps65
 go_wp2
 have hwr:IntKind.u32.wrap n=n:=by rw [IntKind.wrap_u32];omega
 have hwr2:n % 4294967296=n:=by omega
 refine wp_region_ogL (J:=TJ (mb) w #[.int .i64 43,.string ⟨#[]⟩,.string ⟨#[]⟩,.int .u32 0,.int .u32 0,.slice none 0 0,.slice none 0 0,.slice none 0 0,.slice none 0 0,.slice none 0 0,.slice none 0 0,.slice none 0 0,.slice none 0 0] [(14,3,(fun _=> .int .u32 n)),(17,5,(fun vs=> .slice (slA (vs 11)) (lf.length) (slC (vs 11))))]) (R:=ExtBut (mb)) [Sp.eq _ (.pointer (some ⟨mb,0,none⟩)),Sp.eq _ (.pointer (some ⟨mb,0,none⟩)),Sp.eq _ (.pointer (some ⟨bk,0,none⟩)),Sp.eq _ (.pointer (some ⟨bk,0,none⟩)),Sp.eq _ (.pointer (some ⟨bk,0,none⟩)),Sp.eq _ (.int .u8 n),Sp.eq _ (.int .u32 n),Sp.eq _ (.pointer (some ⟨bk,0,none⟩)),Sp.eq _ (.pointer (some ⟨bk,0,none⟩)),Sp.eq _ (.pointer (some ⟨bk,1,none⟩)),Sp.eq _ (.slice Af lf.length cf),spB (fun v w=>RdI .i64 w v lf) (lf.length) (mb) w HMB.out,Sp.eq _ (.pointer (some ⟨mb,0,none⟩)),Sp.eq _ (.pointer (some ⟨mb,3,none⟩)),Sp.any _,Sp.eq _ (.pointer (some ⟨mb,0,none⟩)),Sp.eq _ (.pointer (some ⟨mb,5,none⟩)),Sp.any _] (by kernel_rfl) (by kernel_rfl) ?_ ?_ ?_
 ·exact TJ.start HM.out
 ·refine⟨?_,?_,?_,?_,?_,?_,?_,?_,?_,?_,?_,?_,?_,?_,?_,?_,?_,?_,trivial⟩
  all_goals try(intro vs w1 L hLi hd hdt hJ hp;have hb:=(hJ.ext.block bk HBB.out HNE.out).trans HBK0.out;have h0:=zc hb 0 (.int .u8 n) rfl;have h1:=zc hb 1 (.slice Af lf.length cf) rfl;clear hb;have HJ:=zh hJ;simp [deps,Region.binds,Sp.eq,Sp.any]at hp;(try obtain⟨hp,hp'⟩:=hp);clear hd hdt hLi hJ;simp only [putAll,Nat.reduceAdd];go_wp2;exact⟨rfl,HJ.out.keep zr _ _ (by simp [upd]),zr.but,rfl⟩)
  ·intro vs w1 L hLi hd hdt hJ hp
   have q10:vs 10=_:=zd hp 10
   have HJ:=zh hJ
   have hS14:=zd hdt 14
   have hS17:=zd hdt 17
   have HXW:=zh (hJ.ext.full (by rw [hJ.blk,HM.out];simp [cellsT,hS14,hS17]))
   clear hS14 hS17
   have hLs17:=zh (zd hdt 17)
   clear hp hd hdt hLi hJ
   simp only [putAll,Nat.reduceAdd]
   go_wp2_with (go_at_call 63;refine(fromHalvesK lf Af cf _ (HF.out.ext HXW.out) (by omega) hgf).mono ?_;rintro e w2 ⟨A2,c2,rfl,hx2,hk2⟩;have HX2:=zh hx2;have HK2:=zh hk2;clear hx2 hk2)
   exact⟨rfl,HJ.out.keep HX2.out _ _ (by simp [upd,hLs17.out]),HX2.out.but,PR.made (R:=(fun v w=>RdI .i64 w v lf)) HK2.out HJ.out.ext.size⟩
  ·intro vs w1 L hLi hd hdt hJ hp
   have q0:vs 0=_:=zd hp 0
   have q2:vs 2=_:=zd hp 2
   have q3:vs 3=_:=zd hp 3
   have q4:vs 4=_:=zd hp 4
   have q5:vs 5=_:=zd hp 5
   have q6:vs 6=_:=zd hp 6
   have q10:vs 10=_:=zd hp 10
   have q13:vs 13=_:=zd hp 13
   have HJ:=zh hJ
   obtain⟨⟨_,hz⟩,hy⟩:=hJ.has 3 (show 3 < 13 by omega)
   have HL:=zh hLi
   clear hp hd hdt hLi hJ
   simp only [putAll,Nat.reduceAdd]
   go_wp2
   exact⟨rfl,HJ.out.on HL.out _ _ _ (by simp [upd]) (by simp),zr.but.set _ _,trivial⟩
  ·intro vs w1 L hLi hd hdt hJ hp
   have q0:vs 0=_:=zd hp 0
   have q1:vs 1=_:=zd hp 1
   have q2:vs 2=_:=zd hp 2
   have q3:vs 3=_:=zd hp 3
   have q4:vs 4=_:=zd hp 4
   have q5:vs 5=_:=zd hp 5
   have q6:vs 6=_:=zd hp 6
   have q7:vs 7=_:=zd hp 7
   have q8:vs 8=_:=zd hp 8
   have q9:vs 9=_:=zd hp 9
   have q10:vs 10=_:=zd hp 10
   have q12:vs 12=_:=zd hp 12
   have q13:vs 13=_:=zd hp 13
   have q16:vs 16=_:=zd hp 16
   have HJ:=zh hJ
   have hpv:PR (fun v w=>RdI .i64 w v lf) (lf.length) w (vs 11) w1:=zd hp 11
   have HV:=zh hpv.1
   clear hpv
   obtain⟨⟨_,hz⟩,hy⟩:=hJ.has 5 (show 5 < 13 by omega)
   have HL:=zh hLi
   clear hp hd hdt hLi hJ
   simp only [putAll,Nat.reduceAdd]
   rw [HV.out]
   go_wp2
   exact⟨rfl,HJ.out.on HL.out _ _ _ (by simp [upd]) (by simp),zr.but.set _ _,trivial⟩
 ·intro vs w1 L hall hJ hp
  have hL14:=zd hall 14
  have hL17:=zd hall 17
  have hbk:=hJ.blk
  simp [cellsT,hL14,hL17]at hbk
  have HBK:=zh hbk
  have HE:=zh hJ.ext
  have HP5:Hid (PR (fun v w=>RdI .i64 w v lf) (lf.length) w (vs 11) w1):=zh (zd hp 11)
  clear hp hall hJ hbk hL14 hL17
  simp only [putAll,Nat.reduceAdd]
  (try simp only [Exit.then,Exit.inBlock])
  (try go_at_K)
  (try go_wp2)
  (try simp only [Exit.inBlock,Exit.then]);first|refine bodyPost_end (results_none rfl _ _ _) rfl ?_|refine bodyPost_ret (results_none rfl _ _ _) rfl ?_
  exact answd_of HE.out HBK.out HP5.out.keeps (fun _ _=>rdi_nil _ _) (fun _ _=>rdi_nil _ _) (fun _ _=>rdm_nil _ _ _) (fun _ _=>RdB.nil _) (fun _ _=>rd1_nil _ _) ⟨hn.1,by have:=hn.2;omega⟩ (nofun) (nofun) (nofun)
theorem answd44 (n:Int)(lf:List Int)(Af:Option Addr)(cf:Nat)(w:World)(bk mb:Nat)(hblk:w.heap[bk]?=some (.cells #[.int .u8 n,.slice Af lf.length cf] 209 (0,0)))(hn:0<=n/\n < 256)(HF:Hid (RdI .u16 w (.slice Af lf.length cf) lf))(hlf:lf.length<=20)(hgf:∀y∈lf,0<=y/\y < 32768)(hmb:w.heap[mb]?=some (.cells #[.int .i64 44,.string ⟨#[]⟩,.string ⟨#[]⟩,.int .u32 0,.int .u32 0,.slice none 0 0,.slice none 0 0,.slice none 0 0,.slice none 0 0,.slice none 0 0,.slice none 0 0,.slice none 0 0,.slice none 0 0] 31 (0,0)))(hne:bk≠mb):
 Calls Tryz.prog 65 #[.iface 208 (.pointer (some ⟨bk,0,none⟩)),.pointer (some ⟨mb,0,none⟩)] w (Answd 44 mb (DecP 44 ⟨#[]⟩ ⟨#[]⟩ n lf [] [] [] [] [] [] []) w):=by
 have n185:=no185 208
 have n189:=no189 208
 have n191:=no191 208
 have n194:=no194 208
 have n196:=no196 208
 have n198:=no198 208
 have n200:=no200 208
 have n203:=no203 208
 have n206:=no206 208
 have y208:=yes208
 have HM:=zh hmb
 have HMB:=zh (zl hmb)
 have HNE:=zh hne
 have HBB:=zh (zl hblk)
 have HBK0:=zh hblk
 have HX0:=zh (zc hblk 0 (.int .u8 n) rfl)
 have HX1:=zh (zc hblk 1 (.slice Af lf.length cf) rfl)
 clear hblk hmb hne
 go_enter Tryz.func65,Tryz.ntmps65
 go_wp2
 have hwr:IntKind.u32.wrap n=n:=by rw [IntKind.wrap_u32];omega
 have hwr2:n % 4294967296=n:=by omega
 refine wp_region_ogL (J:=TJ (mb) w #[.int .i64 44,.string ⟨#[]⟩,.string ⟨#[]⟩,.int .u32 0,.int .u32 0,.slice none 0 0,.slice none 0 0,.slice none 0 0,.slice none 0 0,.slice none 0 0,.slice none 0 0,.slice none 0 0,.slice none 0 0] [(14,3,(fun _=> .int .u32 n)),(17,5,(fun vs=> .slice (slA (vs 11)) (lf.length) (slC (vs 11))))]) (R:=ExtBut (mb)) [Sp.eq _ (.pointer (some ⟨mb,0,none⟩)),Sp.eq _ (.pointer (some ⟨mb,0,none⟩)),Sp.eq _ (.pointer (some ⟨bk,0,none⟩)),Sp.eq _ (.pointer (some ⟨bk,0,none⟩)),Sp.eq _ (.pointer (some ⟨bk,0,none⟩)),Sp.eq _ (.int .u8 n),Sp.eq _ (.int .u32 n),Sp.eq _ (.pointer (some ⟨bk,0,none⟩)),Sp.eq _ (.pointer (some ⟨bk,0,none⟩)),Sp.eq _ (.pointer (some ⟨bk,1,none⟩)),Sp.eq _ (.slice Af lf.length cf),spB (fun v w=>RdI .i64 w v lf) (lf.length) (mb) w HMB.out,Sp.eq _ (.pointer (some ⟨mb,0,none⟩)),Sp.eq _ (.pointer (some ⟨mb,3,none⟩)),Sp.any _,Sp.eq _ (.pointer (some ⟨mb,0,none⟩)),Sp.eq _ (.pointer (some ⟨mb,5,none⟩)),Sp.any _] (by kernel_rfl) (by kernel_rfl) ?_ ?_ ?_
 ·exact TJ.start HM.out
 ·refine⟨?_,?_,?_,?_,?_,?_,?_,?_,?_,?_,?_,?_,?_,?_,?_,?_,?_,?_,trivial⟩
  all_goals try(intro vs w1 L hLi hd hdt hJ hp;have hb:=(hJ.ext.block bk HBB.out HNE.out).trans HBK0.out;have h0:=zc hb 0 (.int .u8 n) rfl;have h1:=zc hb 1 (.slice Af lf.length cf) rfl;clear hb;have HJ:=zh hJ;simp [deps,Region.binds,Sp.eq,Sp.any]at hp;(try obtain⟨hp,hp'⟩:=hp);clear hd hdt hLi hJ;simp only [putAll,Nat.reduceAdd];go_wp2;exact⟨rfl,HJ.out.keep zr _ _ (by simp [upd]),zr.but,rfl⟩)
  ·intro vs w1 L hLi hd hdt hJ hp
   have q10:vs 10=_:=zd hp 10
   have HJ:=zh hJ
   have hS14:=zd hdt 14
   have hS17:=zd hdt 17
   have HXW:=zh (hJ.ext.full (by rw [hJ.blk,HM.out];simp [cellsT,hS14,hS17]))
   clear hS14 hS17
   have hLs17:=zh (zd hdt 17)
   clear hp hd hdt hLi hJ
   simp only [putAll,Nat.reduceAdd]
   go_wp2_with (go_at_call 63;refine(fromHalvesK lf Af cf _ (HF.out.ext HXW.out) (by omega) hgf).mono ?_;rintro e w2 ⟨A2,c2,rfl,hx2,hk2⟩;have HX2:=zh hx2;have HK2:=zh hk2;clear hx2 hk2)
   exact⟨rfl,HJ.out.keep HX2.out _ _ (by simp [upd,hLs17.out]),HX2.out.but,PR.made (R:=(fun v w=>RdI .i64 w v lf)) HK2.out HJ.out.ext.size⟩
  ·intro vs w1 L hLi hd hdt hJ hp
   have q0:vs 0=_:=zd hp 0
   have q2:vs 2=_:=zd hp 2
   have q3:vs 3=_:=zd hp 3
   have q4:vs 4=_:=zd hp 4
   have q5:vs 5=_:=zd hp 5
   have q6:vs 6=_:=zd hp 6
   have q10:vs 10=_:=zd hp 10
   have q13:vs 13=_:=zd hp 13
   have HJ:=zh hJ
   obtain⟨⟨_,hz⟩,hy⟩:=hJ.has 3 (show 3 < 13 by omega)
   have HL:=zh hLi
   clear hp hd hdt hLi hJ
   simp only [putAll,Nat.reduceAdd]
   go_wp2
   exact⟨rfl,HJ.out.on HL.out _ _ _ (by simp [upd]) (by simp),zr.but.set _ _,trivial⟩
  ·intro vs w1 L hLi hd hdt hJ hp
   have q0:vs 0=_:=zd hp 0
   have q1:vs 1=_:=zd hp 1
   have q2:vs 2=_:=zd hp 2
   have q3:vs 3=_:=zd hp 3
   have q4:vs 4=_:=zd hp 4
   have q5:vs 5=_:=zd hp 5
   have q6:vs 6=_:=zd hp 6
   have q7:vs 7=_:=zd hp 7
   have q8:vs 8=_:=zd hp 8
   have q9:vs 9=_:=zd hp 9
   have q10:vs 10=_:=zd hp 10
   have q12:vs 12=_:=zd hp 12
   have q13:vs 13=_:=zd hp 13
   have q16:vs 16=_:=zd hp 16
   have HJ:=zh hJ
   have hpv:PR (fun v w=>RdI .i64 w v lf) (lf.length) w (vs 11) w1:=zd hp 11
   have HV:=zh hpv.1
   clear hpv
   obtain⟨⟨_,hz⟩,hy⟩:=hJ.has 5 (show 5 < 13 by omega)
   have HL:=zh hLi
   clear hp hd hdt hLi hJ
   simp only [putAll,Nat.reduceAdd]
   rw [HV.out]
   go_wp2
   exact⟨rfl,HJ.out.on HL.out _ _ _ (by simp [upd]) (by simp),zr.but.set _ _,trivial⟩
 ·intro vs w1 L hall hJ hp
  have hL14:=zd hall 14
  have hL17:=zd hall 17
  have hbk:=hJ.blk
  simp [cellsT,hL14,hL17]at hbk
  have HBK:=zh hbk
  have HE:=zh hJ.ext
  have HP5:Hid (PR (fun v w=>RdI .i64 w v lf) (lf.length) w (vs 11) w1):=zh (zd hp 11)
  clear hp hall hJ hbk hL14 hL17
  simp only [putAll,Nat.reduceAdd]
  (try simp only [Exit.then,Exit.inBlock])
  (try go_at_K)
  (try go_wp2)
  (try simp only [Exit.inBlock,Exit.then]);first|refine bodyPost_end (results_none rfl _ _ _) rfl ?_|refine bodyPost_ret (results_none rfl _ _ _) rfl ?_
  exact answd_of HE.out HBK.out HP5.out.keeps (fun _ _=>rdi_nil _ _) (fun _ _=>rdi_nil _ _) (fun _ _=>rdm_nil _ _ _) (fun _ _=>RdB.nil _) (fun _ _=>rd1_nil _ _) ⟨hn.1,by have:=hn.2;omega⟩ (nofun) (nofun) (nofun)
theorem answd51 (n:Int)(a:ByteArray)(b:ByteArray)(w:World)(bk mb:Nat)(hblk:w.heap[bk]?=some (.cells #[.int .u32 n,.string a,.string b] 224 (0,0)))(hn:0<=n/\n < 4294967296)(hmb:w.heap[mb]?=some (.cells #[.int .i64 51,.string ⟨#[]⟩,.string ⟨#[]⟩,.int .u32 0,.int .u32 0,.slice none 0 0,.slice none 0 0,.slice none 0 0,.slice none 0 0,.slice none 0 0,.slice none 0 0,.slice none 0 0,.slice none 0 0] 31 (0,0)))(hne:bk≠mb):
 Calls Tryz.prog 65 #[.iface 222 (.pointer (some ⟨bk,0,none⟩)),.pointer (some ⟨mb,0,none⟩)] w (Answd 51 mb (DecP 51 a b n [] [] [] [] [] [] [] []) w):=by
 have n185:=no185 222
 have n189:=no189 222
 have n191:=no191 222
 have n194:=no194 222
 have n196:=no196 222
 have n198:=no198 222
 have n200:=no200 222
 have n203:=no203 222
 have n206:=no206 222
 have n208:=no208 222
 have n210:=no210 222
 have n213:=no213 222
 have n217:=no217 222
 have n219:=no219 222
 have y222:=yes222
 have HM:=zh hmb
 have HMB:=zh (zl hmb)
 have HNE:=zh hne
 have HBB:=zh (zl hblk)
 have HBK0:=zh hblk
 have HX0:=zh (zc hblk 0 (.int .u32 n) rfl)
 have HX1:=zh (zc hblk 1 (.string a) rfl)
 have HX2:=zh (zc hblk 2 (.string b) rfl)
 clear hblk hmb hne
 go_enter Tryz.func65,Tryz.ntmps65
 go_wp2
 refine wp_region_ogL (J:=TJ (mb) w #[.int .i64 51,.string ⟨#[]⟩,.string ⟨#[]⟩,.int .u32 0,.int .u32 0,.slice none 0 0,.slice none 0 0,.slice none 0 0,.slice none 0 0,.slice none 0 0,.slice none 0 0,.slice none 0 0,.slice none 0 0] [(17,3,(fun _=> .int .u32 n)),(20,1,(fun _=> .string a)),(23,2,(fun _=> .string b))]) (R:=ExtBut (mb)) [Sp.eq _ (.pointer (some ⟨mb,0,none⟩)),Sp.eq _ (.pointer (some ⟨mb,0,none⟩)),Sp.eq _ (.pointer (some ⟨mb,0,none⟩)),Sp.eq _ (.pointer (some ⟨bk,0,none⟩)),Sp.eq _ (.pointer (some ⟨bk,0,none⟩)),Sp.eq _ (.pointer (some ⟨bk,0,none⟩)),Sp.eq _ (.int .u32 n),Sp.eq _ (.pointer (some ⟨bk,0,none⟩)),Sp.eq _ (.pointer (some ⟨bk,0,none⟩)),Sp.eq _ (.pointer (some ⟨bk,1,none⟩)),Sp.eq _ (.string a),Sp.eq _ (.pointer (some ⟨bk,0,none⟩)),Sp.eq _ (.pointer (some ⟨bk,0,none⟩)),Sp.eq _ (.pointer (some ⟨bk,2,none⟩)),Sp.eq _ (.string b),Sp.eq _ (.pointer (some ⟨mb,0,none⟩)),Sp.eq _ (.pointer (some ⟨mb,3,none⟩)),Sp.any _,Sp.eq _ (.pointer (some ⟨mb,0,none⟩)),Sp.eq _ (.pointer (some ⟨mb,1,none⟩)),Sp.any _,Sp.eq _ (.pointer (some ⟨mb,0,none⟩)),Sp.eq _ (.pointer (some ⟨mb,2,none⟩)),Sp.any _] (by kernel_rfl) (by kernel_rfl) ?_ ?_ ?_
 ·exact TJ.start HM.out
 ·refine⟨?_,?_,?_,?_,?_,?_,?_,?_,?_,?_,?_,?_,?_,?_,?_,?_,?_,?_,?_,?_,?_,?_,?_,?_,trivial⟩
  all_goals try(intro vs w1 L hLi hd hdt hJ hp;have hb:=(hJ.ext.block bk HBB.out HNE.out).trans HBK0.out;have h0:=zc hb 0 (.int .u32 n) rfl;have h1:=zc hb 1 (.string a) rfl;have h2:=zc hb 2 (.string b) rfl;clear hb;have HJ:=zh hJ;simp [deps,Region.binds,Sp.eq,Sp.any]at hp;(try obtain⟨hp,hp'⟩:=hp);clear hd hdt hLi hJ;simp only [putAll,Nat.reduceAdd];go_wp2;exact⟨rfl,HJ.out.keep zr _ _ (by simp [upd]),zr.but,rfl⟩)
  all_goals try(intro vs w1 L hLi hd hdt hJ hp;obtain⟨⟨_,hz3⟩,hy3⟩:=hJ.has 3 (show 3 < 13 by omega);obtain⟨⟨_,hz1⟩,hy1⟩:=hJ.has 1 (show 1 < 13 by omega);obtain⟨⟨_,hz2⟩,hy2⟩:=hJ.has 2 (show 2 < 13 by omega);have HJ:=zh hJ;have HL:=zh hLi;simp [deps,Region.binds,Sp.eq,Sp.any]at hp;clear hd hdt hLi hJ;simp only [putAll,Nat.reduceAdd,hp];clear hp;go_wp2;exact⟨rfl,HJ.out.on HL.out _ _ _ (by simp [upd]) (by simp),zr.but.set _ _,trivial⟩)
 ·intro vs w1 L hall hJ hp
  have hL17:=zd hall 17
  have hL20:=zd hall 20
  have hL23:=zd hall 23
  have hbk:=hJ.blk
  simp [cellsT,hL17,hL20,hL23]at hbk
  have HBK:=zh hbk
  have HE:=zh hJ.ext
  clear hp hall hJ hbk hL17 hL20 hL23
  simp only [putAll,Nat.reduceAdd]
  (try simp only [Exit.then,Exit.inBlock])
  (try go_at_K)
  (try go_wp2)
  (try simp only [Exit.inBlock,Exit.then]);first|refine bodyPost_end (results_none rfl _ _ _) rfl ?_|refine bodyPost_ret (results_none rfl _ _ _) rfl ?_
  exact answd_of HE.out HBK.out (fun _ _=>rdi_nil _ _) (fun _ _=>rdi_nil _ _) (fun _ _=>rdi_nil _ _) (fun _ _=>rdm_nil _ _ _) (fun _ _=>RdB.nil _) (fun _ _=>rd1_nil _ _) hn (nofun) (nofun) (nofun)
theorem answd53 (a:ByteArray)(b:ByteArray)(w:World)(bk mb:Nat)(hblk:w.heap[bk]?=some (.cells #[.string a,.string b] 229 (0,0)))(hmb:w.heap[mb]?=some (.cells #[.int .i64 53,.string ⟨#[]⟩,.string ⟨#[]⟩,.int .u32 0,.int .u32 0,.slice none 0 0,.slice none 0 0,.slice none 0 0,.slice none 0 0,.slice none 0 0,.slice none 0 0,.slice none 0 0,.slice none 0 0] 31 (0,0)))(hne:bk≠mb):
 Calls Tryz.prog 65 #[.iface 228 (.pointer (some ⟨bk,0,none⟩)),.pointer (some ⟨mb,0,none⟩)] w (Answd 53 mb (DecP 53 a b 0 [] [] [] [] [] [] [] []) w):=by
 have n185:=no185 228
 have n189:=no189 228
 have n191:=no191 228
 have n194:=no194 228
 have n196:=no196 228
 have n198:=no198 228
 have n200:=no200 228
 have n203:=no203 228
 have n206:=no206 228
 have n208:=no208 228
 have n210:=no210 228
 have n213:=no213 228
 have n217:=no217 228
 have n219:=no219 228
 have n222:=no222 228
 have n225:=no225 228
 have y228:=yes228
 have HM:=zh hmb
 have HMB:=zh (zl hmb)
 have HNE:=zh hne
 have HBB:=zh (zl hblk)
 have HBK0:=zh hblk
 have HX0:=zh (zc hblk 0 (.string a) rfl)
 have HX1:=zh (zc hblk 1 (.string b) rfl)
 clear hblk hmb hne
 go_enter Tryz.func65,Tryz.ntmps65
 go_wp2
 refine wp_region_ogL (J:=TJ (mb) w #[.int .i64 53,.string ⟨#[]⟩,.string ⟨#[]⟩,.int .u32 0,.int .u32 0,.slice none 0 0,.slice none 0 0,.slice none 0 0,.slice none 0 0,.slice none 0 0,.slice none 0 0,.slice none 0 0,.slice none 0 0] [(12,1,(fun _=> .string a)),(15,2,(fun _=> .string b))]) (R:=ExtBut (mb)) [Sp.eq _ (.pointer (some ⟨mb,0,none⟩)),Sp.eq _ (.pointer (some ⟨mb,0,none⟩)),Sp.eq _ (.pointer (some ⟨bk,0,none⟩)),Sp.eq _ (.pointer (some ⟨bk,0,none⟩)),Sp.eq _ (.pointer (some ⟨bk,0,none⟩)),Sp.eq _ (.string a),Sp.eq _ (.pointer (some ⟨bk,0,none⟩)),Sp.eq _ (.pointer (some ⟨bk,0,none⟩)),Sp.eq _ (.pointer (some ⟨bk,1,none⟩)),Sp.eq _ (.string b),Sp.eq _ (.pointer (some ⟨mb,0,none⟩)),Sp.eq _ (.pointer (some ⟨mb,1,none⟩)),Sp.any _,Sp.eq _ (.pointer (some ⟨mb,0,none⟩)),Sp.eq _ (.pointer (some ⟨mb,2,none⟩)),Sp.any _] (by kernel_rfl) (by kernel_rfl) ?_ ?_ ?_
 ·exact TJ.start HM.out
 ·refine⟨?_,?_,?_,?_,?_,?_,?_,?_,?_,?_,?_,?_,?_,?_,?_,?_,trivial⟩
  all_goals try(intro vs w1 L hLi hd hdt hJ hp;have hb:=(hJ.ext.block bk HBB.out HNE.out).trans HBK0.out;have h0:=zc hb 0 (.string a) rfl;have h1:=zc hb 1 (.string b) rfl;clear hb;have HJ:=zh hJ;simp [deps,Region.binds,Sp.eq,Sp.any]at hp;(try obtain⟨hp,hp'⟩:=hp);clear hd hdt hLi hJ;simp only [putAll,Nat.reduceAdd];go_wp2;exact⟨rfl,HJ.out.keep zr _ _ (by simp [upd]),zr.but,rfl⟩)
  all_goals try(intro vs w1 L hLi hd hdt hJ hp;obtain⟨⟨_,hz1⟩,hy1⟩:=hJ.has 1 (show 1 < 13 by omega);obtain⟨⟨_,hz2⟩,hy2⟩:=hJ.has 2 (show 2 < 13 by omega);have HJ:=zh hJ;have HL:=zh hLi;simp [deps,Region.binds,Sp.eq,Sp.any]at hp;clear hd hdt hLi hJ;simp only [putAll,Nat.reduceAdd,hp];clear hp;go_wp2;exact⟨rfl,HJ.out.on HL.out _ _ _ (by simp [upd]) (by simp),zr.but.set _ _,trivial⟩)
 ·intro vs w1 L hall hJ hp
  have hL12:=zd hall 12
  have hL15:=zd hall 15
  have hbk:=hJ.blk
  simp [cellsT,hL12,hL15]at hbk
  have HBK:=zh hbk
  have HE:=zh hJ.ext
  clear hp hall hJ hbk hL12 hL15
  simp only [putAll,Nat.reduceAdd]
  (try simp only [Exit.then,Exit.inBlock])
  (try go_at_K)
  (try go_wp2)
  (try simp only [Exit.inBlock,Exit.then]);first|refine bodyPost_end (results_none rfl _ _ _) rfl ?_|refine bodyPost_ret (results_none rfl _ _ _) rfl ?_
  exact answd_of HE.out HBK.out (fun _ _=>rdi_nil _ _) (fun _ _=>rdi_nil _ _) (fun _ _=>rdi_nil _ _) (fun _ _=>rdm_nil _ _ _) (fun _ _=>RdB.nil _) (fun _ _=>rd1_nil _ _) ⟨by decide,by decide⟩ (nofun) (nofun) (nofun)
end Go.Proofs.YtdenjanihikolaaGreatDoor
