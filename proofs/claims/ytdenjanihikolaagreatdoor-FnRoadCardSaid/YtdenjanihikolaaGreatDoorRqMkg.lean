/- Encode methods without loops, by contract. -/
import Derived.Test.YtdenjanihikolaaGreatDoorRqA0
import Derived.Test.YtdenjanihikolaaGreatDoorRqA1
import Derived.Test.YtdenjanihikolaaGreatDoorRqDok
import Derived.Test.YtdenjanihikolaaGreatDoorRqEncd
import Derived.Test.YtdenjanihikolaaGreatDoorRqEncf
import Derived.Test.YtdenjanihikolaaGreatDoorRqBase
namespace Go.Proofs.YtdenjanihikolaaGreatDoor
set_option linter.unusedVariables false
set_option linter.unusedSimpArgs false
set_option maxRecDepth 100000
set_option maxHeartbeats 4000000
open Go.RowKit
theorem opt_small {vls:List (Bool×List Int)} (h:∀y∈vls,y.2.length<=200):∀y∈vls.map optV,∀d,y=some d->d.length<=300:=by
 intro y hy d hd
 obtain⟨x,hx,rfl⟩:=List.mem_map.1 hy
 have h1:=h x hx
 unfold optV at hd
 split at hd
 ·cases hd
 ·cases hd;omega
theorem ans42 (a b:ByteArray)(n:Int)(v4 v6 v7 v8 v9 v10 v11 v12:Value)(lf:List Int)(A5:Option Addr)(c5:Nat)(w w1:World)(bk:Nat)(hsm:n < 256)(HF:Hid (RdI .i64 w (.slice A5 lf.length c5) lf))(hlf:lf.length<=20)(hgf:∀y∈lf,0<=y/\y < 32768)(hx:Ext w w1)(hbk:w.heap.size<=bk)(hblk:w1.heap[bk]?=some (.cells #[.int .u8 0,.slice none 0 0] 205 (0,0)))(R:List Int)(HR:Hid (R=msgB 87 ([n % 256]++b16 lf.length++lf.flatMap b16))):
 Calls Tryz.prog 60 #[.iface 203 (.pointer (some ⟨bk,0,none⟩)),.agg #[.int .i64 42,.string a,.string b,.int .u32 n,v4,.slice A5 lf.length c5,v6,v7,v8,v9,v10,v11,v12],.bool true] w1 (Ans 203 281 bk w R):=by
 have n185:=no185 203
 have n189:=no189 203
 have n191:=no191 203
 have n194:=no194 203
 have n196:=no196 203
 have n198:=no198 203
 have n200:=no200 203
 have y203:=yes203
 obtain⟨W2,hW2⟩:∃W2,W2=w1.alloc (.cells #[.int .i64 42,.string a,.string b,.int .u32 n,v4,.slice A5 lf.length c5,v6,v7,v8,v9,v10,v11,v12] 31):=⟨_,rfl⟩
 have X1:Hid (Ext w1 W2):=zh (by rw [hW2];exact ext_alloc w1 _)
 have XW:Hid (Ext w W2):=zh (hx.trans X1.out)
 have HB:Hid (W2.heap[bk]?=some (.cells #[.int .u8 0,.slice none 0 0] 205 (0,0))):=zh ((X1.out.block _ (zl hblk)).trans hblk)
 have HO:Hid (W2.heap[w1.heap.size]?=some (.cells #[.int .i64 42,.string a,.string b,.int .u32 n,v4,.slice A5 lf.length c5,v6,v7,v8,v9,v10,v11,v12] 31 (0,0))):=zh (by rw [hW2];exact heap_alloc_new _ _)
 have HBK:=zh hbk
 clear hx hbk hblk
 have hz0:=zc HB.out 0 (.int .u8 0) rfl
 have hy0:=free_slot HB.out 0
 have hz1:=zc HB.out 1 (.slice none 0 0) rfl
 have hy1:=free_slot HB.out 1
 have hb3:=zc HO.out 3 (.int .u32 n) rfl
 have hb5:=zc HO.out 5 (.slice A5 lf.length c5) rfl
 have hdec:decide (n < 256)=true:=decide_eq_true hsm
 go_enter Tryz.func60,Tryz.ntmps60
 go_wp2_with (first|(go_at_call 54;rw [<-hW2];clear hW2;refine(let54 n _).mono ?_;rintro e w54 ⟨rfl,hw54⟩;rw [hw54];clear hw54)|(go_at_call 57;refine(halvesK lf A5 c5 _ (HF.out.ext XW.out) (by omega) hgf).mono ?_;rintro e w2 ⟨A2,c2,rfl,hx2,hk2⟩;have HX2:=zh hx2;have HK2:=zh hk2;clear hx2 hk2;have BB:=zh ((HX2.out.block _ (zl HB.out)).trans HB.out);clear hz0 hy0;have hz0:=zc BB.out 0 (.int .u8 0) rfl;have hy0:=free_slot BB.out 0;clear hz1 hy1;have hz1:=zc BB.out 1 (.slice none 0 0) rfl;have hy1:=free_slot BB.out 1))
 go_ret2
 have EB:=(((HX2.out.but (b:=bk)).set 0 (.int .u8 (n % 256))).set 1 (.slice A2 lf.length c2))
 have SS:=(slot_setCell (j:=1) (u:=.slice A2 lf.length c2) (slot_setCell (j:=0) (u:=.int .u8 (n % 256)) BB.out))
 refine⟨rfl,EB.ext XW.out HBK.out,?_⟩
 have KK:=HK2.out.at_ bk _ (zl HB.out) ((((Ext.refl w2).but (b:=bk)).set 0 (.int .u8 (n % 256))).set 1 (.slice A2 lf.length c2))
 exact encCopyBoth _ (n % 256) A2 c2 lf _ (zc SS 0 (.int .u8 (n % 256)) rfl) (zc SS 1 (.slice A2 lf.length c2) rfl) KK (by omega) (fun y hy=>⟨(hgf y hy).1,by have:=(hgf y hy).2;omega⟩) R HR
theorem ans43 (a b:ByteArray)(n:Int)(v4 v6 v7 v8 v9 v10 v11 v12:Value)(lf:List Int)(A5:Option Addr)(c5:Nat)(w w1:World)(bk:Nat)(hsm:n < 256)(HF:Hid (RdI .i64 w (.slice A5 lf.length c5) lf))(hlf:lf.length<=20)(hgf:∀y∈lf,0<=y/\y < 32768)(hx:Ext w w1)(hbk:w.heap.size<=bk)(hblk:w1.heap[bk]?=some (.cells #[.int .u8 0,.slice none 0 0] 207 (0,0)))(R:List Int)(HR:Hid (R=msgB 71 ([n % 256]++b16 lf.length++lf.flatMap b16))):
 Calls Tryz.prog 60 #[.iface 206 (.pointer (some ⟨bk,0,none⟩)),.agg #[.int .i64 43,.string a,.string b,.int .u32 n,v4,.slice A5 lf.length c5,v6,v7,v8,v9,v10,v11,v12],.bool true] w1 (Ans 206 284 bk w R):=by
 have n185:=no185 206
 have n189:=no189 206
 have n191:=no191 206
 have n194:=no194 206
 have n196:=no196 206
 have n198:=no198 206
 have n200:=no200 206
 have n203:=no203 206
 have y206:=yes206
 obtain⟨W2,hW2⟩:∃W2,W2=w1.alloc (.cells #[.int .i64 43,.string a,.string b,.int .u32 n,v4,.slice A5 lf.length c5,v6,v7,v8,v9,v10,v11,v12] 31):=⟨_,rfl⟩
 have X1:Hid (Ext w1 W2):=zh (by rw [hW2];exact ext_alloc w1 _)
 have XW:Hid (Ext w W2):=zh (hx.trans X1.out)
 have HB:Hid (W2.heap[bk]?=some (.cells #[.int .u8 0,.slice none 0 0] 207 (0,0))):=zh ((X1.out.block _ (zl hblk)).trans hblk)
 have HO:Hid (W2.heap[w1.heap.size]?=some (.cells #[.int .i64 43,.string a,.string b,.int .u32 n,v4,.slice A5 lf.length c5,v6,v7,v8,v9,v10,v11,v12] 31 (0,0))):=zh (by rw [hW2];exact heap_alloc_new _ _)
 have HBK:=zh hbk
 clear hx hbk hblk
 have hz0:=zc HB.out 0 (.int .u8 0) rfl
 have hy0:=free_slot HB.out 0
 have hz1:=zc HB.out 1 (.slice none 0 0) rfl
 have hy1:=free_slot HB.out 1
 have hb3:=zc HO.out 3 (.int .u32 n) rfl
 have hb5:=zc HO.out 5 (.slice A5 lf.length c5) rfl
 have hdec:decide (n < 256)=true:=decide_eq_true hsm
 go_enter Tryz.func60,Tryz.ntmps60
 go_wp2_with (first|(go_at_call 54;rw [<-hW2];clear hW2;refine(let54 n _).mono ?_;rintro e w54 ⟨rfl,hw54⟩;rw [hw54];clear hw54)|(go_at_call 57;refine(halvesK lf A5 c5 _ (HF.out.ext XW.out) (by omega) hgf).mono ?_;rintro e w2 ⟨A2,c2,rfl,hx2,hk2⟩;have HX2:=zh hx2;have HK2:=zh hk2;clear hx2 hk2;have BB:=zh ((HX2.out.block _ (zl HB.out)).trans HB.out);clear hz0 hy0;have hz0:=zc BB.out 0 (.int .u8 0) rfl;have hy0:=free_slot BB.out 0;clear hz1 hy1;have hz1:=zc BB.out 1 (.slice none 0 0) rfl;have hy1:=free_slot BB.out 1))
 go_ret2
 have EB:=(((HX2.out.but (b:=bk)).set 0 (.int .u8 (n % 256))).set 1 (.slice A2 lf.length c2))
 have SS:=(slot_setCell (j:=1) (u:=.slice A2 lf.length c2) (slot_setCell (j:=0) (u:=.int .u8 (n % 256)) BB.out))
 refine⟨rfl,EB.ext XW.out HBK.out,?_⟩
 have KK:=HK2.out.at_ bk _ (zl HB.out) ((((Ext.refl w2).but (b:=bk)).set 0 (.int .u8 (n % 256))).set 1 (.slice A2 lf.length c2))
 exact encCopyIn _ (n % 256) A2 c2 lf _ (zc SS 0 (.int .u8 (n % 256)) rfl) (zc SS 1 (.slice A2 lf.length c2) rfl) KK (by omega) (fun y hy=>⟨(hgf y hy).1,by have:=(hgf y hy).2;omega⟩) R HR
theorem ans44 (a b:ByteArray)(n:Int)(v4 v6 v7 v8 v9 v10 v11 v12:Value)(lf:List Int)(A5:Option Addr)(c5:Nat)(w w1:World)(bk:Nat)(hsm:n < 256)(HF:Hid (RdI .i64 w (.slice A5 lf.length c5) lf))(hlf:lf.length<=20)(hgf:∀y∈lf,0<=y/\y < 32768)(hx:Ext w w1)(hbk:w.heap.size<=bk)(hblk:w1.heap[bk]?=some (.cells #[.int .u8 0,.slice none 0 0] 209 (0,0)))(R:List Int)(HR:Hid (R=msgB 72 ([n % 256]++b16 lf.length++lf.flatMap b16))):
 Calls Tryz.prog 60 #[.iface 208 (.pointer (some ⟨bk,0,none⟩)),.agg #[.int .i64 44,.string a,.string b,.int .u32 n,v4,.slice A5 lf.length c5,v6,v7,v8,v9,v10,v11,v12],.bool true] w1 (Ans 208 287 bk w R):=by
 have n185:=no185 208
 have n189:=no189 208
 have n191:=no191 208
 have n194:=no194 208
 have n196:=no196 208
 have n198:=no198 208
 have n200:=no200 208
 have n203:=no203 208
 have n206:=no206 208
 have y208:=yes208
 obtain⟨W2,hW2⟩:∃W2,W2=w1.alloc (.cells #[.int .i64 44,.string a,.string b,.int .u32 n,v4,.slice A5 lf.length c5,v6,v7,v8,v9,v10,v11,v12] 31):=⟨_,rfl⟩
 have X1:Hid (Ext w1 W2):=zh (by rw [hW2];exact ext_alloc w1 _)
 have XW:Hid (Ext w W2):=zh (hx.trans X1.out)
 have HB:Hid (W2.heap[bk]?=some (.cells #[.int .u8 0,.slice none 0 0] 209 (0,0))):=zh ((X1.out.block _ (zl hblk)).trans hblk)
 have HO:Hid (W2.heap[w1.heap.size]?=some (.cells #[.int .i64 44,.string a,.string b,.int .u32 n,v4,.slice A5 lf.length c5,v6,v7,v8,v9,v10,v11,v12] 31 (0,0))):=zh (by rw [hW2];exact heap_alloc_new _ _)
 have HBK:=zh hbk
 clear hx hbk hblk
 have hz0:=zc HB.out 0 (.int .u8 0) rfl
 have hy0:=free_slot HB.out 0
 have hz1:=zc HB.out 1 (.slice none 0 0) rfl
 have hy1:=free_slot HB.out 1
 have hb3:=zc HO.out 3 (.int .u32 n) rfl
 have hb5:=zc HO.out 5 (.slice A5 lf.length c5) rfl
 have hdec:decide (n < 256)=true:=decide_eq_true hsm
 go_enter Tryz.func60,Tryz.ntmps60
 go_wp2_with (first|(go_at_call 54;rw [<-hW2];clear hW2;refine(let54 n _).mono ?_;rintro e w54 ⟨rfl,hw54⟩;rw [hw54];clear hw54)|(go_at_call 57;refine(halvesK lf A5 c5 _ (HF.out.ext XW.out) (by omega) hgf).mono ?_;rintro e w2 ⟨A2,c2,rfl,hx2,hk2⟩;have HX2:=zh hx2;have HK2:=zh hk2;clear hx2 hk2;have BB:=zh ((HX2.out.block _ (zl HB.out)).trans HB.out);clear hz0 hy0;have hz0:=zc BB.out 0 (.int .u8 0) rfl;have hy0:=free_slot BB.out 0;clear hz1 hy1;have hz1:=zc BB.out 1 (.slice none 0 0) rfl;have hy1:=free_slot BB.out 1))
 go_ret2
 have EB:=(((HX2.out.but (b:=bk)).set 0 (.int .u8 (n % 256))).set 1 (.slice A2 lf.length c2))
 have SS:=(slot_setCell (j:=1) (u:=.slice A2 lf.length c2) (slot_setCell (j:=0) (u:=.int .u8 (n % 256)) BB.out))
 refine⟨rfl,EB.ext XW.out HBK.out,?_⟩
 have KK:=HK2.out.at_ bk _ (zl HB.out) ((((Ext.refl w2).but (b:=bk)).set 0 (.int .u8 (n % 256))).set 1 (.slice A2 lf.length c2))
 exact encCopyOut _ (n % 256) A2 c2 lf _ (zc SS 0 (.int .u8 (n % 256)) rfl) (zc SS 1 (.slice A2 lf.length c2) rfl) KK (by omega) (fun y hy=>⟨(hgf y hy).1,by have:=(hgf y hy).2;omega⟩) R HR
theorem ans45 (a b:ByteArray)(n:Int)(v4 v5 v6 v7 v9 v10 v11 v12:Value)(vls:List (Bool×List Int))(A8:Option Addr)(c8:Nat)(w w1:World)(bk:Nat)(HV:Hid (RdM 2 isVal w (.slice A8 vls.length c8) vls))(hlv:vls.length<=20)(hgv:∀y∈vls,y.2.length<=200)(hx:Ext w w1)(hbk:w.heap.size<=bk)(hblk:w1.heap[bk]?=some (.cells #[.slice none 0 0] 212 (0,0)))(R:List Int)(HR:Hid (R=msgB 68 (b16 vls.length++(vls.map optV).flatMap optB))):
 Calls Tryz.prog 60 #[.iface 210 (.pointer (some ⟨bk,0,none⟩)),.agg #[.int .i64 45,.string a,.string b,.int .u32 n,v4,v5,v6,v7,.slice A8 vls.length c8,v9,v10,v11,v12],.bool true] w1 (Ans 210 290 bk w R):=by
 have n185:=no185 210
 have n189:=no189 210
 have n191:=no191 210
 have n194:=no194 210
 have n196:=no196 210
 have n198:=no198 210
 have n200:=no200 210
 have n203:=no203 210
 have n206:=no206 210
 have n208:=no208 210
 have y210:=yes210
 obtain⟨W2,hW2⟩:∃W2,W2=w1.alloc (.cells #[.int .i64 45,.string a,.string b,.int .u32 n,v4,v5,v6,v7,.slice A8 vls.length c8,v9,v10,v11,v12] 31):=⟨_,rfl⟩
 have X1:Hid (Ext w1 W2):=zh (by rw [hW2];exact ext_alloc w1 _)
 have XW:Hid (Ext w W2):=zh (hx.trans X1.out)
 have HB:Hid (W2.heap[bk]?=some (.cells #[.slice none 0 0] 212 (0,0))):=zh ((X1.out.block _ (zl hblk)).trans hblk)
 have HO:Hid (W2.heap[w1.heap.size]?=some (.cells #[.int .i64 45,.string a,.string b,.int .u32 n,v4,v5,v6,v7,.slice A8 vls.length c8,v9,v10,v11,v12] 31 (0,0))):=zh (by rw [hW2];exact heap_alloc_new _ _)
 have HBK:=zh hbk
 clear hx hbk hblk
 have hz0:=zc HB.out 0 (.slice none 0 0) rfl
 have hy0:=free_slot HB.out 0
 have hb3:=zc HO.out 3 (.int .u32 n) rfl
 have hb8:=zc HO.out 8 (.slice A8 vls.length c8) rfl
 go_enter Tryz.func60,Tryz.ntmps60
 go_wp2_with (first|(go_at_call 54;rw [<-hW2];clear hW2;refine(let54 n _).mono ?_;rintro e w54 ⟨rfl,hw54⟩;rw [hw54];clear hw54)|(go_at_call 56;refine(bytesOfK vls A8 c8 _ (HV.out.ext XW.out (isVal.ext XW.out)) (by omega) (fun y hy=>by have:=hgv y hy;omega)).mono ?_;rintro e w2 ⟨A2,c2,rfl,hx2,hk2⟩;have HX2:=zh hx2;have HK2:=zh hk2;clear hx2 hk2;have BB:=zh ((HX2.out.block _ (zl HB.out)).trans HB.out);clear hz0 hy0;have hz0:=zc BB.out 0 (.slice none 0 0) rfl;have hy0:=free_slot BB.out 0))
 go_ret2
 have EB:=((HX2.out.but (b:=bk)).set 0 (.slice A2 vls.length c2))
 have SS:=(slot_setCell (j:=0) (u:=.slice A2 vls.length c2) BB.out)
 refine⟨rfl,EB.ext XW.out HBK.out,?_⟩
 have KK:=HK2.out.at_ bk _ (zl HB.out) (((Ext.refl w2).but (b:=bk)).set 0 (.slice A2 vls.length c2))
 exact encDataRow _ A2 c2 (vls.map optV) _ (by rw [List.length_map];exact(zc SS 0 (.slice A2 vls.length c2) rfl)) (by rw [List.length_map];exact KK) (by rw [List.length_map];omega) (opt_small hgv) R (by rw [List.length_map];exact HR)
theorem encClose (b:Nat)(c:Int)(s:ByteArray)(w:World)(hc0:w.cell? ⟨b,0,none⟩=some (.int .u8 c))(hc1:w.cell? ⟨b,1,none⟩=some (.string s))(hs_s:s.size<=1000)(R:List Int)(HR:Hid (R=msgB 67 ([c]++txt s))):
 Calls Tryz.prog 151 #[.pointer (some ⟨b,0,none⟩),.slice none 0 0] w (Gives w R):=by
 have hb:b < w.heap.size:=lt_of_cell hc0
 have hk:∀o,w.cell? ⟨b,o,none⟩=w.cell? ⟨b,o,none⟩:=fun _=>rfl
 have HB:=zh (Buf.nil w)
 have hk':=zh hk;clear hk;have hk:True:=trivial
 go_enter Tryz.func151,Tryz.ntmps151
 go_wp2_with (first|(go_at_call 139;refine(begin_any _ _ _ _ HB.out (by simp)).mono ?_;rintro e w1 ⟨v1,rfl,hn⟩;clear hk;have hk:=hn.cellb hb;replace HB:=zh hn;clear hn)|(go_at_call 145;refine(appendU32 _ _ _ _ (by omega) (by omega) HB.out ul1).mono ?_;rintro e w1 ⟨v1,rfl,hn⟩;clear hk;have hk:=hn.cellb hb;replace HB:=zh hn;clear hn)|(go_at_call 142;refine(appendI32 _ _ _ _ HB.out ul1).mono ?_;rintro e w1 ⟨v1,rfl,hn⟩;clear hk;have hk:=hn.cellb hb;replace HB:=zh hn;clear hn)|(go_at_call 143;refine(finish1 _ 67 _ ([c]++txt s) _ HB.out ul6 ul3).mono ?_;rintro e w1 ⟨v1,rfl,hn⟩;clear HB;have HB:=zh hn;clear hn)|(at_builtin;refine ap_str (st:=s) rfl _ _ 26 rfl Tryz.underlying26 rfl rfl HB.out ul1 ?_;intro v2 w2 hn;clear hk;have hk:=hn.cellb hb;replace HB:=zh hn;clear hn)|(at_builtin;refine ap_lit1 rfl _ _ 26 26 rfl Tryz.underlying26 Tryz.underlying26 rfl rfl HB.out ul1 ?_;intro v3 w3 hn;clear hk;have hk:=hn.cellb hb;replace HB:=zh hn;clear hn)|(at_builtin;refine ap_lit5 rfl _ _ 26 26 rfl Tryz.underlying26 Tryz.underlying26 rfl rfl HB.out ul1 ?_;intro v3 w3 hn;clear hk;have hk:=hn.cellb hb;replace HB:=zh hn;clear hn)|(at_builtin;refine ap_lit6 rfl _ _ 26 26 rfl Tryz.underlying26 Tryz.underlying26 rfl rfl HB.out ul1 ?_;intro v3 w3 hn;clear hk;have hk:=hn.cellb hb;replace HB:=zh hn;clear hn))
 go_ret2
 exact gives_of HB.out (HR.out)
theorem encCopyData (b:Nat)(A_d:Option Addr)(c_d:Nat)(d:List Int)(w:World)(hc0:w.cell? ⟨b,0,none⟩=some (.slice A_d d.length c_d))(hr_d:RdB w (.slice A_d d.length c_d) d)(hl_d:d.length<=1000)(R:List Int)(HR:Hid (R=msgB 100 (d))):
 Calls Tryz.prog 158 #[.pointer (some ⟨b,0,none⟩),.slice none 0 0] w (Gives w R):=by
 have hb:b < w.heap.size:=lt_of_cell hc0
 have hk:∀o,w.cell? ⟨b,o,none⟩=w.cell? ⟨b,o,none⟩:=fun _=>rfl
 have hr_d':=zh hr_d
 clear hr_d
 have HB:=zh (Buf.nil w)
 have hk':=zh hk;clear hk;have hk:True:=trivial
 go_enter Tryz.func158,Tryz.ntmps158
 go_wp2_with (first|(go_at_call 139;refine(begin_any _ _ _ _ HB.out (by simp)).mono ?_;rintro e w1 ⟨v1,rfl,hn⟩;clear hk;have hk:=hn.cellb hb;replace HB:=zh hn;clear hn)|(go_at_call 145;refine(appendU32 _ _ _ _ (by omega) (by omega) HB.out ul1).mono ?_;rintro e w1 ⟨v1,rfl,hn⟩;clear hk;have hk:=hn.cellb hb;replace HB:=zh hn;clear hn)|(go_at_call 142;refine(appendI32 _ _ _ _ HB.out ul1).mono ?_;rintro e w1 ⟨v1,rfl,hn⟩;clear hk;have hk:=hn.cellb hb;replace HB:=zh hn;clear hn)|(go_at_call 143;refine(finish1 _ 100 _ (d) _ HB.out ul6 ul3).mono ?_;rintro e w1 ⟨v1,rfl,hn⟩;clear HB;have HB:=zh hn;clear hn)|(at_builtin;refine ap_lit1 rfl _ _ 26 26 rfl Tryz.underlying26 Tryz.underlying26 rfl rfl HB.out ul1 ?_;intro v3 w3 hn;clear hk;have hk:=hn.cellb hb;replace HB:=zh hn;clear hn)|(at_builtin;refine ap_lit5 rfl _ _ 26 26 rfl Tryz.underlying26 Tryz.underlying26 rfl rfl HB.out ul1 ?_;intro v3 w3 hn;clear hk;have hk:=hn.cellb hb;replace HB:=zh hn;clear hn)|(at_builtin;refine ap_lit6 rfl _ _ 26 26 rfl Tryz.underlying26 Tryz.underlying26 rfl rfl HB.out ul1 ?_;intro v3 w3 hn;clear hk;have hk:=hn.cellb hb;replace HB:=zh hn;clear hn)|(at_builtin;refine ap_row (ys:=d) rfl _ _ 26 26 rfl Tryz.underlying26 Tryz.underlying26 rfl HB.out rfl (hr_d'.out.ext HB.out.bel) ul1 ?_;intro v4 w4 hn;clear hk;have hk:=hn.cellb hb;replace HB:=zh hn;clear hn))
 go_ret2
 exact gives_of HB.out (HR.out)
theorem encCopyFail (b:Nat)(s:ByteArray)(w:World)(hc0:w.cell? ⟨b,0,none⟩=some (.string s))(hs_s:s.size<=1000)(R:List Int)(HR:Hid (R=msgB 102 (txt s))):
 Calls Tryz.prog 160 #[.pointer (some ⟨b,0,none⟩),.slice none 0 0] w (Gives w R):=by
 have hb:b < w.heap.size:=lt_of_cell hc0
 have hk:∀o,w.cell? ⟨b,o,none⟩=w.cell? ⟨b,o,none⟩:=fun _=>rfl
 have HB:=zh (Buf.nil w)
 have hk':=zh hk;clear hk;have hk:True:=trivial
 go_enter Tryz.func160,Tryz.ntmps160
 go_wp2_with (first|(go_at_call 139;refine(begin_any _ _ _ _ HB.out (by simp)).mono ?_;rintro e w1 ⟨v1,rfl,hn⟩;clear hk;have hk:=hn.cellb hb;replace HB:=zh hn;clear hn)|(go_at_call 145;refine(appendU32 _ _ _ _ (by omega) (by omega) HB.out ul1).mono ?_;rintro e w1 ⟨v1,rfl,hn⟩;clear hk;have hk:=hn.cellb hb;replace HB:=zh hn;clear hn)|(go_at_call 142;refine(appendI32 _ _ _ _ HB.out ul1).mono ?_;rintro e w1 ⟨v1,rfl,hn⟩;clear hk;have hk:=hn.cellb hb;replace HB:=zh hn;clear hn)|(go_at_call 143;refine(finish1 _ 102 _ (txt s) _ HB.out ul6 ul3).mono ?_;rintro e w1 ⟨v1,rfl,hn⟩;clear HB;have HB:=zh hn;clear hn)|(at_builtin;refine ap_str (st:=s) rfl _ _ 26 rfl Tryz.underlying26 rfl rfl HB.out ul1 ?_;intro v2 w2 hn;clear hk;have hk:=hn.cellb hb;replace HB:=zh hn;clear hn)|(at_builtin;refine ap_lit1 rfl _ _ 26 26 rfl Tryz.underlying26 Tryz.underlying26 rfl rfl HB.out ul1 ?_;intro v3 w3 hn;clear hk;have hk:=hn.cellb hb;replace HB:=zh hn;clear hn)|(at_builtin;refine ap_lit5 rfl _ _ 26 26 rfl Tryz.underlying26 Tryz.underlying26 rfl rfl HB.out ul1 ?_;intro v3 w3 hn;clear hk;have hk:=hn.cellb hb;replace HB:=zh hn;clear hn)|(at_builtin;refine ap_lit6 rfl _ _ 26 26 rfl Tryz.underlying26 Tryz.underlying26 rfl rfl HB.out ul1 ?_;intro v3 w3 hn;clear hk;have hk:=hn.cellb hb;replace HB:=zh hn;clear hn))
 go_ret2
 exact gives_of HB.out (HR.out)
theorem encDescribe (b:Nat)(c:Int)(s:ByteArray)(w:World)(hc0:w.cell? ⟨b,0,none⟩=some (.int .u8 c))(hc1:w.cell? ⟨b,1,none⟩=some (.string s))(hs_s:s.size<=1000)(R:List Int)(HR:Hid (R=msgB 68 ([c]++txt s))):
 Calls Tryz.prog 154 #[.pointer (some ⟨b,0,none⟩),.slice none 0 0] w (Gives w R):=by
 have hb:b < w.heap.size:=lt_of_cell hc0
 have hk:∀o,w.cell? ⟨b,o,none⟩=w.cell? ⟨b,o,none⟩:=fun _=>rfl
 have HB:=zh (Buf.nil w)
 have hk':=zh hk;clear hk;have hk:True:=trivial
 go_enter Tryz.func154,Tryz.ntmps154
 go_wp2_with (first|(go_at_call 139;refine(begin_any _ _ _ _ HB.out (by simp)).mono ?_;rintro e w1 ⟨v1,rfl,hn⟩;clear hk;have hk:=hn.cellb hb;replace HB:=zh hn;clear hn)|(go_at_call 145;refine(appendU32 _ _ _ _ (by omega) (by omega) HB.out ul1).mono ?_;rintro e w1 ⟨v1,rfl,hn⟩;clear hk;have hk:=hn.cellb hb;replace HB:=zh hn;clear hn)|(go_at_call 142;refine(appendI32 _ _ _ _ HB.out ul1).mono ?_;rintro e w1 ⟨v1,rfl,hn⟩;clear hk;have hk:=hn.cellb hb;replace HB:=zh hn;clear hn)|(go_at_call 143;refine(finish1 _ 68 _ ([c]++txt s) _ HB.out ul6 ul3).mono ?_;rintro e w1 ⟨v1,rfl,hn⟩;clear HB;have HB:=zh hn;clear hn)|(at_builtin;refine ap_str (st:=s) rfl _ _ 26 rfl Tryz.underlying26 rfl rfl HB.out ul1 ?_;intro v2 w2 hn;clear hk;have hk:=hn.cellb hb;replace HB:=zh hn;clear hn)|(at_builtin;refine ap_lit1 rfl _ _ 26 26 rfl Tryz.underlying26 Tryz.underlying26 rfl rfl HB.out ul1 ?_;intro v3 w3 hn;clear hk;have hk:=hn.cellb hb;replace HB:=zh hn;clear hn)|(at_builtin;refine ap_lit5 rfl _ _ 26 26 rfl Tryz.underlying26 Tryz.underlying26 rfl rfl HB.out ul1 ?_;intro v3 w3 hn;clear hk;have hk:=hn.cellb hb;replace HB:=zh hn;clear hn)|(at_builtin;refine ap_lit6 rfl _ _ 26 26 rfl Tryz.underlying26 Tryz.underlying26 rfl rfl HB.out ul1 ?_;intro v3 w3 hn;clear hk;have hk:=hn.cellb hb;replace HB:=zh hn;clear hn))
 go_ret2
 exact gives_of HB.out (HR.out)
theorem encExecute (b:Nat)(s:ByteArray)(n:Int)(w:World)(hc0:w.cell? ⟨b,0,none⟩=some (.string s))(hc1:w.cell? ⟨b,1,none⟩=some (.int .u32 n))(hs_s:s.size<=1000)(h0_n:0<=n)(h1_n:n < 4294967296)(R:List Int)(HR:Hid (R=msgB 69 (txt s++b32 n))):
 Calls Tryz.prog 163 #[.pointer (some ⟨b,0,none⟩),.slice none 0 0] w (Gives w R):=by
 have hb:b < w.heap.size:=lt_of_cell hc0
 have hk:∀o,w.cell? ⟨b,o,none⟩=w.cell? ⟨b,o,none⟩:=fun _=>rfl
 have HB:=zh (Buf.nil w)
 have hk':=zh hk;clear hk;have hk:True:=trivial
 go_enter Tryz.func163,Tryz.ntmps163
 go_wp2_with (first|(go_at_call 139;refine(begin_any _ _ _ _ HB.out (by simp)).mono ?_;rintro e w1 ⟨v1,rfl,hn⟩;clear hk;have hk:=hn.cellb hb;replace HB:=zh hn;clear hn)|(go_at_call 145;refine(appendU32 _ _ _ _ (by omega) (by omega) HB.out ul1).mono ?_;rintro e w1 ⟨v1,rfl,hn⟩;clear hk;have hk:=hn.cellb hb;replace HB:=zh hn;clear hn)|(go_at_call 142;refine(appendI32 _ _ _ _ HB.out ul1).mono ?_;rintro e w1 ⟨v1,rfl,hn⟩;clear hk;have hk:=hn.cellb hb;replace HB:=zh hn;clear hn)|(go_at_call 143;refine(finish1 _ 69 _ (txt s++b32 n) _ HB.out ul6 ul3).mono ?_;rintro e w1 ⟨v1,rfl,hn⟩;clear HB;have HB:=zh hn;clear hn)|(at_builtin;refine ap_str (st:=s) rfl _ _ 26 rfl Tryz.underlying26 rfl rfl HB.out ul1 ?_;intro v2 w2 hn;clear hk;have hk:=hn.cellb hb;replace HB:=zh hn;clear hn)|(at_builtin;refine ap_lit1 rfl _ _ 26 26 rfl Tryz.underlying26 Tryz.underlying26 rfl rfl HB.out ul1 ?_;intro v3 w3 hn;clear hk;have hk:=hn.cellb hb;replace HB:=zh hn;clear hn)|(at_builtin;refine ap_lit5 rfl _ _ 26 26 rfl Tryz.underlying26 Tryz.underlying26 rfl rfl HB.out ul1 ?_;intro v3 w3 hn;clear hk;have hk:=hn.cellb hb;replace HB:=zh hn;clear hn)|(at_builtin;refine ap_lit6 rfl _ _ 26 26 rfl Tryz.underlying26 Tryz.underlying26 rfl rfl HB.out ul1 ?_;intro v3 w3 hn;clear hk;have hk:=hn.cellb hb;replace HB:=zh hn;clear hn))
 go_ret2
 exact gives_of HB.out (HR.out)
theorem encGSSResponse (b:Nat)(A_d:Option Addr)(c_d:Nat)(d:List Int)(w:World)(hc0:w.cell? ⟨b,0,none⟩=some (.slice A_d d.length c_d))(hr_d:RdB w (.slice A_d d.length c_d) d)(hl_d:d.length<=1000)(R:List Int)(HR:Hid (R=msgB 112 (d))):
 Calls Tryz.prog 173 #[.pointer (some ⟨b,0,none⟩),.slice none 0 0] w (Gives w R):=by
 have hb:b < w.heap.size:=lt_of_cell hc0
 have hk:∀o,w.cell? ⟨b,o,none⟩=w.cell? ⟨b,o,none⟩:=fun _=>rfl
 have hr_d':=zh hr_d
 clear hr_d
 have HB:=zh (Buf.nil w)
 have hk':=zh hk;clear hk;have hk:True:=trivial
 go_enter Tryz.func173,Tryz.ntmps173
 go_wp2_with (first|(go_at_call 139;refine(begin_any _ _ _ _ HB.out (by simp)).mono ?_;rintro e w1 ⟨v1,rfl,hn⟩;clear hk;have hk:=hn.cellb hb;replace HB:=zh hn;clear hn)|(go_at_call 145;refine(appendU32 _ _ _ _ (by omega) (by omega) HB.out ul1).mono ?_;rintro e w1 ⟨v1,rfl,hn⟩;clear hk;have hk:=hn.cellb hb;replace HB:=zh hn;clear hn)|(go_at_call 142;refine(appendI32 _ _ _ _ HB.out ul1).mono ?_;rintro e w1 ⟨v1,rfl,hn⟩;clear hk;have hk:=hn.cellb hb;replace HB:=zh hn;clear hn)|(go_at_call 143;refine(finish1 _ 112 _ (d) _ HB.out ul6 ul3).mono ?_;rintro e w1 ⟨v1,rfl,hn⟩;clear HB;have HB:=zh hn;clear hn)|(at_builtin;refine ap_lit1 rfl _ _ 26 26 rfl Tryz.underlying26 Tryz.underlying26 rfl rfl HB.out ul1 ?_;intro v3 w3 hn;clear hk;have hk:=hn.cellb hb;replace HB:=zh hn;clear hn)|(at_builtin;refine ap_lit5 rfl _ _ 26 26 rfl Tryz.underlying26 Tryz.underlying26 rfl rfl HB.out ul1 ?_;intro v3 w3 hn;clear hk;have hk:=hn.cellb hb;replace HB:=zh hn;clear hn)|(at_builtin;refine ap_lit6 rfl _ _ 26 26 rfl Tryz.underlying26 Tryz.underlying26 rfl rfl HB.out ul1 ?_;intro v3 w3 hn;clear hk;have hk:=hn.cellb hb;replace HB:=zh hn;clear hn)|(at_builtin;refine ap_row (ys:=d) rfl _ _ 26 26 rfl Tryz.underlying26 Tryz.underlying26 rfl HB.out rfl (hr_d'.out.ext HB.out.bel) ul1 ?_;intro v4 w4 hn;clear hk;have hk:=hn.cellb hb;replace HB:=zh hn;clear hn))
 go_ret2
 exact gives_of HB.out (HR.out)
theorem encPassword (b:Nat)(s:ByteArray)(w:World)(hc0:w.cell? ⟨b,0,none⟩=some (.string s))(hs_s:s.size<=1000)(R:List Int)(HR:Hid (R=msgB 112 (txt s))):
 Calls Tryz.prog 179 #[.pointer (some ⟨b,0,none⟩),.slice none 0 0] w (Gives w R):=by
 have hb:b < w.heap.size:=lt_of_cell hc0
 have hk:∀o,w.cell? ⟨b,o,none⟩=w.cell? ⟨b,o,none⟩:=fun _=>rfl
 have HB:=zh (Buf.nil w)
 have hk':=zh hk;clear hk;have hk:True:=trivial
 go_enter Tryz.func179,Tryz.ntmps179
 go_wp2_with (first|(go_at_call 139;refine(begin_any _ _ _ _ HB.out (by simp)).mono ?_;rintro e w1 ⟨v1,rfl,hn⟩;clear hk;have hk:=hn.cellb hb;replace HB:=zh hn;clear hn)|(go_at_call 145;refine(appendU32 _ _ _ _ (by omega) (by omega) HB.out ul1).mono ?_;rintro e w1 ⟨v1,rfl,hn⟩;clear hk;have hk:=hn.cellb hb;replace HB:=zh hn;clear hn)|(go_at_call 142;refine(appendI32 _ _ _ _ HB.out ul1).mono ?_;rintro e w1 ⟨v1,rfl,hn⟩;clear hk;have hk:=hn.cellb hb;replace HB:=zh hn;clear hn)|(go_at_call 143;refine(finish1 _ 112 _ (txt s) _ HB.out ul6 ul3).mono ?_;rintro e w1 ⟨v1,rfl,hn⟩;clear HB;have HB:=zh hn;clear hn)|(at_builtin;refine ap_str (st:=s) rfl _ _ 26 rfl Tryz.underlying26 rfl rfl HB.out ul1 ?_;intro v2 w2 hn;clear hk;have hk:=hn.cellb hb;replace HB:=zh hn;clear hn)|(at_builtin;refine ap_lit1 rfl _ _ 26 26 rfl Tryz.underlying26 Tryz.underlying26 rfl rfl HB.out ul1 ?_;intro v3 w3 hn;clear hk;have hk:=hn.cellb hb;replace HB:=zh hn;clear hn)|(at_builtin;refine ap_lit5 rfl _ _ 26 26 rfl Tryz.underlying26 Tryz.underlying26 rfl rfl HB.out ul1 ?_;intro v3 w3 hn;clear hk;have hk:=hn.cellb hb;replace HB:=zh hn;clear hn)|(at_builtin;refine ap_lit6 rfl _ _ 26 26 rfl Tryz.underlying26 Tryz.underlying26 rfl rfl HB.out ul1 ?_;intro v3 w3 hn;clear hk;have hk:=hn.cellb hb;replace HB:=zh hn;clear hn))
 go_ret2
 exact gives_of HB.out (HR.out)
theorem encQuery (b:Nat)(s:ByteArray)(w:World)(hc0:w.cell? ⟨b,0,none⟩=some (.string s))(hs_s:s.size<=1000)(R:List Int)(HR:Hid (R=msgB 81 (txt s))):
 Calls Tryz.prog 182 #[.pointer (some ⟨b,0,none⟩),.slice none 0 0] w (Gives w R):=by
 have hb:b < w.heap.size:=lt_of_cell hc0
 have hk:∀o,w.cell? ⟨b,o,none⟩=w.cell? ⟨b,o,none⟩:=fun _=>rfl
 have HB:=zh (Buf.nil w)
 have hk':=zh hk;clear hk;have hk:True:=trivial
 go_enter Tryz.func182,Tryz.ntmps182
 go_wp2_with (first|(go_at_call 139;refine(begin_any _ _ _ _ HB.out (by simp)).mono ?_;rintro e w1 ⟨v1,rfl,hn⟩;clear hk;have hk:=hn.cellb hb;replace HB:=zh hn;clear hn)|(go_at_call 145;refine(appendU32 _ _ _ _ (by omega) (by omega) HB.out ul1).mono ?_;rintro e w1 ⟨v1,rfl,hn⟩;clear hk;have hk:=hn.cellb hb;replace HB:=zh hn;clear hn)|(go_at_call 142;refine(appendI32 _ _ _ _ HB.out ul1).mono ?_;rintro e w1 ⟨v1,rfl,hn⟩;clear hk;have hk:=hn.cellb hb;replace HB:=zh hn;clear hn)|(go_at_call 143;refine(finish1 _ 81 _ (txt s) _ HB.out ul6 ul3).mono ?_;rintro e w1 ⟨v1,rfl,hn⟩;clear HB;have HB:=zh hn;clear hn)|(at_builtin;refine ap_str (st:=s) rfl _ _ 26 rfl Tryz.underlying26 rfl rfl HB.out ul1 ?_;intro v2 w2 hn;clear hk;have hk:=hn.cellb hb;replace HB:=zh hn;clear hn)|(at_builtin;refine ap_lit1 rfl _ _ 26 26 rfl Tryz.underlying26 Tryz.underlying26 rfl rfl HB.out ul1 ?_;intro v3 w3 hn;clear hk;have hk:=hn.cellb hb;replace HB:=zh hn;clear hn)|(at_builtin;refine ap_lit5 rfl _ _ 26 26 rfl Tryz.underlying26 Tryz.underlying26 rfl rfl HB.out ul1 ?_;intro v3 w3 hn;clear hk;have hk:=hn.cellb hb;replace HB:=zh hn;clear hn)|(at_builtin;refine ap_lit6 rfl _ _ 26 26 rfl Tryz.underlying26 Tryz.underlying26 rfl rfl HB.out ul1 ?_;intro v3 w3 hn;clear hk;have hk:=hn.cellb hb;replace HB:=zh hn;clear hn))
 go_ret2
 exact gives_of HB.out (HR.out)
end Go.Proofs.YtdenjanihikolaaGreatDoor
