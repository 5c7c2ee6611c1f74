/- Messages whose structs are laid in an open order, made. -/
import Derived.Test.YtdenjanihikolaaGreatDoorRqA2
import Derived.Test.YtdenjanihikolaaGreatDoorRqA0
import Derived.Test.YtdenjanihikolaaGreatDoorRqA1
import Derived.Test.YtdenjanihikolaaGreatDoorRqEncf
import Derived.Test.YtdenjanihikolaaGreatDoorRqMkg
import Derived.Test.YtdenjanihikolaaGreatDoorRqEncb
import Derived.Test.YtdenjanihikolaaGreatDoorRqEncc
import Derived.Test.YtdenjanihikolaaGreatDoorRqEncd
namespace Go.Proofs.YtdenjanihikolaaGreatDoor
set_option linter.unusedVariables false
set_option linter.unusedSimpArgs false
set_option maxRecDepth 100000
set_option maxHeartbeats 4000000
open Go.RowKit Og
theorem made1 (a b:ByteArray)(n:Int)(v4 v5 v6 v7 v8 vd v10 v11 v12:Value)(d:List Int)(w:World)(HD:Hid (RdB w vd d))(hl:d.length<=200)(hn:0<=n/\n < 4294967296)(R:List Int)(HR:Hid (R=msg0 (b32 80877102++b32 n++d))):Calls Tryz.prog 34 #[.agg #[.int .i64 1,.string a,.string b,.int .u32 n,v4,v5,v6,v7,v8,vd,v10,v11,v12]] w (Made 108 148 w R):=by
 have n101:=no101 108
 have y108:=yes108
 obtain⟨W1,hW1⟩:∃W1,W1=(w.alloc (.cells #[.int .i64 1,.string a,.string b,.int .u32 n,v4,v5,v6,v7,v8,vd,v10,v11,v12] 31)).alloc (.cells #[.int .u32 0,.slice none 0 0] 110):=⟨_,rfl⟩
 have XW:Hid (Ext w W1):=zh (by rw [hW1];exact(ext_alloc w _).alloc _)
 have HB:Hid (W1.heap[w.heap.size+1]?=some (.cells #[.int .u32 0,.slice none 0 0] 110 (0,0))):=zh (by
  rw [hW1]
  have:=heap_alloc_new (w.alloc (.cells #[.int .i64 1,.string a,.string b,.int .u32 n,v4,v5,v6,v7,v8,vd,v10,v11,v12] 31)) (.cells #[.int .u32 0,.slice none 0 0] 110)
  simpa using this)
 have HO:Hid (W1.heap[w.heap.size]?=some (.cells #[.int .i64 1,.string a,.string b,.int .u32 n,v4,v5,v6,v7,v8,vd,v10,v11,v12] 31 (0,0))):=zh (by
  rw [hW1]
  have e1:=(ext_alloc (w.alloc (.cells #[.int .i64 1,.string a,.string b,.int .u32 n,v4,v5,v6,v7,v8,vd,v10,v11,v12] 31)) (.cells #[.int .u32 0,.slice none 0 0] 110)).block w.heap.size (by simp)
  rw [e1];exact heap_alloc_new _ _)
 have HL3:=zh (zc HO.out 3 (.int .u32 n) rfl)
 have HL9:=zh (zc HO.out 9 (vd) rfl)
 have hb0:=zc HO.out 0 (.int .i64 1) rfl
 have hb3:=zc HO.out 3 (.int .u32 n) rfl
 go_enter Tryz.func34,Tryz.ntmps34
 go_wp2_with (first|(go_at_call 46;refine(emp1 _).mono ?_;rintro e w1 ⟨rfl,rfl⟩)|(go_at_call 54;rw [<-hW1];clear hW1;refine(let54 n _).mono ?_;rintro e w54 ⟨rfl,hw54⟩;rw [hw54];clear hw54))
 refine wp_region_cut (J:=fun x=>Ext W1 x) (R:=Ext) 7 [Sp.eq _ (.pointer (some ⟨w.heap.size+1,0,none⟩)),Sp.eq _ (.pointer (some ⟨w.heap.size,3,none⟩)),Sp.eq _ (.int .u32 n),Sp.eq _ (.pointer (some ⟨w.heap.size,9,none⟩)),Sp.eq _ (vd),spR (fun v w=>RdB w v d) (d.length) W1,(⟨fun v x=>v=.agg #[.int .u32 n,agAt 1 v]/\PR (fun v w=>RdB w v d) (d.length) W1 (agAt 1 v) x,fun _ _ _ h k=>⟨k.1,(k.2).ext h⟩⟩:Sp Ext)] (by kernel_rfl) (by kernel_rfl) ?_ ?_ ?_
 ·exact(Ext.refl W1).drew
 ·refine⟨zj,zj,?_,zj,?_,?_,?_,trivial⟩
  ·intro vs w1 hJ hp
   have q1:vs 1=_:=zd hp 1
   have HJ:=zh hJ
   have hq:=hJ.cell HL3.out
   clear hp hJ
   simp only [List.take_succ_cons,List.take_zero,putAll,Nat.reduceAdd]
   go_wp2
   exact⟨rfl,HJ.out,zr,rfl⟩
  ·intro vs w1 hJ hp
   have q3:vs 3=_:=zd hp 3
   have HJ:=zh hJ
   have hq:=hJ.cell HL9.out
   clear hp hJ
   simp only [List.take_succ_cons,List.take_zero,putAll,Nat.reduceAdd]
   go_wp2
   exact⟨rfl,HJ.out,zr,rfl⟩
  ·intro vs w1 hJ hp
   have q4:vs 4=_:=zd hp 4
   have HJ:=zh hJ
   clear hp hJ
   simp only [List.take_succ_cons,List.take_zero,putAll,Nat.reduceAdd]
   go_wp2_with (go_at_call 47;refine(copiedK _ d _ (HD.out.ext (XW.out.trans HJ.out)) (by omega)).mono ?_;rintro e w2 ⟨A2,c2,rfl,hx2,hk2⟩;have HX2:=zh hx2;have HK2:=zh hk2;clear hx2 hk2)
   have hpr:PR (fun v w=>RdB w v d) (d.length) W1 (.slice A2 (d.length) c2) w2:=PR.of (R:=fun v w=>RdB w v d) HK2.out HJ.out
   exact⟨rfl,HJ.out.trans HX2.out,HX2.out,hpr⟩
  ·intro vs w1 hJ hp
   have q2:vs 2=_:=zd hp 2
   have q5:(spR (fun v w=>RdB w v d) (d.length) W1).p (vs 5) w1:=zd hp 5
   have HJ:=zh hJ
   have HQ5:=zh q5
   clear hp hJ
   clear q5
   simp only [List.take_succ_cons,List.take_zero,putAll,Nat.reduceAdd]
   rw [HQ5.out.1]
   go_wp2
   exact⟨rfl,HJ.out,zr,⟨rfl,⟨rfl,HQ5.out.2⟩⟩⟩
 ·intro vs w1 hJ hp
  have q0:vs 0=_:=zd hp 0
  have q1:vs 1=_:=zd hp 1
  have q2:vs 2=_:=zd hp 2
  have q3:vs 3=_:=zd hp 3
  have q4:vs 4=_:=zd hp 4
  have q5:(spR (fun v w=>RdB w v d) (d.length) W1).p (vs 5) w1:=zd hp 5
  have q6:((⟨fun v x=>v=.agg #[.int .u32 n,agAt 1 v]/\PR (fun v w=>RdB w v d) (d.length) W1 (agAt 1 v) x,fun _ _ _ h k=>⟨k.1,(k.2).ext h⟩⟩:Sp Ext)).p (vs 6) w1:=zd hp 6
  have hag:vs 6=.agg #[.int .u32 n,.slice (slA (agAt 1 (vs 6))) (d.length) (slC (agAt 1 (vs 6)))]:=by
   have h0:=q6.1
   have g1:=(q6.2).1
   refine h0.trans ?_
   rw [<-g1]
  have KP5:=zh ((q6.2).2)
  obtain⟨S5,hS5⟩:∃y,y=slA (agAt 1 (vs 6)):=⟨_,rfl⟩
  obtain⟨T5,hT5⟩:∃y,y=slC (agAt 1 (vs 6)):=⟨_,rfl⟩
  rw [<-hS5,<-hT5]at hag KP5
  have HJ:=zh hJ
  have BB:=zh ((hJ.block _ (zl HB.out)).trans HB.out)
  have hz0':=zc BB.out 0 (.int .u32 0) rfl
  have hz1':=zc BB.out 1 (.slice none 0 0) rfl
  have hy0':=free_slot BB.out 0
  have hy1':=free_slot BB.out 1
  clear hp hJ q6 q5 hS5 hT5
  simp only [List.drop_succ_cons,List.drop_zero,List.take_succ_cons,List.take_zero,putAll,Nat.reduceAdd,Act.put,hag,q0,q1,q2,q3,q4,List.setIfInBounds_toArray,List.set_cons_zero,List.set_cons_succ]
  clear hag q0 q1 q2 q3 q4
  go_wp2
  go_ret2
  have EB:=(((HJ.out.but (b:=(w.heap.size+1))).set 0 (.int .u32 n)).set 1 (.slice S5 (d.length) T5))
  have SS:=(slot_setCell (j:=1) (u:=.slice S5 (d.length) T5) (slot_setCell (j:=0) (u:=.int .u32 n) BB.out))
  have KK5:=KP5.out _ (fun k h1 h2=>(((((Ext.refl w1).but (b:=(w.heap.size+1))).set 0 (.int .u32 n)).set 1 (.slice S5 (d.length) T5))).block k h2 (by have:=zl HB.out;omega))
  refine⟨w.heap.size+1,rfl,EB.ext XW.out (by omega),?_⟩
  exact encCancelRequest _ n S5 T5 d _ (zc SS 0 (.int .u32 n) rfl) (zc SS 1 (.slice S5 (d.length) T5) rfl) hn.1 hn.2 KK5 (by omega) R HR
theorem made15 (a b:ByteArray)(n:Int)(v4 v5 v6 v7 v8 vd v10 v11 v12:Value)(d:List Int)(w:World)(hs:a.size<=200)(HD:Hid (RdB w vd d))(hl:d.length<=500)(R:List Int)(HR:Hid (R=msgB 112 (txt a++b32 d.length++d))):Calls Tryz.prog 34 #[.agg #[.int .i64 15,.string a,.string b,.int .u32 n,v4,v5,v6,v7,v8,vd,v10,v11,v12]] w (Made 144 185 w R):=by
 have n101:=no101 144
 have n108:=no108 144
 have n111:=no111 144
 have n114:=no114 144
 have n116:=no116 144
 have n119:=no119 144
 have n122:=no122 144
 have n125:=no125 144
 have n132:=no132 144
 have n134:=no134 144
 have n138:=no138 144
 have n141:=no141 144
 have y144:=yes144
 obtain⟨W1,hW1⟩:∃W1,W1=(w.alloc (.cells #[.int .i64 15,.string a,.string b,.int .u32 n,v4,v5,v6,v7,v8,vd,v10,v11,v12] 31)).alloc (.cells #[.string ⟨#[]⟩,.slice none 0 0] 146):=⟨_,rfl⟩
 have XW:Hid (Ext w W1):=zh (by rw [hW1];exact(ext_alloc w _).alloc _)
 have HB:Hid (W1.heap[w.heap.size+1]?=some (.cells #[.string ⟨#[]⟩,.slice none 0 0] 146 (0,0))):=zh (by
  rw [hW1]
  have:=heap_alloc_new (w.alloc (.cells #[.int .i64 15,.string a,.string b,.int .u32 n,v4,v5,v6,v7,v8,vd,v10,v11,v12] 31)) (.cells #[.string ⟨#[]⟩,.slice none 0 0] 146)
  simpa using this)
 have HO:Hid (W1.heap[w.heap.size]?=some (.cells #[.int .i64 15,.string a,.string b,.int .u32 n,v4,v5,v6,v7,v8,vd,v10,v11,v12] 31 (0,0))):=zh (by
  rw [hW1]
  have e1:=(ext_alloc (w.alloc (.cells #[.int .i64 15,.string a,.string b,.int .u32 n,v4,v5,v6,v7,v8,vd,v10,v11,v12] 31)) (.cells #[.string ⟨#[]⟩,.slice none 0 0] 146)).block w.heap.size (by simp)
  rw [e1];exact heap_alloc_new _ _)
 have HL1:=zh (zc HO.out 1 (.string a) rfl)
 have HL9:=zh (zc HO.out 9 (vd) rfl)
 have hb0:=zc HO.out 0 (.int .i64 15) rfl
 have hb3:=zc HO.out 3 (.int .u32 n) rfl
 go_enter Tryz.func34,Tryz.ntmps34
 go_wp2_with (first|(go_at_call 46;refine(emp15 _).mono ?_;rintro e w1 ⟨rfl,rfl⟩)|(go_at_call 54;rw [<-hW1];clear hW1;refine(let54 n _).mono ?_;rintro e w54 ⟨rfl,hw54⟩;rw [hw54];clear hw54))
 refine wp_region_cut (J:=fun x=>Ext W1 x) (R:=Ext) 7 [Sp.eq _ (.pointer (some ⟨w.heap.size+1,0,none⟩)),Sp.eq _ (.pointer (some ⟨w.heap.size,1,none⟩)),Sp.eq _ (.string a),Sp.eq _ (.pointer (some ⟨w.heap.size,9,none⟩)),Sp.eq _ (vd),spR (fun v w=>RdB w v d) (d.length) W1,(⟨fun v x=>v=.agg #[.string a,agAt 1 v]/\PR (fun v w=>RdB w v d) (d.length) W1 (agAt 1 v) x,fun _ _ _ h k=>⟨k.1,(k.2).ext h⟩⟩:Sp Ext)] (by kernel_rfl) (by kernel_rfl) ?_ ?_ ?_
 ·exact(Ext.refl W1).drew
 ·refine⟨zj,zj,?_,zj,?_,?_,?_,trivial⟩
  ·intro vs w1 hJ hp
   have q1:vs 1=_:=zd hp 1
   have HJ:=zh hJ
   have hq:=hJ.cell HL1.out
   clear hp hJ
   simp only [List.take_succ_cons,List.take_zero,putAll,Nat.reduceAdd]
   go_wp2
   exact⟨rfl,HJ.out,zr,rfl⟩
  ·intro vs w1 hJ hp
   have q3:vs 3=_:=zd hp 3
   have HJ:=zh hJ
   have hq:=hJ.cell HL9.out
   clear hp hJ
   simp only [List.take_succ_cons,List.take_zero,putAll,Nat.reduceAdd]
   go_wp2
   exact⟨rfl,HJ.out,zr,rfl⟩
  ·intro vs w1 hJ hp
   have q4:vs 4=_:=zd hp 4
   have HJ:=zh hJ
   clear hp hJ
   simp only [List.take_succ_cons,List.take_zero,putAll,Nat.reduceAdd]
   go_wp2_with (go_at_call 47;refine(copiedK _ d _ (HD.out.ext (XW.out.trans HJ.out)) (by omega)).mono ?_;rintro e w2 ⟨A2,c2,rfl,hx2,hk2⟩;have HX2:=zh hx2;have HK2:=zh hk2;clear hx2 hk2)
   have hpr:PR (fun v w=>RdB w v d) (d.length) W1 (.slice A2 (d.length) c2) w2:=PR.of (R:=fun v w=>RdB w v d) HK2.out HJ.out
   exact⟨rfl,HJ.out.trans HX2.out,HX2.out,hpr⟩
  ·intro vs w1 hJ hp
   have q2:vs 2=_:=zd hp 2
   have q5:(spR (fun v w=>RdB w v d) (d.length) W1).p (vs 5) w1:=zd hp 5
   have HJ:=zh hJ
   have HQ5:=zh q5
   clear hp hJ
   clear q5
   simp only [List.take_succ_cons,List.take_zero,putAll,Nat.reduceAdd]
   rw [HQ5.out.1]
   go_wp2
   exact⟨rfl,HJ.out,zr,⟨rfl,⟨rfl,HQ5.out.2⟩⟩⟩
 ·intro vs w1 hJ hp
  have q0:vs 0=_:=zd hp 0
  have q1:vs 1=_:=zd hp 1
  have q2:vs 2=_:=zd hp 2
  have q3:vs 3=_:=zd hp 3
  have q4:vs 4=_:=zd hp 4
  have q5:(spR (fun v w=>RdB w v d) (d.length) W1).p (vs 5) w1:=zd hp 5
  have q6:((⟨fun v x=>v=.agg #[.string a,agAt 1 v]/\PR (fun v w=>RdB w v d) (d.length) W1 (agAt 1 v) x,fun _ _ _ h k=>⟨k.1,(k.2).ext h⟩⟩:Sp Ext)).p (vs 6) w1:=zd hp 6
  have hag:vs 6=.agg #[.string a,.slice (slA (agAt 1 (vs 6))) (d.length) (slC (agAt 1 (vs 6)))]:=by
   have h0:=q6.1
   have g1:=(q6.2).1
   refine h0.trans ?_
   rw [<-g1]
  have KP5:=zh ((q6.2).2)
  obtain⟨S5,hS5⟩:∃y,y=slA (agAt 1 (vs 6)):=⟨_,rfl⟩
  obtain⟨T5,hT5⟩:∃y,y=slC (agAt 1 (vs 6)):=⟨_,rfl⟩
  rw [<-hS5,<-hT5]at hag KP5
  have HJ:=zh hJ
  have BB:=zh ((hJ.block _ (zl HB.out)).trans HB.out)
  have hz0':=zc BB.out 0 (.string ⟨#[]⟩) rfl
  have hz1':=zc BB.out 1 (.slice none 0 0) rfl
  have hy0':=free_slot BB.out 0
  have hy1':=free_slot BB.out 1
  clear hp hJ q6 q5 hS5 hT5
  simp only [List.drop_succ_cons,List.drop_zero,List.take_succ_cons,List.take_zero,putAll,Nat.reduceAdd,Act.put,hag,q0,q1,q2,q3,q4,List.setIfInBounds_toArray,List.set_cons_zero,List.set_cons_succ]
  clear hag q0 q1 q2 q3 q4
  go_wp2
  go_ret2
  have EB:=(((HJ.out.but (b:=(w.heap.size+1))).set 0 (.string a)).set 1 (.slice S5 (d.length) T5))
  have SS:=(slot_setCell (j:=1) (u:=.slice S5 (d.length) T5) (slot_setCell (j:=0) (u:=.string a) BB.out))
  have KK5:=KP5.out _ (fun k h1 h2=>(((((Ext.refl w1).but (b:=(w.heap.size+1))).set 0 (.string a)).set 1 (.slice S5 (d.length) T5))).block k h2 (by have:=zl HB.out;omega))
  refine⟨w.heap.size+1,rfl,EB.ext XW.out (by omega),?_⟩
  exact encSASLInitial _ a S5 T5 d _ (zc SS 0 (.string a) rfl) (zc SS 1 (.slice S5 (d.length) T5) rfl) (by omega) KK5 (by omega) R HR
theorem ans38 (a b:ByteArray)(n:Int)(v4 v5 v6 v7 v8 vd v10 v11 v12:Value)(d:List Int)(w w1:World)(bk:Nat)(HD:Hid (RdB w vd d))(hl:d.length<=500)(hn:0<=n/\n < 4294967296)(hx:Ext w w1)(hbk:w.heap.size<=bk)(hblk:w1.heap[bk]?=some (.cells #[.int .u32 0,.slice none 0 0] 199 (0,0)))(R:List Int)(HR:Hid (R=msgB 75 (b32 n++d))):
 Calls Tryz.prog 60 #[.iface 198 (.pointer (some ⟨bk,0,none⟩)),.agg #[.int .i64 38,.string a,.string b,.int .u32 n,v4,v5,v6,v7,v8,vd,v10,v11,v12],.bool true] w1 (Ans 198 275 bk w R):=by
 have n185:=no185 198
 have n189:=no189 198
 have n191:=no191 198
 have n194:=no194 198
 have n196:=no196 198
 have y198:=yes198
 obtain⟨W2,hW2⟩:∃W2,W2=w1.alloc (.cells #[.int .i64 38,.string a,.string b,.int .u32 n,v4,v5,v6,v7,v8,vd,v10,v11,v12] 31):=⟨_,rfl⟩
 have X1:Hid (Ext w1 W2):=zh (by rw [hW2];exact ext_alloc w1 _)
 have XW:Hid (Ext w W2):=zh (hx.trans X1.out)
 have HB:Hid (W2.heap[bk]?=some (.cells #[.int .u32 0,.slice none 0 0] 199 (0,0))):=zh ((X1.out.block _ (zl hblk)).trans hblk)
 have HO:Hid (W2.heap[w1.heap.size]?=some (.cells #[.int .i64 38,.string a,.string b,.int .u32 n,v4,v5,v6,v7,v8,vd,v10,v11,v12] 31 (0,0))):=zh (by rw [hW2];exact heap_alloc_new _ _)
 have HBK:=zh hbk
 clear hx hbk hblk
 have HL3:=zh (zc HO.out 3 (.int .u32 n) rfl)
 have HL9:=zh (zc HO.out 9 (vd) rfl)
 have hb3:=zc HO.out 3 (.int .u32 n) rfl
 go_enter Tryz.func60,Tryz.ntmps60
 go_wp2_with (first|(go_at_call 54;rw [<-hW2];clear hW2;refine(let54 n _).mono ?_;rintro e w54 ⟨rfl,hw54⟩;rw [hw54];clear hw54))
 refine wp_region_cut (J:=fun x=>Ext W2 x) (R:=Ext) 7 [Sp.eq _ (.pointer (some ⟨bk,0,none⟩)),Sp.eq _ (.pointer (some ⟨w1.heap.size,3,none⟩)),Sp.eq _ (.int .u32 n),Sp.eq _ (.pointer (some ⟨w1.heap.size,9,none⟩)),Sp.eq _ (vd),spR (fun v w=>RdB w v d) (d.length) W2,(⟨fun v x=>v=.agg #[.int .u32 n,agAt 1 v]/\PR (fun v w=>RdB w v d) (d.length) W2 (agAt 1 v) x,fun _ _ _ h k=>⟨k.1,(k.2).ext h⟩⟩:Sp Ext)] (by kernel_rfl) (by kernel_rfl) ?_ ?_ ?_
 ·exact(Ext.refl W2).drew
 ·refine⟨zj,zj,?_,zj,?_,?_,?_,trivial⟩
  ·intro vs w1' hJ hp
   have q1:vs 1=_:=zd hp 1
   have HJ:=zh hJ
   have hq:=hJ.cell HL3.out
   clear hp hJ
   simp only [List.take_succ_cons,List.take_zero,putAll,Nat.reduceAdd]
   go_wp2
   exact⟨rfl,HJ.out,zr,rfl⟩
  ·intro vs w1' hJ hp
   have q3:vs 3=_:=zd hp 3
   have HJ:=zh hJ
   have hq:=hJ.cell HL9.out
   clear hp hJ
   simp only [List.take_succ_cons,List.take_zero,putAll,Nat.reduceAdd]
   go_wp2
   exact⟨rfl,HJ.out,zr,rfl⟩
  ·intro vs w1' hJ hp
   have q4:vs 4=_:=zd hp 4
   have HJ:=zh hJ
   clear hp hJ
   simp only [List.take_succ_cons,List.take_zero,putAll,Nat.reduceAdd]
   go_wp2_with (go_at_call 47;refine(copiedK _ d _ (HD.out.ext (XW.out.trans HJ.out)) (by omega)).mono ?_;rintro e w2 ⟨A2,c2,rfl,hx2,hk2⟩;have HX2:=zh hx2;have HK2:=zh hk2;clear hx2 hk2)
   have hpr:PR (fun v w=>RdB w v d) (d.length) W2 (.slice A2 (d.length) c2) w2:=PR.of (R:=fun v w=>RdB w v d) HK2.out HJ.out
   exact⟨rfl,HJ.out.trans HX2.out,HX2.out,hpr⟩
  ·intro vs w1' hJ hp
   have q2:vs 2=_:=zd hp 2
   have q5:(spR (fun v w=>RdB w v d) (d.length) W2).p (vs 5) w1':=zd hp 5
   have HJ:=zh hJ
   have HQ5:=zh q5
   clear hp hJ
   clear q5
   simp only [List.take_succ_cons,List.take_zero,putAll,Nat.reduceAdd]
   rw [HQ5.out.1]
   go_wp2
   exact⟨rfl,HJ.out,zr,⟨rfl,⟨rfl,HQ5.out.2⟩⟩⟩
 ·intro vs w1' hJ hp
  have q0:vs 0=_:=zd hp 0
  have q1:vs 1=_:=zd hp 1
  have q2:vs 2=_:=zd hp 2
  have q3:vs 3=_:=zd hp 3
  have q4:vs 4=_:=zd hp 4
  have q5:(spR (fun v w=>RdB w v d) (d.length) W2).p (vs 5) w1':=zd hp 5
  have q6:((⟨fun v x=>v=.agg #[.int .u32 n,agAt 1 v]/\PR (fun v w=>RdB w v d) (d.length) W2 (agAt 1 v) x,fun _ _ _ h k=>⟨k.1,(k.2).ext h⟩⟩:Sp Ext)).p (vs 6) w1':=zd hp 6
  have hag:vs 6=.agg #[.int .u32 n,.slice (slA (agAt 1 (vs 6))) (d.length) (slC (agAt 1 (vs 6)))]:=by
   have h0:=q6.1
   have g1:=(q6.2).1
   refine h0.trans ?_
   rw [<-g1]
  have KP5:=zh ((q6.2).2)
  obtain⟨S5,hS5⟩:∃y,y=slA (agAt 1 (vs 6)):=⟨_,rfl⟩
  obtain⟨T5,hT5⟩:∃y,y=slC (agAt 1 (vs 6)):=⟨_,rfl⟩
  rw [<-hS5,<-hT5]at hag KP5
  have HJ:=zh hJ
  have BB:=zh ((hJ.block _ (zl HB.out)).trans HB.out)
  have hz0':=zc BB.out 0 (.int .u32 0) rfl
  have hz1':=zc BB.out 1 (.slice none 0 0) rfl
  have hy0':=free_slot BB.out 0
  have hy1':=free_slot BB.out 1
  clear hp hJ q6 q5 hS5 hT5
  simp only [List.drop_succ_cons,List.drop_zero,List.take_succ_cons,List.take_zero,putAll,Nat.reduceAdd,Act.put,hag,q0,q1,q2,q3,q4,List.setIfInBounds_toArray,List.set_cons_zero,List.set_cons_succ]
  clear hag q0 q1 q2 q3 q4
  go_wp2
  go_ret2
  have EB:=(((HJ.out.but (b:=bk)).set 0 (.int .u32 n)).set 1 (.slice S5 (d.length) T5))
  have SS:=(slot_setCell (j:=1) (u:=.slice S5 (d.length) T5) (slot_setCell (j:=0) (u:=.int .u32 n) BB.out))
  have KK5:=KP5.out _ (fun k h1 h2=>(((((Ext.refl w1').but (b:=bk)).set 0 (.int .u32 n)).set 1 (.slice S5 (d.length) T5))).block k h2 (by have:=zl HB.out;omega))
  refine⟨rfl,EB.ext XW.out HBK.out,?_⟩
  exact encBackendKey _ n S5 T5 d _ (zc SS 0 (.int .u32 n) rfl) (zc SS 1 (.slice S5 (d.length) T5) rfl) hn.1 hn.2 KK5 (by omega) R HR
theorem made12 (a b:ByteArray)(n:Int)(v4 v5 v6 v8 v9 v10 v11 v12:Value)(ty:List Int)(A7:Option Addr)(c7:Nat)(w:World)(hs:a.size<=200)(hsb:b.size<=200)(HT:Hid (RdI .u32 w (.slice A7 ty.length c7) ty))(hlt:ty.length<=20)(hgt:∀y∈ty,0<=y/\y < 4294967296)(R:List Int)(HR:Hid (R=msgB 80 (txt a++txt b++b16 ty.length++ty.flatMap b32))):Calls Tryz.prog 34 #[.agg #[.int .i64 12,.string a,.string b,.int .u32 n,v4,v5,v6,.slice A7 ty.length c7,v8,v9,v10,v11,v12]] w (Made 134 176 w R):=by
 have n101:=no101 134
 have n108:=no108 134
 have n111:=no111 134
 have n114:=no114 134
 have n116:=no116 134
 have n119:=no119 134
 have n122:=no122 134
 have n125:=no125 134
 have n132:=no132 134
 have y134:=yes134
 obtain⟨W1,hW1⟩:∃W1,W1=(w.alloc (.cells #[.int .i64 12,.string a,.string b,.int .u32 n,v4,v5,v6,.slice A7 ty.length c7,v8,v9,v10,v11,v12] 31)).alloc (.cells #[.string ⟨#[]⟩,.string ⟨#[]⟩,.slice none 0 0] 137):=⟨_,rfl⟩
 have XW:Hid (Ext w W1):=zh (by rw [hW1];exact(ext_alloc w _).alloc _)
 have HB:Hid (W1.heap[w.heap.size+1]?=some (.cells #[.string ⟨#[]⟩,.string ⟨#[]⟩,.slice none 0 0] 137 (0,0))):=zh (by
  rw [hW1]
  have:=heap_alloc_new (w.alloc (.cells #[.int .i64 12,.string a,.string b,.int .u32 n,v4,v5,v6,.slice A7 ty.length c7,v8,v9,v10,v11,v12] 31)) (.cells #[.string ⟨#[]⟩,.string ⟨#[]⟩,.slice none 0 0] 137)
  simpa using this)
 have HO:Hid (W1.heap[w.heap.size]?=some (.cells #[.int .i64 12,.string a,.string b,.int .u32 n,v4,v5,v6,.slice A7 ty.length c7,v8,v9,v10,v11,v12] 31 (0,0))):=zh (by
  rw [hW1]
  have e1:=(ext_alloc (w.alloc (.cells #[.int .i64 12,.string a,.string b,.int .u32 n,v4,v5,v6,.slice A7 ty.length c7,v8,v9,v10,v11,v12] 31)) (.cells #[.string ⟨#[]⟩,.string ⟨#[]⟩,.slice none 0 0] 137)).block w.heap.size (by simp)
  rw [e1];exact heap_alloc_new _ _)
 have HL1:=zh (zc HO.out 1 (.string a) rfl)
 have HL2:=zh (zc HO.out 2 (.string b) rfl)
 have HL7:=zh (zc HO.out 7 (.slice A7 ty.length c7) rfl)
 have hb0:=zc HO.out 0 (.int .i64 12) rfl
 have hb3:=zc HO.out 3 (.int .u32 n) rfl
 go_enter Tryz.func34,Tryz.ntmps34
 go_wp2_with (first|(go_at_call 46;refine(emp12 _).mono ?_;rintro e w1 ⟨rfl,rfl⟩)|(go_at_call 54;rw [<-hW1];clear hW1;refine(let54 n _).mono ?_;rintro e w54 ⟨rfl,hw54⟩;rw [hw54];clear hw54))
 refine wp_region_cut (J:=fun x=>Ext W1 x) (R:=Ext) 9 [Sp.eq _ (.pointer (some ⟨w.heap.size+1,0,none⟩)),Sp.eq _ (.pointer (some ⟨w.heap.size,1,none⟩)),Sp.eq _ (.string a),Sp.eq _ (.pointer (some ⟨w.heap.size,2,none⟩)),Sp.eq _ (.string b),Sp.eq _ (.pointer (some ⟨w.heap.size,7,none⟩)),Sp.eq _ (.slice A7 ty.length c7),spR (fun v w=>RdI .u32 w v ty) (ty.length) W1,(⟨fun v x=>v=.agg #[.string a,.string b,agAt 2 v]/\PR (fun v w=>RdI .u32 w v ty) (ty.length) W1 (agAt 2 v) x,fun _ _ _ h k=>⟨k.1,(k.2).ext h⟩⟩:Sp Ext)] (by kernel_rfl) (by kernel_rfl) ?_ ?_ ?_
 ·exact(Ext.refl W1).drew
 ·refine⟨zj,zj,?_,zj,?_,zj,?_,?_,?_,trivial⟩
  ·intro vs w1 hJ hp
   have q1:vs 1=_:=zd hp 1
   have HJ:=zh hJ
   have hq:=hJ.cell HL1.out
   clear hp hJ
   simp only [List.take_succ_cons,List.take_zero,putAll,Nat.reduceAdd]
   go_wp2
   exact⟨rfl,HJ.out,zr,rfl⟩
  ·intro vs w1 hJ hp
   have q3:vs 3=_:=zd hp 3
   have HJ:=zh hJ
   have hq:=hJ.cell HL2.out
   clear hp hJ
   simp only [List.take_succ_cons,List.take_zero,putAll,Nat.reduceAdd]
   go_wp2
   exact⟨rfl,HJ.out,zr,rfl⟩
  ·intro vs w1 hJ hp
   have q5:vs 5=_:=zd hp 5
   have HJ:=zh hJ
   have hq:=hJ.cell HL7.out
   clear hp hJ
   simp only [List.take_succ_cons,List.take_zero,putAll,Nat.reduceAdd]
   go_wp2
   exact⟨rfl,HJ.out,zr,rfl⟩
  ·intro vs w1 hJ hp
   have q6:vs 6=_:=zd hp 6
   have HJ:=zh hJ
   clear hp hJ
   simp only [List.take_succ_cons,List.take_zero,putAll,Nat.reduceAdd]
   go_wp2_with (go_at_call 59;refine(cloneI ty A7 c7 _ (HT.out.ext (XW.out.trans HJ.out)) (by omega)).mono ?_;rintro e w2 ⟨A2,c2,rfl,hx2,hk2⟩;have HX2:=zh hx2;have HK2:=zh hk2;clear hx2 hk2)
   have hpr:PR (fun v w=>RdI .u32 w v ty) (ty.length) W1 (.slice A2 (ty.length) c2) w2:=PR.of (R:=fun v w=>RdI .u32 w v ty) HK2.out HJ.out
   exact⟨rfl,HJ.out.trans HX2.out,HX2.out,hpr⟩
  ·intro vs w1 hJ hp
   have q2:vs 2=_:=zd hp 2
   have q4:vs 4=_:=zd hp 4
   have q7:(spR (fun v w=>RdI .u32 w v ty) (ty.length) W1).p (vs 7) w1:=zd hp 7
   have HJ:=zh hJ
   have HQ7:=zh q7
   clear hp hJ
   clear q7
   simp only [List.take_succ_cons,List.take_zero,putAll,Nat.reduceAdd]
   rw [HQ7.out.1]
   go_wp2
   exact⟨rfl,HJ.out,zr,⟨rfl,⟨rfl,HQ7.out.2⟩⟩⟩
 ·intro vs w1 hJ hp
  have q0:vs 0=_:=zd hp 0
  have q1:vs 1=_:=zd hp 1
  have q2:vs 2=_:=zd hp 2
  have q3:vs 3=_:=zd hp 3
  have q4:vs 4=_:=zd hp 4
  have q5:vs 5=_:=zd hp 5
  have q6:vs 6=_:=zd hp 6
  have q7:(spR (fun v w=>RdI .u32 w v ty) (ty.length) W1).p (vs 7) w1:=zd hp 7
  have q8:((⟨fun v x=>v=.agg #[.string a,.string b,agAt 2 v]/\PR (fun v w=>RdI .u32 w v ty) (ty.length) W1 (agAt 2 v) x,fun _ _ _ h k=>⟨k.1,(k.2).ext h⟩⟩:Sp Ext)).p (vs 8) w1:=zd hp 8
  have hag:vs 8=.agg #[.string a,.string b,.slice (slA (agAt 2 (vs 8))) (ty.length) (slC (agAt 2 (vs 8)))]:=by
   have h0:=q8.1
   have g2:=(q8.2).1
   refine h0.trans ?_
   rw [<-g2]
  have KP7:=zh ((q8.2).2)
  obtain⟨S7,hS7⟩:∃y,y=slA (agAt 2 (vs 8)):=⟨_,rfl⟩
  obtain⟨T7,hT7⟩:∃y,y=slC (agAt 2 (vs 8)):=⟨_,rfl⟩
  rw [<-hS7,<-hT7]at hag KP7
  have HJ:=zh hJ
  have BB:=zh ((hJ.block _ (zl HB.out)).trans HB.out)
  have hz0':=zc BB.out 0 (.string ⟨#[]⟩) rfl
  have hz1':=zc BB.out 1 (.string ⟨#[]⟩) rfl
  have hz2':=zc BB.out 2 (.slice none 0 0) rfl
  have hy0':=free_slot BB.out 0
  have hy1':=free_slot BB.out 1
  have hy2':=free_slot BB.out 2
  clear hp hJ q8 q7 hS7 hT7
  simp only [List.drop_succ_cons,List.drop_zero,List.take_succ_cons,List.take_zero,putAll,Nat.reduceAdd,Act.put,hag,q0,q1,q2,q3,q4,q5,q6,List.setIfInBounds_toArray,List.set_cons_zero,List.set_cons_succ]
  clear hag q0 q1 q2 q3 q4 q5 q6
  go_wp2
  go_ret2
  have EB:=((((HJ.out.but (b:=(w.heap.size+1))).set 0 (.string a)).set 1 (.string b)).set 2 (.slice S7 (ty.length) T7))
  have SS:=(slot_setCell (j:=2) (u:=.slice S7 (ty.length) T7) (slot_setCell (j:=1) (u:=.string b) (slot_setCell (j:=0) (u:=.string a) BB.out)))
  have KK7:=KP7.out _ (fun k h1 h2=>((((((Ext.refl w1).but (b:=(w.heap.size+1))).set 0 (.string a)).set 1 (.string b)).set 2 (.slice S7 (ty.length) T7))).block k h2 (by have:=zl HB.out;omega))
  refine⟨w.heap.size+1,rfl,EB.ext XW.out (by omega),?_⟩
  exact encParse _ a b S7 T7 ty _ (zc SS 0 (.string a) rfl) (zc SS 1 (.string b) rfl) (zc SS 2 (.slice S7 (ty.length) T7) rfl) (by omega) (by omega) KK7 (by omega) hgt R HR
theorem made0 (a b:ByteArray)(n:Int)(v4 v7 v9 v10 v11 v12:Value)(lf lr:List Int)(vls:List (Bool×List Int))(A5 A6 A8:Option Addr)(c5 c6 c8:Nat)(w:World)(hs:a.size<=200)(hsb:b.size<=200)(HF:Hid (RdI .i64 w (.slice A5 lf.length c5) lf))(hlf:lf.length<=20)(hgf:∀y∈lf,0<=y/\y < 32768)(HRR:Hid (RdI .i64 w (.slice A6 lr.length c6) lr))(hlr:lr.length<=20)(hgr:∀y∈lr,0<=y/\y < 32768)(HV:Hid (RdM 2 isVal w (.slice A8 vls.length c8) vls))(hlv:vls.length<=20)(hgv:∀y∈vls,y.2.length<=200)(R:List Int)(HR:Hid (R=msgB 66 (txt a++txt b++b16 lf.length++lf.flatMap b16++b16 vls.length++(vls.map optV).flatMap optB++b16 lr.length++lr.flatMap b16))):Calls Tryz.prog 34 #[.agg #[.int .i64 0,.string a,.string b,.int .u32 n,v4,.slice A5 lf.length c5,.slice A6 lr.length c6,v7,.slice A8 vls.length c8,v9,v10,v11,v12]] w (Made 101 134 w R):=by
 have y101:=yes101
 obtain⟨W1,hW1⟩:∃W1,W1=(w.alloc (.cells #[.int .i64 0,.string a,.string b,.int .u32 n,v4,.slice A5 lf.length c5,.slice A6 lr.length c6,v7,.slice A8 vls.length c8,v9,v10,v11,v12] 31)).alloc (.cells #[.string ⟨#[]⟩,.string ⟨#[]⟩,.slice none 0 0,.slice none 0 0,.slice none 0 0] 107):=⟨_,rfl⟩
 have XW:Hid (Ext w W1):=zh (by rw [hW1];exact(ext_alloc w _).alloc _)
 have HB:Hid (W1.heap[w.heap.size+1]?=some (.cells #[.string ⟨#[]⟩,.string ⟨#[]⟩,.slice none 0 0,.slice none 0 0,.slice none 0 0] 107 (0,0))):=zh (by
  rw [hW1]
  have:=heap_alloc_new (w.alloc (.cells #[.int .i64 0,.string a,.string b,.int .u32 n,v4,.slice A5 lf.length c5,.slice A6 lr.length c6,v7,.slice A8 vls.length c8,v9,v10,v11,v12] 31)) (.cells #[.string ⟨#[]⟩,.string ⟨#[]⟩,.slice none 0 0,.slice none 0 0,.slice none 0 0] 107)
  simpa using this)
 have HO:Hid (W1.heap[w.heap.size]?=some (.cells #[.int .i64 0,.string a,.string b,.int .u32 n,v4,.slice A5 lf.length c5,.slice A6 lr.length c6,v7,.slice A8 vls.length c8,v9,v10,v11,v12] 31 (0,0))):=zh (by
  rw [hW1]
  have e1:=(ext_alloc (w.alloc (.cells #[.int .i64 0,.string a,.string b,.int .u32 n,v4,.slice A5 lf.length c5,.slice A6 lr.length c6,v7,.slice A8 vls.length c8,v9,v10,v11,v12] 31)) (.cells #[.string ⟨#[]⟩,.string ⟨#[]⟩,.slice none 0 0,.slice none 0 0,.slice none 0 0] 107)).block w.heap.size (by simp)
  rw [e1];exact heap_alloc_new _ _)
 have HL1:=zh (zc HO.out 1 (.string a) rfl)
 have HL2:=zh (zc HO.out 2 (.string b) rfl)
 have HL5:=zh (zc HO.out 5 (.slice A5 lf.length c5) rfl)
 have HL6:=zh (zc HO.out 6 (.slice A6 lr.length c6) rfl)
 have HL8:=zh (zc HO.out 8 (.slice A8 vls.length c8) rfl)
 have hb0:=zc HO.out 0 (.int .i64 0) rfl
 have hb3:=zc HO.out 3 (.int .u32 n) rfl
 go_enter Tryz.func34,Tryz.ntmps34
 go_wp2_with (first|(go_at_call 46;refine(emp0 _).mono ?_;rintro e w1 ⟨rfl,rfl⟩)|(go_at_call 54;rw [<-hW1];clear hW1;refine(let54 n _).mono ?_;rintro e w54 ⟨rfl,hw54⟩;rw [hw54];clear hw54))
 refine wp_region_cut (J:=fun x=>Ext W1 x) (R:=Ext) 15 [Sp.eq _ (.pointer (some ⟨w.heap.size+1,0,none⟩)),Sp.eq _ (.pointer (some ⟨w.heap.size,1,none⟩)),Sp.eq _ (.string a),Sp.eq _ (.pointer (some ⟨w.heap.size,2,none⟩)),Sp.eq _ (.string b),Sp.eq _ (.pointer (some ⟨w.heap.size,5,none⟩)),Sp.eq _ (.slice A5 lf.length c5),spR (fun v w=>RdI .i16 w v lf) (lf.length) W1,Sp.eq _ (.pointer (some ⟨w.heap.size,8,none⟩)),Sp.eq _ (.slice A8 vls.length c8),spR (fun v w=>Rd1 isOpt w v (vls.map optV)) (vls.length) W1,Sp.eq _ (.pointer (some ⟨w.heap.size,6,none⟩)),Sp.eq _ (.slice A6 lr.length c6),spR (fun v w=>RdI .i16 w v lr) (lr.length) W1,(⟨fun v x=>v=.agg #[.string a,.string b,agAt 2 v,agAt 3 v,agAt 4 v]/\PR (fun v w=>RdI .i16 w v lf) (lf.length) W1 (agAt 2 v) x/\PR (fun v w=>Rd1 isOpt w v (vls.map optV)) (vls.length) W1 (agAt 3 v) x/\PR (fun v w=>RdI .i16 w v lr) (lr.length) W1 (agAt 4 v) x,fun _ _ _ h k=>⟨k.1,(k.2.1).ext h,(k.2.2.1).ext h,(k.2.2.2).ext h⟩⟩:Sp Ext)] (by kernel_rfl) (by kernel_rfl) ?_ ?_ ?_
 ·exact(Ext.refl W1).drew
 ·refine⟨zj,zj,?_,zj,?_,zj,?_,?_,zj,?_,?_,zj,?_,?_,?_,trivial⟩
  ·intro vs w1 hJ hp
   have q1:vs 1=_:=zd hp 1
   have HJ:=zh hJ
   have hq:=hJ.cell HL1.out
   clear hp hJ
   simp only [List.take_succ_cons,List.take_zero,putAll,Nat.reduceAdd]
   go_wp2
   exact⟨rfl,HJ.out,zr,rfl⟩
  ·intro vs w1 hJ hp
   have q3:vs 3=_:=zd hp 3
   have HJ:=zh hJ
   have hq:=hJ.cell HL2.out
   clear hp hJ
   simp only [List.take_succ_cons,List.take_zero,putAll,Nat.reduceAdd]
   go_wp2
   exact⟨rfl,HJ.out,zr,rfl⟩
  ·intro vs w1 hJ hp
   have q5:vs 5=_:=zd hp 5
   have HJ:=zh hJ
   have hq:=hJ.cell HL5.out
   clear hp hJ
   simp only [List.take_succ_cons,List.take_zero,putAll,Nat.reduceAdd]
   go_wp2
   exact⟨rfl,HJ.out,zr,rfl⟩
  ·intro vs w1 hJ hp
   have q6:vs 6=_:=zd hp 6
   have HJ:=zh hJ
   clear hp hJ
   simp only [List.take_succ_cons,List.take_zero,putAll,Nat.reduceAdd]
   go_wp2_with (go_at_call 55;refine(shortsK lf A5 c5 _ (HF.out.ext (XW.out.trans HJ.out)) (by omega) hgf).mono ?_;rintro e w2 ⟨A2,c2,rfl,hx2,hk2⟩;have HX2:=zh hx2;have HK2:=zh hk2;clear hx2 hk2)
   have hpr:PR (fun v w=>RdI .i16 w v lf) (lf.length) W1 (.slice A2 (lf.length) c2) w2:=PR.of (R:=fun v w=>RdI .i16 w v lf) HK2.out HJ.out
   exact⟨rfl,HJ.out.trans HX2.out,HX2.out,hpr⟩
  ·intro vs w1 hJ hp
   have q8:vs 8=_:=zd hp 8
   have HJ:=zh hJ
   have hq:=hJ.cell HL8.out
   clear hp hJ
   simp only [List.take_succ_cons,List.take_zero,putAll,Nat.reduceAdd]
   go_wp2
   exact⟨rfl,HJ.out,zr,rfl⟩
  ·intro vs w1 hJ hp
   have q7:(spR (fun v w=>RdI .i16 w v lf) (lf.length) W1).p (vs 7) w1:=zd hp 7
   have q9:vs 9=_:=zd hp 9
   have HJ:=zh hJ
   clear hp hJ
   simp only [List.take_succ_cons,List.take_zero,putAll,Nat.reduceAdd]
   go_wp2_with (go_at_call 56;refine(bytesOfK vls A8 c8 _ (HV.out.ext (XW.out.trans HJ.out) (isVal.ext (XW.out.trans HJ.out))) (by omega) (fun y hy=>by have:=hgv y hy;omega)).mono ?_;rintro e w2 ⟨A2,c2,rfl,hx2,hk2⟩;have HX2:=zh hx2;have HK2:=zh hk2;clear hx2 hk2)
   have hpr:PR (fun v w=>Rd1 isOpt w v (vls.map optV)) (vls.length) W1 (.slice A2 (vls.length) c2) w2:=PR.of (R:=fun v w=>Rd1 isOpt w v (vls.map optV)) HK2.out HJ.out
   exact⟨rfl,HJ.out.trans HX2.out,HX2.out,hpr⟩
  ·intro vs w1 hJ hp
   have q11:vs 11=_:=zd hp 11
   have HJ:=zh hJ
   have hq:=hJ.cell HL6.out
   clear hp hJ
   simp only [List.take_succ_cons,List.take_zero,putAll,Nat.reduceAdd]
   go_wp2
   exact⟨rfl,HJ.out,zr,rfl⟩
  ·intro vs w1 hJ hp
   have q10:(spR (fun v w=>Rd1 isOpt w v (vls.map optV)) (vls.length) W1).p (vs 10) w1:=zd hp 10
   have q12:vs 12=_:=zd hp 12
   have HJ:=zh hJ
   clear hp hJ
   simp only [List.take_succ_cons,List.take_zero,putAll,Nat.reduceAdd]
   go_wp2_with (go_at_call 55;refine(shortsK lr A6 c6 _ (HRR.out.ext (XW.out.trans HJ.out)) (by omega) hgr).mono ?_;rintro e w2 ⟨A2,c2,rfl,hx2,hk2⟩;have HX2:=zh hx2;have HK2:=zh hk2;clear hx2 hk2)
   have hpr:PR (fun v w=>RdI .i16 w v lr) (lr.length) W1 (.slice A2 (lr.length) c2) w2:=PR.of (R:=fun v w=>RdI .i16 w v lr) HK2.out HJ.out
   exact⟨rfl,HJ.out.trans HX2.out,HX2.out,hpr⟩
  ·intro vs w1 hJ hp
   have q2:vs 2=_:=zd hp 2
   have q4:vs 4=_:=zd hp 4
   have q7:(spR (fun v w=>RdI .i16 w v lf) (lf.length) W1).p (vs 7) w1:=zd hp 7
   have q10:(spR (fun v w=>Rd1 isOpt w v (vls.map optV)) (vls.length) W1).p (vs 10) w1:=zd hp 10
   have q13:(spR (fun v w=>RdI .i16 w v lr) (lr.length) W1).p (vs 13) w1:=zd hp 13
   have HJ:=zh hJ
   have HQ7:=zh q7
   have HQ10:=zh q10
   have HQ13:=zh q13
   clear hp hJ
   clear q7
   clear q10
   clear q13
   simp only [List.take_succ_cons,List.take_zero,putAll,Nat.reduceAdd]
   rw [HQ7.out.1]
   rw [HQ10.out.1]
   rw [HQ13.out.1]
   go_wp2
   exact⟨rfl,HJ.out,zr,⟨rfl,⟨rfl,HQ7.out.2⟩,⟨rfl,HQ10.out.2⟩,⟨rfl,HQ13.out.2⟩⟩⟩
 ·intro vs w1 hJ hp
  have q0:vs 0=_:=zd hp 0
  have q1:vs 1=_:=zd hp 1
  have q2:vs 2=_:=zd hp 2
  have q3:vs 3=_:=zd hp 3
  have q4:vs 4=_:=zd hp 4
  have q5:vs 5=_:=zd hp 5
  have q6:vs 6=_:=zd hp 6
  have q7:(spR (fun v w=>RdI .i16 w v lf) (lf.length) W1).p (vs 7) w1:=zd hp 7
  have q8:vs 8=_:=zd hp 8
  have q9:vs 9=_:=zd hp 9
  have q10:(spR (fun v w=>Rd1 isOpt w v (vls.map optV)) (vls.length) W1).p (vs 10) w1:=zd hp 10
  have q11:vs 11=_:=zd hp 11
  have q12:vs 12=_:=zd hp 12
  have q13:(spR (fun v w=>RdI .i16 w v lr) (lr.length) W1).p (vs 13) w1:=zd hp 13
  have q14:((⟨fun v x=>v=.agg #[.string a,.string b,agAt 2 v,agAt 3 v,agAt 4 v]/\PR (fun v w=>RdI .i16 w v lf) (lf.length) W1 (agAt 2 v) x/\PR (fun v w=>Rd1 isOpt w v (vls.map optV)) (vls.length) W1 (agAt 3 v) x/\PR (fun v w=>RdI .i16 w v lr) (lr.length) W1 (agAt 4 v) x,fun _ _ _ h k=>⟨k.1,(k.2.1).ext h,(k.2.2.1).ext h,(k.2.2.2).ext h⟩⟩:Sp Ext)).p (vs 14) w1:=zd hp 14
  have hag:vs 14=.agg #[.string a,.string b,.slice (slA (agAt 2 (vs 14))) (lf.length) (slC (agAt 2 (vs 14))),.slice (slA (agAt 3 (vs 14))) (vls.length) (slC (agAt 3 (vs 14))),.slice (slA (agAt 4 (vs 14))) (lr.length) (slC (agAt 4 (vs 14)))]:=by
   have h0:=q14.1
   have g2:=(q14.2.1).1
   have g3:=(q14.2.2.1).1
   have g4:=(q14.2.2.2).1
   refine h0.trans ?_
   rw [<-g2,<-g3,<-g4]
  have KP7:=zh ((q14.2.1).2)
  have KP10:=zh ((q14.2.2.1).2)
  have KP13:=zh ((q14.2.2.2).2)
  obtain⟨S7,hS7⟩:∃y,y=slA (agAt 2 (vs 14)):=⟨_,rfl⟩
  obtain⟨T7,hT7⟩:∃y,y=slC (agAt 2 (vs 14)):=⟨_,rfl⟩
  rw [<-hS7,<-hT7]at hag KP7
  obtain⟨S10,hS10⟩:∃y,y=slA (agAt 3 (vs 14)):=⟨_,rfl⟩
  obtain⟨T10,hT10⟩:∃y,y=slC (agAt 3 (vs 14)):=⟨_,rfl⟩
  rw [<-hS10,<-hT10]at hag KP10
  obtain⟨S13,hS13⟩:∃y,y=slA (agAt 4 (vs 14)):=⟨_,rfl⟩
  obtain⟨T13,hT13⟩:∃y,y=slC (agAt 4 (vs 14)):=⟨_,rfl⟩
  rw [<-hS13,<-hT13]at hag KP13
  have HJ:=zh hJ
  have BB:=zh ((hJ.block _ (zl HB.out)).trans HB.out)
  have hz0':=zc BB.out 0 (.string ⟨#[]⟩) rfl
  have hz1':=zc BB.out 1 (.string ⟨#[]⟩) rfl
  have hz2':=zc BB.out 2 (.slice none 0 0) rfl
  have hz3':=zc BB.out 3 (.slice none 0 0) rfl
  have hz4':=zc BB.out 4 (.slice none 0 0) rfl
  have hy0':=free_slot BB.out 0
  have hy1':=free_slot BB.out 1
  have hy2':=free_slot BB.out 2
  have hy3':=free_slot BB.out 3
  have hy4':=free_slot BB.out 4
  clear hp hJ q14 q7 q10 q13 hS7 hT7 hS10 hT10 hS13 hT13
  simp only [List.drop_succ_cons,List.drop_zero,List.take_succ_cons,List.take_zero,putAll,Nat.reduceAdd,Act.put,hag,q0,q1,q2,q3,q4,q5,q6,q8,q9,q11,q12,List.setIfInBounds_toArray,List.set_cons_zero,List.set_cons_succ]
  clear hag q0 q1 q2 q3 q4 q5 q6 q8 q9 q11 q12
  go_wp2
  go_ret2
  have EB:=((((((HJ.out.but (b:=(w.heap.size+1))).set 0 (.string a)).set 1 (.string b)).set 2 (.slice S7 (lf.length) T7)).set 3 (.slice S10 (vls.length) T10)).set 4 (.slice S13 (lr.length) T13))
  have SS:=(slot_setCell (j:=4) (u:=.slice S13 (lr.length) T13) (slot_setCell (j:=3) (u:=.slice S10 (vls.length) T10) (slot_setCell (j:=2) (u:=.slice S7 (lf.length) T7) (slot_setCell (j:=1) (u:=.string b) (slot_setCell (j:=0) (u:=.string a) BB.out)))))
  have KK7:=KP7.out _ (fun k h1 h2=>((((((((Ext.refl w1).but (b:=(w.heap.size+1))).set 0 (.string a)).set 1 (.string b)).set 2 (.slice S7 (lf.length) T7)).set 3 (.slice S10 (vls.length) T10)).set 4 (.slice S13 (lr.length) T13))).block k h2 (by have:=zl HB.out;omega))
  have KK10:=KP10.out _ (fun k h1 h2=>((((((((Ext.refl w1).but (b:=(w.heap.size+1))).set 0 (.string a)).set 1 (.string b)).set 2 (.slice S7 (lf.length) T7)).set 3 (.slice S10 (vls.length) T10)).set 4 (.slice S13 (lr.length) T13))).block k h2 (by have:=zl HB.out;omega))
  have KK13:=KP13.out _ (fun k h1 h2=>((((((((Ext.refl w1).but (b:=(w.heap.size+1))).set 0 (.string a)).set 1 (.string b)).set 2 (.slice S7 (lf.length) T7)).set 3 (.slice S10 (vls.length) T10)).set 4 (.slice S13 (lr.length) T13))).block k h2 (by have:=zl HB.out;omega))
  refine⟨w.heap.size+1,rfl,EB.ext XW.out (by omega),?_⟩
  exact encBind _ a b S7 T7 lf S10 T10 (vls.map optV) S13 T13 lr _ (zc SS 0 (.string a) rfl) (zc SS 1 (.string b) rfl) (zc SS 2 (.slice S7 (lf.length) T7) rfl) (by rw [List.length_map];exact(zc SS 3 (.slice S10 (vls.length) T10) rfl)) (zc SS 4 (.slice S13 (lr.length) T13) rfl) (by omega) (by omega) KK7 (by omega) (by rw [List.length_map];exact KK10) (by rw [List.length_map];omega) (opt_small hgv) KK13 (by omega) R (by rw [List.length_map];exact HR)
theorem made9 (a b:ByteArray)(n:Int)(v4 v7 v9 v10 v11 v12:Value)(lf:List Int)(rx:Int)(vls:List (Bool×List Int))(A5 A6 A8:Option Addr)(c5 c6 c8:Nat)(w:World)(hn:0<=n/\n < 4294967296)(HF:Hid (RdI .i64 w (.slice A5 lf.length c5) lf))(hlf:lf.length<=20)(hgf:∀y∈lf,0<=y/\y < 32768)(HV:Hid (RdM 2 isVal w (.slice A8 vls.length c8) vls))(hlv:vls.length<=20)(hgv:∀y∈vls,y.2.length<=200)(HRX:Hid (RdI .i64 w (.slice A6 1 c6) [rx]))(hrx:0<=rx/\rx < 32768)(R:List Int)(HR:Hid (R=msgB 70 (b32 n++b16 lf.length++lf.flatMap b16++b16 vls.length++(vls.map optV).flatMap optB++b16 rx))):Calls Tryz.prog 34 #[.agg #[.int .i64 9,.string a,.string b,.int .u32 n,v4,.slice A5 lf.length c5,.slice A6 1 c6,v7,.slice A8 vls.length c8,v9,v10,v11,v12]] w (Made 125 170 w R):=by
 have n101:=no101 125
 have n108:=no108 125
 have n111:=no111 125
 have n114:=no114 125
 have n116:=no116 125
 have n119:=no119 125
 have n122:=no122 125
 have y125:=yes125
 obtain⟨W1,hW1⟩:∃W1,W1=(w.alloc (.cells #[.int .i64 9,.string a,.string b,.int .u32 n,v4,.slice A5 lf.length c5,.slice A6 1 c6,v7,.slice A8 vls.length c8,v9,v10,v11,v12] 31)).alloc (.cells #[.int .u32 0,.slice none 0 0,.slice none 0 0,.int .u16 0] 131):=⟨_,rfl⟩
 have XW:Hid (Ext w W1):=zh (by rw [hW1];exact(ext_alloc w _).alloc _)
 have HB:Hid (W1.heap[w.heap.size+1]?=some (.cells #[.int .u32 0,.slice none 0 0,.slice none 0 0,.int .u16 0] 131 (0,0))):=zh (by
  rw [hW1]
  have:=heap_alloc_new (w.alloc (.cells #[.int .i64 9,.string a,.string b,.int .u32 n,v4,.slice A5 lf.length c5,.slice A6 1 c6,v7,.slice A8 vls.length c8,v9,v10,v11,v12] 31)) (.cells #[.int .u32 0,.slice none 0 0,.slice none 0 0,.int .u16 0] 131)
  simpa using this)
 have HO:Hid (W1.heap[w.heap.size]?=some (.cells #[.int .i64 9,.string a,.string b,.int .u32 n,v4,.slice A5 lf.length c5,.slice A6 1 c6,v7,.slice A8 vls.length c8,v9,v10,v11,v12] 31 (0,0))):=zh (by
  rw [hW1]
  have e1:=(ext_alloc (w.alloc (.cells #[.int .i64 9,.string a,.string b,.int .u32 n,v4,.slice A5 lf.length c5,.slice A6 1 c6,v7,.slice A8 vls.length c8,v9,v10,v11,v12] 31)) (.cells #[.int .u32 0,.slice none 0 0,.slice none 0 0,.int .u16 0] 131)).block w.heap.size (by simp)
  rw [e1];exact heap_alloc_new _ _)
 have HL3:=zh (zc HO.out 3 (.int .u32 n) rfl)
 have HL5:=zh (zc HO.out 5 (.slice A5 lf.length c5) rfl)
 have HL6:=zh (zc HO.out 6 (.slice A6 1 c6) rfl)
 have HL8:=zh (zc HO.out 8 (.slice A8 vls.length c8) rfl)
 have hb0:=zc HO.out 0 (.int .i64 9) rfl
 have hb3:=zc HO.out 3 (.int .u32 n) rfl
 go_enter Tryz.func34,Tryz.ntmps34
 go_wp2_with (first|(go_at_call 46;refine(emp9 _).mono ?_;rintro e w1 ⟨rfl,rfl⟩)|(go_at_call 54;rw [<-hW1];clear hW1;refine(let54 n _).mono ?_;rintro e w54 ⟨rfl,hw54⟩;rw [hw54];clear hw54))
 refine wp_region_cut (J:=fun x=>Ext W1 x) (R:=Ext) 13 [Sp.eq _ (.pointer (some ⟨w.heap.size+1,0,none⟩)),Sp.eq _ (.pointer (some ⟨w.heap.size,3,none⟩)),Sp.eq _ (.int .u32 n),Sp.eq _ (.pointer (some ⟨w.heap.size,5,none⟩)),Sp.eq _ (.slice A5 lf.length c5),spR (fun v w=>RdI .u16 w v lf) (lf.length) W1,Sp.eq _ (.pointer (some ⟨w.heap.size,8,none⟩)),Sp.eq _ (.slice A8 vls.length c8),spR (fun v w=>Rd1 isOpt w v (vls.map optV)) (vls.length) W1,Sp.eq _ (.pointer (some ⟨w.heap.size,6,none⟩)),Sp.eq _ (.slice A6 1 c6),Sp.eq _ (.int .u16 rx),(⟨fun v x=>v=.agg #[.int .u32 n,agAt 1 v,agAt 2 v,.int .u16 rx]/\PR (fun v w=>RdI .u16 w v lf) (lf.length) W1 (agAt 1 v) x/\PR (fun v w=>Rd1 isOpt w v (vls.map optV)) (vls.length) W1 (agAt 2 v) x,fun _ _ _ h k=>⟨k.1,(k.2.1).ext h,(k.2.2).ext h⟩⟩:Sp Ext)] (by kernel_rfl) (by kernel_rfl) ?_ ?_ ?_
 ·exact(Ext.refl W1).drew
 ·refine⟨zj,zj,?_,zj,?_,?_,zj,?_,?_,zj,?_,?_,?_,trivial⟩
  ·intro vs w1 hJ hp
   have q1:vs 1=_:=zd hp 1
   have HJ:=zh hJ
   have hq:=hJ.cell HL3.out
   clear hp hJ
   simp only [List.take_succ_cons,List.take_zero,putAll,Nat.reduceAdd]
   go_wp2
   exact⟨rfl,HJ.out,zr,rfl⟩
  ·intro vs w1 hJ hp
   have q3:vs 3=_:=zd hp 3
   have HJ:=zh hJ
   have hq:=hJ.cell HL5.out
   clear hp hJ
   simp only [List.take_succ_cons,List.take_zero,putAll,Nat.reduceAdd]
   go_wp2
   exact⟨rfl,HJ.out,zr,rfl⟩
  ·intro vs w1 hJ hp
   have q4:vs 4=_:=zd hp 4
   have HJ:=zh hJ
   clear hp hJ
   simp only [List.take_succ_cons,List.take_zero,putAll,Nat.reduceAdd]
   go_wp2_with (go_at_call 57;refine(halvesK lf A5 c5 _ (HF.out.ext (XW.out.trans HJ.out)) (by omega) hgf).mono ?_;rintro e w2 ⟨A2,c2,rfl,hx2,hk2⟩;have HX2:=zh hx2;have HK2:=zh hk2;clear hx2 hk2)
   have hpr:PR (fun v w=>RdI .u16 w v lf) (lf.length) W1 (.slice A2 (lf.length) c2) w2:=PR.of (R:=fun v w=>RdI .u16 w v lf) HK2.out HJ.out
   exact⟨rfl,HJ.out.trans HX2.out,HX2.out,hpr⟩
  ·intro vs w1 hJ hp
   have q6:vs 6=_:=zd hp 6
   have HJ:=zh hJ
   have hq:=hJ.cell HL8.out
   clear hp hJ
   simp only [List.take_succ_cons,List.take_zero,putAll,Nat.reduceAdd]
   go_wp2
   exact⟨rfl,HJ.out,zr,rfl⟩
  ·intro vs w1 hJ hp
   have q5:(spR (fun v w=>RdI .u16 w v lf) (lf.length) W1).p (vs 5) w1:=zd hp 5
   have q7:vs 7=_:=zd hp 7
   have HJ:=zh hJ
   clear hp hJ
   simp only [List.take_succ_cons,List.take_zero,putAll,Nat.reduceAdd]
   go_wp2_with (go_at_call 56;refine(bytesOfK vls A8 c8 _ (HV.out.ext (XW.out.trans HJ.out) (isVal.ext (XW.out.trans HJ.out))) (by omega) (fun y hy=>by have:=hgv y hy;omega)).mono ?_;rintro e w2 ⟨A2,c2,rfl,hx2,hk2⟩;have HX2:=zh hx2;have HK2:=zh hk2;clear hx2 hk2)
   have hpr:PR (fun v w=>Rd1 isOpt w v (vls.map optV)) (vls.length) W1 (.slice A2 (vls.length) c2) w2:=PR.of (R:=fun v w=>Rd1 isOpt w v (vls.map optV)) HK2.out HJ.out
   exact⟨rfl,HJ.out.trans HX2.out,HX2.out,hpr⟩
  ·intro vs w1 hJ hp
   have q9:vs 9=_:=zd hp 9
   have HJ:=zh hJ
   have hq:=hJ.cell HL6.out
   clear hp hJ
   simp only [List.take_succ_cons,List.take_zero,putAll,Nat.reduceAdd]
   go_wp2
   exact⟨rfl,HJ.out,zr,rfl⟩
  ·intro vs w1 hJ hp
   have q8:(spR (fun v w=>Rd1 isOpt w v (vls.map optV)) (vls.length) W1).p (vs 8) w1:=zd hp 8
   have q10:vs 10=_:=zd hp 10
   have HJ:=zh hJ
   clear hp hJ
   simp only [List.take_succ_cons,List.take_zero,putAll,Nat.reduceAdd]
   go_wp2_with (go_at_call 58;refine(resultK rx A6 c6 _ (HRX.out.ext (XW.out.trans HJ.out)) hrx).mono ?_;rintro e w2 ⟨rfl,hw2⟩;rw [hw2];clear hw2)
   exact⟨rfl,HJ.out,zr,rfl⟩
  ·intro vs w1 hJ hp
   have q2:vs 2=_:=zd hp 2
   have q5:(spR (fun v w=>RdI .u16 w v lf) (lf.length) W1).p (vs 5) w1:=zd hp 5
   have q8:(spR (fun v w=>Rd1 isOpt w v (vls.map optV)) (vls.length) W1).p (vs 8) w1:=zd hp 8
   have q11:vs 11=_:=zd hp 11
   have HJ:=zh hJ
   have HQ5:=zh q5
   have HQ8:=zh q8
   clear hp hJ
   clear q5
   clear q8
   simp only [List.take_succ_cons,List.take_zero,putAll,Nat.reduceAdd]
   rw [HQ5.out.1]
   rw [HQ8.out.1]
   go_wp2
   exact⟨rfl,HJ.out,zr,⟨rfl,⟨rfl,HQ5.out.2⟩,⟨rfl,HQ8.out.2⟩⟩⟩
 ·intro vs w1 hJ hp
  have q0:vs 0=_:=zd hp 0
  have q1:vs 1=_:=zd hp 1
  have q2:vs 2=_:=zd hp 2
  have q3:vs 3=_:=zd hp 3
  have q4:vs 4=_:=zd hp 4
  have q5:(spR (fun v w=>RdI .u16 w v lf) (lf.length) W1).p (vs 5) w1:=zd hp 5
  have q6:vs 6=_:=zd hp 6
  have q7:vs 7=_:=zd hp 7
  have q8:(spR (fun v w=>Rd1 isOpt w v (vls.map optV)) (vls.length) W1).p (vs 8) w1:=zd hp 8
  have q9:vs 9=_:=zd hp 9
  have q10:vs 10=_:=zd hp 10
  have q11:vs 11=_:=zd hp 11
  have q12:((⟨fun v x=>v=.agg #[.int .u32 n,agAt 1 v,agAt 2 v,.int .u16 rx]/\PR (fun v w=>RdI .u16 w v lf) (lf.length) W1 (agAt 1 v) x/\PR (fun v w=>Rd1 isOpt w v (vls.map optV)) (vls.length) W1 (agAt 2 v) x,fun _ _ _ h k=>⟨k.1,(k.2.1).ext h,(k.2.2).ext h⟩⟩:Sp Ext)).p (vs 12) w1:=zd hp 12
  have hag:vs 12=.agg #[.int .u32 n,.slice (slA (agAt 1 (vs 12))) (lf.length) (slC (agAt 1 (vs 12))),.slice (slA (agAt 2 (vs 12))) (vls.length) (slC (agAt 2 (vs 12))),.int .u16 rx]:=by
   have h0:=q12.1
   have g1:=(q12.2.1).1
   have g2:=(q12.2.2).1
   refine h0.trans ?_
   rw [<-g1,<-g2]
  have KP5:=zh ((q12.2.1).2)
  have KP8:=zh ((q12.2.2).2)
  obtain⟨S5,hS5⟩:∃y,y=slA (agAt 1 (vs 12)):=⟨_,rfl⟩
  obtain⟨T5,hT5⟩:∃y,y=slC (agAt 1 (vs 12)):=⟨_,rfl⟩
  rw [<-hS5,<-hT5]at hag KP5
  obtain⟨S8,hS8⟩:∃y,y=slA (agAt 2 (vs 12)):=⟨_,rfl⟩
  obtain⟨T8,hT8⟩:∃y,y=slC (agAt 2 (vs 12)):=⟨_,rfl⟩
  rw [<-hS8,<-hT8]at hag KP8
  have HJ:=zh hJ
  have BB:=zh ((hJ.block _ (zl HB.out)).trans HB.out)
  have hz0':=zc BB.out 0 (.int .u32 0) rfl
  have hz1':=zc BB.out 1 (.slice none 0 0) rfl
  have hz2':=zc BB.out 2 (.slice none 0 0) rfl
  have hz3':=zc BB.out 3 (.int .u16 0) rfl
  have hy0':=free_slot BB.out 0
  have hy1':=free_slot BB.out 1
  have hy2':=free_slot BB.out 2
  have hy3':=free_slot BB.out 3
  clear hp hJ q12 q5 q8 hS5 hT5 hS8 hT8
  simp only [List.drop_succ_cons,List.drop_zero,List.take_succ_cons,List.take_zero,putAll,Nat.reduceAdd,Act.put,hag,q0,q1,q2,q3,q4,q6,q7,q9,q10,q11,List.setIfInBounds_toArray,List.set_cons_zero,List.set_cons_succ]
  clear hag q0 q1 q2 q3 q4 q6 q7 q9 q10 q11
  go_wp2
  go_ret2
  have EB:=(((((HJ.out.but (b:=(w.heap.size+1))).set 0 (.int .u32 n)).set 1 (.slice S5 (lf.length) T5)).set 2 (.slice S8 (vls.length) T8)).set 3 (.int .u16 rx))
  have SS:=(slot_setCell (j:=3) (u:=.int .u16 rx) (slot_setCell (j:=2) (u:=.slice S8 (vls.length) T8) (slot_setCell (j:=1) (u:=.slice S5 (lf.length) T5) (slot_setCell (j:=0) (u:=.int .u32 n) BB.out))))
  have KK5:=KP5.out _ (fun k h1 h2=>(((((((Ext.refl w1).but (b:=(w.heap.size+1))).set 0 (.int .u32 n)).set 1 (.slice S5 (lf.length) T5)).set 2 (.slice S8 (vls.length) T8)).set 3 (.int .u16 rx))).block k h2 (by have:=zl HB.out;omega))
  have KK8:=KP8.out _ (fun k h1 h2=>(((((((Ext.refl w1).but (b:=(w.heap.size+1))).set 0 (.int .u32 n)).set 1 (.slice S5 (lf.length) T5)).set 2 (.slice S8 (vls.length) T8)).set 3 (.int .u16 rx))).block k h2 (by have:=zl HB.out;omega))
  refine⟨w.heap.size+1,rfl,EB.ext XW.out (by omega),?_⟩
  exact encFunctionCall _ n S5 T5 lf S8 T8 (vls.map optV) rx _ (zc SS 0 (.int .u32 n) rfl) (zc SS 1 (.slice S5 (lf.length) T5) rfl) (by rw [List.length_map];exact(zc SS 2 (.slice S8 (vls.length) T8) rfl)) (zc SS 3 (.int .u16 rx) rfl) hn.1 hn.2 KK5 (by omega) (fun y hy=>⟨(hgf y hy).1,by have:=(hgf y hy).2;omega⟩) (by rw [List.length_map];exact KK8) (by rw [List.length_map];omega) (opt_small hgv) hrx.1 (by omega) R (by rw [List.length_map];exact HR)
end Go.Proofs.YtdenjanihikolaaGreatDoor
