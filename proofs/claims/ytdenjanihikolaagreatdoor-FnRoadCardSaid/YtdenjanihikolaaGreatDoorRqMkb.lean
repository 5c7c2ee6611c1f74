/- RowDescription's Decode on a strict prefix of a body. -/
import Derived.Test.YtdenjanihikolaaGreatDoorRqA0
import Derived.Test.YtdenjanihikolaaGreatDoorRqA1
import Derived.Test.YtdenjanihikolaaGreatDoorRqEncc
import Derived.Test.YtdenjanihikolaaGreatDoorRqMkg
import Derived.Test.YtdenjanihikolaaGreatDoorRqEncb
import Derived.Test.YtdenjanihikolaaGreatDoorRqPpc
namespace Go.Proofs.YtdenjanihikolaaGreatDoor
set_option linter.unusedVariables false
set_option linter.unusedSimpArgs false
set_option maxRecDepth 100000
set_option maxHeartbeats 4000000
open Go.RowKit
theorem made2 (a b:ByteArray)(n:Int)(v4 v5 v6 v7 v8 v9 v10 v11 v12:Value)(w:World)(hs:a.size<=200)(hsm:n < 256)(R:List Int)(HR:Hid (R=msgB 67 ([n % 256]++txt a))):Calls Tryz.prog 34 #[.agg #[.int .i64 2,.string a,.string b,.int .u32 n,v4,v5,v6,v7,v8,v9,v10,v11,v12]] w (Made 111 151 w R):=by
 have n101:=no101 111
 have n108:=no108 111
 have y111:=yes111
 obtain⟨W1,hW1⟩:∃W1,W1=(w.alloc (.cells #[.int .i64 2,.string a,.string b,.int .u32 n,v4,v5,v6,v7,v8,v9,v10,v11,v12] 31)).alloc (.cells #[.int .u8 0,.string ⟨#[]⟩] 113):=⟨_,rfl⟩
 have XW:Hid (Ext w W1):=zh (by rw [hW1];exact(ext_alloc w _).alloc _)
 have SW:Hid (W1.heap.size=w.heap.size+2):=zh (by rw [hW1];simp)
 have HB:Hid (W1.heap[w.heap.size+1]?=some (.cells #[.int .u8 0,.string ⟨#[]⟩] 113 (0,0))):=zh (by
  rw [hW1]
  have:=heap_alloc_new (w.alloc (.cells #[.int .i64 2,.string a,.string b,.int .u32 n,v4,v5,v6,v7,v8,v9,v10,v11,v12] 31)) (.cells #[.int .u8 0,.string ⟨#[]⟩] 113)
  simpa using this)
 have HO:Hid (W1.heap[w.heap.size]?=some (.cells #[.int .i64 2,.string a,.string b,.int .u32 n,v4,v5,v6,v7,v8,v9,v10,v11,v12] 31 (0,0))):=zh (by
  rw [hW1]
  have e1:=(ext_alloc (w.alloc (.cells #[.int .i64 2,.string a,.string b,.int .u32 n,v4,v5,v6,v7,v8,v9,v10,v11,v12] 31)) (.cells #[.int .u8 0,.string ⟨#[]⟩] 113)).block w.heap.size (by simp)
  rw [e1];exact heap_alloc_new _ _)
 have hz0:=zc HB.out 0 (.int .u8 0) rfl
 have hy0:=free_slot HB.out 0
 have hz1:=zc HB.out 1 (.string ⟨#[]⟩) rfl
 have hy1:=free_slot HB.out 1
 have hb0:=zc HO.out 0 (.int .i64 2) rfl
 have hb3:=zc HO.out 3 (.int .u32 n) rfl
 have hb1:=zc HO.out 1 (.string a) rfl
 have hdec:decide (n < 256)=true:=decide_eq_true hsm
 go_enter Tryz.func34,Tryz.ntmps34
 go_wp2_with (first|(go_at_call 46;refine(emp2 _).mono ?_;rintro e w1 ⟨rfl,rfl⟩)|(go_at_call 54;rw [<-hW1];clear hW1;refine(let54 n _).mono ?_;rintro e w54 ⟨rfl,hw54⟩;rw [hw54];clear hw54))
 go_ret2
 have EB:=((((Ext.refl W1).but (b:=(w.heap.size+1))).set 0 (.int .u8 (n % 256))).set 1 (.string a))
 have SS:=(slot_setCell (j:=1) (u:=.string a) (slot_setCell (j:=0) (u:=.int .u8 (n % 256)) HB.out))
 refine⟨w.heap.size+1,rfl,EB.ext XW.out (by omega),?_⟩
 exact encClose _ (n % 256) a _ (zc SS 0 (.int .u8 (n % 256)) rfl) (zc SS 1 (.string a) rfl) (by omega) R HR
theorem made6 (a b:ByteArray)(n:Int)(v4 v5 v6 v7 v8 v9 v10 v11 v12:Value)(w:World)(hs:a.size<=200)(hsm:n < 256)(R:List Int)(HR:Hid (R=msgB 68 ([n % 256]++txt a))):Calls Tryz.prog 34 #[.agg #[.int .i64 6,.string a,.string b,.int .u32 n,v4,v5,v6,v7,v8,v9,v10,v11,v12]] w (Made 114 154 w R):=by
 have n101:=no101 114
 have n108:=no108 114
 have n111:=no111 114
 have y114:=yes114
 obtain⟨W1,hW1⟩:∃W1,W1=(w.alloc (.cells #[.int .i64 6,.string a,.string b,.int .u32 n,v4,v5,v6,v7,v8,v9,v10,v11,v12] 31)).alloc (.cells #[.int .u8 0,.string ⟨#[]⟩] 115):=⟨_,rfl⟩
 have XW:Hid (Ext w W1):=zh (by rw [hW1];exact(ext_alloc w _).alloc _)
 have SW:Hid (W1.heap.size=w.heap.size+2):=zh (by rw [hW1];simp)
 have HB:Hid (W1.heap[w.heap.size+1]?=some (.cells #[.int .u8 0,.string ⟨#[]⟩] 115 (0,0))):=zh (by
  rw [hW1]
  have:=heap_alloc_new (w.alloc (.cells #[.int .i64 6,.string a,.string b,.int .u32 n,v4,v5,v6,v7,v8,v9,v10,v11,v12] 31)) (.cells #[.int .u8 0,.string ⟨#[]⟩] 115)
  simpa using this)
 have HO:Hid (W1.heap[w.heap.size]?=some (.cells #[.int .i64 6,.string a,.string b,.int .u32 n,v4,v5,v6,v7,v8,v9,v10,v11,v12] 31 (0,0))):=zh (by
  rw [hW1]
  have e1:=(ext_alloc (w.alloc (.cells #[.int .i64 6,.string a,.string b,.int .u32 n,v4,v5,v6,v7,v8,v9,v10,v11,v12] 31)) (.cells #[.int .u8 0,.string ⟨#[]⟩] 115)).block w.heap.size (by simp)
  rw [e1];exact heap_alloc_new _ _)
 have hz0:=zc HB.out 0 (.int .u8 0) rfl
 have hy0:=free_slot HB.out 0
 have hz1:=zc HB.out 1 (.string ⟨#[]⟩) rfl
 have hy1:=free_slot HB.out 1
 have hb0:=zc HO.out 0 (.int .i64 6) rfl
 have hb3:=zc HO.out 3 (.int .u32 n) rfl
 have hb1:=zc HO.out 1 (.string a) rfl
 have hdec:decide (n < 256)=true:=decide_eq_true hsm
 go_enter Tryz.func34,Tryz.ntmps34
 go_wp2_with (first|(go_at_call 46;refine(emp6 _).mono ?_;rintro e w1 ⟨rfl,rfl⟩)|(go_at_call 54;rw [<-hW1];clear hW1;refine(let54 n _).mono ?_;rintro e w54 ⟨rfl,hw54⟩;rw [hw54];clear hw54))
 go_ret2
 have EB:=((((Ext.refl W1).but (b:=(w.heap.size+1))).set 0 (.int .u8 (n % 256))).set 1 (.string a))
 have SS:=(slot_setCell (j:=1) (u:=.string a) (slot_setCell (j:=0) (u:=.int .u8 (n % 256)) HB.out))
 refine⟨w.heap.size+1,rfl,EB.ext XW.out (by omega),?_⟩
 exact encDescribe _ (n % 256) a _ (zc SS 0 (.int .u8 (n % 256)) rfl) (zc SS 1 (.string a) rfl) (by omega) R HR
theorem made5 (a b:ByteArray)(n:Int)(v4 v5 v6 v7 v8 v9 v10 v11 v12:Value)(w:World)(hs:a.size<=200)(R:List Int)(HR:Hid (R=msgB 102 (txt a))):Calls Tryz.prog 34 #[.agg #[.int .i64 5,.string a,.string b,.int .u32 n,v4,v5,v6,v7,v8,v9,v10,v11,v12]] w (Made 119 160 w R):=by
 have n101:=no101 119
 have n108:=no108 119
 have n111:=no111 119
 have n114:=no114 119
 have n116:=no116 119
 have y119:=yes119
 obtain⟨W1,hW1⟩:∃W1,W1=(w.alloc (.cells #[.int .i64 5,.string a,.string b,.int .u32 n,v4,v5,v6,v7,v8,v9,v10,v11,v12] 31)).alloc (.cells #[.string ⟨#[]⟩] 121):=⟨_,rfl⟩
 have XW:Hid (Ext w W1):=zh (by rw [hW1];exact(ext_alloc w _).alloc _)
 have SW:Hid (W1.heap.size=w.heap.size+2):=zh (by rw [hW1];simp)
 have HB:Hid (W1.heap[w.heap.size+1]?=some (.cells #[.string ⟨#[]⟩] 121 (0,0))):=zh (by
  rw [hW1]
  have:=heap_alloc_new (w.alloc (.cells #[.int .i64 5,.string a,.string b,.int .u32 n,v4,v5,v6,v7,v8,v9,v10,v11,v12] 31)) (.cells #[.string ⟨#[]⟩] 121)
  simpa using this)
 have HO:Hid (W1.heap[w.heap.size]?=some (.cells #[.int .i64 5,.string a,.string b,.int .u32 n,v4,v5,v6,v7,v8,v9,v10,v11,v12] 31 (0,0))):=zh (by
  rw [hW1]
  have e1:=(ext_alloc (w.alloc (.cells #[.int .i64 5,.string a,.string b,.int .u32 n,v4,v5,v6,v7,v8,v9,v10,v11,v12] 31)) (.cells #[.string ⟨#[]⟩] 121)).block w.heap.size (by simp)
  rw [e1];exact heap_alloc_new _ _)
 have hz0:=zc HB.out 0 (.string ⟨#[]⟩) rfl
 have hy0:=free_slot HB.out 0
 have hb0:=zc HO.out 0 (.int .i64 5) rfl
 have hb3:=zc HO.out 3 (.int .u32 n) rfl
 have hb1:=zc HO.out 1 (.string a) rfl
 go_enter Tryz.func34,Tryz.ntmps34
 go_wp2_with (first|(go_at_call 46;refine(emp5 _).mono ?_;rintro e w1 ⟨rfl,rfl⟩)|(go_at_call 54;rw [<-hW1];clear hW1;refine(let54 n _).mono ?_;rintro e w54 ⟨rfl,hw54⟩;rw [hw54];clear hw54))
 go_ret2
 have EB:=(((Ext.refl W1).but (b:=(w.heap.size+1))).set 0 (.string a))
 have SS:=(slot_setCell (j:=0) (u:=.string a) HB.out)
 refine⟨w.heap.size+1,rfl,EB.ext XW.out (by omega),?_⟩
 exact encCopyFail _ a _ (zc SS 0 (.string a) rfl) (by omega) R HR
theorem made13 (a b:ByteArray)(n:Int)(v4 v5 v6 v7 v8 v9 v10 v11 v12:Value)(w:World)(hs:a.size<=200)(R:List Int)(HR:Hid (R=msgB 112 (txt a))):Calls Tryz.prog 34 #[.agg #[.int .i64 13,.string a,.string b,.int .u32 n,v4,v5,v6,v7,v8,v9,v10,v11,v12]] w (Made 138 179 w R):=by
 have n101:=no101 138
 have n108:=no108 138
 have n111:=no111 138
 have n114:=no114 138
 have n116:=no116 138
 have n119:=no119 138
 have n122:=no122 138
 have n125:=no125 138
 have n132:=no132 138
 have n134:=no134 138
 have y138:=yes138
 obtain⟨W1,hW1⟩:∃W1,W1=(w.alloc (.cells #[.int .i64 13,.string a,.string b,.int .u32 n,v4,v5,v6,v7,v8,v9,v10,v11,v12] 31)).alloc (.cells #[.string ⟨#[]⟩] 140):=⟨_,rfl⟩
 have XW:Hid (Ext w W1):=zh (by rw [hW1];exact(ext_alloc w _).alloc _)
 have SW:Hid (W1.heap.size=w.heap.size+2):=zh (by rw [hW1];simp)
 have HB:Hid (W1.heap[w.heap.size+1]?=some (.cells #[.string ⟨#[]⟩] 140 (0,0))):=zh (by
  rw [hW1]
  have:=heap_alloc_new (w.alloc (.cells #[.int .i64 13,.string a,.string b,.int .u32 n,v4,v5,v6,v7,v8,v9,v10,v11,v12] 31)) (.cells #[.string ⟨#[]⟩] 140)
  simpa using this)
 have HO:Hid (W1.heap[w.heap.size]?=some (.cells #[.int .i64 13,.string a,.string b,.int .u32 n,v4,v5,v6,v7,v8,v9,v10,v11,v12] 31 (0,0))):=zh (by
  rw [hW1]
  have e1:=(ext_alloc (w.alloc (.cells #[.int .i64 13,.string a,.string b,.int .u32 n,v4,v5,v6,v7,v8,v9,v10,v11,v12] 31)) (.cells #[.string ⟨#[]⟩] 140)).block w.heap.size (by simp)
  rw [e1];exact heap_alloc_new _ _)
 have hz0:=zc HB.out 0 (.string ⟨#[]⟩) rfl
 have hy0:=free_slot HB.out 0
 have hb0:=zc HO.out 0 (.int .i64 13) rfl
 have hb3:=zc HO.out 3 (.int .u32 n) rfl
 have hb1:=zc HO.out 1 (.string a) rfl
 go_enter Tryz.func34,Tryz.ntmps34
 go_wp2_with (first|(go_at_call 46;refine(emp13 _).mono ?_;rintro e w1 ⟨rfl,rfl⟩)|(go_at_call 54;rw [<-hW1];clear hW1;refine(let54 n _).mono ?_;rintro e w54 ⟨rfl,hw54⟩;rw [hw54];clear hw54))
 go_ret2
 have EB:=(((Ext.refl W1).but (b:=(w.heap.size+1))).set 0 (.string a))
 have SS:=(slot_setCell (j:=0) (u:=.string a) HB.out)
 refine⟨w.heap.size+1,rfl,EB.ext XW.out (by omega),?_⟩
 exact encPassword _ a _ (zc SS 0 (.string a) rfl) (by omega) R HR
theorem made14 (a b:ByteArray)(n:Int)(v4 v5 v6 v7 v8 v9 v10 v11 v12:Value)(w:World)(hs:a.size<=200)(R:List Int)(HR:Hid (R=msgB 81 (txt a))):Calls Tryz.prog 34 #[.agg #[.int .i64 14,.string a,.string b,.int .u32 n,v4,v5,v6,v7,v8,v9,v10,v11,v12]] w (Made 141 182 w R):=by
 have n101:=no101 141
 have n108:=no108 141
 have n111:=no111 141
 have n114:=no114 141
 have n116:=no116 141
 have n119:=no119 141
 have n122:=no122 141
 have n125:=no125 141
 have n132:=no132 141
 have n134:=no134 141
 have n138:=no138 141
 have y141:=yes141
 obtain⟨W1,hW1⟩:∃W1,W1=(w.alloc (.cells #[.int .i64 14,.string a,.string b,.int .u32 n,v4,v5,v6,v7,v8,v9,v10,v11,v12] 31)).alloc (.cells #[.string ⟨#[]⟩] 143):=⟨_,rfl⟩
 have XW:Hid (Ext w W1):=zh (by rw [hW1];exact(ext_alloc w _).alloc _)
 have SW:Hid (W1.heap.size=w.heap.size+2):=zh (by rw [hW1];simp)
 have HB:Hid (W1.heap[w.heap.size+1]?=some (.cells #[.string ⟨#[]⟩] 143 (0,0))):=zh (by
  rw [hW1]
  have:=heap_alloc_new (w.alloc (.cells #[.int .i64 14,.string a,.string b,.int .u32 n,v4,v5,v6,v7,v8,v9,v10,v11,v12] 31)) (.cells #[.string ⟨#[]⟩] 143)
  simpa using this)
 have HO:Hid (W1.heap[w.heap.size]?=some (.cells #[.int .i64 14,.string a,.string b,.int .u32 n,v4,v5,v6,v7,v8,v9,v10,v11,v12] 31 (0,0))):=zh (by
  rw [hW1]
  have e1:=(ext_alloc (w.alloc (.cells #[.int .i64 14,.string a,.string b,.int .u32 n,v4,v5,v6,v7,v8,v9,v10,v11,v12] 31)) (.cells #[.string ⟨#[]⟩] 143)).block w.heap.size (by simp)
  rw [e1];exact heap_alloc_new _ _)
 have hz0:=zc HB.out 0 (.string ⟨#[]⟩) rfl
 have hy0:=free_slot HB.out 0
 have hb0:=zc HO.out 0 (.int .i64 14) rfl
 have hb3:=zc HO.out 3 (.int .u32 n) rfl
 have hb1:=zc HO.out 1 (.string a) rfl
 go_enter Tryz.func34,Tryz.ntmps34
 go_wp2_with (first|(go_at_call 46;refine(emp14 _).mono ?_;rintro e w1 ⟨rfl,rfl⟩)|(go_at_call 54;rw [<-hW1];clear hW1;refine(let54 n _).mono ?_;rintro e w54 ⟨rfl,hw54⟩;rw [hw54];clear hw54))
 go_ret2
 have EB:=(((Ext.refl W1).but (b:=(w.heap.size+1))).set 0 (.string a))
 have SS:=(slot_setCell (j:=0) (u:=.string a) HB.out)
 refine⟨w.heap.size+1,rfl,EB.ext XW.out (by omega),?_⟩
 exact encQuery _ a _ (zc SS 0 (.string a) rfl) (by omega) R HR
theorem made7 (a b:ByteArray)(n:Int)(v4 v5 v6 v7 v8 v9 v10 v11 v12:Value)(w:World)(hs:a.size<=200)(hn:0<=n/\n < 4294967296)(R:List Int)(HR:Hid (R=msgB 69 (txt a++b32 n))):Calls Tryz.prog 34 #[.agg #[.int .i64 7,.string a,.string b,.int .u32 n,v4,v5,v6,v7,v8,v9,v10,v11,v12]] w (Made 122 163 w R):=by
 have n101:=no101 122
 have n108:=no108 122
 have n111:=no111 122
 have n114:=no114 122
 have n116:=no116 122
 have n119:=no119 122
 have y122:=yes122
 obtain⟨W1,hW1⟩:∃W1,W1=(w.alloc (.cells #[.int .i64 7,.string a,.string b,.int .u32 n,v4,v5,v6,v7,v8,v9,v10,v11,v12] 31)).alloc (.cells #[.string ⟨#[]⟩,.int .u32 0] 124):=⟨_,rfl⟩
 have XW:Hid (Ext w W1):=zh (by rw [hW1];exact(ext_alloc w _).alloc _)
 have SW:Hid (W1.heap.size=w.heap.size+2):=zh (by rw [hW1];simp)
 have HB:Hid (W1.heap[w.heap.size+1]?=some (.cells #[.string ⟨#[]⟩,.int .u32 0] 124 (0,0))):=zh (by
  rw [hW1]
  have:=heap_alloc_new (w.alloc (.cells #[.int .i64 7,.string a,.string b,.int .u32 n,v4,v5,v6,v7,v8,v9,v10,v11,v12] 31)) (.cells #[.string ⟨#[]⟩,.int .u32 0] 124)
  simpa using this)
 have HO:Hid (W1.heap[w.heap.size]?=some (.cells #[.int .i64 7,.string a,.string b,.int .u32 n,v4,v5,v6,v7,v8,v9,v10,v11,v12] 31 (0,0))):=zh (by
  rw [hW1]
  have e1:=(ext_alloc (w.alloc (.cells #[.int .i64 7,.string a,.string b,.int .u32 n,v4,v5,v6,v7,v8,v9,v10,v11,v12] 31)) (.cells #[.string ⟨#[]⟩,.int .u32 0] 124)).block w.heap.size (by simp)
  rw [e1];exact heap_alloc_new _ _)
 have hz0:=zc HB.out 0 (.string ⟨#[]⟩) rfl
 have hy0:=free_slot HB.out 0
 have hz1:=zc HB.out 1 (.int .u32 0) rfl
 have hy1:=free_slot HB.out 1
 have hb0:=zc HO.out 0 (.int .i64 7) rfl
 have hb3:=zc HO.out 3 (.int .u32 n) rfl
 have hb1:=zc HO.out 1 (.string a) rfl
 go_enter Tryz.func34,Tryz.ntmps34
 go_wp2_with (first|(go_at_call 46;refine(emp7 _).mono ?_;rintro e w1 ⟨rfl,rfl⟩)|(go_at_call 54;rw [<-hW1];clear hW1;refine(let54 n _).mono ?_;rintro e w54 ⟨rfl,hw54⟩;rw [hw54];clear hw54))
 go_ret2
 have EB:=((((Ext.refl W1).but (b:=(w.heap.size+1))).set 0 (.string a)).set 1 (.int .u32 n))
 have SS:=(slot_setCell (j:=1) (u:=.int .u32 n) (slot_setCell (j:=0) (u:=.string a) HB.out))
 refine⟨w.heap.size+1,rfl,EB.ext XW.out (by omega),?_⟩
 exact encExecute _ a n _ (zc SS 0 (.string a) rfl) (zc SS 1 (.int .u32 n) rfl) (by omega) hn.1 hn.2 R HR
theorem made3 (a b:ByteArray)(n:Int)(v4 v5 v6 v7 v8 vd v10 v11 v12:Value)(d:List Int)(w:World)(HD:Hid (RdB w vd d))(hl:d.length<=500)(R:List Int)(HR:Hid (R=msgB 100 (d))):Calls Tryz.prog 34 #[.agg #[.int .i64 3,.string a,.string b,.int .u32 n,v4,v5,v6,v7,v8,vd,v10,v11,v12]] w (Made 116 158 w R):=by
 have n101:=no101 116
 have n108:=no108 116
 have n111:=no111 116
 have n114:=no114 116
 have y116:=yes116
 obtain⟨W1,hW1⟩:∃W1,W1=(w.alloc (.cells #[.int .i64 3,.string a,.string b,.int .u32 n,v4,v5,v6,v7,v8,vd,v10,v11,v12] 31)).alloc (.cells #[.slice none 0 0] 118):=⟨_,rfl⟩
 have XW:Hid (Ext w W1):=zh (by rw [hW1];exact(ext_alloc w _).alloc _)
 have SW:Hid (W1.heap.size=w.heap.size+2):=zh (by rw [hW1];simp)
 have HB:Hid (W1.heap[w.heap.size+1]?=some (.cells #[.slice none 0 0] 118 (0,0))):=zh (by
  rw [hW1]
  have:=heap_alloc_new (w.alloc (.cells #[.int .i64 3,.string a,.string b,.int .u32 n,v4,v5,v6,v7,v8,vd,v10,v11,v12] 31)) (.cells #[.slice none 0 0] 118)
  simpa using this)
 have HO:Hid (W1.heap[w.heap.size]?=some (.cells #[.int .i64 3,.string a,.string b,.int .u32 n,v4,v5,v6,v7,v8,vd,v10,v11,v12] 31 (0,0))):=zh (by
  rw [hW1]
  have e1:=(ext_alloc (w.alloc (.cells #[.int .i64 3,.string a,.string b,.int .u32 n,v4,v5,v6,v7,v8,vd,v10,v11,v12] 31)) (.cells #[.slice none 0 0] 118)).block w.heap.size (by simp)
  rw [e1];exact heap_alloc_new _ _)
 have hz0:=zc HB.out 0 (.slice none 0 0) rfl
 have hy0:=free_slot HB.out 0
 have hb0:=zc HO.out 0 (.int .i64 3) rfl
 have hb3:=zc HO.out 3 (.int .u32 n) rfl
 have hb9:=zc HO.out 9 (vd) rfl
 go_enter Tryz.func34,Tryz.ntmps34
 go_wp2_with (first|(go_at_call 46;refine(emp3 _).mono ?_;rintro e w1 ⟨rfl,rfl⟩)|(go_at_call 54;rw [<-hW1];clear hW1;refine(let54 n _).mono ?_;rintro e w54 ⟨rfl,hw54⟩;rw [hw54];clear hw54)|(go_at_call 47;refine(copiedK _ d _ (HD.out.ext XW.out) (by omega)).mono ?_;rintro e w2 ⟨A2,c2,rfl,hx2,hk2⟩;have HX2:=zh hx2;have HK2:=zh hk2;clear hx2 hk2;have BB:=zh ((HX2.out.block _ (zl HB.out)).trans HB.out);clear hz0 hy0;have hz0:=zc BB.out 0 (.slice none 0 0) rfl;have hy0:=free_slot BB.out 0))
 go_ret2
 have EB:=((HX2.out.but (b:=(w.heap.size+1))).set 0 (.slice A2 d.length c2))
 have SS:=(slot_setCell (j:=0) (u:=.slice A2 d.length c2) BB.out)
 refine⟨w.heap.size+1,rfl,EB.ext XW.out (by omega),?_⟩
 have KK:=HK2.out.at_ (w.heap.size+1) _ (by have:=SW.out;omega) (((Ext.refl w2).but (b:=(w.heap.size+1))).set 0 (.slice A2 d.length c2))
 exact encCopyData _ A2 c2 d _ (zc SS 0 (.slice A2 d.length c2) rfl) KK (by omega) R HR
theorem made11 (a b:ByteArray)(n:Int)(v4 v5 v6 v7 v8 vd v10 v11 v12:Value)(d:List Int)(w:World)(HD:Hid (RdB w vd d))(hl:d.length<=500)(R:List Int)(HR:Hid (R=msgB 112 (d))):Calls Tryz.prog 34 #[.agg #[.int .i64 11,.string a,.string b,.int .u32 n,v4,v5,v6,v7,v8,vd,v10,v11,v12]] w (Made 132 173 w R):=by
 have n101:=no101 132
 have n108:=no108 132
 have n111:=no111 132
 have n114:=no114 132
 have n116:=no116 132
 have n119:=no119 132
 have n122:=no122 132
 have n125:=no125 132
 have y132:=yes132
 obtain⟨W1,hW1⟩:∃W1,W1=(w.alloc (.cells #[.int .i64 11,.string a,.string b,.int .u32 n,v4,v5,v6,v7,v8,vd,v10,v11,v12] 31)).alloc (.cells #[.slice none 0 0] 133):=⟨_,rfl⟩
 have XW:Hid (Ext w W1):=zh (by rw [hW1];exact(ext_alloc w _).alloc _)
 have SW:Hid (W1.heap.size=w.heap.size+2):=zh (by rw [hW1];simp)
 have HB:Hid (W1.heap[w.heap.size+1]?=some (.cells #[.slice none 0 0] 133 (0,0))):=zh (by
  rw [hW1]
  have:=heap_alloc_new (w.alloc (.cells #[.int .i64 11,.string a,.string b,.int .u32 n,v4,v5,v6,v7,v8,vd,v10,v11,v12] 31)) (.cells #[.slice none 0 0] 133)
  simpa using this)
 have HO:Hid (W1.heap[w.heap.size]?=some (.cells #[.int .i64 11,.string a,.string b,.int .u32 n,v4,v5,v6,v7,v8,vd,v10,v11,v12] 31 (0,0))):=zh (by
  rw [hW1]
  have e1:=(ext_alloc (w.alloc (.cells #[.int .i64 11,.string a,.string b,.int .u32 n,v4,v5,v6,v7,v8,vd,v10,v11,v12] 31)) (.cells #[.slice none 0 0] 133)).block w.heap.size (by simp)
  rw [e1];exact heap_alloc_new _ _)
 have hz0:=zc HB.out 0 (.slice none 0 0) rfl
 have hy0:=free_slot HB.out 0
 have hb0:=zc HO.out 0 (.int .i64 11) rfl
 have hb3:=zc HO.out 3 (.int .u32 n) rfl
 have hb9:=zc HO.out 9 (vd) rfl
 go_enter Tryz.func34,Tryz.ntmps34
 go_wp2_with (first|(go_at_call 46;refine(emp11 _).mono ?_;rintro e w1 ⟨rfl,rfl⟩)|(go_at_call 54;rw [<-hW1];clear hW1;refine(let54 n _).mono ?_;rintro e w54 ⟨rfl,hw54⟩;rw [hw54];clear hw54)|(go_at_call 47;refine(copiedK _ d _ (HD.out.ext XW.out) (by omega)).mono ?_;rintro e w2 ⟨A2,c2,rfl,hx2,hk2⟩;have HX2:=zh hx2;have HK2:=zh hk2;clear hx2 hk2;have BB:=zh ((HX2.out.block _ (zl HB.out)).trans HB.out);clear hz0 hy0;have hz0:=zc BB.out 0 (.slice none 0 0) rfl;have hy0:=free_slot BB.out 0))
 go_ret2
 have EB:=((HX2.out.but (b:=(w.heap.size+1))).set 0 (.slice A2 d.length c2))
 have SS:=(slot_setCell (j:=0) (u:=.slice A2 d.length c2) BB.out)
 refine⟨w.heap.size+1,rfl,EB.ext XW.out (by omega),?_⟩
 have KK:=HK2.out.at_ (w.heap.size+1) _ (by have:=SW.out;omega) (((Ext.refl w2).but (b:=(w.heap.size+1))).set 0 (.slice A2 d.length c2))
 exact encGSSResponse _ A2 c2 d _ (zc SS 0 (.slice A2 d.length c2) rfl) KK (by omega) R HR
theorem made16 (a b:ByteArray)(n:Int)(v4 v5 v6 v7 v8 vd v10 v11 v12:Value)(d:List Int)(w:World)(HD:Hid (RdB w vd d))(hl:d.length<=500)(R:List Int)(HR:Hid (R=msgB 112 (d))):Calls Tryz.prog 34 #[.agg #[.int .i64 16,.string a,.string b,.int .u32 n,v4,v5,v6,v7,v8,vd,v10,v11,v12]] w (Made 147 188 w R):=by
 have n101:=no101 147
 have n108:=no108 147
 have n111:=no111 147
 have n114:=no114 147
 have n116:=no116 147
 have n119:=no119 147
 have n122:=no122 147
 have n125:=no125 147
 have n132:=no132 147
 have n134:=no134 147
 have n138:=no138 147
 have n141:=no141 147
 have n144:=no144 147
 have y147:=yes147
 obtain⟨W1,hW1⟩:∃W1,W1=(w.alloc (.cells #[.int .i64 16,.string a,.string b,.int .u32 n,v4,v5,v6,v7,v8,vd,v10,v11,v12] 31)).alloc (.cells #[.slice none 0 0] 148):=⟨_,rfl⟩
 have XW:Hid (Ext w W1):=zh (by rw [hW1];exact(ext_alloc w _).alloc _)
 have SW:Hid (W1.heap.size=w.heap.size+2):=zh (by rw [hW1];simp)
 have HB:Hid (W1.heap[w.heap.size+1]?=some (.cells #[.slice none 0 0] 148 (0,0))):=zh (by
  rw [hW1]
  have:=heap_alloc_new (w.alloc (.cells #[.int .i64 16,.string a,.string b,.int .u32 n,v4,v5,v6,v7,v8,vd,v10,v11,v12] 31)) (.cells #[.slice none 0 0] 148)
  simpa using this)
 have HO:Hid (W1.heap[w.heap.size]?=some (.cells #[.int .i64 16,.string a,.string b,.int .u32 n,v4,v5,v6,v7,v8,vd,v10,v11,v12] 31 (0,0))):=zh (by
  rw [hW1]
  have e1:=(ext_alloc (w.alloc (.cells #[.int .i64 16,.string a,.string b,.int .u32 n,v4,v5,v6,v7,v8,vd,v10,v11,v12] 31)) (.cells #[.slice none 0 0] 148)).block w.heap.size (by simp)
  rw [e1];exact heap_alloc_new _ _)
 have hz0:=zc HB.out 0 (.slice none 0 0) rfl
 have hy0:=free_slot HB.out 0
 have hb0:=zc HO.out 0 (.int .i64 16) rfl
 have hb3:=zc HO.out 3 (.int .u32 n) rfl
 have hb9:=zc HO.out 9 (vd) rfl
 go_enter Tryz.func34,Tryz.ntmps34
 go_wp2_with (first|(go_at_call 46;refine(emp16 _).mono ?_;rintro e w1 ⟨rfl,rfl⟩)|(go_at_call 54;rw [<-hW1];clear hW1;refine(let54 n _).mono ?_;rintro e w54 ⟨rfl,hw54⟩;rw [hw54];clear hw54)|(go_at_call 47;refine(copiedK _ d _ (HD.out.ext XW.out) (by omega)).mono ?_;rintro e w2 ⟨A2,c2,rfl,hx2,hk2⟩;have HX2:=zh hx2;have HK2:=zh hk2;clear hx2 hk2;have BB:=zh ((HX2.out.block _ (zl HB.out)).trans HB.out);clear hz0 hy0;have hz0:=zc BB.out 0 (.slice none 0 0) rfl;have hy0:=free_slot BB.out 0))
 go_ret2
 have EB:=((HX2.out.but (b:=(w.heap.size+1))).set 0 (.slice A2 d.length c2))
 have SS:=(slot_setCell (j:=0) (u:=.slice A2 d.length c2) BB.out)
 refine⟨w.heap.size+1,rfl,EB.ext XW.out (by omega),?_⟩
 have KK:=HK2.out.at_ (w.heap.size+1) _ (by have:=SW.out;omega) (((Ext.refl w2).but (b:=(w.heap.size+1))).set 0 (.slice A2 d.length c2))
 exact encSASLResponse _ A2 c2 d _ (zc SS 0 (.slice A2 d.length c2) rfl) KK (by omega) R HR
theorem ans34 (a b:ByteArray)(n:Int)(v4 v5 v6 v7 v8 vd v10 v11 v12:Value)(d:List Int)(w w1:World)(bk:Nat)(HD:Hid (RdB w vd d))(hl:d.length<=500)(hx:Ext w w1)(hbk:w.heap.size<=bk)(hblk:w1.heap[bk]?=some (.cells #[.slice none 0 0] 190 (0,0)))(R:List Int)(HR:Hid (R=msgB 82 (b32 8++d))):
 Calls Tryz.prog 60 #[.iface 189 (.pointer (some ⟨bk,0,none⟩)),.agg #[.int .i64 34,.string a,.string b,.int .u32 n,v4,v5,v6,v7,v8,vd,v10,v11,v12],.bool true] w1 (Ans 189 263 bk w R):=by
 have n185:=no185 189
 have y189:=yes189
 obtain⟨W2,hW2⟩:∃W2,W2=w1.alloc (.cells #[.int .i64 34,.string a,.string b,.int .u32 n,v4,v5,v6,v7,v8,vd,v10,v11,v12] 31):=⟨_,rfl⟩
 have X1:Hid (Ext w1 W2):=zh (by rw [hW2];exact ext_alloc w1 _)
 have XW:Hid (Ext w W2):=zh (hx.trans X1.out)
 have HB:Hid (W2.heap[bk]?=some (.cells #[.slice none 0 0] 190 (0,0))):=zh ((X1.out.block _ (zl hblk)).trans hblk)
 have HO:Hid (W2.heap[w1.heap.size]?=some (.cells #[.int .i64 34,.string a,.string b,.int .u32 n,v4,v5,v6,v7,v8,vd,v10,v11,v12] 31 (0,0))):=zh (by rw [hW2];exact heap_alloc_new _ _)
 have HBK:=zh hbk
 clear hx hbk hblk
 have hz0:=zc HB.out 0 (.slice none 0 0) rfl
 have hy0:=free_slot HB.out 0
 have hb3:=zc HO.out 3 (.int .u32 n) rfl
 have hb9:=zc HO.out 9 (vd) rfl
 go_enter Tryz.func60,Tryz.ntmps60
 go_wp2_with (first|(go_at_call 54;rw [<-hW2];clear hW2;refine(let54 n _).mono ?_;rintro e w54 ⟨rfl,hw54⟩;rw [hw54];clear hw54)|(go_at_call 47;refine(copiedK _ d _ (HD.out.ext XW.out) (by omega)).mono ?_;rintro e w2 ⟨A2,c2,rfl,hx2,hk2⟩;have HX2:=zh hx2;have HK2:=zh hk2;clear hx2 hk2;have BB:=zh ((HX2.out.block _ (zl HB.out)).trans HB.out);clear hz0 hy0;have hz0:=zc BB.out 0 (.slice none 0 0) rfl;have hy0:=free_slot BB.out 0))
 go_ret2
 have EB:=((HX2.out.but (b:=bk)).set 0 (.slice A2 d.length c2))
 have SS:=(slot_setCell (j:=0) (u:=.slice A2 d.length c2) BB.out)
 refine⟨rfl,EB.ext XW.out HBK.out,?_⟩
 have KK:=HK2.out.at_ bk _ (zl HB.out) (((Ext.refl w2).but (b:=bk)).set 0 (.slice A2 d.length c2))
 exact encAuthGSSContinue _ A2 c2 d _ (zc SS 0 (.slice A2 d.length c2) rfl) KK (by omega) R HR
theorem ans36 (a b:ByteArray)(n:Int)(v4 v5 v6 v7 v8 vd v10 v11 v12:Value)(d:List Int)(w w1:World)(bk:Nat)(HD:Hid (RdB w vd d))(hl:d.length<=500)(hx:Ext w w1)(hbk:w.heap.size<=bk)(hblk:w1.heap[bk]?=some (.cells #[.slice none 0 0] 195 (0,0)))(R:List Int)(HR:Hid (R=msgB 82 (b32 11++d))):
 Calls Tryz.prog 60 #[.iface 194 (.pointer (some ⟨bk,0,none⟩)),.agg #[.int .i64 36,.string a,.string b,.int .u32 n,v4,v5,v6,v7,v8,vd,v10,v11,v12],.bool true] w1 (Ans 194 269 bk w R):=by
 have n185:=no185 194
 have n189:=no189 194
 have n191:=no191 194
 have y194:=yes194
 obtain⟨W2,hW2⟩:∃W2,W2=w1.alloc (.cells #[.int .i64 36,.string a,.string b,.int .u32 n,v4,v5,v6,v7,v8,vd,v10,v11,v12] 31):=⟨_,rfl⟩
 have X1:Hid (Ext w1 W2):=zh (by rw [hW2];exact ext_alloc w1 _)
 have XW:Hid (Ext w W2):=zh (hx.trans X1.out)
 have HB:Hid (W2.heap[bk]?=some (.cells #[.slice none 0 0] 195 (0,0))):=zh ((X1.out.block _ (zl hblk)).trans hblk)
 have HO:Hid (W2.heap[w1.heap.size]?=some (.cells #[.int .i64 36,.string a,.string b,.int .u32 n,v4,v5,v6,v7,v8,vd,v10,v11,v12] 31 (0,0))):=zh (by rw [hW2];exact heap_alloc_new _ _)
 have HBK:=zh hbk
 clear hx hbk hblk
 have hz0:=zc HB.out 0 (.slice none 0 0) rfl
 have hy0:=free_slot HB.out 0
 have hb3:=zc HO.out 3 (.int .u32 n) rfl
 have hb9:=zc HO.out 9 (vd) rfl
 go_enter Tryz.func60,Tryz.ntmps60
 go_wp2_with (first|(go_at_call 54;rw [<-hW2];clear hW2;refine(let54 n _).mono ?_;rintro e w54 ⟨rfl,hw54⟩;rw [hw54];clear hw54)|(go_at_call 47;refine(copiedK _ d _ (HD.out.ext XW.out) (by omega)).mono ?_;rintro e w2 ⟨A2,c2,rfl,hx2,hk2⟩;have HX2:=zh hx2;have HK2:=zh hk2;clear hx2 hk2;have BB:=zh ((HX2.out.block _ (zl HB.out)).trans HB.out);clear hz0 hy0;have hz0:=zc BB.out 0 (.slice none 0 0) rfl;have hy0:=free_slot BB.out 0))
 go_ret2
 have EB:=((HX2.out.but (b:=bk)).set 0 (.slice A2 d.length c2))
 have SS:=(slot_setCell (j:=0) (u:=.slice A2 d.length c2) BB.out)
 refine⟨rfl,EB.ext XW.out HBK.out,?_⟩
 have KK:=HK2.out.at_ bk _ (zl HB.out) (((Ext.refl w2).but (b:=bk)).set 0 (.slice A2 d.length c2))
 exact encAuthSASLContinue _ A2 c2 d _ (zc SS 0 (.slice A2 d.length c2) rfl) KK (by omega) R HR
theorem ans37 (a b:ByteArray)(n:Int)(v4 v5 v6 v7 v8 vd v10 v11 v12:Value)(d:List Int)(w w1:World)(bk:Nat)(HD:Hid (RdB w vd d))(hl:d.length<=500)(hx:Ext w w1)(hbk:w.heap.size<=bk)(hblk:w1.heap[bk]?=some (.cells #[.slice none 0 0] 197 (0,0)))(R:List Int)(HR:Hid (R=msgB 82 (b32 12++d))):
 Calls Tryz.prog 60 #[.iface 196 (.pointer (some ⟨bk,0,none⟩)),.agg #[.int .i64 37,.string a,.string b,.int .u32 n,v4,v5,v6,v7,v8,vd,v10,v11,v12],.bool true] w1 (Ans 196 272 bk w R):=by
 have n185:=no185 196
 have n189:=no189 196
 have n191:=no191 196
 have n194:=no194 196
 have y196:=yes196
 obtain⟨W2,hW2⟩:∃W2,W2=w1.alloc (.cells #[.int .i64 37,.string a,.string b,.int .u32 n,v4,v5,v6,v7,v8,vd,v10,v11,v12] 31):=⟨_,rfl⟩
 have X1:Hid (Ext w1 W2):=zh (by rw [hW2];exact ext_alloc w1 _)
 have XW:Hid (Ext w W2):=zh (hx.trans X1.out)
 have HB:Hid (W2.heap[bk]?=some (.cells #[.slice none 0 0] 197 (0,0))):=zh ((X1.out.block _ (zl hblk)).trans hblk)
 have HO:Hid (W2.heap[w1.heap.size]?=some (.cells #[.int .i64 37,.string a,.string b,.int .u32 n,v4,v5,v6,v7,v8,vd,v10,v11,v12] 31 (0,0))):=zh (by rw [hW2];exact heap_alloc_new _ _)
 have HBK:=zh hbk
 clear hx hbk hblk
 have hz0:=zc HB.out 0 (.slice none 0 0) rfl
 have hy0:=free_slot HB.out 0
 have hb3:=zc HO.out 3 (.int .u32 n) rfl
 have hb9:=zc HO.out 9 (vd) rfl
 go_enter Tryz.func60,Tryz.ntmps60
 go_wp2_with (first|(go_at_call 54;rw [<-hW2];clear hW2;refine(let54 n _).mono ?_;rintro e w54 ⟨rfl,hw54⟩;rw [hw54];clear hw54)|(go_at_call 47;refine(copiedK _ d _ (HD.out.ext XW.out) (by omega)).mono ?_;rintro e w2 ⟨A2,c2,rfl,hx2,hk2⟩;have HX2:=zh hx2;have HK2:=zh hk2;clear hx2 hk2;have BB:=zh ((HX2.out.block _ (zl HB.out)).trans HB.out);clear hz0 hy0;have hz0:=zc BB.out 0 (.slice none 0 0) rfl;have hy0:=free_slot BB.out 0))
 go_ret2
 have EB:=((HX2.out.but (b:=bk)).set 0 (.slice A2 d.length c2))
 have SS:=(slot_setCell (j:=0) (u:=.slice A2 d.length c2) BB.out)
 refine⟨rfl,EB.ext XW.out HBK.out,?_⟩
 have KK:=HK2.out.at_ bk _ (zl HB.out) (((Ext.refl w2).but (b:=bk)).set 0 (.slice A2 d.length c2))
 exact encAuthSASLFinal _ A2 c2 d _ (zc SS 0 (.slice A2 d.length c2) rfl) KK (by omega) R HR
theorem ans51 (a b:ByteArray)(n:Int)(v4 v5 v6 v7 v8 v9 v10 v11 v12:Value)(w w1:World)(bk:Nat)(hn:0<=n/\n < 4294967296)(hs:a.size<=200)(hsb:b.size<=200)(hx:Ext w w1)(hbk:w.heap.size<=bk)(hblk:w1.heap[bk]?=some (.cells #[.int .u32 0,.string ⟨#[]⟩,.string ⟨#[]⟩] 224 (0,0)))(R:List Int)(HR:Hid (R=msgB 65 (b32 n++txt a++txt b))):
 Calls Tryz.prog 60 #[.iface 222 (.pointer (some ⟨bk,0,none⟩)),.agg #[.int .i64 51,.string a,.string b,.int .u32 n,v4,v5,v6,v7,v8,v9,v10,v11,v12],.bool true] w1 (Ans 222 321 bk w R):=by
 have n185:=no185 222
 have n189:=no189 222
 have n191:=no191 222
 have n194:=no194 222
 have n196:=no196 222
 have n198:=no198 222
 have n200:=no200 222
 have n203:=no203 222
 have n206:=no206 222
 have n208:=no208 222
 have n210:=no210 222
 have n213:=no213 222
 have n217:=no217 222
 have n219:=no219 222
 have y222:=yes222
 obtain⟨W2,hW2⟩:∃W2,W2=w1.alloc (.cells #[.int .i64 51,.string a,.string b,.int .u32 n,v4,v5,v6,v7,v8,v9,v10,v11,v12] 31):=⟨_,rfl⟩
 have X1:Hid (Ext w1 W2):=zh (by rw [hW2];exact ext_alloc w1 _)
 have XW:Hid (Ext w W2):=zh (hx.trans X1.out)
 have HB:Hid (W2.heap[bk]?=some (.cells #[.int .u32 0,.string ⟨#[]⟩,.string ⟨#[]⟩] 224 (0,0))):=zh ((X1.out.block _ (zl hblk)).trans hblk)
 have HO:Hid (W2.heap[w1.heap.size]?=some (.cells #[.int .i64 51,.string a,.string b,.int .u32 n,v4,v5,v6,v7,v8,v9,v10,v11,v12] 31 (0,0))):=zh (by rw [hW2];exact heap_alloc_new _ _)
 have HBK:=zh hbk
 clear hx hbk hblk
 have hz0:=zc HB.out 0 (.int .u32 0) rfl
 have hy0:=free_slot HB.out 0
 have hz1:=zc HB.out 1 (.string ⟨#[]⟩) rfl
 have hy1:=free_slot HB.out 1
 have hz2:=zc HB.out 2 (.string ⟨#[]⟩) rfl
 have hy2:=free_slot HB.out 2
 have hb3:=zc HO.out 3 (.int .u32 n) rfl
 have hb1:=zc HO.out 1 (.string a) rfl
 have hb2:=zc HO.out 2 (.string b) rfl
 go_enter Tryz.func60,Tryz.ntmps60
 go_wp2_with (first|(go_at_call 54;rw [<-hW2];clear hW2;refine(let54 n _).mono ?_;rintro e w54 ⟨rfl,hw54⟩;rw [hw54];clear hw54))
 go_ret2
 have EB:=(((((Ext.refl W2).but (b:=bk)).set 0 (.int .u32 n)).set 1 (.string a)).set 2 (.string b))
 have SS:=(slot_setCell (j:=2) (u:=.string b) (slot_setCell (j:=1) (u:=.string a) (slot_setCell (j:=0) (u:=.int .u32 n) HB.out)))
 refine⟨rfl,EB.ext XW.out HBK.out,?_⟩
 exact encNotification _ n a b _ (zc SS 0 (.int .u32 n) rfl) (zc SS 1 (.string a) rfl) (zc SS 2 (.string b) rfl) hn.1 hn.2 (by omega) (by omega) R HR
theorem ans53 (a b:ByteArray)(n:Int)(v4 v5 v6 v7 v8 v9 v10 v11 v12:Value)(w w1:World)(bk:Nat)(hs:a.size<=200)(hsb:b.size<=200)(hx:Ext w w1)(hbk:w.heap.size<=bk)(hblk:w1.heap[bk]?=some (.cells #[.string ⟨#[]⟩,.string ⟨#[]⟩] 229 (0,0)))(R:List Int)(HR:Hid (R=msgB 83 (txt a++txt b))):
 Calls Tryz.prog 60 #[.iface 228 (.pointer (some ⟨bk,0,none⟩)),.agg #[.int .i64 53,.string a,.string b,.int .u32 n,v4,v5,v6,v7,v8,v9,v10,v11,v12],.bool true] w1 (Ans 228 327 bk w R):=by
 have n185:=no185 228
 have n189:=no189 228
 have n191:=no191 228
 have n194:=no194 228
 have n196:=no196 228
 have n198:=no198 228
 have n200:=no200 228
 have n203:=no203 228
 have n206:=no206 228
 have n208:=no208 228
 have n210:=no210 228
 have n213:=no213 228
 have n217:=no217 228
 have n219:=no219 228
 have n222:=no222 228
 have n225:=no225 228
 have y228:=yes228
 obtain⟨W2,hW2⟩:∃W2,W2=w1.alloc (.cells #[.int .i64 53,.string a,.string b,.int .u32 n,v4,v5,v6,v7,v8,v9,v10,v11,v12] 31):=⟨_,rfl⟩
 have X1:Hid (Ext w1 W2):=zh (by rw [hW2];exact ext_alloc w1 _)
 have XW:Hid (Ext w W2):=zh (hx.trans X1.out)
 have HB:Hid (W2.heap[bk]?=some (.cells #[.string ⟨#[]⟩,.string ⟨#[]⟩] 229 (0,0))):=zh ((X1.out.block _ (zl hblk)).trans hblk)
 have HO:Hid (W2.heap[w1.heap.size]?=some (.cells #[.int .i64 53,.string a,.string b,.int .u32 n,v4,v5,v6,v7,v8,v9,v10,v11,v12] 31 (0,0))):=zh (by rw [hW2];exact heap_alloc_new _ _)
 have HBK:=zh hbk
 clear hx hbk hblk
 have hz0:=zc HB.out 0 (.string ⟨#[]⟩) rfl
 have hy0:=free_slot HB.out 0
 have hz1:=zc HB.out 1 (.string ⟨#[]⟩) rfl
 have hy1:=free_slot HB.out 1
 have hb3:=zc HO.out 3 (.int .u32 n) rfl
 have hb1:=zc HO.out 1 (.string a) rfl
 have hb2:=zc HO.out 2 (.string b) rfl
 go_enter Tryz.func60,Tryz.ntmps60
 go_wp2_with (first|(go_at_call 54;rw [<-hW2];clear hW2;refine(let54 n _).mono ?_;rintro e w54 ⟨rfl,hw54⟩;rw [hw54];clear hw54))
 go_ret2
 have EB:=((((Ext.refl W2).but (b:=bk)).set 0 (.string a)).set 1 (.string b))
 have SS:=(slot_setCell (j:=1) (u:=.string b) (slot_setCell (j:=0) (u:=.string a) HB.out))
 refine⟨rfl,EB.ext XW.out HBK.out,?_⟩
 exact encParameterStatus _ a b _ (zc SS 0 (.string a) rfl) (zc SS 1 (.string b) rfl) (by omega) (by omega) R HR
theorem ans56 (a b:ByteArray)(n:Int)(v4 v5 v6 v7 v8 v9 v10 v11 v12:Value)(w w1:World)(bk:Nat)(hsm:n < 256)(hx:Ext w w1)(hbk:w.heap.size<=bk)(hblk:w1.heap[bk]?=some (.cells #[.int .u8 0] 232 (0,0)))(R:List Int)(HR:Hid (R=msgB 90 ([n % 256]))):
 Calls Tryz.prog 60 #[.iface 230 (.pointer (some ⟨bk,0,none⟩)),.agg #[.int .i64 56,.string a,.string b,.int .u32 n,v4,v5,v6,v7,v8,v9,v10,v11,v12],.bool true] w1 (Ans 230 330 bk w R):=by
 have n185:=no185 230
 have n189:=no189 230
 have n191:=no191 230
 have n194:=no194 230
 have n196:=no196 230
 have n198:=no198 230
 have n200:=no200 230
 have n203:=no203 230
 have n206:=no206 230
 have n208:=no208 230
 have n210:=no210 230
 have n213:=no213 230
 have n217:=no217 230
 have n219:=no219 230
 have n222:=no222 230
 have n225:=no225 230
 have n228:=no228 230
 have y230:=yes230
 obtain⟨W2,hW2⟩:∃W2,W2=w1.alloc (.cells #[.int .i64 56,.string a,.string b,.int .u32 n,v4,v5,v6,v7,v8,v9,v10,v11,v12] 31):=⟨_,rfl⟩
 have X1:Hid (Ext w1 W2):=zh (by rw [hW2];exact ext_alloc w1 _)
 have XW:Hid (Ext w W2):=zh (hx.trans X1.out)
 have HB:Hid (W2.heap[bk]?=some (.cells #[.int .u8 0] 232 (0,0))):=zh ((X1.out.block _ (zl hblk)).trans hblk)
 have HO:Hid (W2.heap[w1.heap.size]?=some (.cells #[.int .i64 56,.string a,.string b,.int .u32 n,v4,v5,v6,v7,v8,v9,v10,v11,v12] 31 (0,0))):=zh (by rw [hW2];exact heap_alloc_new _ _)
 have HBK:=zh hbk
 clear hx hbk hblk
 have hz0:=zc HB.out 0 (.int .u8 0) rfl
 have hy0:=free_slot HB.out 0
 have hb3:=zc HO.out 3 (.int .u32 n) rfl
 have hdec:decide (n < 256)=true:=decide_eq_true hsm
 go_enter Tryz.func60,Tryz.ntmps60
 go_wp2_with (first|(go_at_call 54;rw [<-hW2];clear hW2;refine(let54 n _).mono ?_;rintro e w54 ⟨rfl,hw54⟩;rw [hw54];clear hw54))
 go_ret2
 have EB:=(((Ext.refl W2).but (b:=bk)).set 0 (.int .u8 (n % 256)))
 have SS:=(slot_setCell (j:=0) (u:=.int .u8 (n % 256)) HB.out)
 refine⟨rfl,EB.ext XW.out HBK.out,?_⟩
 exact encReady _ (n % 256) _ (zc SS 0 (.int .u8 (n % 256)) rfl) R HR
theorem ans41 (a b:ByteArray)(n:Int)(v4 v5 v6 v7 v8 v9 v10 v11 v12:Value)(w w1:World)(bk:Nat)(hs:a.size<=200)(hx:Ext w w1)(hbk:w.heap.size<=bk)(hblk:w1.heap[bk]?=some (.cells #[.slice none 0 0] 202 (0,0)))(R:List Int)(HR:Hid (R=msgB 67 (sby a++ [0]))):
 Calls Tryz.prog 60 #[.iface 200 (.pointer (some ⟨bk,0,none⟩)),.agg #[.int .i64 41,.string a,.string b,.int .u32 n,v4,v5,v6,v7,v8,v9,v10,v11,v12],.bool true] w1 (Ans 200 278 bk w R):=by
 have n185:=no185 200
 have n189:=no189 200
 have n191:=no191 200
 have n194:=no194 200
 have n196:=no196 200
 have n198:=no198 200
 have y200:=yes200
 obtain⟨W2,hW2⟩:∃W2,W2=w1.alloc (.cells #[.int .i64 41,.string a,.string b,.int .u32 n,v4,v5,v6,v7,v8,v9,v10,v11,v12] 31):=⟨_,rfl⟩
 have X1:Hid (Ext w1 W2):=zh (by rw [hW2];exact ext_alloc w1 _)
 have XW:Hid (Ext w W2):=zh (hx.trans X1.out)
 have HB:Hid (W2.heap[bk]?=some (.cells #[.slice none 0 0] 202 (0,0))):=zh ((X1.out.block _ (zl hblk)).trans hblk)
 have HO:Hid (W2.heap[w1.heap.size]?=some (.cells #[.int .i64 41,.string a,.string b,.int .u32 n,v4,v5,v6,v7,v8,v9,v10,v11,v12] 31 (0,0))):=zh (by rw [hW2];exact heap_alloc_new _ _)
 have HBK:=zh hbk
 clear hx hbk hblk
 have hz0:=zc HB.out 0 (.slice none 0 0) rfl
 have hy0:=free_slot HB.out 0
 have hb3:=zc HO.out 3 (.int .u32 n) rfl
 have hb1:=zc HO.out 1 (.string a) rfl
 have hcv:=run_bytes a
 have BC:=zh (((ext_bytes W2 a).block _ (zl HB.out)).trans HB.out)
 have hzc:=zc BC.out 0 (.slice none 0 0) rfl
 have hyc:=free_slot BC.out 0
 go_enter Tryz.func60,Tryz.ntmps60
 go_wp2_with (first|(go_at_call 54;rw [<-hW2];clear hW2;refine(let54 n _).mono ?_;rintro e w54 ⟨rfl,hw54⟩;rw [hw54];clear hw54))
 go_ret2
 have EB:=(((ext_bytes W2 a).but (b:=bk)).set 0 (.slice (some ⟨W2.heap.size,0,none⟩) a.size (grownCap W2 a.size 0 5)))
 have SS:=(slot_setCell (j:=0) (u:=.slice (some ⟨W2.heap.size,0,none⟩) a.size (grownCap W2 a.size 0 5)) (((ext_bytes W2 a).block _ (zl HB.out)).trans HB.out))
 refine⟨rfl,EB.ext XW.out HBK.out,?_⟩
 have KK:=(str_keeps W2 a (by unfold maxLen;omega)).at_ bk _ (zl HB.out) (((Ext.refl (Lib.bytesWorld W2 5 a)).but (b:=bk)).set 0 (.slice (some ⟨W2.heap.size,0,none⟩) a.size (grownCap W2 a.size 0 5)))
 exact encCommandComplete _ (some ⟨W2.heap.size,0,none⟩) (grownCap W2 a.size 0 5) (sby a) _ (by rw [sby_length];exact(zc SS 0 (.slice (some ⟨W2.heap.size,0,none⟩) a.size (grownCap W2 a.size 0 5)) rfl)) (by rw [sby_length];exact KK) (by rw [sby_length];omega) R HR
open Go.RowKit Og
theorem wrapI16 (x:Int):IntKind.i16.wrap x=(x+32768) % 65536 - 32768:=by unfold IntKind.wrap;simp [IntKind.bits,IntKind.signed];omega
theorem sl_at (A:Option Addr)(N c p:Nat)(hp:p<=N)(hN:N<=c)(hc:c<=maxLen):∃A' c',(∀(i:Int) (w:World),i=(p:Int)->(Instr.slice 26 (.slice A N c) (some (.int .i64 i)) none none).run Tryz.prog w=.ok (.slice A' (N - p) c') w)/\∀(b:Nat) (w:World) (xs:List Int),RdN b w (.slice A N c) xs->RdN b w (.slice A' (N - p) c') (xs.drop p):=by
 obtain⟨A',c',h1,h2⟩:=sl_from A N c p (p:Int) rfl hp hN hc
 exact⟨A',c',fun i w hi=>by subst hi;exact h1 w,h2⟩
structure Fst (b f:Nat) (wd w:World) (v:Value) (k:Nat) (ys:List Value) (cs:Array Value):Prop where
 bel:ExtBut b wd w
 blk:w.heap[b]?=some (.cells #[v] 236 (0,0))
 fd:w.heap[f]?=some (.cells cs 249 (0,0))
 own:Own f wd w 249 7 v k ys
 lo:wd.heap.size<=f
 hi:b < wd.heap.size
theorem Fst.ext {b f:Nat} {wd w w2:World} {v:Value} {k:Nat} {ys:List Value} {cs:Array Value} (h:Fst b f wd w v k ys cs)(hx:Ext w w2):Fst b f wd w2 v k ys cs:=
 ⟨h.bel.trans hx.but,(hx.block b (zl h.blk)).trans h.blk,(hx.block f (zl h.fd)).trans h.fd,h.own.ext hx,h.lo,h.hi⟩
theorem Fst.set {b f:Nat} {wd w:World} {v:Value} {k:Nat} {ys:List Value} {cs:Array Value} (h:Fst b f wd w v k ys cs)(j:Nat)(u:Value):Fst b f wd (w.setCell ⟨f,j,none⟩ u) v k ys (cs.setIfInBounds j u):=by
 have hoth:∀q,q≠f->(w.setCell ⟨f,j,none⟩ u).heap[q]?=w.heap[q]?:=fun q hq=>heap_setCell_other w ⟨f,j,none⟩ q _ hq
 have h1:=h.lo
 have h2:=h.hi
 exact⟨⟨h.bel.os,h.bel.tape,h.bel.output,by simpa [World.setCell]using h.bel.size,fun q hq hqb=>(hoth q (by omega)).trans (h.bel.block q hq hqb)⟩,(hoth b (by omega)).trans h.blk,slot_setCell h.fd,h.own.keep fun g _ hne _=>hoth g hne,h1,h2⟩
theorem drop_step {xs B T:List Int} {a m:Nat} (h:xs.drop a=B++T)(hB:B.length=m):xs.drop (a+m)=T:=by
 rw [<-List.drop_drop,h];exact List.drop_left' hB
structure RJ (b f:Nat) (wd W0:World) (v:Value) (k:Nat) (ys:List Value) (cs:Array Value) (L:Nat->Bool) (vs:Nat->Value) (w:World):Prop where
 A:L 6=false->Ext W0 w
 X:ExtBut b wd w
 C:L 7=false->Own f wd w 249 7 v k ys
 D:L 6=true->L 7=false->vs 6=.slice (some ⟨slB (vs 6),0,none⟩) 1 1/\w.heap[slB (vs 6)]?=some (.cells cs 249 (0,0))
 E:L 7=true->Own f wd w 249 7 (vs 7) (k+1) (ys++cs.toList)
 F:L 10=false->w.heap[b]?=some (.cells #[v] 236 (0,0))
 G:L 10=true->w.heap[b]?=some (.cells #[vs 7] 236 (0,0))
 S:f < w.heap.size
 M1:L 7=true->L 6=true
 M2:L 10=true->L 7=true
section
variable {b f : Nat} {wd W0 w w2 : World} {v : Value} {k : Nat} {ys : List Value} {cs : Array Value} {L : Nat → Bool} {vs : Nat → Value}
theorem RJ.start (h:Fst b f wd W0 v k ys cs):RJ b f wd W0 v k ys cs (fun _=>false) vs W0.drew:=
 ⟨fun _=>(Ext.refl W0).drew,h.bel.trans (Ext.refl W0).drew.but,fun _=>h.own.ext (Ext.refl W0).drew,nofun,nofun,fun _=>h.blk,nofun,zl h.fd,nofun,nofun⟩
theorem RJ.keep (h:RJ b f wd W0 v k ys cs L vs w)(i:Nat)(u:Value)(h6:6≠i)(h7:7≠i)(h10:10≠i):RJ b f wd W0 v k ys cs (updB L i) (upd vs i u) w:=by
 obtain⟨A,X,C,D,E,F,G,S,M1,M2⟩:=h
 constructor <;> (try simp only [updB,upd,h6,h7,h10,if_false,beq_eq_false_iff_ne.2,Bool.or_false,ne_eq,not_false_eq_true]) <;> assumption
theorem RJ.low (h:RJ b f wd W0 v k ys cs L vs w)(e:L 7=false):L 10=false:=by
 cases e2:L 10 with
 | false=>rfl
 | true=>rw [h.M2 e2]at e;cases e
theorem RJ.step6 (h:RJ b f wd W0 v k ys cs L vs w)(e7:L 7=false):RJ b f wd W0 v k ys cs (updB L 6) (upd vs 6 (.slice (some ⟨w.heap.size,0,none⟩) 1 1)) (w.alloc (.cells cs 249)):=by
 have e10:=h.low e7
 have hF:=h.F e10
 have hx:=ext_alloc w (.cells cs 249)
 have hX:=h.X.trans hx.but
 constructor <;> (try simp only [updB,upd,e7,e10,Nat.reduceEqDiff,if_false,if_true,Nat.reduceBEq,Bool.or_false,Bool.or_true,Bool.false_eq_true,Bool.true_eq_false,false_implies,true_implies])
 ·exact hX
 ·exact(h.C e7).ext hx
 ·exact⟨rfl,heap_alloc_new _ _⟩
 ·exact(hx.block b (zl hF)).trans hF
 ·exact Nat.lt_of_lt_of_le h.S hx.size
theorem RJ.step7 (h:RJ b f wd W0 v k ys cs L vs w)(hb:b < wd.heap.size)(hlo:wd.heap.size<=f)(e6:L 6=true)(e7:L 7=false)(v2:Value)(hr:Row 249 7 (But w v) w w2 v2 (k+1) (ys++cs.toList)):RJ b f wd W0 v k ys cs (updB L 7) (upd vs 7 v2) w2:=by
 have e10:=h.low e7
 have hF:=h.F e10
 have hC:=h.C e7
 have hS:=h.S
 have hX:=h.X
 have hbn:∀q,q < wd.heap.size->But w v q:=fun q hq=>⟨Nat.lt_of_lt_of_le hq hX.size,fun e=>by have:=(hC.off q e).1;omega⟩
 have hfn:But w v f:=⟨hS,fun e=>(hC.off f e).2 rfl⟩
 have hsz:=hr.lt f hfn
 constructor <;> (try simp only [updB,upd,e6,e10,Nat.reduceEqDiff,if_false,if_true,Nat.reduceBEq,Bool.or_false,Bool.or_true,Bool.false_eq_true,Bool.true_eq_false,false_implies,true_implies])
 ·exact⟨hr.os.trans hX.os,hr.tape.trans hX.tape,hr.output.trans hX.output,by omega,fun q hq hqb=>(hr.kept q (hbn q hq)).trans (hX.block q hq hqb)⟩
 ·exact hC.step hr hS hX.size
 ·exact(hr.kept b (hbn b hb)).trans hF
 ·exact hr.lt f hfn
theorem RJ.step10 (h:RJ b f wd W0 v k ys cs L vs w)(hb:b < wd.heap.size)(e7:L 7=true)(e10:L 10=false)(u z:Value)(hz:vs 7=z):RJ b f wd W0 v k ys cs (updB L 10) (upd vs 10 u) (w.setCell ⟨b,0,none⟩ z):=by
 subst hz
 have e6:=h.M1 e7
 have hF:=h.F e10
 have hE:=h.E e7
 have hoth:∀q,q≠b->(w.setCell ⟨b,0,none⟩ (vs 7)).heap[q]?=w.heap[q]?:=fun q hq=>heap_setCell_other w ⟨b,0,none⟩ q _ hq
 constructor <;> (try simp only [updB,upd,e6,e7,Nat.reduceEqDiff,if_false,if_true,Nat.reduceBEq,Bool.or_false,Bool.or_true,Bool.false_eq_true,Bool.true_eq_false,false_implies,true_implies])
 ·exact h.X.set 0 _
 ·exact hE.keep fun g hg _ _=>hoth g (by omega)
 ·exact slot_setCell hF
 ·have:=h.S;simpa [World.setCell]using this
end
theorem sfB_parts (x:Sf)(T:List Int):sfB x++T=sby x.name++0 :: ((numB x.tab 4++(numB x.col 2++(numB x.typ 4++(numB x.siz 2++(numB x.mdf 4++numB x.fmt 2)))))++T):=by
 simp [sfB,txt,List.append_assoc]
end Go.Proofs.YtdenjanihikolaaGreatDoor
