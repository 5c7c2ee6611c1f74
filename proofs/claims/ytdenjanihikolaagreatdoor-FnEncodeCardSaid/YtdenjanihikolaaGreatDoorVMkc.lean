/- Messages of the back end, made: those that go in one order. -/
import Derived.Test.YtdenjanihikolaaGreatDoorVMka
import Derived.Test.YtdenjanihikolaaGreatDoorVEnca
import Derived.Test.YtdenjanihikolaaGreatDoorVEncc
namespace Go.Proofs.YtdenjanihikolaaGreatDoor
open Go.RowKit
set_option linter.unusedVariables false
set_option linter.unusedSimpArgs false

set_option maxRecDepth 100000 in
set_option maxHeartbeats 1000000 in
theorem ans34 (a b : ByteArray) (n : Int) (v4 v5 v6 v7 v8 vd v10 v11 v12 : Value) (d : List Int) (w w1 : World) (bk : Nat) (HD : Hid (RdB w vd d)) (hl : d.length ≤ 500) (hx : Ext w w1) (hbk : w.heap.size ≤ bk) (hblk : w1.heap[bk]? = some (.cells #[.slice none 0 0] 190 (0, 0))) (R : List Int) (HR : Hid (R = msgB 82 (b32 8 ++ d))) :
    Calls Tryz.prog 60 #[.iface 189 (.pointer (some ⟨bk, 0, none⟩)), .agg #[.int .i64 34, .string a, .string b, .int .u32 n, v4, v5, v6, v7, v8, vd, v10, v11, v12], .bool true] w1 (Ans 189 263 bk w R) := by
  have n185 := no185 189 (by decide)
  have y189 := yes189
  obtain ⟨W2, hW2⟩ : ∃ W2, W2 = w1.alloc (.cells #[.int .i64 34, .string a, .string b, .int .u32 n, v4, v5, v6, v7, v8, vd, v10, v11, v12] 31) := ⟨_, rfl⟩
  have X1 : Hid (Ext w1 W2) := Lib.hid (by rw [hW2]; exact ext_alloc w1 _)
  have XW : Hid (Ext w W2) := Lib.hid (hx.trans X1.out)
  have HB : Hid (W2.heap[bk]? = some (.cells #[.slice none 0 0] 190 (0, 0))) := Lib.hid ((X1.out.block _ (lt_of_block hblk)).trans hblk)
  have HO : Hid (W2.heap[w1.heap.size]? = some (.cells #[.int .i64 34, .string a, .string b, .int .u32 n, v4, v5, v6, v7, v8, vd, v10, v11, v12] 31 (0, 0))) := Lib.hid (by rw [hW2]; exact heap_alloc_new _ _)
  have HBK := Lib.hid hbk
  clear hx hbk hblk
  have hz0 := cell_slot HB.out 0 (.slice none 0 0) rfl
  have hy0 := free_slot HB.out 0
  have hb3 := cell_slot HO.out 3 (.int .u32 n) rfl
  have hb9 := cell_slot HO.out 9 (vd) rfl
  go_enter Tryz.func60, Tryz.ntmps60
  go_wp2_with (first | (go_at_call 54; rw [← hW2]; clear hW2; refine (let54 n _).mono ?_; rintro e w54 ⟨rfl, hw54⟩; rw [hw54]; clear hw54) | (go_at_call 47; refine (copiedK _ d _ (HD.out.ext XW.out) (by omega)).mono ?_; rintro e w2 ⟨A2, c2, rfl, hx2, hk2⟩; have HX2 := Lib.hid hx2; have HK2 := Lib.hid hk2; clear hx2 hk2; have BB := Lib.hid ((HX2.out.block _ (lt_of_block HB.out)).trans HB.out); clear hz0 hy0; have hz0 := cell_slot BB.out 0 (.slice none 0 0) rfl; have hy0 := free_slot BB.out 0))
  go_ret2
  have EB := ((HX2.out.but (b := bk)).set 0 (.slice A2 d.length c2))
  have SS := (slot_setCell (j := 0) (u := .slice A2 d.length c2) BB.out)
  refine ⟨rfl, EB.ext XW.out HBK.out, ?_⟩
  have KK := HK2.out.at_ bk _ (lt_of_block HB.out) (((Ext.refl w2).but (b := bk)).set 0 (.slice A2 d.length c2))
  exact encAuthGSSContinue _ A2 c2 d _ (cell_slot SS 0 (.slice A2 d.length c2) rfl) KK (by omega) R HR

set_option maxRecDepth 100000 in
set_option maxHeartbeats 1000000 in
theorem ans36 (a b : ByteArray) (n : Int) (v4 v5 v6 v7 v8 vd v10 v11 v12 : Value) (d : List Int) (w w1 : World) (bk : Nat) (HD : Hid (RdB w vd d)) (hl : d.length ≤ 500) (hx : Ext w w1) (hbk : w.heap.size ≤ bk) (hblk : w1.heap[bk]? = some (.cells #[.slice none 0 0] 195 (0, 0))) (R : List Int) (HR : Hid (R = msgB 82 (b32 11 ++ d))) :
    Calls Tryz.prog 60 #[.iface 194 (.pointer (some ⟨bk, 0, none⟩)), .agg #[.int .i64 36, .string a, .string b, .int .u32 n, v4, v5, v6, v7, v8, vd, v10, v11, v12], .bool true] w1 (Ans 194 269 bk w R) := by
  have n185 := no185 194 (by decide)
  have n189 := no189 194 (by decide)
  have n191 := no191 194 (by decide)
  have y194 := yes194
  obtain ⟨W2, hW2⟩ : ∃ W2, W2 = w1.alloc (.cells #[.int .i64 36, .string a, .string b, .int .u32 n, v4, v5, v6, v7, v8, vd, v10, v11, v12] 31) := ⟨_, rfl⟩
  have X1 : Hid (Ext w1 W2) := Lib.hid (by rw [hW2]; exact ext_alloc w1 _)
  have XW : Hid (Ext w W2) := Lib.hid (hx.trans X1.out)
  have HB : Hid (W2.heap[bk]? = some (.cells #[.slice none 0 0] 195 (0, 0))) := Lib.hid ((X1.out.block _ (lt_of_block hblk)).trans hblk)
  have HO : Hid (W2.heap[w1.heap.size]? = some (.cells #[.int .i64 36, .string a, .string b, .int .u32 n, v4, v5, v6, v7, v8, vd, v10, v11, v12] 31 (0, 0))) := Lib.hid (by rw [hW2]; exact heap_alloc_new _ _)
  have HBK := Lib.hid hbk
  clear hx hbk hblk
  have hz0 := cell_slot HB.out 0 (.slice none 0 0) rfl
  have hy0 := free_slot HB.out 0
  have hb3 := cell_slot HO.out 3 (.int .u32 n) rfl
  have hb9 := cell_slot HO.out 9 (vd) rfl
  go_enter Tryz.func60, Tryz.ntmps60
  go_wp2_with (first | (go_at_call 54; rw [← hW2]; clear hW2; refine (let54 n _).mono ?_; rintro e w54 ⟨rfl, hw54⟩; rw [hw54]; clear hw54) | (go_at_call 47; refine (copiedK _ d _ (HD.out.ext XW.out) (by omega)).mono ?_; rintro e w2 ⟨A2, c2, rfl, hx2, hk2⟩; have HX2 := Lib.hid hx2; have HK2 := Lib.hid hk2; clear hx2 hk2; have BB := Lib.hid ((HX2.out.block _ (lt_of_block HB.out)).trans HB.out); clear hz0 hy0; have hz0 := cell_slot BB.out 0 (.slice none 0 0) rfl; have hy0 := free_slot BB.out 0))
  go_ret2
  have EB := ((HX2.out.but (b := bk)).set 0 (.slice A2 d.length c2))
  have SS := (slot_setCell (j := 0) (u := .slice A2 d.length c2) BB.out)
  refine ⟨rfl, EB.ext XW.out HBK.out, ?_⟩
  have KK := HK2.out.at_ bk _ (lt_of_block HB.out) (((Ext.refl w2).but (b := bk)).set 0 (.slice A2 d.length c2))
  exact encAuthSASLContinue _ A2 c2 d _ (cell_slot SS 0 (.slice A2 d.length c2) rfl) KK (by omega) R HR

set_option maxRecDepth 100000 in
set_option maxHeartbeats 1000000 in
theorem ans37 (a b : ByteArray) (n : Int) (v4 v5 v6 v7 v8 vd v10 v11 v12 : Value) (d : List Int) (w w1 : World) (bk : Nat) (HD : Hid (RdB w vd d)) (hl : d.length ≤ 500) (hx : Ext w w1) (hbk : w.heap.size ≤ bk) (hblk : w1.heap[bk]? = some (.cells #[.slice none 0 0] 197 (0, 0))) (R : List Int) (HR : Hid (R = msgB 82 (b32 12 ++ d))) :
    Calls Tryz.prog 60 #[.iface 196 (.pointer (some ⟨bk, 0, none⟩)), .agg #[.int .i64 37, .string a, .string b, .int .u32 n, v4, v5, v6, v7, v8, vd, v10, v11, v12], .bool true] w1 (Ans 196 272 bk w R) := by
  have n185 := no185 196 (by decide)
  have n189 := no189 196 (by decide)
  have n191 := no191 196 (by decide)
  have n194 := no194 196 (by decide)
  have y196 := yes196
  obtain ⟨W2, hW2⟩ : ∃ W2, W2 = w1.alloc (.cells #[.int .i64 37, .string a, .string b, .int .u32 n, v4, v5, v6, v7, v8, vd, v10, v11, v12] 31) := ⟨_, rfl⟩
  have X1 : Hid (Ext w1 W2) := Lib.hid (by rw [hW2]; exact ext_alloc w1 _)
  have XW : Hid (Ext w W2) := Lib.hid (hx.trans X1.out)
  have HB : Hid (W2.heap[bk]? = some (.cells #[.slice none 0 0] 197 (0, 0))) := Lib.hid ((X1.out.block _ (lt_of_block hblk)).trans hblk)
  have HO : Hid (W2.heap[w1.heap.size]? = some (.cells #[.int .i64 37, .string a, .string b, .int .u32 n, v4, v5, v6, v7, v8, vd, v10, v11, v12] 31 (0, 0))) := Lib.hid (by rw [hW2]; exact heap_alloc_new _ _)
  have HBK := Lib.hid hbk
  clear hx hbk hblk
  have hz0 := cell_slot HB.out 0 (.slice none 0 0) rfl
  have hy0 := free_slot HB.out 0
  have hb3 := cell_slot HO.out 3 (.int .u32 n) rfl
  have hb9 := cell_slot HO.out 9 (vd) rfl
  go_enter Tryz.func60, Tryz.ntmps60
  go_wp2_with (first | (go_at_call 54; rw [← hW2]; clear hW2; refine (let54 n _).mono ?_; rintro e w54 ⟨rfl, hw54⟩; rw [hw54]; clear hw54) | (go_at_call 47; refine (copiedK _ d _ (HD.out.ext XW.out) (by omega)).mono ?_; rintro e w2 ⟨A2, c2, rfl, hx2, hk2⟩; have HX2 := Lib.hid hx2; have HK2 := Lib.hid hk2; clear hx2 hk2; have BB := Lib.hid ((HX2.out.block _ (lt_of_block HB.out)).trans HB.out); clear hz0 hy0; have hz0 := cell_slot BB.out 0 (.slice none 0 0) rfl; have hy0 := free_slot BB.out 0))
  go_ret2
  have EB := ((HX2.out.but (b := bk)).set 0 (.slice A2 d.length c2))
  have SS := (slot_setCell (j := 0) (u := .slice A2 d.length c2) BB.out)
  refine ⟨rfl, EB.ext XW.out HBK.out, ?_⟩
  have KK := HK2.out.at_ bk _ (lt_of_block HB.out) (((Ext.refl w2).but (b := bk)).set 0 (.slice A2 d.length c2))
  exact encAuthSASLFinal _ A2 c2 d _ (cell_slot SS 0 (.slice A2 d.length c2) rfl) KK (by omega) R HR

set_option maxRecDepth 100000 in
set_option maxHeartbeats 1000000 in
theorem ans51 (a b : ByteArray) (n : Int) (v4 v5 v6 v7 v8 v9 v10 v11 v12 : Value) (w w1 : World) (bk : Nat) (hn : 0 ≤ n ∧ n < 4294967296) (hs : a.size ≤ 200) (hsb : b.size ≤ 200) (hx : Ext w w1) (hbk : w.heap.size ≤ bk) (hblk : w1.heap[bk]? = some (.cells #[.int .u32 0, .string ⟨#[]⟩, .string ⟨#[]⟩] 224 (0, 0))) (R : List Int) (HR : Hid (R = msgB 65 (b32 n ++ txt a ++ txt b))) :
    Calls Tryz.prog 60 #[.iface 222 (.pointer (some ⟨bk, 0, none⟩)), .agg #[.int .i64 51, .string a, .string b, .int .u32 n, v4, v5, v6, v7, v8, v9, v10, v11, v12], .bool true] w1 (Ans 222 321 bk w R) := by
  have n185 := no185 222 (by decide)
  have n189 := no189 222 (by decide)
  have n191 := no191 222 (by decide)
  have n194 := no194 222 (by decide)
  have n196 := no196 222 (by decide)
  have n198 := no198 222 (by decide)
  have n200 := no200 222 (by decide)
  have n203 := no203 222 (by decide)
  have n206 := no206 222 (by decide)
  have n208 := no208 222 (by decide)
  have n210 := no210 222 (by decide)
  have n213 := no213 222 (by decide)
  have n217 := no217 222 (by decide)
  have n219 := no219 222 (by decide)
  have y222 := yes222
  obtain ⟨W2, hW2⟩ : ∃ W2, W2 = w1.alloc (.cells #[.int .i64 51, .string a, .string b, .int .u32 n, v4, v5, v6, v7, v8, v9, v10, v11, v12] 31) := ⟨_, rfl⟩
  have X1 : Hid (Ext w1 W2) := Lib.hid (by rw [hW2]; exact ext_alloc w1 _)
  have XW : Hid (Ext w W2) := Lib.hid (hx.trans X1.out)
  have HB : Hid (W2.heap[bk]? = some (.cells #[.int .u32 0, .string ⟨#[]⟩, .string ⟨#[]⟩] 224 (0, 0))) := Lib.hid ((X1.out.block _ (lt_of_block hblk)).trans hblk)
  have HO : Hid (W2.heap[w1.heap.size]? = some (.cells #[.int .i64 51, .string a, .string b, .int .u32 n, v4, v5, v6, v7, v8, v9, v10, v11, v12] 31 (0, 0))) := Lib.hid (by rw [hW2]; exact heap_alloc_new _ _)
  have HBK := Lib.hid hbk
  clear hx hbk hblk
  have hz0 := cell_slot HB.out 0 (.int .u32 0) rfl
  have hy0 := free_slot HB.out 0
  have hz1 := cell_slot HB.out 1 (.string ⟨#[]⟩) rfl
  have hy1 := free_slot HB.out 1
  have hz2 := cell_slot HB.out 2 (.string ⟨#[]⟩) rfl
  have hy2 := free_slot HB.out 2
  have hb3 := cell_slot HO.out 3 (.int .u32 n) rfl
  have hb1 := cell_slot HO.out 1 (.string a) rfl
  have hb2 := cell_slot HO.out 2 (.string b) rfl
  go_enter Tryz.func60, Tryz.ntmps60
  go_wp2_with (first | (go_at_call 54; rw [← hW2]; clear hW2; refine (let54 n _).mono ?_; rintro e w54 ⟨rfl, hw54⟩; rw [hw54]; clear hw54))
  go_ret2
  have EB := (((((Ext.refl W2).but (b := bk)).set 0 (.int .u32 n)).set 1 (.string a)).set 2 (.string b))
  have SS := (slot_setCell (j := 2) (u := .string b) (slot_setCell (j := 1) (u := .string a) (slot_setCell (j := 0) (u := .int .u32 n) HB.out)))
  refine ⟨rfl, EB.ext XW.out HBK.out, ?_⟩
  exact encNotification _ n a b _ (cell_slot SS 0 (.int .u32 n) rfl) (cell_slot SS 1 (.string a) rfl) (cell_slot SS 2 (.string b) rfl) hn.1 hn.2 (by omega) (by omega) R HR

set_option maxRecDepth 100000 in
set_option maxHeartbeats 1000000 in
theorem ans53 (a b : ByteArray) (n : Int) (v4 v5 v6 v7 v8 v9 v10 v11 v12 : Value) (w w1 : World) (bk : Nat) (hs : a.size ≤ 200) (hsb : b.size ≤ 200) (hx : Ext w w1) (hbk : w.heap.size ≤ bk) (hblk : w1.heap[bk]? = some (.cells #[.string ⟨#[]⟩, .string ⟨#[]⟩] 229 (0, 0))) (R : List Int) (HR : Hid (R = msgB 83 (txt a ++ txt b))) :
    Calls Tryz.prog 60 #[.iface 228 (.pointer (some ⟨bk, 0, none⟩)), .agg #[.int .i64 53, .string a, .string b, .int .u32 n, v4, v5, v6, v7, v8, v9, v10, v11, v12], .bool true] w1 (Ans 228 327 bk w R) := by
  have n185 := no185 228 (by decide)
  have n189 := no189 228 (by decide)
  have n191 := no191 228 (by decide)
  have n194 := no194 228 (by decide)
  have n196 := no196 228 (by decide)
  have n198 := no198 228 (by decide)
  have n200 := no200 228 (by decide)
  have n203 := no203 228 (by decide)
  have n206 := no206 228 (by decide)
  have n208 := no208 228 (by decide)
  have n210 := no210 228 (by decide)
  have n213 := no213 228 (by decide)
  have n217 := no217 228 (by decide)
  have n219 := no219 228 (by decide)
  have n222 := no222 228 (by decide)
  have n225 := no225 228 (by decide)
  have y228 := yes228
  obtain ⟨W2, hW2⟩ : ∃ W2, W2 = w1.alloc (.cells #[.int .i64 53, .string a, .string b, .int .u32 n, v4, v5, v6, v7, v8, v9, v10, v11, v12] 31) := ⟨_, rfl⟩
  have X1 : Hid (Ext w1 W2) := Lib.hid (by rw [hW2]; exact ext_alloc w1 _)
  have XW : Hid (Ext w W2) := Lib.hid (hx.trans X1.out)
  have HB : Hid (W2.heap[bk]? = some (.cells #[.string ⟨#[]⟩, .string ⟨#[]⟩] 229 (0, 0))) := Lib.hid ((X1.out.block _ (lt_of_block hblk)).trans hblk)
  have HO : Hid (W2.heap[w1.heap.size]? = some (.cells #[.int .i64 53, .string a, .string b, .int .u32 n, v4, v5, v6, v7, v8, v9, v10, v11, v12] 31 (0, 0))) := Lib.hid (by rw [hW2]; exact heap_alloc_new _ _)
  have HBK := Lib.hid hbk
  clear hx hbk hblk
  have hz0 := cell_slot HB.out 0 (.string ⟨#[]⟩) rfl
  have hy0 := free_slot HB.out 0
  have hz1 := cell_slot HB.out 1 (.string ⟨#[]⟩) rfl
  have hy1 := free_slot HB.out 1
  have hb3 := cell_slot HO.out 3 (.int .u32 n) rfl
  have hb1 := cell_slot HO.out 1 (.string a) rfl
  have hb2 := cell_slot HO.out 2 (.string b) rfl
  go_enter Tryz.func60, Tryz.ntmps60
  go_wp2_with (first | (go_at_call 54; rw [← hW2]; clear hW2; refine (let54 n _).mono ?_; rintro e w54 ⟨rfl, hw54⟩; rw [hw54]; clear hw54))
  go_ret2
  have EB := ((((Ext.refl W2).but (b := bk)).set 0 (.string a)).set 1 (.string b))
  have SS := (slot_setCell (j := 1) (u := .string b) (slot_setCell (j := 0) (u := .string a) HB.out))
  refine ⟨rfl, EB.ext XW.out HBK.out, ?_⟩
  exact encParameterStatus _ a b _ (cell_slot SS 0 (.string a) rfl) (cell_slot SS 1 (.string b) rfl) (by omega) (by omega) R HR

set_option maxRecDepth 100000 in
set_option maxHeartbeats 1000000 in
theorem ans56 (a b : ByteArray) (n : Int) (v4 v5 v6 v7 v8 v9 v10 v11 v12 : Value) (w w1 : World) (bk : Nat) (hsm : n < 256) (hx : Ext w w1) (hbk : w.heap.size ≤ bk) (hblk : w1.heap[bk]? = some (.cells #[.int .u8 0] 232 (0, 0))) (R : List Int) (HR : Hid (R = msgB 90 ([n % 256]))) :
    Calls Tryz.prog 60 #[.iface 230 (.pointer (some ⟨bk, 0, none⟩)), .agg #[.int .i64 56, .string a, .string b, .int .u32 n, v4, v5, v6, v7, v8, v9, v10, v11, v12], .bool true] w1 (Ans 230 330 bk w R) := by
  have n185 := no185 230 (by decide)
  have n189 := no189 230 (by decide)
  have n191 := no191 230 (by decide)
  have n194 := no194 230 (by decide)
  have n196 := no196 230 (by decide)
  have n198 := no198 230 (by decide)
  have n200 := no200 230 (by decide)
  have n203 := no203 230 (by decide)
  have n206 := no206 230 (by decide)
  have n208 := no208 230 (by decide)
  have n210 := no210 230 (by decide)
  have n213 := no213 230 (by decide)
  have n217 := no217 230 (by decide)
  have n219 := no219 230 (by decide)
  have n222 := no222 230 (by decide)
  have n225 := no225 230 (by decide)
  have n228 := no228 230 (by decide)
  have y230 := yes230
  obtain ⟨W2, hW2⟩ : ∃ W2, W2 = w1.alloc (.cells #[.int .i64 56, .string a, .string b, .int .u32 n, v4, v5, v6, v7, v8, v9, v10, v11, v12] 31) := ⟨_, rfl⟩
  have X1 : Hid (Ext w1 W2) := Lib.hid (by rw [hW2]; exact ext_alloc w1 _)
  have XW : Hid (Ext w W2) := Lib.hid (hx.trans X1.out)
  have HB : Hid (W2.heap[bk]? = some (.cells #[.int .u8 0] 232 (0, 0))) := Lib.hid ((X1.out.block _ (lt_of_block hblk)).trans hblk)
  have HO : Hid (W2.heap[w1.heap.size]? = some (.cells #[.int .i64 56, .string a, .string b, .int .u32 n, v4, v5, v6, v7, v8, v9, v10, v11, v12] 31 (0, 0))) := Lib.hid (by rw [hW2]; exact heap_alloc_new _ _)
  have HBK := Lib.hid hbk
  clear hx hbk hblk
  have hz0 := cell_slot HB.out 0 (.int .u8 0) rfl
  have hy0 := free_slot HB.out 0
  have hb3 := cell_slot HO.out 3 (.int .u32 n) rfl
  have hdec : decide (n < 256) = true := decide_eq_true hsm
  go_enter Tryz.func60, Tryz.ntmps60
  go_wp2_with (first | (go_at_call 54; rw [← hW2]; clear hW2; refine (let54 n _).mono ?_; rintro e w54 ⟨rfl, hw54⟩; rw [hw54]; clear hw54))
  go_ret2
  have EB := (((Ext.refl W2).but (b := bk)).set 0 (.int .u8 (n % 256)))
  have SS := (slot_setCell (j := 0) (u := .int .u8 (n % 256)) HB.out)
  refine ⟨rfl, EB.ext XW.out HBK.out, ?_⟩
  exact encReady _ (n % 256) _ (cell_slot SS 0 (.int .u8 (n % 256)) rfl) R HR

set_option maxRecDepth 100000 in
set_option maxHeartbeats 1000000 in
theorem ans41 (a b : ByteArray) (n : Int) (v4 v5 v6 v7 v8 v9 v10 v11 v12 : Value) (w w1 : World) (bk : Nat) (hs : a.size ≤ 200) (hx : Ext w w1) (hbk : w.heap.size ≤ bk) (hblk : w1.heap[bk]? = some (.cells #[.slice none 0 0] 202 (0, 0))) (R : List Int) (HR : Hid (R = msgB 67 (sby a ++ [0]))) :
    Calls Tryz.prog 60 #[.iface 200 (.pointer (some ⟨bk, 0, none⟩)), .agg #[.int .i64 41, .string a, .string b, .int .u32 n, v4, v5, v6, v7, v8, v9, v10, v11, v12], .bool true] w1 (Ans 200 278 bk w R) := by
  have n185 := no185 200 (by decide)
  have n189 := no189 200 (by decide)
  have n191 := no191 200 (by decide)
  have n194 := no194 200 (by decide)
  have n196 := no196 200 (by decide)
  have n198 := no198 200 (by decide)
  have y200 := yes200
  obtain ⟨W2, hW2⟩ : ∃ W2, W2 = w1.alloc (.cells #[.int .i64 41, .string a, .string b, .int .u32 n, v4, v5, v6, v7, v8, v9, v10, v11, v12] 31) := ⟨_, rfl⟩
  have X1 : Hid (Ext w1 W2) := Lib.hid (by rw [hW2]; exact ext_alloc w1 _)
  have XW : Hid (Ext w W2) := Lib.hid (hx.trans X1.out)
  have HB : Hid (W2.heap[bk]? = some (.cells #[.slice none 0 0] 202 (0, 0))) := Lib.hid ((X1.out.block _ (lt_of_block hblk)).trans hblk)
  have HO : Hid (W2.heap[w1.heap.size]? = some (.cells #[.int .i64 41, .string a, .string b, .int .u32 n, v4, v5, v6, v7, v8, v9, v10, v11, v12] 31 (0, 0))) := Lib.hid (by rw [hW2]; exact heap_alloc_new _ _)
  have HBK := Lib.hid hbk
  clear hx hbk hblk
  have hz0 := cell_slot HB.out 0 (.slice none 0 0) rfl
  have hy0 := free_slot HB.out 0
  have hb3 := cell_slot HO.out 3 (.int .u32 n) rfl
  have hb1 := cell_slot HO.out 1 (.string a) rfl
  have hcv := run_bytes a
  have BC := Lib.hid (((ext_bytes W2 a).block _ (lt_of_block HB.out)).trans HB.out)
  have hzc := cell_slot BC.out 0 (.slice none 0 0) rfl
  have hyc := free_slot BC.out 0
  go_enter Tryz.func60, Tryz.ntmps60
  go_wp2_with (first | (go_at_call 54; rw [← hW2]; clear hW2; refine (let54 n _).mono ?_; rintro e w54 ⟨rfl, hw54⟩; rw [hw54]; clear hw54))
  go_ret2
  have EB := (((ext_bytes W2 a).but (b := bk)).set 0 (.slice (some ⟨W2.heap.size, 0, none⟩) a.size (grownCap W2 a.size 0 5)))
  have SS := (slot_setCell (j := 0) (u := .slice (some ⟨W2.heap.size, 0, none⟩) a.size (grownCap W2 a.size 0 5)) (((ext_bytes W2 a).block _ (lt_of_block HB.out)).trans HB.out))
  refine ⟨rfl, EB.ext XW.out HBK.out, ?_⟩
  have KK := (str_keeps W2 a (by unfold maxLen; omega)).at_ bk _ (lt_of_block HB.out) (((Ext.refl (Lib.bytesWorld W2 5 a)).but (b := bk)).set 0 (.slice (some ⟨W2.heap.size, 0, none⟩) a.size (grownCap W2 a.size 0 5)))
  exact encCommandComplete _ (some ⟨W2.heap.size, 0, none⟩) (grownCap W2 a.size 0 5) (sby a) _ (by rw [sby_length]; exact (cell_slot SS 0 (.slice (some ⟨W2.heap.size, 0, none⟩) a.size (grownCap W2 a.size 0 5)) rfl)) (by rw [sby_length]; exact KK) (by rw [sby_length]; omega) R HR

end Go.Proofs.YtdenjanihikolaaGreatDoor

