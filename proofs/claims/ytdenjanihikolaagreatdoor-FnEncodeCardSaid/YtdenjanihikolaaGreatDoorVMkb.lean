/- Messages of the front end, made: those that go in one order. -/
import Derived.Test.YtdenjanihikolaaGreatDoorVMka
import Derived.Test.YtdenjanihikolaaGreatDoorVEnca
namespace Go.Proofs.YtdenjanihikolaaGreatDoor
open Go.RowKit
set_option linter.unusedVariables false
set_option linter.unusedSimpArgs false

set_option maxRecDepth 100000 in
set_option maxHeartbeats 1000000 in
theorem made2 (a b : ByteArray) (n : Int) (v4 v5 v6 v7 v8 v9 v10 v11 v12 : Value) (w : World) (hs : a.size ≤ 200) (hsm : n < 256) (R : List Int) (HR : Hid (R = msgB 67 ([n % 256] ++ txt a))) : Calls Tryz.prog 34 #[.agg #[.int .i64 2, .string a, .string b, .int .u32 n, v4, v5, v6, v7, v8, v9, v10, v11, v12]] w (Made 111 151 w R) := by
  have n101 := no101 111 (by decide)
  have n108 := no108 111 (by decide)
  have y111 := yes111
  obtain ⟨W1, hW1⟩ : ∃ W1, W1 = (w.alloc (.cells #[.int .i64 2, .string a, .string b, .int .u32 n, v4, v5, v6, v7, v8, v9, v10, v11, v12] 31)).alloc (.cells #[.int .u8 0, .string ⟨#[]⟩] 113) := ⟨_, rfl⟩
  have XW : Hid (Ext w W1) := Lib.hid (by rw [hW1]; exact (ext_alloc w _).alloc _)
  have SW : Hid (W1.heap.size = w.heap.size + 2) := Lib.hid (by rw [hW1]; simp)
  have HB : Hid (W1.heap[w.heap.size + 1]? = some (.cells #[.int .u8 0, .string ⟨#[]⟩] 113 (0, 0))) := Lib.hid (by
    rw [hW1]
    have := heap_alloc_new (w.alloc (.cells #[.int .i64 2, .string a, .string b, .int .u32 n, v4, v5, v6, v7, v8, v9, v10, v11, v12] 31)) (.cells #[.int .u8 0, .string ⟨#[]⟩] 113)
    simpa using this)
  have HO : Hid (W1.heap[w.heap.size]? = some (.cells #[.int .i64 2, .string a, .string b, .int .u32 n, v4, v5, v6, v7, v8, v9, v10, v11, v12] 31 (0, 0))) := Lib.hid (by
    rw [hW1]
    have e1 := (ext_alloc (w.alloc (.cells #[.int .i64 2, .string a, .string b, .int .u32 n, v4, v5, v6, v7, v8, v9, v10, v11, v12] 31)) (.cells #[.int .u8 0, .string ⟨#[]⟩] 113)).block w.heap.size (by simp)
    rw [e1]; exact heap_alloc_new _ _)
  have hz0 := cell_slot HB.out 0 (.int .u8 0) rfl
  have hy0 := free_slot HB.out 0
  have hz1 := cell_slot HB.out 1 (.string ⟨#[]⟩) rfl
  have hy1 := free_slot HB.out 1
  have hb0 := cell_slot HO.out 0 (.int .i64 2) rfl
  have hb3 := cell_slot HO.out 3 (.int .u32 n) rfl
  have hb1 := cell_slot HO.out 1 (.string a) rfl
  have hdec : decide (n < 256) = true := decide_eq_true hsm
  go_enter Tryz.func34, Tryz.ntmps34
  go_wp2_with (first | (go_at_call 46; refine (emp2 _).mono ?_; rintro e w1 ⟨rfl, rfl⟩) | (go_at_call 54; rw [← hW1]; clear hW1; refine (let54 n _).mono ?_; rintro e w54 ⟨rfl, hw54⟩; rw [hw54]; clear hw54))
  go_ret2
  have EB := ((((Ext.refl W1).but (b := (w.heap.size + 1))).set 0 (.int .u8 (n % 256))).set 1 (.string a))
  have SS := (slot_setCell (j := 1) (u := .string a) (slot_setCell (j := 0) (u := .int .u8 (n % 256)) HB.out))
  refine ⟨w.heap.size + 1, rfl, EB.ext XW.out (by omega), ?_⟩
  exact encClose _ (n % 256) a _ (cell_slot SS 0 (.int .u8 (n % 256)) rfl) (cell_slot SS 1 (.string a) rfl) (by omega) R HR

set_option maxRecDepth 100000 in
set_option maxHeartbeats 1000000 in
theorem made6 (a b : ByteArray) (n : Int) (v4 v5 v6 v7 v8 v9 v10 v11 v12 : Value) (w : World) (hs : a.size ≤ 200) (hsm : n < 256) (R : List Int) (HR : Hid (R = msgB 68 ([n % 256] ++ txt a))) : Calls Tryz.prog 34 #[.agg #[.int .i64 6, .string a, .string b, .int .u32 n, v4, v5, v6, v7, v8, v9, v10, v11, v12]] w (Made 114 154 w R) := by
  have n101 := no101 114 (by decide)
  have n108 := no108 114 (by decide)
  have n111 := no111 114 (by decide)
  have y114 := yes114
  obtain ⟨W1, hW1⟩ : ∃ W1, W1 = (w.alloc (.cells #[.int .i64 6, .string a, .string b, .int .u32 n, v4, v5, v6, v7, v8, v9, v10, v11, v12] 31)).alloc (.cells #[.int .u8 0, .string ⟨#[]⟩] 115) := ⟨_, rfl⟩
  have XW : Hid (Ext w W1) := Lib.hid (by rw [hW1]; exact (ext_alloc w _).alloc _)
  have SW : Hid (W1.heap.size = w.heap.size + 2) := Lib.hid (by rw [hW1]; simp)
  have HB : Hid (W1.heap[w.heap.size + 1]? = some (.cells #[.int .u8 0, .string ⟨#[]⟩] 115 (0, 0))) := Lib.hid (by
    rw [hW1]
    have := heap_alloc_new (w.alloc (.cells #[.int .i64 6, .string a, .string b, .int .u32 n, v4, v5, v6, v7, v8, v9, v10, v11, v12] 31)) (.cells #[.int .u8 0, .string ⟨#[]⟩] 115)
    simpa using this)
  have HO : Hid (W1.heap[w.heap.size]? = some (.cells #[.int .i64 6, .string a, .string b, .int .u32 n, v4, v5, v6, v7, v8, v9, v10, v11, v12] 31 (0, 0))) := Lib.hid (by
    rw [hW1]
    have e1 := (ext_alloc (w.alloc (.cells #[.int .i64 6, .string a, .string b, .int .u32 n, v4, v5, v6, v7, v8, v9, v10, v11, v12] 31)) (.cells #[.int .u8 0, .string ⟨#[]⟩] 115)).block w.heap.size (by simp)
    rw [e1]; exact heap_alloc_new _ _)
  have hz0 := cell_slot HB.out 0 (.int .u8 0) rfl
  have hy0 := free_slot HB.out 0
  have hz1 := cell_slot HB.out 1 (.string ⟨#[]⟩) rfl
  have hy1 := free_slot HB.out 1
  have hb0 := cell_slot HO.out 0 (.int .i64 6) rfl
  have hb3 := cell_slot HO.out 3 (.int .u32 n) rfl
  have hb1 := cell_slot HO.out 1 (.string a) rfl
  have hdec : decide (n < 256) = true := decide_eq_true hsm
  go_enter Tryz.func34, Tryz.ntmps34
  go_wp2_with (first | (go_at_call 46; refine (emp6 _).mono ?_; rintro e w1 ⟨rfl, rfl⟩) | (go_at_call 54; rw [← hW1]; clear hW1; refine (let54 n _).mono ?_; rintro e w54 ⟨rfl, hw54⟩; rw [hw54]; clear hw54))
  go_ret2
  have EB := ((((Ext.refl W1).but (b := (w.heap.size + 1))).set 0 (.int .u8 (n % 256))).set 1 (.string a))
  have SS := (slot_setCell (j := 1) (u := .string a) (slot_setCell (j := 0) (u := .int .u8 (n % 256)) HB.out))
  refine ⟨w.heap.size + 1, rfl, EB.ext XW.out (by omega), ?_⟩
  exact encDescribe _ (n % 256) a _ (cell_slot SS 0 (.int .u8 (n % 256)) rfl) (cell_slot SS 1 (.string a) rfl) (by omega) R HR

set_option maxRecDepth 100000 in
set_option maxHeartbeats 1000000 in
theorem made5 (a b : ByteArray) (n : Int) (v4 v5 v6 v7 v8 v9 v10 v11 v12 : Value) (w : World) (hs : a.size ≤ 200) (R : List Int) (HR : Hid (R = msgB 102 (txt a))) : Calls Tryz.prog 34 #[.agg #[.int .i64 5, .string a, .string b, .int .u32 n, v4, v5, v6, v7, v8, v9, v10, v11, v12]] w (Made 119 160 w R) := by
  have n101 := no101 119 (by decide)
  have n108 := no108 119 (by decide)
  have n111 := no111 119 (by decide)
  have n114 := no114 119 (by decide)
  have n116 := no116 119 (by decide)
  have y119 := yes119
  obtain ⟨W1, hW1⟩ : ∃ W1, W1 = (w.alloc (.cells #[.int .i64 5, .string a, .string b, .int .u32 n, v4, v5, v6, v7, v8, v9, v10, v11, v12] 31)).alloc (.cells #[.string ⟨#[]⟩] 121) := ⟨_, rfl⟩
  have XW : Hid (Ext w W1) := Lib.hid (by rw [hW1]; exact (ext_alloc w _).alloc _)
  have SW : Hid (W1.heap.size = w.heap.size + 2) := Lib.hid (by rw [hW1]; simp)
  have HB : Hid (W1.heap[w.heap.size + 1]? = some (.cells #[.string ⟨#[]⟩] 121 (0, 0))) := Lib.hid (by
    rw [hW1]
    have := heap_alloc_new (w.alloc (.cells #[.int .i64 5, .string a, .string b, .int .u32 n, v4, v5, v6, v7, v8, v9, v10, v11, v12] 31)) (.cells #[.string ⟨#[]⟩] 121)
    simpa using this)
  have HO : Hid (W1.heap[w.heap.size]? = some (.cells #[.int .i64 5, .string a, .string b, .int .u32 n, v4, v5, v6, v7, v8, v9, v10, v11, v12] 31 (0, 0))) := Lib.hid (by
    rw [hW1]
    have e1 := (ext_alloc (w.alloc (.cells #[.int .i64 5, .string a, .string b, .int .u32 n, v4, v5, v6, v7, v8, v9, v10, v11, v12] 31)) (.cells #[.string ⟨#[]⟩] 121)).block w.heap.size (by simp)
    rw [e1]; exact heap_alloc_new _ _)
  have hz0 := cell_slot HB.out 0 (.string ⟨#[]⟩) rfl
  have hy0 := free_slot HB.out 0
  have hb0 := cell_slot HO.out 0 (.int .i64 5) rfl
  have hb3 := cell_slot HO.out 3 (.int .u32 n) rfl
  have hb1 := cell_slot HO.out 1 (.string a) rfl
  go_enter Tryz.func34, Tryz.ntmps34
  go_wp2_with (first | (go_at_call 46; refine (emp5 _).mono ?_; rintro e w1 ⟨rfl, rfl⟩) | (go_at_call 54; rw [← hW1]; clear hW1; refine (let54 n _).mono ?_; rintro e w54 ⟨rfl, hw54⟩; rw [hw54]; clear hw54))
  go_ret2
  have EB := (((Ext.refl W1).but (b := (w.heap.size + 1))).set 0 (.string a))
  have SS := (slot_setCell (j := 0) (u := .string a) HB.out)
  refine ⟨w.heap.size + 1, rfl, EB.ext XW.out (by omega), ?_⟩
  exact encCopyFail _ a _ (cell_slot SS 0 (.string a) rfl) (by omega) R HR

set_option maxRecDepth 100000 in
set_option maxHeartbeats 1000000 in
theorem made13 (a b : ByteArray) (n : Int) (v4 v5 v6 v7 v8 v9 v10 v11 v12 : Value) (w : World) (hs : a.size ≤ 200) (R : List Int) (HR : Hid (R = msgB 112 (txt a))) : Calls Tryz.prog 34 #[.agg #[.int .i64 13, .string a, .string b, .int .u32 n, v4, v5, v6, v7, v8, v9, v10, v11, v12]] w (Made 138 179 w R) := by
  have n101 := no101 138 (by decide)
  have n108 := no108 138 (by decide)
  have n111 := no111 138 (by decide)
  have n114 := no114 138 (by decide)
  have n116 := no116 138 (by decide)
  have n119 := no119 138 (by decide)
  have n122 := no122 138 (by decide)
  have n125 := no125 138 (by decide)
  have n132 := no132 138 (by decide)
  have n134 := no134 138 (by decide)
  have y138 := yes138
  obtain ⟨W1, hW1⟩ : ∃ W1, W1 = (w.alloc (.cells #[.int .i64 13, .string a, .string b, .int .u32 n, v4, v5, v6, v7, v8, v9, v10, v11, v12] 31)).alloc (.cells #[.string ⟨#[]⟩] 140) := ⟨_, rfl⟩
  have XW : Hid (Ext w W1) := Lib.hid (by rw [hW1]; exact (ext_alloc w _).alloc _)
  have SW : Hid (W1.heap.size = w.heap.size + 2) := Lib.hid (by rw [hW1]; simp)
  have HB : Hid (W1.heap[w.heap.size + 1]? = some (.cells #[.string ⟨#[]⟩] 140 (0, 0))) := Lib.hid (by
    rw [hW1]
    have := heap_alloc_new (w.alloc (.cells #[.int .i64 13, .string a, .string b, .int .u32 n, v4, v5, v6, v7, v8, v9, v10, v11, v12] 31)) (.cells #[.string ⟨#[]⟩] 140)
    simpa using this)
  have HO : Hid (W1.heap[w.heap.size]? = some (.cells #[.int .i64 13, .string a, .string b, .int .u32 n, v4, v5, v6, v7, v8, v9, v10, v11, v12] 31 (0, 0))) := Lib.hid (by
    rw [hW1]
    have e1 := (ext_alloc (w.alloc (.cells #[.int .i64 13, .string a, .string b, .int .u32 n, v4, v5, v6, v7, v8, v9, v10, v11, v12] 31)) (.cells #[.string ⟨#[]⟩] 140)).block w.heap.size (by simp)
    rw [e1]; exact heap_alloc_new _ _)
  have hz0 := cell_slot HB.out 0 (.string ⟨#[]⟩) rfl
  have hy0 := free_slot HB.out 0
  have hb0 := cell_slot HO.out 0 (.int .i64 13) rfl
  have hb3 := cell_slot HO.out 3 (.int .u32 n) rfl
  have hb1 := cell_slot HO.out 1 (.string a) rfl
  go_enter Tryz.func34, Tryz.ntmps34
  go_wp2_with (first | (go_at_call 46; refine (emp13 _).mono ?_; rintro e w1 ⟨rfl, rfl⟩) | (go_at_call 54; rw [← hW1]; clear hW1; refine (let54 n _).mono ?_; rintro e w54 ⟨rfl, hw54⟩; rw [hw54]; clear hw54))
  go_ret2
  have EB := (((Ext.refl W1).but (b := (w.heap.size + 1))).set 0 (.string a))
  have SS := (slot_setCell (j := 0) (u := .string a) HB.out)
  refine ⟨w.heap.size + 1, rfl, EB.ext XW.out (by omega), ?_⟩
  exact encPassword _ a _ (cell_slot SS 0 (.string a) rfl) (by omega) R HR

set_option maxRecDepth 100000 in
set_option maxHeartbeats 1000000 in
theorem made14 (a b : ByteArray) (n : Int) (v4 v5 v6 v7 v8 v9 v10 v11 v12 : Value) (w : World) (hs : a.size ≤ 200) (R : List Int) (HR : Hid (R = msgB 81 (txt a))) : Calls Tryz.prog 34 #[.agg #[.int .i64 14, .string a, .string b, .int .u32 n, v4, v5, v6, v7, v8, v9, v10, v11, v12]] w (Made 141 182 w R) := by
  have n101 := no101 141 (by decide)
  have n108 := no108 141 (by decide)
  have n111 := no111 141 (by decide)
  have n114 := no114 141 (by decide)
  have n116 := no116 141 (by decide)
  have n119 := no119 141 (by decide)
  have n122 := no122 141 (by decide)
  have n125 := no125 141 (by decide)
  have n132 := no132 141 (by decide)
  have n134 := no134 141 (by decide)
  have n138 := no138 141 (by decide)
  have y141 := yes141
  obtain ⟨W1, hW1⟩ : ∃ W1, W1 = (w.alloc (.cells #[.int .i64 14, .string a, .string b, .int .u32 n, v4, v5, v6, v7, v8, v9, v10, v11, v12] 31)).alloc (.cells #[.string ⟨#[]⟩] 143) := ⟨_, rfl⟩
  have XW : Hid (Ext w W1) := Lib.hid (by rw [hW1]; exact (ext_alloc w _).alloc _)
  have SW : Hid (W1.heap.size = w.heap.size + 2) := Lib.hid (by rw [hW1]; simp)
  have HB : Hid (W1.heap[w.heap.size + 1]? = some (.cells #[.string ⟨#[]⟩] 143 (0, 0))) := Lib.hid (by
    rw [hW1]
    have := heap_alloc_new (w.alloc (.cells #[.int .i64 14, .string a, .string b, .int .u32 n, v4, v5, v6, v7, v8, v9, v10, v11, v12] 31)) (.cells #[.string ⟨#[]⟩] 143)
    simpa using this)
  have HO : Hid (W1.heap[w.heap.size]? = some (.cells #[.int .i64 14, .string a, .string b, .int .u32 n, v4, v5, v6, v7, v8, v9, v10, v11, v12] 31 (0, 0))) := Lib.hid (by
    rw [hW1]
    have e1 := (ext_alloc (w.alloc (.cells #[.int .i64 14, .string a, .string b, .int .u32 n, v4, v5, v6, v7, v8, v9, v10, v11, v12] 31)) (.cells #[.string ⟨#[]⟩] 143)).block w.heap.size (by simp)
    rw [e1]; exact heap_alloc_new _ _)
  have hz0 := cell_slot HB.out 0 (.string ⟨#[]⟩) rfl
  have hy0 := free_slot HB.out 0
  have hb0 := cell_slot HO.out 0 (.int .i64 14) rfl
  have hb3 := cell_slot HO.out 3 (.int .u32 n) rfl
  have hb1 := cell_slot HO.out 1 (.string a) rfl
  go_enter Tryz.func34, Tryz.ntmps34
  go_wp2_with (first | (go_at_call 46; refine (emp14 _).mono ?_; rintro e w1 ⟨rfl, rfl⟩) | (go_at_call 54; rw [← hW1]; clear hW1; refine (let54 n _).mono ?_; rintro e w54 ⟨rfl, hw54⟩; rw [hw54]; clear hw54))
  go_ret2
  have EB := (((Ext.refl W1).but (b := (w.heap.size + 1))).set 0 (.string a))
  have SS := (slot_setCell (j := 0) (u := .string a) HB.out)
  refine ⟨w.heap.size + 1, rfl, EB.ext XW.out (by omega), ?_⟩
  exact encQuery _ a _ (cell_slot SS 0 (.string a) rfl) (by omega) R HR

set_option maxRecDepth 100000 in
set_option maxHeartbeats 1000000 in
theorem made7 (a b : ByteArray) (n : Int) (v4 v5 v6 v7 v8 v9 v10 v11 v12 : Value) (w : World) (hs : a.size ≤ 200) (hn : 0 ≤ n ∧ n < 4294967296) (R : List Int) (HR : Hid (R = msgB 69 (txt a ++ b32 n))) : Calls Tryz.prog 34 #[.agg #[.int .i64 7, .string a, .string b, .int .u32 n, v4, v5, v6, v7, v8, v9, v10, v11, v12]] w (Made 122 163 w R) := by
  have n101 := no101 122 (by decide)
  have n108 := no108 122 (by decide)
  have n111 := no111 122 (by decide)
  have n114 := no114 122 (by decide)
  have n116 := no116 122 (by decide)
  have n119 := no119 122 (by decide)
  have y122 := yes122
  obtain ⟨W1, hW1⟩ : ∃ W1, W1 = (w.alloc (.cells #[.int .i64 7, .string a, .string b, .int .u32 n, v4, v5, v6, v7, v8, v9, v10, v11, v12] 31)).alloc (.cells #[.string ⟨#[]⟩, .int .u32 0] 124) := ⟨_, rfl⟩
  have XW : Hid (Ext w W1) := Lib.hid (by rw [hW1]; exact (ext_alloc w _).alloc _)
  have SW : Hid (W1.heap.size = w.heap.size + 2) := Lib.hid (by rw [hW1]; simp)
  have HB : Hid (W1.heap[w.heap.size + 1]? = some (.cells #[.string ⟨#[]⟩, .int .u32 0] 124 (0, 0))) := Lib.hid (by
    rw [hW1]
    have := heap_alloc_new (w.alloc (.cells #[.int .i64 7, .string a, .string b, .int .u32 n, v4, v5, v6, v7, v8, v9, v10, v11, v12] 31)) (.cells #[.string ⟨#[]⟩, .int .u32 0] 124)
    simpa using this)
  have HO : Hid (W1.heap[w.heap.size]? = some (.cells #[.int .i64 7, .string a, .string b, .int .u32 n, v4, v5, v6, v7, v8, v9, v10, v11, v12] 31 (0, 0))) := Lib.hid (by
    rw [hW1]
    have e1 := (ext_alloc (w.alloc (.cells #[.int .i64 7, .string a, .string b, .int .u32 n, v4, v5, v6, v7, v8, v9, v10, v11, v12] 31)) (.cells #[.string ⟨#[]⟩, .int .u32 0] 124)).block w.heap.size (by simp)
    rw [e1]; exact heap_alloc_new _ _)
  have hz0 := cell_slot HB.out 0 (.string ⟨#[]⟩) rfl
  have hy0 := free_slot HB.out 0
  have hz1 := cell_slot HB.out 1 (.int .u32 0) rfl
  have hy1 := free_slot HB.out 1
  have hb0 := cell_slot HO.out 0 (.int .i64 7) rfl
  have hb3 := cell_slot HO.out 3 (.int .u32 n) rfl
  have hb1 := cell_slot HO.out 1 (.string a) rfl
  go_enter Tryz.func34, Tryz.ntmps34
  go_wp2_with (first | (go_at_call 46; refine (emp7 _).mono ?_; rintro e w1 ⟨rfl, rfl⟩) | (go_at_call 54; rw [← hW1]; clear hW1; refine (let54 n _).mono ?_; rintro e w54 ⟨rfl, hw54⟩; rw [hw54]; clear hw54))
  go_ret2
  have EB := ((((Ext.refl W1).but (b := (w.heap.size + 1))).set 0 (.string a)).set 1 (.int .u32 n))
  have SS := (slot_setCell (j := 1) (u := .int .u32 n) (slot_setCell (j := 0) (u := .string a) HB.out))
  refine ⟨w.heap.size + 1, rfl, EB.ext XW.out (by omega), ?_⟩
  exact encExecute _ a n _ (cell_slot SS 0 (.string a) rfl) (cell_slot SS 1 (.int .u32 n) rfl) (by omega) hn.1 hn.2 R HR

set_option maxRecDepth 100000 in
set_option maxHeartbeats 1000000 in
theorem made3 (a b : ByteArray) (n : Int) (v4 v5 v6 v7 v8 vd v10 v11 v12 : Value) (d : List Int) (w : World) (HD : Hid (RdB w vd d)) (hl : d.length ≤ 500) (R : List Int) (HR : Hid (R = msgB 100 (d))) : Calls Tryz.prog 34 #[.agg #[.int .i64 3, .string a, .string b, .int .u32 n, v4, v5, v6, v7, v8, vd, v10, v11, v12]] w (Made 116 158 w R) := by
  have n101 := no101 116 (by decide)
  have n108 := no108 116 (by decide)
  have n111 := no111 116 (by decide)
  have n114 := no114 116 (by decide)
  have y116 := yes116
  obtain ⟨W1, hW1⟩ : ∃ W1, W1 = (w.alloc (.cells #[.int .i64 3, .string a, .string b, .int .u32 n, v4, v5, v6, v7, v8, vd, v10, v11, v12] 31)).alloc (.cells #[.slice none 0 0] 118) := ⟨_, rfl⟩
  have XW : Hid (Ext w W1) := Lib.hid (by rw [hW1]; exact (ext_alloc w _).alloc _)
  have SW : Hid (W1.heap.size = w.heap.size + 2) := Lib.hid (by rw [hW1]; simp)
  have HB : Hid (W1.heap[w.heap.size + 1]? = some (.cells #[.slice none 0 0] 118 (0, 0))) := Lib.hid (by
    rw [hW1]
    have := heap_alloc_new (w.alloc (.cells #[.int .i64 3, .string a, .string b, .int .u32 n, v4, v5, v6, v7, v8, vd, v10, v11, v12] 31)) (.cells #[.slice none 0 0] 118)
    simpa using this)
  have HO : Hid (W1.heap[w.heap.size]? = some (.cells #[.int .i64 3, .string a, .string b, .int .u32 n, v4, v5, v6, v7, v8, vd, v10, v11, v12] 31 (0, 0))) := Lib.hid (by
    rw [hW1]
    have e1 := (ext_alloc (w.alloc (.cells #[.int .i64 3, .string a, .string b, .int .u32 n, v4, v5, v6, v7, v8, vd, v10, v11, v12] 31)) (.cells #[.slice none 0 0] 118)).block w.heap.size (by simp)
    rw [e1]; exact heap_alloc_new _ _)
  have hz0 := cell_slot HB.out 0 (.slice none 0 0) rfl
  have hy0 := free_slot HB.out 0
  have hb0 := cell_slot HO.out 0 (.int .i64 3) rfl
  have hb3 := cell_slot HO.out 3 (.int .u32 n) rfl
  have hb9 := cell_slot HO.out 9 (vd) rfl
  go_enter Tryz.func34, Tryz.ntmps34
  go_wp2_with (first | (go_at_call 46; refine (emp3 _).mono ?_; rintro e w1 ⟨rfl, rfl⟩) | (go_at_call 54; rw [← hW1]; clear hW1; refine (let54 n _).mono ?_; rintro e w54 ⟨rfl, hw54⟩; rw [hw54]; clear hw54) | (go_at_call 47; refine (copiedK _ d _ (HD.out.ext XW.out) (by omega)).mono ?_; rintro e w2 ⟨A2, c2, rfl, hx2, hk2⟩; have HX2 := Lib.hid hx2; have HK2 := Lib.hid hk2; clear hx2 hk2; have BB := Lib.hid ((HX2.out.block _ (lt_of_block HB.out)).trans HB.out); clear hz0 hy0; have hz0 := cell_slot BB.out 0 (.slice none 0 0) rfl; have hy0 := free_slot BB.out 0))
  go_ret2
  have EB := ((HX2.out.but (b := (w.heap.size + 1))).set 0 (.slice A2 d.length c2))
  have SS := (slot_setCell (j := 0) (u := .slice A2 d.length c2) BB.out)
  refine ⟨w.heap.size + 1, rfl, EB.ext XW.out (by omega), ?_⟩
  have KK := HK2.out.at_ (w.heap.size + 1) _ (by have := SW.out; omega) (((Ext.refl w2).but (b := (w.heap.size + 1))).set 0 (.slice A2 d.length c2))
  exact encCopyData _ A2 c2 d _ (cell_slot SS 0 (.slice A2 d.length c2) rfl) KK (by omega) R HR

set_option maxRecDepth 100000 in
set_option maxHeartbeats 1000000 in
theorem made11 (a b : ByteArray) (n : Int) (v4 v5 v6 v7 v8 vd v10 v11 v12 : Value) (d : List Int) (w : World) (HD : Hid (RdB w vd d)) (hl : d.length ≤ 500) (R : List Int) (HR : Hid (R = msgB 112 (d))) : Calls Tryz.prog 34 #[.agg #[.int .i64 11, .string a, .string b, .int .u32 n, v4, v5, v6, v7, v8, vd, v10, v11, v12]] w (Made 132 173 w R) := by
  have n101 := no101 132 (by decide)
  have n108 := no108 132 (by decide)
  have n111 := no111 132 (by decide)
  have n114 := no114 132 (by decide)
  have n116 := no116 132 (by decide)
  have n119 := no119 132 (by decide)
  have n122 := no122 132 (by decide)
  have n125 := no125 132 (by decide)
  have y132 := yes132
  obtain ⟨W1, hW1⟩ : ∃ W1, W1 = (w.alloc (.cells #[.int .i64 11, .string a, .string b, .int .u32 n, v4, v5, v6, v7, v8, vd, v10, v11, v12] 31)).alloc (.cells #[.slice none 0 0] 133) := ⟨_, rfl⟩
  have XW : Hid (Ext w W1) := Lib.hid (by rw [hW1]; exact (ext_alloc w _).alloc _)
  have SW : Hid (W1.heap.size = w.heap.size + 2) := Lib.hid (by rw [hW1]; simp)
  have HB : Hid (W1.heap[w.heap.size + 1]? = some (.cells #[.slice none 0 0] 133 (0, 0))) := Lib.hid (by
    rw [hW1]
    have := heap_alloc_new (w.alloc (.cells #[.int .i64 11, .string a, .string b, .int .u32 n, v4, v5, v6, v7, v8, vd, v10, v11, v12] 31)) (.cells #[.slice none 0 0] 133)
    simpa using this)
  have HO : Hid (W1.heap[w.heap.size]? = some (.cells #[.int .i64 11, .string a, .string b, .int .u32 n, v4, v5, v6, v7, v8, vd, v10, v11, v12] 31 (0, 0))) := Lib.hid (by
    rw [hW1]
    have e1 := (ext_alloc (w.alloc (.cells #[.int .i64 11, .string a, .string b, .int .u32 n, v4, v5, v6, v7, v8, vd, v10, v11, v12] 31)) (.cells #[.slice none 0 0] 133)).block w.heap.size (by simp)
    rw [e1]; exact heap_alloc_new _ _)
  have hz0 := cell_slot HB.out 0 (.slice none 0 0) rfl
  have hy0 := free_slot HB.out 0
  have hb0 := cell_slot HO.out 0 (.int .i64 11) rfl
  have hb3 := cell_slot HO.out 3 (.int .u32 n) rfl
  have hb9 := cell_slot HO.out 9 (vd) rfl
  go_enter Tryz.func34, Tryz.ntmps34
  go_wp2_with (first | (go_at_call 46; refine (emp11 _).mono ?_; rintro e w1 ⟨rfl, rfl⟩) | (go_at_call 54; rw [← hW1]; clear hW1; refine (let54 n _).mono ?_; rintro e w54 ⟨rfl, hw54⟩; rw [hw54]; clear hw54) | (go_at_call 47; refine (copiedK _ d _ (HD.out.ext XW.out) (by omega)).mono ?_; rintro e w2 ⟨A2, c2, rfl, hx2, hk2⟩; have HX2 := Lib.hid hx2; have HK2 := Lib.hid hk2; clear hx2 hk2; have BB := Lib.hid ((HX2.out.block _ (lt_of_block HB.out)).trans HB.out); clear hz0 hy0; have hz0 := cell_slot BB.out 0 (.slice none 0 0) rfl; have hy0 := free_slot BB.out 0))
  go_ret2
  have EB := ((HX2.out.but (b := (w.heap.size + 1))).set 0 (.slice A2 d.length c2))
  have SS := (slot_setCell (j := 0) (u := .slice A2 d.length c2) BB.out)
  refine ⟨w.heap.size + 1, rfl, EB.ext XW.out (by omega), ?_⟩
  have KK := HK2.out.at_ (w.heap.size + 1) _ (by have := SW.out; omega) (((Ext.refl w2).but (b := (w.heap.size + 1))).set 0 (.slice A2 d.length c2))
  exact encGSSResponse _ A2 c2 d _ (cell_slot SS 0 (.slice A2 d.length c2) rfl) KK (by omega) R HR

set_option maxRecDepth 100000 in
set_option maxHeartbeats 1000000 in
theorem made16 (a b : ByteArray) (n : Int) (v4 v5 v6 v7 v8 vd v10 v11 v12 : Value) (d : List Int) (w : World) (HD : Hid (RdB w vd d)) (hl : d.length ≤ 500) (R : List Int) (HR : Hid (R = msgB 112 (d))) : Calls Tryz.prog 34 #[.agg #[.int .i64 16, .string a, .string b, .int .u32 n, v4, v5, v6, v7, v8, vd, v10, v11, v12]] w (Made 147 188 w R) := by
  have n101 := no101 147 (by decide)
  have n108 := no108 147 (by decide)
  have n111 := no111 147 (by decide)
  have n114 := no114 147 (by decide)
  have n116 := no116 147 (by decide)
  have n119 := no119 147 (by decide)
  have n122 := no122 147 (by decide)
  have n125 := no125 147 (by decide)
  have n132 := no132 147 (by decide)
  have n134 := no134 147 (by decide)
  have n138 := no138 147 (by decide)
  have n141 := no141 147 (by decide)
  have n144 := no144 147 (by decide)
  have y147 := yes147
  obtain ⟨W1, hW1⟩ : ∃ W1, W1 = (w.alloc (.cells #[.int .i64 16, .string a, .string b, .int .u32 n, v4, v5, v6, v7, v8, vd, v10, v11, v12] 31)).alloc (.cells #[.slice none 0 0] 148) := ⟨_, rfl⟩
  have XW : Hid (Ext w W1) := Lib.hid (by rw [hW1]; exact (ext_alloc w _).alloc _)
  have SW : Hid (W1.heap.size = w.heap.size + 2) := Lib.hid (by rw [hW1]; simp)
  have HB : Hid (W1.heap[w.heap.size + 1]? = some (.cells #[.slice none 0 0] 148 (0, 0))) := Lib.hid (by
    rw [hW1]
    have := heap_alloc_new (w.alloc (.cells #[.int .i64 16, .string a, .string b, .int .u32 n, v4, v5, v6, v7, v8, vd, v10, v11, v12] 31)) (.cells #[.slice none 0 0] 148)
    simpa using this)
  have HO : Hid (W1.heap[w.heap.size]? = some (.cells #[.int .i64 16, .string a, .string b, .int .u32 n, v4, v5, v6, v7, v8, vd, v10, v11, v12] 31 (0, 0))) := Lib.hid (by
    rw [hW1]
    have e1 := (ext_alloc (w.alloc (.cells #[.int .i64 16, .string a, .string b, .int .u32 n, v4, v5, v6, v7, v8, vd, v10, v11, v12] 31)) (.cells #[.slice none 0 0] 148)).block w.heap.size (by simp)
    rw [e1]; exact heap_alloc_new _ _)
  have hz0 := cell_slot HB.out 0 (.slice none 0 0) rfl
  have hy0 := free_slot HB.out 0
  have hb0 := cell_slot HO.out 0 (.int .i64 16) rfl
  have hb3 := cell_slot HO.out 3 (.int .u32 n) rfl
  have hb9 := cell_slot HO.out 9 (vd) rfl
  go_enter Tryz.func34, Tryz.ntmps34
  go_wp2_with (first | (go_at_call 46; refine (emp16 _).mono ?_; rintro e w1 ⟨rfl, rfl⟩) | (go_at_call 54; rw [← hW1]; clear hW1; refine (let54 n _).mono ?_; rintro e w54 ⟨rfl, hw54⟩; rw [hw54]; clear hw54) | (go_at_call 47; refine (copiedK _ d _ (HD.out.ext XW.out) (by omega)).mono ?_; rintro e w2 ⟨A2, c2, rfl, hx2, hk2⟩; have HX2 := Lib.hid hx2; have HK2 := Lib.hid hk2; clear hx2 hk2; have BB := Lib.hid ((HX2.out.block _ (lt_of_block HB.out)).trans HB.out); clear hz0 hy0; have hz0 := cell_slot BB.out 0 (.slice none 0 0) rfl; have hy0 := free_slot BB.out 0))
  go_ret2
  have EB := ((HX2.out.but (b := (w.heap.size + 1))).set 0 (.slice A2 d.length c2))
  have SS := (slot_setCell (j := 0) (u := .slice A2 d.length c2) BB.out)
  refine ⟨w.heap.size + 1, rfl, EB.ext XW.out (by omega), ?_⟩
  have KK := HK2.out.at_ (w.heap.size + 1) _ (by have := SW.out; omega) (((Ext.refl w2).but (b := (w.heap.size + 1))).set 0 (.slice A2 d.length c2))
  exact encSASLResponse _ A2 c2 d _ (cell_slot SS 0 (.slice A2 d.length c2) rfl) KK (by omega) R HR

end Go.Proofs.YtdenjanihikolaaGreatDoor

