/- Empty messages by kind. -/
import Derived.Test.YtdenjanihikolaaGreatDoorUTa
namespace Go.Proofs.YtdenjanihikolaaGreatDoor
open Go.RowKit
set_option linter.unusedVariables false

/-- What made and answer hand back, seen from a world. -/
def Ans (T FN b : Nat) (w : World) (R : List Int) : Ending → World → Prop := fun e w2 => e = .returned (.tuple #[.iface T (.pointer (some ⟨b, 0, none⟩)), .bool true]) ∧ Ext w w2 ∧ Calls Tryz.prog FN #[.pointer (some ⟨b, 0, none⟩), .slice none 0 0] w2 (Gives w2 R)

set_option maxRecDepth 100000 in
set_option maxHeartbeats 1000000 in
theorem made_dflt (T FN ty : Nat) (cs0 : Array Value) (kd n : Int) (v1 v2 v4 v5 v6 v7 v8 v9 v10 v11 v12 : Value) (w : World) (R : List Int) (hT : T ∉ [101, 108, 111, 114, 116, 119, 122, 125, 132, 134, 138, 141, 144, 147, 149])
    (hE : ∀ w, Calls Tryz.prog 46 #[.int .i64 kd] w (fun e w' => e = .returned (.iface T (.pointer (some ⟨w.heap.size, 0, none⟩))) ∧ w' = w.alloc (.cells cs0 ty)))
    (hA : ∀ w1 b, Ext w w1 → w.heap.size ≤ b → w1.heap[b]? = some (.cells cs0 ty (0, 0)) → Calls Tryz.prog 60 #[.iface T (.pointer (some ⟨b, 0, none⟩)), .agg #[.int .i64 kd, v1, v2, .int .u32 n, v4, v5, v6, v7, v8, v9, v10, v11, v12], .bool true] w1 (Ans T FN b w R)) :
    Calls Tryz.prog 34 #[.agg #[.int .i64 kd, v1, v2, .int .u32 n, v4, v5, v6, v7, v8, v9, v10, v11, v12]] w (Made T FN w R) := by
  have n101 := no101 T (fun e => hT (by simp [e]))
  have n108 := no108 T (fun e => hT (by simp [e]))
  have n111 := no111 T (fun e => hT (by simp [e]))
  have n114 := no114 T (fun e => hT (by simp [e]))
  have n116 := no116 T (fun e => hT (by simp [e]))
  have n119 := no119 T (fun e => hT (by simp [e]))
  have n122 := no122 T (fun e => hT (by simp [e]))
  have n125 := no125 T (fun e => hT (by simp [e]))
  have n132 := no132 T (fun e => hT (by simp [e]))
  have n134 := no134 T (fun e => hT (by simp [e]))
  have n138 := no138 T (fun e => hT (by simp [e]))
  have n141 := no141 T (fun e => hT (by simp [e]))
  have n144 := no144 T (fun e => hT (by simp [e]))
  have n147 := no147 T (fun e => hT (by simp [e]))
  have n149 := no149 T (fun e => hT (by simp [e]))
  have HE := Lib.hid hE
  have HA := Lib.hid hA
  clear hE hA hT
  obtain ⟨W1, hW1⟩ : ∃ W1, W1 = (w.alloc (.cells #[.int .i64 kd, v1, v2, .int .u32 n, v4, v5, v6, v7, v8, v9, v10, v11, v12] 31)).alloc (.cells cs0 ty) := ⟨_, rfl⟩
  have hx : Hid (Ext w W1) := Lib.hid (by rw [hW1]; exact (ext_alloc w _).alloc _)
  have hb : Hid (W1.heap[w.heap.size + 1]? = some (.cells cs0 ty (0, 0))) := Lib.hid (by
    rw [hW1]
    have := heap_alloc_new (w.alloc (.cells #[.int .i64 kd, v1, v2, .int .u32 n, v4, v5, v6, v7, v8, v9, v10, v11, v12] 31)) (.cells cs0 ty)
    simpa using this)
  go_enter Tryz.func34, Tryz.ntmps34
  go_wp2_with (first | (go_at_call 46; refine (HE.out _).mono ?_; rintro e w1 ⟨rfl, rfl⟩) | (go_at_call 54; refine (let54 n _).mono ?_; rintro e w1 ⟨rfl, rfl⟩) | (go_at_call 60; rw [← hW1]; refine (HA.out W1 (w.heap.size + 1) hx.out (by omega) hb.out).mono ?_; rintro e w2 ⟨rfl, hx2, hc2⟩; have HX2 := Lib.hid hx2; have HC2 := Lib.hid hc2; clear hx2 hc2))
  go_ret2
  exact ⟨_, rfl, HX2.out, HC2.out⟩

set_option maxRecDepth 100000 in
set_option maxHeartbeats 1000000 in
theorem ans_triv (T FN b : Nat) (kd n : Int) (v1 v2 v4 v5 v6 v7 v8 v9 v10 v11 v12 : Value) (w w1 : World) (R : List Int) (hT : T ∉ [185, 189, 191, 194, 196, 198, 200, 203, 206, 208, 210, 213, 217, 219, 222, 225, 228, 230, 233]) (hx : Ext w w1)
    (hc : ∀ w2, Calls Tryz.prog FN #[.pointer (some ⟨b, 0, none⟩), .slice none 0 0] w2 (Gives w2 R)) :
    Calls Tryz.prog 60 #[.iface T (.pointer (some ⟨b, 0, none⟩)), .agg #[.int .i64 kd, v1, v2, .int .u32 n, v4, v5, v6, v7, v8, v9, v10, v11, v12], .bool true] w1 (Ans T FN b w R) := by
  have n185 := no185 T (fun e => hT (by simp [e]))
  have n189 := no189 T (fun e => hT (by simp [e]))
  have n191 := no191 T (fun e => hT (by simp [e]))
  have n194 := no194 T (fun e => hT (by simp [e]))
  have n196 := no196 T (fun e => hT (by simp [e]))
  have n198 := no198 T (fun e => hT (by simp [e]))
  have n200 := no200 T (fun e => hT (by simp [e]))
  have n203 := no203 T (fun e => hT (by simp [e]))
  have n206 := no206 T (fun e => hT (by simp [e]))
  have n208 := no208 T (fun e => hT (by simp [e]))
  have n210 := no210 T (fun e => hT (by simp [e]))
  have n213 := no213 T (fun e => hT (by simp [e]))
  have n217 := no217 T (fun e => hT (by simp [e]))
  have n219 := no219 T (fun e => hT (by simp [e]))
  have n222 := no222 T (fun e => hT (by simp [e]))
  have n225 := no225 T (fun e => hT (by simp [e]))
  have n228 := no228 T (fun e => hT (by simp [e]))
  have n230 := no230 T (fun e => hT (by simp [e]))
  have n233 := no233 T (fun e => hT (by simp [e]))
  have HC := Lib.hid hc
  clear hc hT
  go_enter Tryz.func60, Tryz.ntmps60
  go_wp2_with (first | (go_at_call 54; refine (let54 n _).mono ?_; rintro e w1 ⟨rfl, rfl⟩))
  go_ret2
  exact ⟨rfl, hx.alloc _, HC.out _⟩
end Go.Proofs.YtdenjanihikolaaGreatDoor

namespace Go.Proofs.YtdenjanihikolaaGreatDoor
open Go.RowKit
set_option linter.unusedVariables false

set_option maxRecDepth 100000 in
theorem emp0 (w : World) : Calls Tryz.prog 46 #[.int .i64 0] w (fun e w' => e = .returned (.iface 101 (.pointer (some ⟨w.heap.size, 0, none⟩))) ∧ w' = w.alloc (.cells #[.string ⟨#[]⟩, .string ⟨#[]⟩, .slice none 0 0, .slice none 0 0, .slice none 0 0] 107)) := by
  go_enter Tryz.func46, Tryz.ntmps46
  go_wp2
  go_ret
  exact ⟨rfl, rfl⟩
set_option maxRecDepth 100000 in
theorem emp1 (w : World) : Calls Tryz.prog 46 #[.int .i64 1] w (fun e w' => e = .returned (.iface 108 (.pointer (some ⟨w.heap.size, 0, none⟩))) ∧ w' = w.alloc (.cells #[.int .u32 0, .slice none 0 0] 110)) := by
  go_enter Tryz.func46, Tryz.ntmps46
  go_wp2
  go_ret
  exact ⟨rfl, rfl⟩
set_option maxRecDepth 100000 in
theorem emp2 (w : World) : Calls Tryz.prog 46 #[.int .i64 2] w (fun e w' => e = .returned (.iface 111 (.pointer (some ⟨w.heap.size, 0, none⟩))) ∧ w' = w.alloc (.cells #[.int .u8 0, .string ⟨#[]⟩] 113)) := by
  go_enter Tryz.func46, Tryz.ntmps46
  go_wp2
  go_ret
  exact ⟨rfl, rfl⟩
set_option maxRecDepth 100000 in
theorem emp3 (w : World) : Calls Tryz.prog 46 #[.int .i64 3] w (fun e w' => e = .returned (.iface 116 (.pointer (some ⟨w.heap.size, 0, none⟩))) ∧ w' = w.alloc (.cells #[.slice none 0 0] 118)) := by
  go_enter Tryz.func46, Tryz.ntmps46
  go_wp2
  go_ret
  exact ⟨rfl, rfl⟩
set_option maxRecDepth 100000 in
theorem emp4 (w : World) : Calls Tryz.prog 46 #[.int .i64 4] w (fun e w' => e = .returned (.iface 154 (.pointer (some ⟨w.heap.size, 0, none⟩))) ∧ w' = w.alloc (.cells #[] 156)) := by
  go_enter Tryz.func46, Tryz.ntmps46
  go_wp2
  go_ret
  exact ⟨rfl, rfl⟩
set_option maxRecDepth 100000 in
theorem emp5 (w : World) : Calls Tryz.prog 46 #[.int .i64 5] w (fun e w' => e = .returned (.iface 119 (.pointer (some ⟨w.heap.size, 0, none⟩))) ∧ w' = w.alloc (.cells #[.string ⟨#[]⟩] 121)) := by
  go_enter Tryz.func46, Tryz.ntmps46
  go_wp2
  go_ret
  exact ⟨rfl, rfl⟩
set_option maxRecDepth 100000 in
theorem emp6 (w : World) : Calls Tryz.prog 46 #[.int .i64 6] w (fun e w' => e = .returned (.iface 114 (.pointer (some ⟨w.heap.size, 0, none⟩))) ∧ w' = w.alloc (.cells #[.int .u8 0, .string ⟨#[]⟩] 115)) := by
  go_enter Tryz.func46, Tryz.ntmps46
  go_wp2
  go_ret
  exact ⟨rfl, rfl⟩
set_option maxRecDepth 100000 in
theorem emp7 (w : World) : Calls Tryz.prog 46 #[.int .i64 7] w (fun e w' => e = .returned (.iface 122 (.pointer (some ⟨w.heap.size, 0, none⟩))) ∧ w' = w.alloc (.cells #[.string ⟨#[]⟩, .int .u32 0] 124)) := by
  go_enter Tryz.func46, Tryz.ntmps46
  go_wp2
  go_ret
  exact ⟨rfl, rfl⟩
set_option maxRecDepth 100000 in
theorem emp8 (w : World) : Calls Tryz.prog 46 #[.int .i64 8] w (fun e w' => e = .returned (.iface 157 (.pointer (some ⟨w.heap.size, 0, none⟩))) ∧ w' = w.alloc (.cells #[] 158)) := by
  go_enter Tryz.func46, Tryz.ntmps46
  go_wp2
  go_ret
  exact ⟨rfl, rfl⟩
set_option maxRecDepth 100000 in
theorem emp9 (w : World) : Calls Tryz.prog 46 #[.int .i64 9] w (fun e w' => e = .returned (.iface 125 (.pointer (some ⟨w.heap.size, 0, none⟩))) ∧ w' = w.alloc (.cells #[.int .u32 0, .slice none 0 0, .slice none 0 0, .int .u16 0] 131)) := by
  go_enter Tryz.func46, Tryz.ntmps46
  go_wp2
  go_ret
  exact ⟨rfl, rfl⟩
set_option maxRecDepth 100000 in
theorem emp10 (w : World) : Calls Tryz.prog 46 #[.int .i64 10] w (fun e w' => e = .returned (.iface 159 (.pointer (some ⟨w.heap.size, 0, none⟩))) ∧ w' = w.alloc (.cells #[] 160)) := by
  go_enter Tryz.func46, Tryz.ntmps46
  go_wp2
  go_ret
  exact ⟨rfl, rfl⟩
set_option maxRecDepth 100000 in
theorem emp11 (w : World) : Calls Tryz.prog 46 #[.int .i64 11] w (fun e w' => e = .returned (.iface 132 (.pointer (some ⟨w.heap.size, 0, none⟩))) ∧ w' = w.alloc (.cells #[.slice none 0 0] 133)) := by
  go_enter Tryz.func46, Tryz.ntmps46
  go_wp2
  go_ret
  exact ⟨rfl, rfl⟩
set_option maxRecDepth 100000 in
theorem emp12 (w : World) : Calls Tryz.prog 46 #[.int .i64 12] w (fun e w' => e = .returned (.iface 134 (.pointer (some ⟨w.heap.size, 0, none⟩))) ∧ w' = w.alloc (.cells #[.string ⟨#[]⟩, .string ⟨#[]⟩, .slice none 0 0] 137)) := by
  go_enter Tryz.func46, Tryz.ntmps46
  go_wp2
  go_ret
  exact ⟨rfl, rfl⟩
set_option maxRecDepth 100000 in
theorem emp13 (w : World) : Calls Tryz.prog 46 #[.int .i64 13] w (fun e w' => e = .returned (.iface 138 (.pointer (some ⟨w.heap.size, 0, none⟩))) ∧ w' = w.alloc (.cells #[.string ⟨#[]⟩] 140)) := by
  go_enter Tryz.func46, Tryz.ntmps46
  go_wp2
  go_ret
  exact ⟨rfl, rfl⟩
set_option maxRecDepth 100000 in
theorem emp14 (w : World) : Calls Tryz.prog 46 #[.int .i64 14] w (fun e w' => e = .returned (.iface 141 (.pointer (some ⟨w.heap.size, 0, none⟩))) ∧ w' = w.alloc (.cells #[.string ⟨#[]⟩] 143)) := by
  go_enter Tryz.func46, Tryz.ntmps46
  go_wp2
  go_ret
  exact ⟨rfl, rfl⟩
set_option maxRecDepth 100000 in
theorem emp15 (w : World) : Calls Tryz.prog 46 #[.int .i64 15] w (fun e w' => e = .returned (.iface 144 (.pointer (some ⟨w.heap.size, 0, none⟩))) ∧ w' = w.alloc (.cells #[.string ⟨#[]⟩, .slice none 0 0] 146)) := by
  go_enter Tryz.func46, Tryz.ntmps46
  go_wp2
  go_ret
  exact ⟨rfl, rfl⟩
set_option maxRecDepth 100000 in
theorem emp16 (w : World) : Calls Tryz.prog 46 #[.int .i64 16] w (fun e w' => e = .returned (.iface 147 (.pointer (some ⟨w.heap.size, 0, none⟩))) ∧ w' = w.alloc (.cells #[.slice none 0 0] 148)) := by
  go_enter Tryz.func46, Tryz.ntmps46
  go_wp2
  go_ret
  exact ⟨rfl, rfl⟩
set_option maxRecDepth 100000 in
theorem emp17 (w : World) : Calls Tryz.prog 46 #[.int .i64 17] w (fun e w' => e = .returned (.iface 161 (.pointer (some ⟨w.heap.size, 0, none⟩))) ∧ w' = w.alloc (.cells #[] 162)) := by
  go_enter Tryz.func46, Tryz.ntmps46
  go_wp2
  go_ret
  exact ⟨rfl, rfl⟩
set_option maxRecDepth 100000 in
theorem emp18 (w : World) : Calls Tryz.prog 46 #[.int .i64 18] w (fun e w' => e = .returned (.iface 149 (.pointer (some ⟨w.heap.size, 0, none⟩))) ∧ w' = w.alloc (.cells #[.int .u32 0, .map none] 152)) := by
  go_enter Tryz.func46, Tryz.ntmps46
  go_wp2
  go_ret
  exact ⟨rfl, rfl⟩
set_option maxRecDepth 100000 in
theorem emp19 (w : World) : Calls Tryz.prog 46 #[.int .i64 19] w (fun e w' => e = .returned (.iface 163 (.pointer (some ⟨w.heap.size, 0, none⟩))) ∧ w' = w.alloc (.cells #[] 164)) := by
  go_enter Tryz.func46, Tryz.ntmps46
  go_wp2
  go_ret
  exact ⟨rfl, rfl⟩
set_option maxRecDepth 100000 in
theorem emp20 (w : World) : Calls Tryz.prog 46 #[.int .i64 20] w (fun e w' => e = .returned (.iface 165 (.pointer (some ⟨w.heap.size, 0, none⟩))) ∧ w' = w.alloc (.cells #[] 166)) := by
  go_enter Tryz.func46, Tryz.ntmps46
  go_wp2
  go_ret
  exact ⟨rfl, rfl⟩
set_option maxRecDepth 100000 in
theorem emp30 (w : World) : Calls Tryz.prog 46 #[.int .i64 30] w (fun e w' => e = .returned (.iface 167 (.pointer (some ⟨w.heap.size, 0, none⟩))) ∧ w' = w.alloc (.cells #[] 168)) := by
  go_enter Tryz.func46, Tryz.ntmps46
  go_wp2
  go_ret
  exact ⟨rfl, rfl⟩
set_option maxRecDepth 100000 in
theorem emp31 (w : World) : Calls Tryz.prog 46 #[.int .i64 31] w (fun e w' => e = .returned (.iface 169 (.pointer (some ⟨w.heap.size, 0, none⟩))) ∧ w' = w.alloc (.cells #[] 170)) := by
  go_enter Tryz.func46, Tryz.ntmps46
  go_wp2
  go_ret
  exact ⟨rfl, rfl⟩
set_option maxRecDepth 100000 in
theorem emp32 (w : World) : Calls Tryz.prog 46 #[.int .i64 32] w (fun e w' => e = .returned (.iface 185 (.pointer (some ⟨w.heap.size, 0, none⟩))) ∧ w' = w.alloc (.cells #[.int .u8 0, .int .u8 0, .int .u8 0, .int .u8 0] 188)) := by
  go_enter Tryz.func46, Tryz.ntmps46
  go_wp2
  go_ret
  exact ⟨rfl, rfl⟩
set_option maxRecDepth 100000 in
theorem emp33 (w : World) : Calls Tryz.prog 46 #[.int .i64 33] w (fun e w' => e = .returned (.iface 171 (.pointer (some ⟨w.heap.size, 0, none⟩))) ∧ w' = w.alloc (.cells #[] 172)) := by
  go_enter Tryz.func46, Tryz.ntmps46
  go_wp2
  go_ret
  exact ⟨rfl, rfl⟩
set_option maxRecDepth 100000 in
theorem emp34 (w : World) : Calls Tryz.prog 46 #[.int .i64 34] w (fun e w' => e = .returned (.iface 189 (.pointer (some ⟨w.heap.size, 0, none⟩))) ∧ w' = w.alloc (.cells #[.slice none 0 0] 190)) := by
  go_enter Tryz.func46, Tryz.ntmps46
  go_wp2
  go_ret
  exact ⟨rfl, rfl⟩
set_option maxRecDepth 100000 in
theorem emp35 (w : World) : Calls Tryz.prog 46 #[.int .i64 35] w (fun e w' => e = .returned (.iface 191 (.pointer (some ⟨w.heap.size, 0, none⟩))) ∧ w' = w.alloc (.cells #[.slice none 0 0] 193)) := by
  go_enter Tryz.func46, Tryz.ntmps46
  go_wp2
  go_ret
  exact ⟨rfl, rfl⟩
set_option maxRecDepth 100000 in
theorem emp36 (w : World) : Calls Tryz.prog 46 #[.int .i64 36] w (fun e w' => e = .returned (.iface 194 (.pointer (some ⟨w.heap.size, 0, none⟩))) ∧ w' = w.alloc (.cells #[.slice none 0 0] 195)) := by
  go_enter Tryz.func46, Tryz.ntmps46
  go_wp2
  go_ret
  exact ⟨rfl, rfl⟩
set_option maxRecDepth 100000 in
theorem emp37 (w : World) : Calls Tryz.prog 46 #[.int .i64 37] w (fun e w' => e = .returned (.iface 196 (.pointer (some ⟨w.heap.size, 0, none⟩))) ∧ w' = w.alloc (.cells #[.slice none 0 0] 197)) := by
  go_enter Tryz.func46, Tryz.ntmps46
  go_wp2
  go_ret
  exact ⟨rfl, rfl⟩
set_option maxRecDepth 100000 in
theorem emp38 (w : World) : Calls Tryz.prog 46 #[.int .i64 38] w (fun e w' => e = .returned (.iface 198 (.pointer (some ⟨w.heap.size, 0, none⟩))) ∧ w' = w.alloc (.cells #[.int .u32 0, .slice none 0 0] 199)) := by
  go_enter Tryz.func46, Tryz.ntmps46
  go_wp2
  go_ret
  exact ⟨rfl, rfl⟩
set_option maxRecDepth 100000 in
theorem emp39 (w : World) : Calls Tryz.prog 46 #[.int .i64 39] w (fun e w' => e = .returned (.iface 173 (.pointer (some ⟨w.heap.size, 0, none⟩))) ∧ w' = w.alloc (.cells #[] 174)) := by
  go_enter Tryz.func46, Tryz.ntmps46
  go_wp2
  go_ret
  exact ⟨rfl, rfl⟩
set_option maxRecDepth 100000 in
theorem emp40 (w : World) : Calls Tryz.prog 46 #[.int .i64 40] w (fun e w' => e = .returned (.iface 175 (.pointer (some ⟨w.heap.size, 0, none⟩))) ∧ w' = w.alloc (.cells #[] 176)) := by
  go_enter Tryz.func46, Tryz.ntmps46
  go_wp2
  go_ret
  exact ⟨rfl, rfl⟩
set_option maxRecDepth 100000 in
theorem emp41 (w : World) : Calls Tryz.prog 46 #[.int .i64 41] w (fun e w' => e = .returned (.iface 200 (.pointer (some ⟨w.heap.size, 0, none⟩))) ∧ w' = w.alloc (.cells #[.slice none 0 0] 202)) := by
  go_enter Tryz.func46, Tryz.ntmps46
  go_wp2
  go_ret
  exact ⟨rfl, rfl⟩
set_option maxRecDepth 100000 in
theorem emp42 (w : World) : Calls Tryz.prog 46 #[.int .i64 42] w (fun e w' => e = .returned (.iface 203 (.pointer (some ⟨w.heap.size, 0, none⟩))) ∧ w' = w.alloc (.cells #[.int .u8 0, .slice none 0 0] 205)) := by
  go_enter Tryz.func46, Tryz.ntmps46
  go_wp2
  go_ret
  exact ⟨rfl, rfl⟩
set_option maxRecDepth 100000 in
theorem emp43 (w : World) : Calls Tryz.prog 46 #[.int .i64 43] w (fun e w' => e = .returned (.iface 206 (.pointer (some ⟨w.heap.size, 0, none⟩))) ∧ w' = w.alloc (.cells #[.int .u8 0, .slice none 0 0] 207)) := by
  go_enter Tryz.func46, Tryz.ntmps46
  go_wp2
  go_ret
  exact ⟨rfl, rfl⟩
set_option maxRecDepth 100000 in
theorem emp44 (w : World) : Calls Tryz.prog 46 #[.int .i64 44] w (fun e w' => e = .returned (.iface 208 (.pointer (some ⟨w.heap.size, 0, none⟩))) ∧ w' = w.alloc (.cells #[.int .u8 0, .slice none 0 0] 209)) := by
  go_enter Tryz.func46, Tryz.ntmps46
  go_wp2
  go_ret
  exact ⟨rfl, rfl⟩
set_option maxRecDepth 100000 in
theorem emp45 (w : World) : Calls Tryz.prog 46 #[.int .i64 45] w (fun e w' => e = .returned (.iface 210 (.pointer (some ⟨w.heap.size, 0, none⟩))) ∧ w' = w.alloc (.cells #[.slice none 0 0] 212)) := by
  go_enter Tryz.func46, Tryz.ntmps46
  go_wp2
  go_ret
  exact ⟨rfl, rfl⟩
set_option maxRecDepth 100000 in
theorem emp46 (w : World) : Calls Tryz.prog 46 #[.int .i64 46] w (fun e w' => e = .returned (.iface 177 (.pointer (some ⟨w.heap.size, 0, none⟩))) ∧ w' = w.alloc (.cells #[] 178)) := by
  go_enter Tryz.func46, Tryz.ntmps46
  go_wp2
  go_ret
  exact ⟨rfl, rfl⟩
set_option maxRecDepth 100000 in
theorem emp47 (w : World) : Calls Tryz.prog 46 #[.int .i64 47] w (fun e w' => e = .returned (.iface 213 (.pointer (some ⟨w.heap.size, 0, none⟩))) ∧ w' = w.alloc (.cells #[.string ⟨#[]⟩, .string ⟨#[]⟩, .string ⟨#[]⟩, .string ⟨#[]⟩, .string ⟨#[]⟩, .string ⟨#[]⟩, .int .i32 0, .int .i32 0, .string ⟨#[]⟩, .string ⟨#[]⟩, .string ⟨#[]⟩, .string ⟨#[]⟩, .string ⟨#[]⟩, .string ⟨#[]⟩, .string ⟨#[]⟩, .string ⟨#[]⟩, .int .i32 0, .string ⟨#[]⟩, .map none] 216)) := by
  go_enter Tryz.func46, Tryz.ntmps46
  go_wp2
  go_ret
  exact ⟨rfl, rfl⟩
set_option maxRecDepth 100000 in
theorem emp48 (w : World) : Calls Tryz.prog 46 #[.int .i64 48] w (fun e w' => e = .returned (.iface 217 (.pointer (some ⟨w.heap.size, 0, none⟩))) ∧ w' = w.alloc (.cells #[.string ⟨#[]⟩, .string ⟨#[]⟩, .string ⟨#[]⟩, .string ⟨#[]⟩, .string ⟨#[]⟩, .string ⟨#[]⟩, .int .i32 0, .int .i32 0, .string ⟨#[]⟩, .string ⟨#[]⟩, .string ⟨#[]⟩, .string ⟨#[]⟩, .string ⟨#[]⟩, .string ⟨#[]⟩, .string ⟨#[]⟩, .string ⟨#[]⟩, .int .i32 0, .string ⟨#[]⟩, .map none] 218)) := by
  go_enter Tryz.func46, Tryz.ntmps46
  go_wp2
  go_ret
  exact ⟨rfl, rfl⟩
set_option maxRecDepth 100000 in
theorem emp49 (w : World) : Calls Tryz.prog 46 #[.int .i64 49] w (fun e w' => e = .returned (.iface 219 (.pointer (some ⟨w.heap.size, 0, none⟩))) ∧ w' = w.alloc (.cells #[.slice none 0 0] 221)) := by
  go_enter Tryz.func46, Tryz.ntmps46
  go_wp2
  go_ret
  exact ⟨rfl, rfl⟩
set_option maxRecDepth 100000 in
theorem emp50 (w : World) : Calls Tryz.prog 46 #[.int .i64 50] w (fun e w' => e = .returned (.iface 179 (.pointer (some ⟨w.heap.size, 0, none⟩))) ∧ w' = w.alloc (.cells #[] 180)) := by
  go_enter Tryz.func46, Tryz.ntmps46
  go_wp2
  go_ret
  exact ⟨rfl, rfl⟩
set_option maxRecDepth 100000 in
theorem emp51 (w : World) : Calls Tryz.prog 46 #[.int .i64 51] w (fun e w' => e = .returned (.iface 222 (.pointer (some ⟨w.heap.size, 0, none⟩))) ∧ w' = w.alloc (.cells #[.int .u32 0, .string ⟨#[]⟩, .string ⟨#[]⟩] 224)) := by
  go_enter Tryz.func46, Tryz.ntmps46
  go_wp2
  go_ret
  exact ⟨rfl, rfl⟩
set_option maxRecDepth 100000 in
theorem emp52 (w : World) : Calls Tryz.prog 46 #[.int .i64 52] w (fun e w' => e = .returned (.iface 225 (.pointer (some ⟨w.heap.size, 0, none⟩))) ∧ w' = w.alloc (.cells #[.slice none 0 0] 227)) := by
  go_enter Tryz.func46, Tryz.ntmps46
  go_wp2
  go_ret
  exact ⟨rfl, rfl⟩
set_option maxRecDepth 100000 in
theorem emp53 (w : World) : Calls Tryz.prog 46 #[.int .i64 53] w (fun e w' => e = .returned (.iface 228 (.pointer (some ⟨w.heap.size, 0, none⟩))) ∧ w' = w.alloc (.cells #[.string ⟨#[]⟩, .string ⟨#[]⟩] 229)) := by
  go_enter Tryz.func46, Tryz.ntmps46
  go_wp2
  go_ret
  exact ⟨rfl, rfl⟩
set_option maxRecDepth 100000 in
theorem emp54 (w : World) : Calls Tryz.prog 46 #[.int .i64 54] w (fun e w' => e = .returned (.iface 181 (.pointer (some ⟨w.heap.size, 0, none⟩))) ∧ w' = w.alloc (.cells #[] 182)) := by
  go_enter Tryz.func46, Tryz.ntmps46
  go_wp2
  go_ret
  exact ⟨rfl, rfl⟩
set_option maxRecDepth 100000 in
theorem emp55 (w : World) : Calls Tryz.prog 46 #[.int .i64 55] w (fun e w' => e = .returned (.iface 183 (.pointer (some ⟨w.heap.size, 0, none⟩))) ∧ w' = w.alloc (.cells #[] 184)) := by
  go_enter Tryz.func46, Tryz.ntmps46
  go_wp2
  go_ret
  exact ⟨rfl, rfl⟩
set_option maxRecDepth 100000 in
theorem emp56 (w : World) : Calls Tryz.prog 46 #[.int .i64 56] w (fun e w' => e = .returned (.iface 230 (.pointer (some ⟨w.heap.size, 0, none⟩))) ∧ w' = w.alloc (.cells #[.int .u8 0] 232)) := by
  go_enter Tryz.func46, Tryz.ntmps46
  go_wp2
  go_ret
  exact ⟨rfl, rfl⟩
set_option maxRecDepth 100000 in
theorem emp57 (w : World) : Calls Tryz.prog 46 #[.int .i64 57] w (fun e w' => e = .returned (.iface 233 (.pointer (some ⟨w.heap.size, 0, none⟩))) ∧ w' = w.alloc (.cells #[.slice none 0 0] 236)) := by
  go_enter Tryz.func46, Tryz.ntmps46
  go_wp2
  go_ret
  exact ⟨rfl, rfl⟩
end Go.Proofs.YtdenjanihikolaaGreatDoor

