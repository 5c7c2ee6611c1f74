/- Messages made: through answer; the kinds without fields. -/
import Derived.Test.YtdenjanihikolaaGreatDoorTa
namespace Go.Proofs.YtdenjanihikolaaGreatDoor
open Go.RowKit
set_option linter.unusedVariables false

/-- What made and answer hand back, seen from a world. -/
def Ans (T FN b : Nat) (w : World) (R : List Int) : Ending → World → Prop := fun e w2 => e = .returned (.tuple #[.iface T (.pointer (some ⟨b, 0, none⟩)), .bool true]) ∧ Ext w w2 ∧ Calls Tryz.prog FN #[.pointer (some ⟨b, 0, none⟩), .slice none 0 0] w2 (Gives w2 R)

set_option maxRecDepth 100000 in
set_option maxHeartbeats 1000000 in
theorem made_dflt (T FN ty : Nat) (cs0 : Array Value) (kd n : Int) (v1 v2 v4 v5 v6 v7 v8 v9 v10 v11 v12 : Value) (w : World) (R : List Int) (hT : T ∉ [101, 108, 111, 114, 116, 119, 122, 125, 132, 134, 138, 141, 144, 147, 149])
    (hE : ∀ w, Calls Tryz.prog 46 #[.int .i64 kd] w (fun e w' => e = .returned (.iface T (.pointer (some ⟨w.heap.size, 0, none⟩))) ∧ w' = w.alloc (.cells cs0 ty)))
    (hA : ∀ w1 b, Ext w w1 → w.heap.size ≤ b → w1.heap[b]? = some (.cells cs0 ty (0, 0)) → Calls Tryz.prog 60 #[.iface T (.pointer (some ⟨b, 0, none⟩)), .agg #[.int .i64 kd, v1, v2, .int .u32 n, v4, v5, v6, v7, v8, v9, v10, v11, v12], .bool true] w1 (Ans T FN b w R)) :
    Calls Tryz.prog 34 #[.agg #[.int .i64 kd, v1, v2, .int .u32 n, v4, v5, v6, v7, v8, v9, v10, v11, v12]] w (Made T FN w R) := by
  have n101 := no101 T (fun e => hT (by simp [e]))
  have n108 := no108 T (fun e => hT (by simp [e]))
  have n111 := no111 T (fun e => hT (by simp [e]))
  have n114 := no114 T (fun e => hT (by simp [e]))
  have n116 := no116 T (fun e => hT (by simp [e]))
  have n119 := no119 T (fun e => hT (by simp [e]))
  have n122 := no122 T (fun e => hT (by simp [e]))
  have n125 := no125 T (fun e => hT (by simp [e]))
  have n132 := no132 T (fun e => hT (by simp [e]))
  have n134 := no134 T (fun e => hT (by simp [e]))
  have n138 := no138 T (fun e => hT (by simp [e]))
  have n141 := no141 T (fun e => hT (by simp [e]))
  have n144 := no144 T (fun e => hT (by simp [e]))
  have n147 := no147 T (fun e => hT (by simp [e]))
  have n149 := no149 T (fun e => hT (by simp [e]))
  have HE := Lib.hid hE
  have HA := Lib.hid hA
  clear hE hA hT
  obtain ⟨W1, hW1⟩ : ∃ W1, W1 = (w.alloc (.cells #[.int .i64 kd, v1, v2, .int .u32 n, v4, v5, v6, v7, v8, v9, v10, v11, v12] 31)).alloc (.cells cs0 ty) := ⟨_, rfl⟩
  have hx : Hid (Ext w W1) := Lib.hid (by rw [hW1]; exact (ext_alloc w _).alloc _)
  have hb : Hid (W1.heap[w.heap.size + 1]? = some (.cells cs0 ty (0, 0))) := Lib.hid (by
    rw [hW1]
    have := heap_alloc_new (w.alloc (.cells #[.int .i64 kd, v1, v2, .int .u32 n, v4, v5, v6, v7, v8, v9, v10, v11, v12] 31)) (.cells cs0 ty)
    simpa using this)
  go_enter Tryz.func34, Tryz.ntmps34
  go_wp2_with (first | (go_at_call 46; refine (HE.out _).mono ?_; rintro e w1 ⟨rfl, rfl⟩) | (go_at_call 54; refine (let54 n _).mono ?_; rintro e w1 ⟨rfl, rfl⟩) | (go_at_call 60; rw [← hW1]; refine (HA.out W1 (w.heap.size + 1) hx.out (by omega) hb.out).mono ?_; rintro e w2 ⟨rfl, hx2, hc2⟩; have HX2 := Lib.hid hx2; have HC2 := Lib.hid hc2; clear hx2 hc2))
  go_ret2
  exact ⟨_, rfl, HX2.out, HC2.out⟩

set_option maxRecDepth 100000 in
set_option maxHeartbeats 1000000 in
theorem ans_triv (T FN b : Nat) (kd n : Int) (v1 v2 v4 v5 v6 v7 v8 v9 v10 v11 v12 : Value) (w w1 : World) (R : List Int) (hT : T ∉ [185, 189, 191, 194, 196, 198, 200, 203, 206, 208, 210, 213, 217, 219, 222, 225, 228, 230, 233]) (hx : Ext w w1)
    (hc : ∀ w2, Calls Tryz.prog FN #[.pointer (some ⟨b, 0, none⟩), .slice none 0 0] w2 (Gives w2 R)) :
    Calls Tryz.prog 60 #[.iface T (.pointer (some ⟨b, 0, none⟩)), .agg #[.int .i64 kd, v1, v2, .int .u32 n, v4, v5, v6, v7, v8, v9, v10, v11, v12], .bool true] w1 (Ans T FN b w R) := by
  have n185 := no185 T (fun e => hT (by simp [e]))
  have n189 := no189 T (fun e => hT (by simp [e]))
  have n191 := no191 T (fun e => hT (by simp [e]))
  have n194 := no194 T (fun e => hT (by simp [e]))
  have n196 := no196 T (fun e => hT (by simp [e]))
  have n198 := no198 T (fun e => hT (by simp [e]))
  have n200 := no200 T (fun e => hT (by simp [e]))
  have n203 := no203 T (fun e => hT (by simp [e]))
  have n206 := no206 T (fun e => hT (by simp [e]))
  have n208 := no208 T (fun e => hT (by simp [e]))
  have n210 := no210 T (fun e => hT (by simp [e]))
  have n213 := no213 T (fun e => hT (by simp [e]))
  have n217 := no217 T (fun e => hT (by simp [e]))
  have n219 := no219 T (fun e => hT (by simp [e]))
  have n222 := no222 T (fun e => hT (by simp [e]))
  have n225 := no225 T (fun e => hT (by simp [e]))
  have n228 := no228 T (fun e => hT (by simp [e]))
  have n230 := no230 T (fun e => hT (by simp [e]))
  have n233 := no233 T (fun e => hT (by simp [e]))
  have HC := Lib.hid hc
  clear hc hT
  go_enter Tryz.func60, Tryz.ntmps60
  go_wp2_with (first | (go_at_call 54; refine (let54 n _).mono ?_; rintro e w1 ⟨rfl, rfl⟩))
  go_ret2
  exact ⟨rfl, hx.alloc _, HC.out _⟩
end Go.Proofs.YtdenjanihikolaaGreatDoor
