/- The type switches over messages, and empty messages. -/
import Derived.Test.YtdenjanihikolaaGreatDoorUMsg
namespace Go.Proofs.YtdenjanihikolaaGreatDoor
open Go.RowKit
set_option linter.unusedVariables false

theorem ta_no {K e : Nat} (hu : Tryz.prog.underlying K = some (.pointer e)) (hz : (Tryz.prog.info? K).map (·.zero) = some (some (.pointer none))) (T : Nat) (h : T ≠ K) (v : Value) (w : World) :
    (Instr.typeAssert (.iface T v) 71 K true).run Tryz.prog w = .ok (.tuple #[.pointer none, .bool false]) w := by
  obtain ⟨j, hj, hz'⟩ := Option.map_eq_some_iff.1 hz
  simp [Instr.typeAssert, run_underlying hu, zeroValue, typeInfo, hj, hz', h]
theorem ta_yes {K e : Nat} (hu : Tryz.prog.underlying K = some (.pointer e)) (v : Value) (w : World) :
    (Instr.typeAssert (.iface K v) 71 K true).run Tryz.prog w = .ok (.tuple #[v, .bool true]) w := by
  simp [Instr.typeAssert, run_underlying hu]
theorem no101 (T : Nat) (h : T ≠ 101) : ∀ (v : Value) (w : World), (Instr.typeAssert (.iface T v) 71 101 true).run Tryz.prog w = .ok (.tuple #[.pointer none, .bool false]) w := ta_no Tryz.underlying101 (by kernel_rfl) T h
theorem yes101 : ∀ (v : Value) (w : World), (Instr.typeAssert (.iface 101 v) 71 101 true).run Tryz.prog w = .ok (.tuple #[v, .bool true]) w := ta_yes Tryz.underlying101
theorem no108 (T : Nat) (h : T ≠ 108) : ∀ (v : Value) (w : World), (Instr.typeAssert (.iface T v) 71 108 true).run Tryz.prog w = .ok (.tuple #[.pointer none, .bool false]) w := ta_no Tryz.underlying108 (by kernel_rfl) T h
theorem yes108 : ∀ (v : Value) (w : World), (Instr.typeAssert (.iface 108 v) 71 108 true).run Tryz.prog w = .ok (.tuple #[v, .bool true]) w := ta_yes Tryz.underlying108
theorem no111 (T : Nat) (h : T ≠ 111) : ∀ (v : Value) (w : World), (Instr.typeAssert (.iface T v) 71 111 true).run Tryz.prog w = .ok (.tuple #[.pointer none, .bool false]) w := ta_no Tryz.underlying111 (by kernel_rfl) T h
theorem yes111 : ∀ (v : Value) (w : World), (Instr.typeAssert (.iface 111 v) 71 111 true).run Tryz.prog w = .ok (.tuple #[v, .bool true]) w := ta_yes Tryz.underlying111
theorem no114 (T : Nat) (h : T ≠ 114) : ∀ (v : Value) (w : World), (Instr.typeAssert (.iface T v) 71 114 true).run Tryz.prog w = .ok (.tuple #[.pointer none, .bool false]) w := ta_no Tryz.underlying114 (by kernel_rfl) T h
theorem yes114 : ∀ (v : Value) (w : World), (Instr.typeAssert (.iface 114 v) 71 114 true).run Tryz.prog w = .ok (.tuple #[v, .bool true]) w := ta_yes Tryz.underlying114
theorem no116 (T : Nat) (h : T ≠ 116) : ∀ (v : Value) (w : World), (Instr.typeAssert (.iface T v) 71 116 true).run Tryz.prog w = .ok (.tuple #[.pointer none, .bool false]) w := ta_no Tryz.underlying116 (by kernel_rfl) T h
theorem yes116 : ∀ (v : Value) (w : World), (Instr.typeAssert (.iface 116 v) 71 116 true).run Tryz.prog w = .ok (.tuple #[v, .bool true]) w := ta_yes Tryz.underlying116
theorem no119 (T : Nat) (h : T ≠ 119) : ∀ (v : Value) (w : World), (Instr.typeAssert (.iface T v) 71 119 true).run Tryz.prog w = .ok (.tuple #[.pointer none, .bool false]) w := ta_no Tryz.underlying119 (by kernel_rfl) T h
theorem yes119 : ∀ (v : Value) (w : World), (Instr.typeAssert (.iface 119 v) 71 119 true).run Tryz.prog w = .ok (.tuple #[v, .bool true]) w := ta_yes Tryz.underlying119
theorem no122 (T : Nat) (h : T ≠ 122) : ∀ (v : Value) (w : World), (Instr.typeAssert (.iface T v) 71 122 true).run Tryz.prog w = .ok (.tuple #[.pointer none, .bool false]) w := ta_no Tryz.underlying122 (by kernel_rfl) T h
theorem yes122 : ∀ (v : Value) (w : World), (Instr.typeAssert (.iface 122 v) 71 122 true).run Tryz.prog w = .ok (.tuple #[v, .bool true]) w := ta_yes Tryz.underlying122
theorem no125 (T : Nat) (h : T ≠ 125) : ∀ (v : Value) (w : World), (Instr.typeAssert (.iface T v) 71 125 true).run Tryz.prog w = .ok (.tuple #[.pointer none, .bool false]) w := ta_no Tryz.underlying125 (by kernel_rfl) T h
theorem yes125 : ∀ (v : Value) (w : World), (Instr.typeAssert (.iface 125 v) 71 125 true).run Tryz.prog w = .ok (.tuple #[v, .bool true]) w := ta_yes Tryz.underlying125
theorem no132 (T : Nat) (h : T ≠ 132) : ∀ (v : Value) (w : World), (Instr.typeAssert (.iface T v) 71 132 true).run Tryz.prog w = .ok (.tuple #[.pointer none, .bool false]) w := ta_no Tryz.underlying132 (by kernel_rfl) T h
theorem yes132 : ∀ (v : Value) (w : World), (Instr.typeAssert (.iface 132 v) 71 132 true).run Tryz.prog w = .ok (.tuple #[v, .bool true]) w := ta_yes Tryz.underlying132
theorem no134 (T : Nat) (h : T ≠ 134) : ∀ (v : Value) (w : World), (Instr.typeAssert (.iface T v) 71 134 true).run Tryz.prog w = .ok (.tuple #[.pointer none, .bool false]) w := ta_no Tryz.underlying134 (by kernel_rfl) T h
theorem yes134 : ∀ (v : Value) (w : World), (Instr.typeAssert (.iface 134 v) 71 134 true).run Tryz.prog w = .ok (.tuple #[v, .bool true]) w := ta_yes Tryz.underlying134
theorem no138 (T : Nat) (h : T ≠ 138) : ∀ (v : Value) (w : World), (Instr.typeAssert (.iface T v) 71 138 true).run Tryz.prog w = .ok (.tuple #[.pointer none, .bool false]) w := ta_no Tryz.underlying138 (by kernel_rfl) T h
theorem yes138 : ∀ (v : Value) (w : World), (Instr.typeAssert (.iface 138 v) 71 138 true).run Tryz.prog w = .ok (.tuple #[v, .bool true]) w := ta_yes Tryz.underlying138
theorem no141 (T : Nat) (h : T ≠ 141) : ∀ (v : Value) (w : World), (Instr.typeAssert (.iface T v) 71 141 true).run Tryz.prog w = .ok (.tuple #[.pointer none, .bool false]) w := ta_no Tryz.underlying141 (by kernel_rfl) T h
theorem yes141 : ∀ (v : Value) (w : World), (Instr.typeAssert (.iface 141 v) 71 141 true).run Tryz.prog w = .ok (.tuple #[v, .bool true]) w := ta_yes Tryz.underlying141
theorem no144 (T : Nat) (h : T ≠ 144) : ∀ (v : Value) (w : World), (Instr.typeAssert (.iface T v) 71 144 true).run Tryz.prog w = .ok (.tuple #[.pointer none, .bool false]) w := ta_no Tryz.underlying144 (by kernel_rfl) T h
theorem yes144 : ∀ (v : Value) (w : World), (Instr.typeAssert (.iface 144 v) 71 144 true).run Tryz.prog w = .ok (.tuple #[v, .bool true]) w := ta_yes Tryz.underlying144
theorem no147 (T : Nat) (h : T ≠ 147) : ∀ (v : Value) (w : World), (Instr.typeAssert (.iface T v) 71 147 true).run Tryz.prog w = .ok (.tuple #[.pointer none, .bool false]) w := ta_no Tryz.underlying147 (by kernel_rfl) T h
theorem yes147 : ∀ (v : Value) (w : World), (Instr.typeAssert (.iface 147 v) 71 147 true).run Tryz.prog w = .ok (.tuple #[v, .bool true]) w := ta_yes Tryz.underlying147
theorem no149 (T : Nat) (h : T ≠ 149) : ∀ (v : Value) (w : World), (Instr.typeAssert (.iface T v) 71 149 true).run Tryz.prog w = .ok (.tuple #[.pointer none, .bool false]) w := ta_no Tryz.underlying149 (by kernel_rfl) T h
theorem yes149 : ∀ (v : Value) (w : World), (Instr.typeAssert (.iface 149 v) 71 149 true).run Tryz.prog w = .ok (.tuple #[v, .bool true]) w := ta_yes Tryz.underlying149
theorem no185 (T : Nat) (h : T ≠ 185) : ∀ (v : Value) (w : World), (Instr.typeAssert (.iface T v) 71 185 true).run Tryz.prog w = .ok (.tuple #[.pointer none, .bool false]) w := ta_no Tryz.underlying185 (by kernel_rfl) T h
theorem yes185 : ∀ (v : Value) (w : World), (Instr.typeAssert (.iface 185 v) 71 185 true).run Tryz.prog w = .ok (.tuple #[v, .bool true]) w := ta_yes Tryz.underlying185
theorem no189 (T : Nat) (h : T ≠ 189) : ∀ (v : Value) (w : World), (Instr.typeAssert (.iface T v) 71 189 true).run Tryz.prog w = .ok (.tuple #[.pointer none, .bool false]) w := ta_no Tryz.underlying189 (by kernel_rfl) T h
theorem yes189 : ∀ (v : Value) (w : World), (Instr.typeAssert (.iface 189 v) 71 189 true).run Tryz.prog w = .ok (.tuple #[v, .bool true]) w := ta_yes Tryz.underlying189
theorem no191 (T : Nat) (h : T ≠ 191) : ∀ (v : Value) (w : World), (Instr.typeAssert (.iface T v) 71 191 true).run Tryz.prog w = .ok (.tuple #[.pointer none, .bool false]) w := ta_no Tryz.underlying191 (by kernel_rfl) T h
theorem yes191 : ∀ (v : Value) (w : World), (Instr.typeAssert (.iface 191 v) 71 191 true).run Tryz.prog w = .ok (.tuple #[v, .bool true]) w := ta_yes Tryz.underlying191
theorem no194 (T : Nat) (h : T ≠ 194) : ∀ (v : Value) (w : World), (Instr.typeAssert (.iface T v) 71 194 true).run Tryz.prog w = .ok (.tuple #[.pointer none, .bool false]) w := ta_no Tryz.underlying194 (by kernel_rfl) T h
theorem yes194 : ∀ (v : Value) (w : World), (Instr.typeAssert (.iface 194 v) 71 194 true).run Tryz.prog w = .ok (.tuple #[v, .bool true]) w := ta_yes Tryz.underlying194
theorem no196 (T : Nat) (h : T ≠ 196) : ∀ (v : Value) (w : World), (Instr.typeAssert (.iface T v) 71 196 true).run Tryz.prog w = .ok (.tuple #[.pointer none, .bool false]) w := ta_no Tryz.underlying196 (by kernel_rfl) T h
theorem yes196 : ∀ (v : Value) (w : World), (Instr.typeAssert (.iface 196 v) 71 196 true).run Tryz.prog w = .ok (.tuple #[v, .bool true]) w := ta_yes Tryz.underlying196
theorem no198 (T : Nat) (h : T ≠ 198) : ∀ (v : Value) (w : World), (Instr.typeAssert (.iface T v) 71 198 true).run Tryz.prog w = .ok (.tuple #[.pointer none, .bool false]) w := ta_no Tryz.underlying198 (by kernel_rfl) T h
theorem yes198 : ∀ (v : Value) (w : World), (Instr.typeAssert (.iface 198 v) 71 198 true).run Tryz.prog w = .ok (.tuple #[v, .bool true]) w := ta_yes Tryz.underlying198
theorem no200 (T : Nat) (h : T ≠ 200) : ∀ (v : Value) (w : World), (Instr.typeAssert (.iface T v) 71 200 true).run Tryz.prog w = .ok (.tuple #[.pointer none, .bool false]) w := ta_no Tryz.underlying200 (by kernel_rfl) T h
theorem yes200 : ∀ (v : Value) (w : World), (Instr.typeAssert (.iface 200 v) 71 200 true).run Tryz.prog w = .ok (.tuple #[v, .bool true]) w := ta_yes Tryz.underlying200
theorem no203 (T : Nat) (h : T ≠ 203) : ∀ (v : Value) (w : World), (Instr.typeAssert (.iface T v) 71 203 true).run Tryz.prog w = .ok (.tuple #[.pointer none, .bool false]) w := ta_no Tryz.underlying203 (by kernel_rfl) T h
theorem yes203 : ∀ (v : Value) (w : World), (Instr.typeAssert (.iface 203 v) 71 203 true).run Tryz.prog w = .ok (.tuple #[v, .bool true]) w := ta_yes Tryz.underlying203
theorem no206 (T : Nat) (h : T ≠ 206) : ∀ (v : Value) (w : World), (Instr.typeAssert (.iface T v) 71 206 true).run Tryz.prog w = .ok (.tuple #[.pointer none, .bool false]) w := ta_no Tryz.underlying206 (by kernel_rfl) T h
theorem yes206 : ∀ (v : Value) (w : World), (Instr.typeAssert (.iface 206 v) 71 206 true).run Tryz.prog w = .ok (.tuple #[v, .bool true]) w := ta_yes Tryz.underlying206
theorem no208 (T : Nat) (h : T ≠ 208) : ∀ (v : Value) (w : World), (Instr.typeAssert (.iface T v) 71 208 true).run Tryz.prog w = .ok (.tuple #[.pointer none, .bool false]) w := ta_no Tryz.underlying208 (by kernel_rfl) T h
theorem yes208 : ∀ (v : Value) (w : World), (Instr.typeAssert (.iface 208 v) 71 208 true).run Tryz.prog w = .ok (.tuple #[v, .bool true]) w := ta_yes Tryz.underlying208
theorem no210 (T : Nat) (h : T ≠ 210) : ∀ (v : Value) (w : World), (Instr.typeAssert (.iface T v) 71 210 true).run Tryz.prog w = .ok (.tuple #[.pointer none, .bool false]) w := ta_no Tryz.underlying210 (by kernel_rfl) T h
theorem yes210 : ∀ (v : Value) (w : World), (Instr.typeAssert (.iface 210 v) 71 210 true).run Tryz.prog w = .ok (.tuple #[v, .bool true]) w := ta_yes Tryz.underlying210
theorem no213 (T : Nat) (h : T ≠ 213) : ∀ (v : Value) (w : World), (Instr.typeAssert (.iface T v) 71 213 true).run Tryz.prog w = .ok (.tuple #[.pointer none, .bool false]) w := ta_no Tryz.underlying213 (by kernel_rfl) T h
theorem yes213 : ∀ (v : Value) (w : World), (Instr.typeAssert (.iface 213 v) 71 213 true).run Tryz.prog w = .ok (.tuple #[v, .bool true]) w := ta_yes Tryz.underlying213
theorem no217 (T : Nat) (h : T ≠ 217) : ∀ (v : Value) (w : World), (Instr.typeAssert (.iface T v) 71 217 true).run Tryz.prog w = .ok (.tuple #[.pointer none, .bool false]) w := ta_no Tryz.underlying217 (by kernel_rfl) T h
theorem yes217 : ∀ (v : Value) (w : World), (Instr.typeAssert (.iface 217 v) 71 217 true).run Tryz.prog w = .ok (.tuple #[v, .bool true]) w := ta_yes Tryz.underlying217
theorem no219 (T : Nat) (h : T ≠ 219) : ∀ (v : Value) (w : World), (Instr.typeAssert (.iface T v) 71 219 true).run Tryz.prog w = .ok (.tuple #[.pointer none, .bool false]) w := ta_no Tryz.underlying219 (by kernel_rfl) T h
theorem yes219 : ∀ (v : Value) (w : World), (Instr.typeAssert (.iface 219 v) 71 219 true).run Tryz.prog w = .ok (.tuple #[v, .bool true]) w := ta_yes Tryz.underlying219
theorem no222 (T : Nat) (h : T ≠ 222) : ∀ (v : Value) (w : World), (Instr.typeAssert (.iface T v) 71 222 true).run Tryz.prog w = .ok (.tuple #[.pointer none, .bool false]) w := ta_no Tryz.underlying222 (by kernel_rfl) T h
theorem yes222 : ∀ (v : Value) (w : World), (Instr.typeAssert (.iface 222 v) 71 222 true).run Tryz.prog w = .ok (.tuple #[v, .bool true]) w := ta_yes Tryz.underlying222
theorem no225 (T : Nat) (h : T ≠ 225) : ∀ (v : Value) (w : World), (Instr.typeAssert (.iface T v) 71 225 true).run Tryz.prog w = .ok (.tuple #[.pointer none, .bool false]) w := ta_no Tryz.underlying225 (by kernel_rfl) T h
theorem yes225 : ∀ (v : Value) (w : World), (Instr.typeAssert (.iface 225 v) 71 225 true).run Tryz.prog w = .ok (.tuple #[v, .bool true]) w := ta_yes Tryz.underlying225
theorem no228 (T : Nat) (h : T ≠ 228) : ∀ (v : Value) (w : World), (Instr.typeAssert (.iface T v) 71 228 true).run Tryz.prog w = .ok (.tuple #[.pointer none, .bool false]) w := ta_no Tryz.underlying228 (by kernel_rfl) T h
theorem yes228 : ∀ (v : Value) (w : World), (Instr.typeAssert (.iface 228 v) 71 228 true).run Tryz.prog w = .ok (.tuple #[v, .bool true]) w := ta_yes Tryz.underlying228
theorem no230 (T : Nat) (h : T ≠ 230) : ∀ (v : Value) (w : World), (Instr.typeAssert (.iface T v) 71 230 true).run Tryz.prog w = .ok (.tuple #[.pointer none, .bool false]) w := ta_no Tryz.underlying230 (by kernel_rfl) T h
theorem yes230 : ∀ (v : Value) (w : World), (Instr.typeAssert (.iface 230 v) 71 230 true).run Tryz.prog w = .ok (.tuple #[v, .bool true]) w := ta_yes Tryz.underlying230
theorem no233 (T : Nat) (h : T ≠ 233) : ∀ (v : Value) (w : World), (Instr.typeAssert (.iface T v) 71 233 true).run Tryz.prog w = .ok (.tuple #[.pointer none, .bool false]) w := ta_no Tryz.underlying233 (by kernel_rfl) T h
theorem yes233 : ∀ (v : Value) (w : World), (Instr.typeAssert (.iface 233 v) 71 233 true).run Tryz.prog w = .ok (.tuple #[v, .bool true]) w := ta_yes Tryz.underlying233
set_option maxRecDepth 100000 in
theorem let54 (n : Int) (w : World) : Calls Tryz.prog 54 #[.int .u32 n] w (fun e w' => e = .returned (.tuple #[.int .u8 (n % 256), .bool (decide (n < 256))]) ∧ w' = w) := by
  go_enter Tryz.func54, Tryz.ntmps54
  go_wp2
  go_ret2
  exact ⟨rfl, rfl⟩
end Go.Proofs.YtdenjanihikolaaGreatDoor

