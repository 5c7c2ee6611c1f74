/- Empty messages by kind. -/
import Derived.Test.YtdenjanihikolaaGreatDoorRqA0
import Derived.Test.YtdenjanihikolaaGreatDoorRqA1
import Derived.Test.YtdenjanihikolaaGreatDoorRqWrd
namespace Go.Proofs.YtdenjanihikolaaGreatDoor
set_option linter.unusedVariables false
set_option linter.unusedSimpArgs false
set_option maxRecDepth 100000
set_option maxHeartbeats 4000000
open Go.RowKit
theorem ta_no {K e:Nat} (hu:Tryz.prog.underlying K=some (.pointer e))(hz:(Tryz.prog.info? K).map (·.zero)=some (some (.pointer none)))(T:Nat)(h:T≠K)(v:Value)(w:World):
 (Instr.typeAssert (.iface T v) 71 K true).run Tryz.prog w=.ok (.tuple #[.pointer none,.bool false]) w:=by
 obtain⟨j,hj,hz'⟩:=Option.map_eq_some_iff.1 hz
 simp [Instr.typeAssert,run_underlying hu,zeroValue,typeInfo,hj,hz',h]
theorem ta_yes {K e:Nat} (hu:Tryz.prog.underlying K=some (.pointer e))(v:Value)(w:World):
 (Instr.typeAssert (.iface K v) 71 K true).run Tryz.prog w=.ok (.tuple #[v,.bool true]) w:=by
 simp [Instr.typeAssert,run_underlying hu]
theorem no101 (T:Nat)(h:T≠101:=by decide):∀(v:Value) (w:World),(Instr.typeAssert (.iface T v) 71 101 true).run Tryz.prog w=.ok (.tuple #[.pointer none,.bool false]) w:=ta_no Tryz.underlying101 (by kernel_rfl) T h
theorem yes101:∀(v:Value) (w:World),(Instr.typeAssert (.iface 101 v) 71 101 true).run Tryz.prog w=.ok (.tuple #[v,.bool true]) w:=ta_yes Tryz.underlying101
theorem no108 (T:Nat)(h:T≠108:=by decide):∀(v:Value) (w:World),(Instr.typeAssert (.iface T v) 71 108 true).run Tryz.prog w=.ok (.tuple #[.pointer none,.bool false]) w:=ta_no Tryz.underlying108 (by kernel_rfl) T h
theorem yes108:∀(v:Value) (w:World),(Instr.typeAssert (.iface 108 v) 71 108 true).run Tryz.prog w=.ok (.tuple #[v,.bool true]) w:=ta_yes Tryz.underlying108
theorem no111 (T:Nat)(h:T≠111:=by decide):∀(v:Value) (w:World),(Instr.typeAssert (.iface T v) 71 111 true).run Tryz.prog w=.ok (.tuple #[.pointer none,.bool false]) w:=ta_no Tryz.underlying111 (by kernel_rfl) T h
theorem yes111:∀(v:Value) (w:World),(Instr.typeAssert (.iface 111 v) 71 111 true).run Tryz.prog w=.ok (.tuple #[v,.bool true]) w:=ta_yes Tryz.underlying111
theorem no114 (T:Nat)(h:T≠114:=by decide):∀(v:Value) (w:World),(Instr.typeAssert (.iface T v) 71 114 true).run Tryz.prog w=.ok (.tuple #[.pointer none,.bool false]) w:=ta_no Tryz.underlying114 (by kernel_rfl) T h
theorem yes114:∀(v:Value) (w:World),(Instr.typeAssert (.iface 114 v) 71 114 true).run Tryz.prog w=.ok (.tuple #[v,.bool true]) w:=ta_yes Tryz.underlying114
theorem no116 (T:Nat)(h:T≠116:=by decide):∀(v:Value) (w:World),(Instr.typeAssert (.iface T v) 71 116 true).run Tryz.prog w=.ok (.tuple #[.pointer none,.bool false]) w:=ta_no Tryz.underlying116 (by kernel_rfl) T h
theorem yes116:∀(v:Value) (w:World),(Instr.typeAssert (.iface 116 v) 71 116 true).run Tryz.prog w=.ok (.tuple #[v,.bool true]) w:=ta_yes Tryz.underlying116
theorem no119 (T:Nat)(h:T≠119:=by decide):∀(v:Value) (w:World),(Instr.typeAssert (.iface T v) 71 119 true).run Tryz.prog w=.ok (.tuple #[.pointer none,.bool false]) w:=ta_no Tryz.underlying119 (by kernel_rfl) T h
theorem yes119:∀(v:Value) (w:World),(Instr.typeAssert (.iface 119 v) 71 119 true).run Tryz.prog w=.ok (.tuple #[v,.bool true]) w:=ta_yes Tryz.underlying119
theorem no122 (T:Nat)(h:T≠122:=by decide):∀(v:Value) (w:World),(Instr.typeAssert (.iface T v) 71 122 true).run Tryz.prog w=.ok (.tuple #[.pointer none,.bool false]) w:=ta_no Tryz.underlying122 (by kernel_rfl) T h
theorem yes122:∀(v:Value) (w:World),(Instr.typeAssert (.iface 122 v) 71 122 true).run Tryz.prog w=.ok (.tuple #[v,.bool true]) w:=ta_yes Tryz.underlying122
theorem no125 (T:Nat)(h:T≠125:=by decide):∀(v:Value) (w:World),(Instr.typeAssert (.iface T v) 71 125 true).run Tryz.prog w=.ok (.tuple #[.pointer none,.bool false]) w:=ta_no Tryz.underlying125 (by kernel_rfl) T h
theorem yes125:∀(v:Value) (w:World),(Instr.typeAssert (.iface 125 v) 71 125 true).run Tryz.prog w=.ok (.tuple #[v,.bool true]) w:=ta_yes Tryz.underlying125
theorem no132 (T:Nat)(h:T≠132:=by decide):∀(v:Value) (w:World),(Instr.typeAssert (.iface T v) 71 132 true).run Tryz.prog w=.ok (.tuple #[.pointer none,.bool false]) w:=ta_no Tryz.underlying132 (by kernel_rfl) T h
theorem yes132:∀(v:Value) (w:World),(Instr.typeAssert (.iface 132 v) 71 132 true).run Tryz.prog w=.ok (.tuple #[v,.bool true]) w:=ta_yes Tryz.underlying132
theorem no134 (T:Nat)(h:T≠134:=by decide):∀(v:Value) (w:World),(Instr.typeAssert (.iface T v) 71 134 true).run Tryz.prog w=.ok (.tuple #[.pointer none,.bool false]) w:=ta_no Tryz.underlying134 (by kernel_rfl) T h
theorem yes134:∀(v:Value) (w:World),(Instr.typeAssert (.iface 134 v) 71 134 true).run Tryz.prog w=.ok (.tuple #[v,.bool true]) w:=ta_yes Tryz.underlying134
theorem no138 (T:Nat)(h:T≠138:=by decide):∀(v:Value) (w:World),(Instr.typeAssert (.iface T v) 71 138 true).run Tryz.prog w=.ok (.tuple #[.pointer none,.bool false]) w:=ta_no Tryz.underlying138 (by kernel_rfl) T h
theorem yes138:∀(v:Value) (w:World),(Instr.typeAssert (.iface 138 v) 71 138 true).run Tryz.prog w=.ok (.tuple #[v,.bool true]) w:=ta_yes Tryz.underlying138
theorem no141 (T:Nat)(h:T≠141:=by decide):∀(v:Value) (w:World),(Instr.typeAssert (.iface T v) 71 141 true).run Tryz.prog w=.ok (.tuple #[.pointer none,.bool false]) w:=ta_no Tryz.underlying141 (by kernel_rfl) T h
theorem yes141:∀(v:Value) (w:World),(Instr.typeAssert (.iface 141 v) 71 141 true).run Tryz.prog w=.ok (.tuple #[v,.bool true]) w:=ta_yes Tryz.underlying141
theorem no144 (T:Nat)(h:T≠144:=by decide):∀(v:Value) (w:World),(Instr.typeAssert (.iface T v) 71 144 true).run Tryz.prog w=.ok (.tuple #[.pointer none,.bool false]) w:=ta_no Tryz.underlying144 (by kernel_rfl) T h
theorem yes144:∀(v:Value) (w:World),(Instr.typeAssert (.iface 144 v) 71 144 true).run Tryz.prog w=.ok (.tuple #[v,.bool true]) w:=ta_yes Tryz.underlying144
theorem no147 (T:Nat)(h:T≠147:=by decide):∀(v:Value) (w:World),(Instr.typeAssert (.iface T v) 71 147 true).run Tryz.prog w=.ok (.tuple #[.pointer none,.bool false]) w:=ta_no Tryz.underlying147 (by kernel_rfl) T h
theorem yes147:∀(v:Value) (w:World),(Instr.typeAssert (.iface 147 v) 71 147 true).run Tryz.prog w=.ok (.tuple #[v,.bool true]) w:=ta_yes Tryz.underlying147
theorem no149 (T:Nat)(h:T≠149:=by decide):∀(v:Value) (w:World),(Instr.typeAssert (.iface T v) 71 149 true).run Tryz.prog w=.ok (.tuple #[.pointer none,.bool false]) w:=ta_no Tryz.underlying149 (by kernel_rfl) T h
theorem yes149:∀(v:Value) (w:World),(Instr.typeAssert (.iface 149 v) 71 149 true).run Tryz.prog w=.ok (.tuple #[v,.bool true]) w:=ta_yes Tryz.underlying149
theorem no185 (T:Nat)(h:T≠185:=by decide):∀(v:Value) (w:World),(Instr.typeAssert (.iface T v) 71 185 true).run Tryz.prog w=.ok (.tuple #[.pointer none,.bool false]) w:=ta_no Tryz.underlying185 (by kernel_rfl) T h
theorem yes185:∀(v:Value) (w:World),(Instr.typeAssert (.iface 185 v) 71 185 true).run Tryz.prog w=.ok (.tuple #[v,.bool true]) w:=ta_yes Tryz.underlying185
theorem no189 (T:Nat)(h:T≠189:=by decide):∀(v:Value) (w:World),(Instr.typeAssert (.iface T v) 71 189 true).run Tryz.prog w=.ok (.tuple #[.pointer none,.bool false]) w:=ta_no Tryz.underlying189 (by kernel_rfl) T h
theorem yes189:∀(v:Value) (w:World),(Instr.typeAssert (.iface 189 v) 71 189 true).run Tryz.prog w=.ok (.tuple #[v,.bool true]) w:=ta_yes Tryz.underlying189
theorem no191 (T:Nat)(h:T≠191:=by decide):∀(v:Value) (w:World),(Instr.typeAssert (.iface T v) 71 191 true).run Tryz.prog w=.ok (.tuple #[.pointer none,.bool false]) w:=ta_no Tryz.underlying191 (by kernel_rfl) T h
theorem yes191:∀(v:Value) (w:World),(Instr.typeAssert (.iface 191 v) 71 191 true).run Tryz.prog w=.ok (.tuple #[v,.bool true]) w:=ta_yes Tryz.underlying191
theorem no194 (T:Nat)(h:T≠194:=by decide):∀(v:Value) (w:World),(Instr.typeAssert (.iface T v) 71 194 true).run Tryz.prog w=.ok (.tuple #[.pointer none,.bool false]) w:=ta_no Tryz.underlying194 (by kernel_rfl) T h
theorem yes194:∀(v:Value) (w:World),(Instr.typeAssert (.iface 194 v) 71 194 true).run Tryz.prog w=.ok (.tuple #[v,.bool true]) w:=ta_yes Tryz.underlying194
theorem no196 (T:Nat)(h:T≠196:=by decide):∀(v:Value) (w:World),(Instr.typeAssert (.iface T v) 71 196 true).run Tryz.prog w=.ok (.tuple #[.pointer none,.bool false]) w:=ta_no Tryz.underlying196 (by kernel_rfl) T h
theorem yes196:∀(v:Value) (w:World),(Instr.typeAssert (.iface 196 v) 71 196 true).run Tryz.prog w=.ok (.tuple #[v,.bool true]) w:=ta_yes Tryz.underlying196
theorem no198 (T:Nat)(h:T≠198:=by decide):∀(v:Value) (w:World),(Instr.typeAssert (.iface T v) 71 198 true).run Tryz.prog w=.ok (.tuple #[.pointer none,.bool false]) w:=ta_no Tryz.underlying198 (by kernel_rfl) T h
theorem yes198:∀(v:Value) (w:World),(Instr.typeAssert (.iface 198 v) 71 198 true).run Tryz.prog w=.ok (.tuple #[v,.bool true]) w:=ta_yes Tryz.underlying198
theorem no200 (T:Nat)(h:T≠200:=by decide):∀(v:Value) (w:World),(Instr.typeAssert (.iface T v) 71 200 true).run Tryz.prog w=.ok (.tuple #[.pointer none,.bool false]) w:=ta_no Tryz.underlying200 (by kernel_rfl) T h
theorem yes200:∀(v:Value) (w:World),(Instr.typeAssert (.iface 200 v) 71 200 true).run Tryz.prog w=.ok (.tuple #[v,.bool true]) w:=ta_yes Tryz.underlying200
theorem no203 (T:Nat)(h:T≠203:=by decide):∀(v:Value) (w:World),(Instr.typeAssert (.iface T v) 71 203 true).run Tryz.prog w=.ok (.tuple #[.pointer none,.bool false]) w:=ta_no Tryz.underlying203 (by kernel_rfl) T h
theorem yes203:∀(v:Value) (w:World),(Instr.typeAssert (.iface 203 v) 71 203 true).run Tryz.prog w=.ok (.tuple #[v,.bool true]) w:=ta_yes Tryz.underlying203
theorem no206 (T:Nat)(h:T≠206:=by decide):∀(v:Value) (w:World),(Instr.typeAssert (.iface T v) 71 206 true).run Tryz.prog w=.ok (.tuple #[.pointer none,.bool false]) w:=ta_no Tryz.underlying206 (by kernel_rfl) T h
theorem yes206:∀(v:Value) (w:World),(Instr.typeAssert (.iface 206 v) 71 206 true).run Tryz.prog w=.ok (.tuple #[v,.bool true]) w:=ta_yes Tryz.underlying206
theorem no208 (T:Nat)(h:T≠208:=by decide):∀(v:Value) (w:World),(Instr.typeAssert (.iface T v) 71 208 true).run Tryz.prog w=.ok (.tuple #[.pointer none,.bool false]) w:=ta_no Tryz.underlying208 (by kernel_rfl) T h
theorem yes208:∀(v:Value) (w:World),(Instr.typeAssert (.iface 208 v) 71 208 true).run Tryz.prog w=.ok (.tuple #[v,.bool true]) w:=ta_yes Tryz.underlying208
theorem no210 (T:Nat)(h:T≠210:=by decide):∀(v:Value) (w:World),(Instr.typeAssert (.iface T v) 71 210 true).run Tryz.prog w=.ok (.tuple #[.pointer none,.bool false]) w:=ta_no Tryz.underlying210 (by kernel_rfl) T h
theorem yes210:∀(v:Value) (w:World),(Instr.typeAssert (.iface 210 v) 71 210 true).run Tryz.prog w=.ok (.tuple #[v,.bool true]) w:=ta_yes Tryz.underlying210
theorem no213 (T:Nat)(h:T≠213:=by decide):∀(v:Value) (w:World),(Instr.typeAssert (.iface T v) 71 213 true).run Tryz.prog w=.ok (.tuple #[.pointer none,.bool false]) w:=ta_no Tryz.underlying213 (by kernel_rfl) T h
theorem yes213:∀(v:Value) (w:World),(Instr.typeAssert (.iface 213 v) 71 213 true).run Tryz.prog w=.ok (.tuple #[v,.bool true]) w:=ta_yes Tryz.underlying213
theorem no217 (T:Nat)(h:T≠217:=by decide):∀(v:Value) (w:World),(Instr.typeAssert (.iface T v) 71 217 true).run Tryz.prog w=.ok (.tuple #[.pointer none,.bool false]) w:=ta_no Tryz.underlying217 (by kernel_rfl) T h
theorem yes217:∀(v:Value) (w:World),(Instr.typeAssert (.iface 217 v) 71 217 true).run Tryz.prog w=.ok (.tuple #[v,.bool true]) w:=ta_yes Tryz.underlying217
theorem no219 (T:Nat)(h:T≠219:=by decide):∀(v:Value) (w:World),(Instr.typeAssert (.iface T v) 71 219 true).run Tryz.prog w=.ok (.tuple #[.pointer none,.bool false]) w:=ta_no Tryz.underlying219 (by kernel_rfl) T h
theorem yes219:∀(v:Value) (w:World),(Instr.typeAssert (.iface 219 v) 71 219 true).run Tryz.prog w=.ok (.tuple #[v,.bool true]) w:=ta_yes Tryz.underlying219
theorem no222 (T:Nat)(h:T≠222:=by decide):∀(v:Value) (w:World),(Instr.typeAssert (.iface T v) 71 222 true).run Tryz.prog w=.ok (.tuple #[.pointer none,.bool false]) w:=ta_no Tryz.underlying222 (by kernel_rfl) T h
theorem yes222:∀(v:Value) (w:World),(Instr.typeAssert (.iface 222 v) 71 222 true).run Tryz.prog w=.ok (.tuple #[v,.bool true]) w:=ta_yes Tryz.underlying222
theorem no225 (T:Nat)(h:T≠225:=by decide):∀(v:Value) (w:World),(Instr.typeAssert (.iface T v) 71 225 true).run Tryz.prog w=.ok (.tuple #[.pointer none,.bool false]) w:=ta_no Tryz.underlying225 (by kernel_rfl) T h
theorem yes225:∀(v:Value) (w:World),(Instr.typeAssert (.iface 225 v) 71 225 true).run Tryz.prog w=.ok (.tuple #[v,.bool true]) w:=ta_yes Tryz.underlying225
theorem no228 (T:Nat)(h:T≠228:=by decide):∀(v:Value) (w:World),(Instr.typeAssert (.iface T v) 71 228 true).run Tryz.prog w=.ok (.tuple #[.pointer none,.bool false]) w:=ta_no Tryz.underlying228 (by kernel_rfl) T h
theorem yes228:∀(v:Value) (w:World),(Instr.typeAssert (.iface 228 v) 71 228 true).run Tryz.prog w=.ok (.tuple #[v,.bool true]) w:=ta_yes Tryz.underlying228
theorem no230 (T:Nat)(h:T≠230:=by decide):∀(v:Value) (w:World),(Instr.typeAssert (.iface T v) 71 230 true).run Tryz.prog w=.ok (.tuple #[.pointer none,.bool false]) w:=ta_no Tryz.underlying230 (by kernel_rfl) T h
theorem yes230:∀(v:Value) (w:World),(Instr.typeAssert (.iface 230 v) 71 230 true).run Tryz.prog w=.ok (.tuple #[v,.bool true]) w:=ta_yes Tryz.underlying230
theorem no233 (T:Nat)(h:T≠233:=by decide):∀(v:Value) (w:World),(Instr.typeAssert (.iface T v) 71 233 true).run Tryz.prog w=.ok (.tuple #[.pointer none,.bool false]) w:=ta_no Tryz.underlying233 (by kernel_rfl) T h
theorem yes233:∀(v:Value) (w:World),(Instr.typeAssert (.iface 233 v) 71 233 true).run Tryz.prog w=.ok (.tuple #[v,.bool true]) w:=ta_yes Tryz.underlying233
theorem let54 (n:Int)(w:World):Calls Tryz.prog 54 #[.int .u32 n] w (fun e w'=>e=.returned (.tuple #[.int .u8 (n % 256),.bool (decide (n < 256))])/\w'=w):=by
 go_enter Tryz.func54,Tryz.ntmps54
 go_wp2
 go_ret2
 exact⟨rfl,rfl⟩
def Ans (T FN b:Nat) (w:World) (R:List Int):Ending->World->Prop:=fun e w2=>e=.returned (.tuple #[.iface T (.pointer (some ⟨b,0,none⟩)),.bool true])/\Ext w w2/\Calls Tryz.prog FN #[.pointer (some ⟨b,0,none⟩),.slice none 0 0] w2 (Gives w2 R)
theorem made_dflt (T FN ty:Nat)(cs0:Array Value)(kd n:Int)(v1 v2 v4 v5 v6 v7 v8 v9 v10 v11 v12:Value)(w:World)(R:List Int)(hT:T∉[101,108,111,114,116,119,122,125,132,134,138,141,144,147,149])
 (hE:∀w,Calls Tryz.prog 46 #[.int .i64 kd] w (fun e w'=>e=.returned (.iface T (.pointer (some ⟨w.heap.size,0,none⟩)))/\w'=w.alloc (.cells cs0 ty)))
 (hA:∀w1 b,Ext w w1->w.heap.size<=b->w1.heap[b]?=some (.cells cs0 ty (0,0))->Calls Tryz.prog 60 #[.iface T (.pointer (some ⟨b,0,none⟩)),.agg #[.int .i64 kd,v1,v2,.int .u32 n,v4,v5,v6,v7,v8,v9,v10,v11,v12],.bool true] w1 (Ans T FN b w R)):
 Calls Tryz.prog 34 #[.agg #[.int .i64 kd,v1,v2,.int .u32 n,v4,v5,v6,v7,v8,v9,v10,v11,v12]] w (Made T FN w R):=by
 have n101:=no101 T (fun e=>hT (by simp [e]))
 have n108:=no108 T (fun e=>hT (by simp [e]))
 have n111:=no111 T (fun e=>hT (by simp [e]))
 have n114:=no114 T (fun e=>hT (by simp [e]))
 have n116:=no116 T (fun e=>hT (by simp [e]))
 have n119:=no119 T (fun e=>hT (by simp [e]))
 have n122:=no122 T (fun e=>hT (by simp [e]))
 have n125:=no125 T (fun e=>hT (by simp [e]))
 have n132:=no132 T (fun e=>hT (by simp [e]))
 have n134:=no134 T (fun e=>hT (by simp [e]))
 have n138:=no138 T (fun e=>hT (by simp [e]))
 have n141:=no141 T (fun e=>hT (by simp [e]))
 have n144:=no144 T (fun e=>hT (by simp [e]))
 have n147:=no147 T (fun e=>hT (by simp [e]))
 have n149:=no149 T (fun e=>hT (by simp [e]))
 have HE:=zh hE
 have HA:=zh hA
 clear hE hA hT
 obtain⟨W1,hW1⟩:∃W1,W1=(w.alloc (.cells #[.int .i64 kd,v1,v2,.int .u32 n,v4,v5,v6,v7,v8,v9,v10,v11,v12] 31)).alloc (.cells cs0 ty):=⟨_,rfl⟩
 have hx:Hid (Ext w W1):=zh (by rw [hW1];exact(ext_alloc w _).alloc _)
 have hb:Hid (W1.heap[w.heap.size+1]?=some (.cells cs0 ty (0,0))):=zh (by
  rw [hW1]
  have:=heap_alloc_new (w.alloc (.cells #[.int .i64 kd,v1,v2,.int .u32 n,v4,v5,v6,v7,v8,v9,v10,v11,v12] 31)) (.cells cs0 ty)
  simpa using this)
 go_enter Tryz.func34,Tryz.ntmps34
 go_wp2_with (first|(go_at_call 46;refine(HE.out _).mono ?_;rintro e w1 ⟨rfl,rfl⟩)|(go_at_call 54;refine(let54 n _).mono ?_;rintro e w1 ⟨rfl,rfl⟩)|(go_at_call 60;rw [<-hW1];refine(HA.out W1 (w.heap.size+1) hx.out (by omega) hb.out).mono ?_;rintro e w2 ⟨rfl,hx2,hc2⟩;have HX2:=zh hx2;have HC2:=zh hc2;clear hx2 hc2))
 go_ret2
 exact⟨_,rfl,HX2.out,HC2.out⟩
theorem ans_triv (T FN b:Nat)(kd n:Int)(v1 v2 v4 v5 v6 v7 v8 v9 v10 v11 v12:Value)(w w1:World)(R:List Int)(hT:T∉[185,189,191,194,196,198,200,203,206,208,210,213,217,219,222,225,228,230,233])(hx:Ext w w1)
 (hc:∀w2,Calls Tryz.prog FN #[.pointer (some ⟨b,0,none⟩),.slice none 0 0] w2 (Gives w2 R)):
 Calls Tryz.prog 60 #[.iface T (.pointer (some ⟨b,0,none⟩)),.agg #[.int .i64 kd,v1,v2,.int .u32 n,v4,v5,v6,v7,v8,v9,v10,v11,v12],.bool true] w1 (Ans T FN b w R):=by
 have n185:=no185 T (fun e=>hT (by simp [e]))
 have n189:=no189 T (fun e=>hT (by simp [e]))
 have n191:=no191 T (fun e=>hT (by simp [e]))
 have n194:=no194 T (fun e=>hT (by simp [e]))
 have n196:=no196 T (fun e=>hT (by simp [e]))
 have n198:=no198 T (fun e=>hT (by simp [e]))
 have n200:=no200 T (fun e=>hT (by simp [e]))
 have n203:=no203 T (fun e=>hT (by simp [e]))
 have n206:=no206 T (fun e=>hT (by simp [e]))
 have n208:=no208 T (fun e=>hT (by simp [e]))
 have n210:=no210 T (fun e=>hT (by simp [e]))
 have n213:=no213 T (fun e=>hT (by simp [e]))
 have n217:=no217 T (fun e=>hT (by simp [e]))
 have n219:=no219 T (fun e=>hT (by simp [e]))
 have n222:=no222 T (fun e=>hT (by simp [e]))
 have n225:=no225 T (fun e=>hT (by simp [e]))
 have n228:=no228 T (fun e=>hT (by simp [e]))
 have n230:=no230 T (fun e=>hT (by simp [e]))
 have n233:=no233 T (fun e=>hT (by simp [e]))
 have HC:=zh hc
 clear hc hT
 go_enter Tryz.func60,Tryz.ntmps60
 go_wp2_with (first|(go_at_call 54;refine(let54 n _).mono ?_;rintro e w1 ⟨rfl,rfl⟩))
 go_ret2
 exact⟨rfl,hx.alloc _,HC.out _⟩
theorem emp0 (w:World):Calls Tryz.prog 46 #[.int .i64 0] w (fun e w'=>e=.returned (.iface 101 (.pointer (some ⟨w.heap.size,0,none⟩)))/\w'=w.alloc (.cells #[.string ⟨#[]⟩,.string ⟨#[]⟩,.slice none 0 0,.slice none 0 0,.slice none 0 0] 107)):=by
 go_enter Tryz.func46,Tryz.ntmps46
 go_wp2
 go_ret
 exact⟨rfl,rfl⟩
theorem emp1 (w:World):Calls Tryz.prog 46 #[.int .i64 1] w (fun e w'=>e=.returned (.iface 108 (.pointer (some ⟨w.heap.size,0,none⟩)))/\w'=w.alloc (.cells #[.int .u32 0,.slice none 0 0] 110)):=by
 go_enter Tryz.func46,Tryz.ntmps46
 go_wp2
 go_ret
 exact⟨rfl,rfl⟩
theorem emp2 (w:World):Calls Tryz.prog 46 #[.int .i64 2] w (fun e w'=>e=.returned (.iface 111 (.pointer (some ⟨w.heap.size,0,none⟩)))/\w'=w.alloc (.cells #[.int .u8 0,.string ⟨#[]⟩] 113)):=by
 go_enter Tryz.func46,Tryz.ntmps46
 go_wp2
 go_ret
 exact⟨rfl,rfl⟩
theorem emp3 (w:World):Calls Tryz.prog 46 #[.int .i64 3] w (fun e w'=>e=.returned (.iface 116 (.pointer (some ⟨w.heap.size,0,none⟩)))/\w'=w.alloc (.cells #[.slice none 0 0] 118)):=by
 go_enter Tryz.func46,Tryz.ntmps46
 go_wp2
 go_ret
 exact⟨rfl,rfl⟩
theorem emp5 (w:World):Calls Tryz.prog 46 #[.int .i64 5] w (fun e w'=>e=.returned (.iface 119 (.pointer (some ⟨w.heap.size,0,none⟩)))/\w'=w.alloc (.cells #[.string ⟨#[]⟩] 121)):=by
 go_enter Tryz.func46,Tryz.ntmps46
 go_wp2
 go_ret
 exact⟨rfl,rfl⟩
theorem emp6 (w:World):Calls Tryz.prog 46 #[.int .i64 6] w (fun e w'=>e=.returned (.iface 114 (.pointer (some ⟨w.heap.size,0,none⟩)))/\w'=w.alloc (.cells #[.int .u8 0,.string ⟨#[]⟩] 115)):=by
 go_enter Tryz.func46,Tryz.ntmps46
 go_wp2
 go_ret
 exact⟨rfl,rfl⟩
theorem emp7 (w:World):Calls Tryz.prog 46 #[.int .i64 7] w (fun e w'=>e=.returned (.iface 122 (.pointer (some ⟨w.heap.size,0,none⟩)))/\w'=w.alloc (.cells #[.string ⟨#[]⟩,.int .u32 0] 124)):=by
 go_enter Tryz.func46,Tryz.ntmps46
 go_wp2
 go_ret
 exact⟨rfl,rfl⟩
theorem emp9 (w:World):Calls Tryz.prog 46 #[.int .i64 9] w (fun e w'=>e=.returned (.iface 125 (.pointer (some ⟨w.heap.size,0,none⟩)))/\w'=w.alloc (.cells #[.int .u32 0,.slice none 0 0,.slice none 0 0,.int .u16 0] 131)):=by
 go_enter Tryz.func46,Tryz.ntmps46
 go_wp2
 go_ret
 exact⟨rfl,rfl⟩
theorem emp11 (w:World):Calls Tryz.prog 46 #[.int .i64 11] w (fun e w'=>e=.returned (.iface 132 (.pointer (some ⟨w.heap.size,0,none⟩)))/\w'=w.alloc (.cells #[.slice none 0 0] 133)):=by
 go_enter Tryz.func46,Tryz.ntmps46
 go_wp2
 go_ret
 exact⟨rfl,rfl⟩
theorem emp12 (w:World):Calls Tryz.prog 46 #[.int .i64 12] w (fun e w'=>e=.returned (.iface 134 (.pointer (some ⟨w.heap.size,0,none⟩)))/\w'=w.alloc (.cells #[.string ⟨#[]⟩,.string ⟨#[]⟩,.slice none 0 0] 137)):=by
 go_enter Tryz.func46,Tryz.ntmps46
 go_wp2
 go_ret
 exact⟨rfl,rfl⟩
theorem emp13 (w:World):Calls Tryz.prog 46 #[.int .i64 13] w (fun e w'=>e=.returned (.iface 138 (.pointer (some ⟨w.heap.size,0,none⟩)))/\w'=w.alloc (.cells #[.string ⟨#[]⟩] 140)):=by
 go_enter Tryz.func46,Tryz.ntmps46
 go_wp2
 go_ret
 exact⟨rfl,rfl⟩
theorem emp14 (w:World):Calls Tryz.prog 46 #[.int .i64 14] w (fun e w'=>e=.returned (.iface 141 (.pointer (some ⟨w.heap.size,0,none⟩)))/\w'=w.alloc (.cells #[.string ⟨#[]⟩] 143)):=by
 go_enter Tryz.func46,Tryz.ntmps46
 go_wp2
 go_ret
 exact⟨rfl,rfl⟩
theorem emp15 (w:World):Calls Tryz.prog 46 #[.int .i64 15] w (fun e w'=>e=.returned (.iface 144 (.pointer (some ⟨w.heap.size,0,none⟩)))/\w'=w.alloc (.cells #[.string ⟨#[]⟩,.slice none 0 0] 146)):=by
 go_enter Tryz.func46,Tryz.ntmps46
 go_wp2
 go_ret
 exact⟨rfl,rfl⟩
theorem emp16 (w:World):Calls Tryz.prog 46 #[.int .i64 16] w (fun e w'=>e=.returned (.iface 147 (.pointer (some ⟨w.heap.size,0,none⟩)))/\w'=w.alloc (.cells #[.slice none 0 0] 148)):=by
 go_enter Tryz.func46,Tryz.ntmps46
 go_wp2
 go_ret
 exact⟨rfl,rfl⟩
theorem emp18 (w:World):Calls Tryz.prog 46 #[.int .i64 18] w (fun e w'=>e=.returned (.iface 149 (.pointer (some ⟨w.heap.size,0,none⟩)))/\w'=w.alloc (.cells #[.int .u32 0,.map none] 152)):=by
 go_enter Tryz.func46,Tryz.ntmps46
 go_wp2
 go_ret
 exact⟨rfl,rfl⟩
theorem emp19 (w:World):Calls Tryz.prog 46 #[.int .i64 19] w (fun e w'=>e=.returned (.iface 163 (.pointer (some ⟨w.heap.size,0,none⟩)))/\w'=w.alloc (.cells #[] 164)):=by
 go_enter Tryz.func46,Tryz.ntmps46
 go_wp2
 go_ret
 exact⟨rfl,rfl⟩
end Go.Proofs.YtdenjanihikolaaGreatDoor
