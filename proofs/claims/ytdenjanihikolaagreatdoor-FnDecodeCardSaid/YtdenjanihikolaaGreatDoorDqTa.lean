/- Helpers of made with rows of numbers, by contract. -/
import Derived.Test.YtdenjanihikolaaGreatDoorDqA0
import Derived.Test.YtdenjanihikolaaGreatDoorDqWrd
import Derived.Test.YtdenjanihikolaaGreatDoorDqBase
import Derived.Laws.IdiomStrings
namespace Go.Proofs.YtdenjanihikolaaGreatDoor
set_option linter.unusedVariables false
set_option linter.unusedSimpArgs false
set_option maxRecDepth 100000
open Go.RowKit
theorem ta_no {K e:Nat} (hu:Tryz.prog.underlying K=some (.pointer e))(hz:(Tryz.prog.info? K).map (·.zero)=some (some (.pointer none)))(T:Nat)(h:T≠K)(v:Value)(w:World):
 (Instr.typeAssert (.iface T v) 71 K true).run Tryz.prog w=.ok (.tuple #[.pointer none,.bool false]) w:=by
 obtain⟨j,hj,hz'⟩:=Option.map_eq_some_iff.1 hz
 simp [Instr.typeAssert,run_underlying hu,zeroValue,typeInfo,hj,hz',h]
theorem ta_yes {K e:Nat} (hu:Tryz.prog.underlying K=some (.pointer e))(v:Value)(w:World):
 (Instr.typeAssert (.iface K v) 71 K true).run Tryz.prog w=.ok (.tuple #[v,.bool true]) w:=by
 simp [Instr.typeAssert,run_underlying hu]
theorem no101 (T:Nat)(h:T≠101):∀(v:Value) (w:World),(Instr.typeAssert (.iface T v) 71 101 true).run Tryz.prog w=.ok (.tuple #[.pointer none,.bool false]) w:=ta_no Tryz.underlying101 (by kernel_rfl) T h
theorem yes101:∀(v:Value) (w:World),(Instr.typeAssert (.iface 101 v) 71 101 true).run Tryz.prog w=.ok (.tuple #[v,.bool true]) w:=ta_yes Tryz.underlying101
theorem no108 (T:Nat)(h:T≠108):∀(v:Value) (w:World),(Instr.typeAssert (.iface T v) 71 108 true).run Tryz.prog w=.ok (.tuple #[.pointer none,.bool false]) w:=ta_no Tryz.underlying108 (by kernel_rfl) T h
theorem yes108:∀(v:Value) (w:World),(Instr.typeAssert (.iface 108 v) 71 108 true).run Tryz.prog w=.ok (.tuple #[v,.bool true]) w:=ta_yes Tryz.underlying108
theorem no111 (T:Nat)(h:T≠111):∀(v:Value) (w:World),(Instr.typeAssert (.iface T v) 71 111 true).run Tryz.prog w=.ok (.tuple #[.pointer none,.bool false]) w:=ta_no Tryz.underlying111 (by kernel_rfl) T h
theorem yes111:∀(v:Value) (w:World),(Instr.typeAssert (.iface 111 v) 71 111 true).run Tryz.prog w=.ok (.tuple #[v,.bool true]) w:=ta_yes Tryz.underlying111
theorem no114 (T:Nat)(h:T≠114):∀(v:Value) (w:World),(Instr.typeAssert (.iface T v) 71 114 true).run Tryz.prog w=.ok (.tuple #[.pointer none,.bool false]) w:=ta_no Tryz.underlying114 (by kernel_rfl) T h
theorem yes114:∀(v:Value) (w:World),(Instr.typeAssert (.iface 114 v) 71 114 true).run Tryz.prog w=.ok (.tuple #[v,.bool true]) w:=ta_yes Tryz.underlying114
theorem no116 (T:Nat)(h:T≠116):∀(v:Value) (w:World),(Instr.typeAssert (.iface T v) 71 116 true).run Tryz.prog w=.ok (.tuple #[.pointer none,.bool false]) w:=ta_no Tryz.underlying116 (by kernel_rfl) T h
theorem yes116:∀(v:Value) (w:World),(Instr.typeAssert (.iface 116 v) 71 116 true).run Tryz.prog w=.ok (.tuple #[v,.bool true]) w:=ta_yes Tryz.underlying116
theorem no119 (T:Nat)(h:T≠119):∀(v:Value) (w:World),(Instr.typeAssert (.iface T v) 71 119 true).run Tryz.prog w=.ok (.tuple #[.pointer none,.bool false]) w:=ta_no Tryz.underlying119 (by kernel_rfl) T h
theorem yes119:∀(v:Value) (w:World),(Instr.typeAssert (.iface 119 v) 71 119 true).run Tryz.prog w=.ok (.tuple #[v,.bool true]) w:=ta_yes Tryz.underlying119
theorem no122 (T:Nat)(h:T≠122):∀(v:Value) (w:World),(Instr.typeAssert (.iface T v) 71 122 true).run Tryz.prog w=.ok (.tuple #[.pointer none,.bool false]) w:=ta_no Tryz.underlying122 (by kernel_rfl) T h
theorem yes122:∀(v:Value) (w:World),(Instr.typeAssert (.iface 122 v) 71 122 true).run Tryz.prog w=.ok (.tuple #[v,.bool true]) w:=ta_yes Tryz.underlying122
theorem no125 (T:Nat)(h:T≠125):∀(v:Value) (w:World),(Instr.typeAssert (.iface T v) 71 125 true).run Tryz.prog w=.ok (.tuple #[.pointer none,.bool false]) w:=ta_no Tryz.underlying125 (by kernel_rfl) T h
theorem yes125:∀(v:Value) (w:World),(Instr.typeAssert (.iface 125 v) 71 125 true).run Tryz.prog w=.ok (.tuple #[v,.bool true]) w:=ta_yes Tryz.underlying125
theorem no132 (T:Nat)(h:T≠132):∀(v:Value) (w:World),(Instr.typeAssert (.iface T v) 71 132 true).run Tryz.prog w=.ok (.tuple #[.pointer none,.bool false]) w:=ta_no Tryz.underlying132 (by kernel_rfl) T h
theorem yes132:∀(v:Value) (w:World),(Instr.typeAssert (.iface 132 v) 71 132 true).run Tryz.prog w=.ok (.tuple #[v,.bool true]) w:=ta_yes Tryz.underlying132
theorem no134 (T:Nat)(h:T≠134):∀(v:Value) (w:World),(Instr.typeAssert (.iface T v) 71 134 true).run Tryz.prog w=.ok (.tuple #[.pointer none,.bool false]) w:=ta_no Tryz.underlying134 (by kernel_rfl) T h
theorem yes134:∀(v:Value) (w:World),(Instr.typeAssert (.iface 134 v) 71 134 true).run Tryz.prog w=.ok (.tuple #[v,.bool true]) w:=ta_yes Tryz.underlying134
theorem no138 (T:Nat)(h:T≠138):∀(v:Value) (w:World),(Instr.typeAssert (.iface T v) 71 138 true).run Tryz.prog w=.ok (.tuple #[.pointer none,.bool false]) w:=ta_no Tryz.underlying138 (by kernel_rfl) T h
theorem yes138:∀(v:Value) (w:World),(Instr.typeAssert (.iface 138 v) 71 138 true).run Tryz.prog w=.ok (.tuple #[v,.bool true]) w:=ta_yes Tryz.underlying138
theorem no141 (T:Nat)(h:T≠141):∀(v:Value) (w:World),(Instr.typeAssert (.iface T v) 71 141 true).run Tryz.prog w=.ok (.tuple #[.pointer none,.bool false]) w:=ta_no Tryz.underlying141 (by kernel_rfl) T h
theorem yes141:∀(v:Value) (w:World),(Instr.typeAssert (.iface 141 v) 71 141 true).run Tryz.prog w=.ok (.tuple #[v,.bool true]) w:=ta_yes Tryz.underlying141
theorem no144 (T:Nat)(h:T≠144):∀(v:Value) (w:World),(Instr.typeAssert (.iface T v) 71 144 true).run Tryz.prog w=.ok (.tuple #[.pointer none,.bool false]) w:=ta_no Tryz.underlying144 (by kernel_rfl) T h
theorem yes144:∀(v:Value) (w:World),(Instr.typeAssert (.iface 144 v) 71 144 true).run Tryz.prog w=.ok (.tuple #[v,.bool true]) w:=ta_yes Tryz.underlying144
theorem no147 (T:Nat)(h:T≠147):∀(v:Value) (w:World),(Instr.typeAssert (.iface T v) 71 147 true).run Tryz.prog w=.ok (.tuple #[.pointer none,.bool false]) w:=ta_no Tryz.underlying147 (by kernel_rfl) T h
theorem yes147:∀(v:Value) (w:World),(Instr.typeAssert (.iface 147 v) 71 147 true).run Tryz.prog w=.ok (.tuple #[v,.bool true]) w:=ta_yes Tryz.underlying147
theorem no149 (T:Nat)(h:T≠149):∀(v:Value) (w:World),(Instr.typeAssert (.iface T v) 71 149 true).run Tryz.prog w=.ok (.tuple #[.pointer none,.bool false]) w:=ta_no Tryz.underlying149 (by kernel_rfl) T h
theorem yes149:∀(v:Value) (w:World),(Instr.typeAssert (.iface 149 v) 71 149 true).run Tryz.prog w=.ok (.tuple #[v,.bool true]) w:=ta_yes Tryz.underlying149
theorem no185 (T:Nat)(h:T≠185):∀(v:Value) (w:World),(Instr.typeAssert (.iface T v) 71 185 true).run Tryz.prog w=.ok (.tuple #[.pointer none,.bool false]) w:=ta_no Tryz.underlying185 (by kernel_rfl) T h
theorem yes185:∀(v:Value) (w:World),(Instr.typeAssert (.iface 185 v) 71 185 true).run Tryz.prog w=.ok (.tuple #[v,.bool true]) w:=ta_yes Tryz.underlying185
theorem no189 (T:Nat)(h:T≠189):∀(v:Value) (w:World),(Instr.typeAssert (.iface T v) 71 189 true).run Tryz.prog w=.ok (.tuple #[.pointer none,.bool false]) w:=ta_no Tryz.underlying189 (by kernel_rfl) T h
theorem yes189:∀(v:Value) (w:World),(Instr.typeAssert (.iface 189 v) 71 189 true).run Tryz.prog w=.ok (.tuple #[v,.bool true]) w:=ta_yes Tryz.underlying189
theorem no191 (T:Nat)(h:T≠191):∀(v:Value) (w:World),(Instr.typeAssert (.iface T v) 71 191 true).run Tryz.prog w=.ok (.tuple #[.pointer none,.bool false]) w:=ta_no Tryz.underlying191 (by kernel_rfl) T h
theorem yes191:∀(v:Value) (w:World),(Instr.typeAssert (.iface 191 v) 71 191 true).run Tryz.prog w=.ok (.tuple #[v,.bool true]) w:=ta_yes Tryz.underlying191
theorem no194 (T:Nat)(h:T≠194):∀(v:Value) (w:World),(Instr.typeAssert (.iface T v) 71 194 true).run Tryz.prog w=.ok (.tuple #[.pointer none,.bool false]) w:=ta_no Tryz.underlying194 (by kernel_rfl) T h
theorem yes194:∀(v:Value) (w:World),(Instr.typeAssert (.iface 194 v) 71 194 true).run Tryz.prog w=.ok (.tuple #[v,.bool true]) w:=ta_yes Tryz.underlying194
theorem no196 (T:Nat)(h:T≠196):∀(v:Value) (w:World),(Instr.typeAssert (.iface T v) 71 196 true).run Tryz.prog w=.ok (.tuple #[.pointer none,.bool false]) w:=ta_no Tryz.underlying196 (by kernel_rfl) T h
theorem yes196:∀(v:Value) (w:World),(Instr.typeAssert (.iface 196 v) 71 196 true).run Tryz.prog w=.ok (.tuple #[v,.bool true]) w:=ta_yes Tryz.underlying196
theorem no198 (T:Nat)(h:T≠198):∀(v:Value) (w:World),(Instr.typeAssert (.iface T v) 71 198 true).run Tryz.prog w=.ok (.tuple #[.pointer none,.bool false]) w:=ta_no Tryz.underlying198 (by kernel_rfl) T h
theorem yes198:∀(v:Value) (w:World),(Instr.typeAssert (.iface 198 v) 71 198 true).run Tryz.prog w=.ok (.tuple #[v,.bool true]) w:=ta_yes Tryz.underlying198
theorem no200 (T:Nat)(h:T≠200):∀(v:Value) (w:World),(Instr.typeAssert (.iface T v) 71 200 true).run Tryz.prog w=.ok (.tuple #[.pointer none,.bool false]) w:=ta_no Tryz.underlying200 (by kernel_rfl) T h
theorem yes200:∀(v:Value) (w:World),(Instr.typeAssert (.iface 200 v) 71 200 true).run Tryz.prog w=.ok (.tuple #[v,.bool true]) w:=ta_yes Tryz.underlying200
theorem no203 (T:Nat)(h:T≠203):∀(v:Value) (w:World),(Instr.typeAssert (.iface T v) 71 203 true).run Tryz.prog w=.ok (.tuple #[.pointer none,.bool false]) w:=ta_no Tryz.underlying203 (by kernel_rfl) T h
theorem yes203:∀(v:Value) (w:World),(Instr.typeAssert (.iface 203 v) 71 203 true).run Tryz.prog w=.ok (.tuple #[v,.bool true]) w:=ta_yes Tryz.underlying203
theorem no206 (T:Nat)(h:T≠206):∀(v:Value) (w:World),(Instr.typeAssert (.iface T v) 71 206 true).run Tryz.prog w=.ok (.tuple #[.pointer none,.bool false]) w:=ta_no Tryz.underlying206 (by kernel_rfl) T h
theorem yes206:∀(v:Value) (w:World),(Instr.typeAssert (.iface 206 v) 71 206 true).run Tryz.prog w=.ok (.tuple #[v,.bool true]) w:=ta_yes Tryz.underlying206
theorem no208 (T:Nat)(h:T≠208):∀(v:Value) (w:World),(Instr.typeAssert (.iface T v) 71 208 true).run Tryz.prog w=.ok (.tuple #[.pointer none,.bool false]) w:=ta_no Tryz.underlying208 (by kernel_rfl) T h
theorem yes208:∀(v:Value) (w:World),(Instr.typeAssert (.iface 208 v) 71 208 true).run Tryz.prog w=.ok (.tuple #[v,.bool true]) w:=ta_yes Tryz.underlying208
theorem no210 (T:Nat)(h:T≠210):∀(v:Value) (w:World),(Instr.typeAssert (.iface T v) 71 210 true).run Tryz.prog w=.ok (.tuple #[.pointer none,.bool false]) w:=ta_no Tryz.underlying210 (by kernel_rfl) T h
theorem yes210:∀(v:Value) (w:World),(Instr.typeAssert (.iface 210 v) 71 210 true).run Tryz.prog w=.ok (.tuple #[v,.bool true]) w:=ta_yes Tryz.underlying210
theorem no213 (T:Nat)(h:T≠213):∀(v:Value) (w:World),(Instr.typeAssert (.iface T v) 71 213 true).run Tryz.prog w=.ok (.tuple #[.pointer none,.bool false]) w:=ta_no Tryz.underlying213 (by kernel_rfl) T h
theorem yes213:∀(v:Value) (w:World),(Instr.typeAssert (.iface 213 v) 71 213 true).run Tryz.prog w=.ok (.tuple #[v,.bool true]) w:=ta_yes Tryz.underlying213
theorem no217 (T:Nat)(h:T≠217):∀(v:Value) (w:World),(Instr.typeAssert (.iface T v) 71 217 true).run Tryz.prog w=.ok (.tuple #[.pointer none,.bool false]) w:=ta_no Tryz.underlying217 (by kernel_rfl) T h
theorem yes217:∀(v:Value) (w:World),(Instr.typeAssert (.iface 217 v) 71 217 true).run Tryz.prog w=.ok (.tuple #[v,.bool true]) w:=ta_yes Tryz.underlying217
theorem no219 (T:Nat)(h:T≠219):∀(v:Value) (w:World),(Instr.typeAssert (.iface T v) 71 219 true).run Tryz.prog w=.ok (.tuple #[.pointer none,.bool false]) w:=ta_no Tryz.underlying219 (by kernel_rfl) T h
theorem yes219:∀(v:Value) (w:World),(Instr.typeAssert (.iface 219 v) 71 219 true).run Tryz.prog w=.ok (.tuple #[v,.bool true]) w:=ta_yes Tryz.underlying219
theorem no222 (T:Nat)(h:T≠222):∀(v:Value) (w:World),(Instr.typeAssert (.iface T v) 71 222 true).run Tryz.prog w=.ok (.tuple #[.pointer none,.bool false]) w:=ta_no Tryz.underlying222 (by kernel_rfl) T h
theorem yes222:∀(v:Value) (w:World),(Instr.typeAssert (.iface 222 v) 71 222 true).run Tryz.prog w=.ok (.tuple #[v,.bool true]) w:=ta_yes Tryz.underlying222
theorem no225 (T:Nat)(h:T≠225):∀(v:Value) (w:World),(Instr.typeAssert (.iface T v) 71 225 true).run Tryz.prog w=.ok (.tuple #[.pointer none,.bool false]) w:=ta_no Tryz.underlying225 (by kernel_rfl) T h
theorem yes225:∀(v:Value) (w:World),(Instr.typeAssert (.iface 225 v) 71 225 true).run Tryz.prog w=.ok (.tuple #[v,.bool true]) w:=ta_yes Tryz.underlying225
theorem no228 (T:Nat)(h:T≠228):∀(v:Value) (w:World),(Instr.typeAssert (.iface T v) 71 228 true).run Tryz.prog w=.ok (.tuple #[.pointer none,.bool false]) w:=ta_no Tryz.underlying228 (by kernel_rfl) T h
theorem yes228:∀(v:Value) (w:World),(Instr.typeAssert (.iface 228 v) 71 228 true).run Tryz.prog w=.ok (.tuple #[v,.bool true]) w:=ta_yes Tryz.underlying228
theorem no230 (T:Nat)(h:T≠230):∀(v:Value) (w:World),(Instr.typeAssert (.iface T v) 71 230 true).run Tryz.prog w=.ok (.tuple #[.pointer none,.bool false]) w:=ta_no Tryz.underlying230 (by kernel_rfl) T h
theorem yes230:∀(v:Value) (w:World),(Instr.typeAssert (.iface 230 v) 71 230 true).run Tryz.prog w=.ok (.tuple #[v,.bool true]) w:=ta_yes Tryz.underlying230
theorem no233 (T:Nat)(h:T≠233):∀(v:Value) (w:World),(Instr.typeAssert (.iface T v) 71 233 true).run Tryz.prog w=.ok (.tuple #[.pointer none,.bool false]) w:=ta_no Tryz.underlying233 (by kernel_rfl) T h
theorem yes233:∀(v:Value) (w:World),(Instr.typeAssert (.iface 233 v) 71 233 true).run Tryz.prog w=.ok (.tuple #[v,.bool true]) w:=ta_yes Tryz.underlying233
theorem let54 (n:Int)(w:World):Calls Tryz.prog 54 #[.int .u32 n] w (fun e w'=>e=.returned (.tuple #[.int .u8 (n % 256),.bool (decide (n < 256))])/\w'=w):=by
 go_enter Tryz.func54,Tryz.ntmps54
 go_wp2
 go_ret2
 exact⟨rfl,rfl⟩
/-- What made and answer hand back, seen from a world. -/
def Ans (T FN b:Nat) (w:World) (R:List Int):Ending->World->Prop:=fun e w2=>e=.returned (.tuple #[.iface T (.pointer (some ⟨b,0,none⟩)),.bool true])/\Ext w w2/\Calls Tryz.prog FN #[.pointer (some ⟨b,0,none⟩),.slice none 0 0] w2 (Gives w2 R)
set_option maxHeartbeats 1000000 in
theorem made_dflt (T FN ty:Nat)(cs0:Array Value)(kd n:Int)(v1 v2 v4 v5 v6 v7 v8 v9 v10 v11 v12:Value)(w:World)(R:List Int)(hT:T∉[101,108,111,114,116,119,122,125,132,134,138,141,144,147,149])
 (hE:∀w,Calls Tryz.prog 46 #[.int .i64 kd] w (fun e w'=>e=.returned (.iface T (.pointer (some ⟨w.heap.size,0,none⟩)))/\w'=w.alloc (.cells cs0 ty)))
 (hA:∀w1 b,Ext w w1->w.heap.size<=b->w1.heap[b]?=some (.cells cs0 ty (0,0))->Calls Tryz.prog 60 #[.iface T (.pointer (some ⟨b,0,none⟩)),.agg #[.int .i64 kd,v1,v2,.int .u32 n,v4,v5,v6,v7,v8,v9,v10,v11,v12],.bool true] w1 (Ans T FN b w R)):
 Calls Tryz.prog 34 #[.agg #[.int .i64 kd,v1,v2,.int .u32 n,v4,v5,v6,v7,v8,v9,v10,v11,v12]] w (Made T FN w R):=by
 have n101:=no101 T (fun e=>hT (by simp [e]))
 have n108:=no108 T (fun e=>hT (by simp [e]))
 have n111:=no111 T (fun e=>hT (by simp [e]))
 have n114:=no114 T (fun e=>hT (by simp [e]))
 have n116:=no116 T (fun e=>hT (by simp [e]))
 have n119:=no119 T (fun e=>hT (by simp [e]))
 have n122:=no122 T (fun e=>hT (by simp [e]))
 have n125:=no125 T (fun e=>hT (by simp [e]))
 have n132:=no132 T (fun e=>hT (by simp [e]))
 have n134:=no134 T (fun e=>hT (by simp [e]))
 have n138:=no138 T (fun e=>hT (by simp [e]))
 have n141:=no141 T (fun e=>hT (by simp [e]))
 have n144:=no144 T (fun e=>hT (by simp [e]))
 have n147:=no147 T (fun e=>hT (by simp [e]))
 have n149:=no149 T (fun e=>hT (by simp [e]))
 have HE:=zh hE
 have HA:=zh hA
 clear hE hA hT
 obtain⟨W1,hW1⟩:∃W1,W1=(w.alloc (.cells #[.int .i64 kd,v1,v2,.int .u32 n,v4,v5,v6,v7,v8,v9,v10,v11,v12] 31)).alloc (.cells cs0 ty):=⟨_,rfl⟩
 have hx:Hid (Ext w W1):=zh (by rw [hW1];exact(ext_alloc w _).alloc _)
 have hb:Hid (W1.heap[w.heap.size+1]?=some (.cells cs0 ty (0,0))):=zh (by
  rw [hW1]
  have:=heap_alloc_new (w.alloc (.cells #[.int .i64 kd,v1,v2,.int .u32 n,v4,v5,v6,v7,v8,v9,v10,v11,v12] 31)) (.cells cs0 ty)
  simpa using this)
 go_enter Tryz.func34,Tryz.ntmps34
 go_wp2_with (first|(go_at_call 46;refine(HE.out _).mono ?_;rintro e w1 ⟨rfl,rfl⟩)|(go_at_call 54;refine(let54 n _).mono ?_;rintro e w1 ⟨rfl,rfl⟩)|(go_at_call 60;rw [<-hW1];refine(HA.out W1 (w.heap.size+1) hx.out (by omega) hb.out).mono ?_;rintro e w2 ⟨rfl,hx2,hc2⟩;have HX2:=zh hx2;have HC2:=zh hc2;clear hx2 hc2))
 go_ret2
 exact⟨_,rfl,HX2.out,HC2.out⟩
set_option maxHeartbeats 1000000 in
theorem ans_triv (T FN b:Nat)(kd n:Int)(v1 v2 v4 v5 v6 v7 v8 v9 v10 v11 v12:Value)(w w1:World)(R:List Int)(hT:T∉[185,189,191,194,196,198,200,203,206,208,210,213,217,219,222,225,228,230,233])(hx:Ext w w1)
 (hc:∀w2,Calls Tryz.prog FN #[.pointer (some ⟨b,0,none⟩),.slice none 0 0] w2 (Gives w2 R)):
 Calls Tryz.prog 60 #[.iface T (.pointer (some ⟨b,0,none⟩)),.agg #[.int .i64 kd,v1,v2,.int .u32 n,v4,v5,v6,v7,v8,v9,v10,v11,v12],.bool true] w1 (Ans T FN b w R):=by
 have n185:=no185 T (fun e=>hT (by simp [e]))
 have n189:=no189 T (fun e=>hT (by simp [e]))
 have n191:=no191 T (fun e=>hT (by simp [e]))
 have n194:=no194 T (fun e=>hT (by simp [e]))
 have n196:=no196 T (fun e=>hT (by simp [e]))
 have n198:=no198 T (fun e=>hT (by simp [e]))
 have n200:=no200 T (fun e=>hT (by simp [e]))
 have n203:=no203 T (fun e=>hT (by simp [e]))
 have n206:=no206 T (fun e=>hT (by simp [e]))
 have n208:=no208 T (fun e=>hT (by simp [e]))
 have n210:=no210 T (fun e=>hT (by simp [e]))
 have n213:=no213 T (fun e=>hT (by simp [e]))
 have n217:=no217 T (fun e=>hT (by simp [e]))
 have n219:=no219 T (fun e=>hT (by simp [e]))
 have n222:=no222 T (fun e=>hT (by simp [e]))
 have n225:=no225 T (fun e=>hT (by simp [e]))
 have n228:=no228 T (fun e=>hT (by simp [e]))
 have n230:=no230 T (fun e=>hT (by simp [e]))
 have n233:=no233 T (fun e=>hT (by simp [e]))
 have HC:=zh hc
 clear hc hT
 go_enter Tryz.func60,Tryz.ntmps60
 go_wp2_with (first|(go_at_call 54;refine(let54 n _).mono ?_;rintro e w1 ⟨rfl,rfl⟩))
 go_ret2
 exact⟨rfl,hx.alloc _,HC.out _⟩
theorem emp0 (w:World):Calls Tryz.prog 46 #[.int .i64 0] w (fun e w'=>e=.returned (.iface 101 (.pointer (some ⟨w.heap.size,0,none⟩)))/\w'=w.alloc (.cells #[.string ⟨#[]⟩,.string ⟨#[]⟩,.slice none 0 0,.slice none 0 0,.slice none 0 0] 107)):=by
 go_enter Tryz.func46,Tryz.ntmps46
 go_wp2
 go_ret
 exact⟨rfl,rfl⟩
theorem emp1 (w:World):Calls Tryz.prog 46 #[.int .i64 1] w (fun e w'=>e=.returned (.iface 108 (.pointer (some ⟨w.heap.size,0,none⟩)))/\w'=w.alloc (.cells #[.int .u32 0,.slice none 0 0] 110)):=by
 go_enter Tryz.func46,Tryz.ntmps46
 go_wp2
 go_ret
 exact⟨rfl,rfl⟩
theorem emp2 (w:World):Calls Tryz.prog 46 #[.int .i64 2] w (fun e w'=>e=.returned (.iface 111 (.pointer (some ⟨w.heap.size,0,none⟩)))/\w'=w.alloc (.cells #[.int .u8 0,.string ⟨#[]⟩] 113)):=by
 go_enter Tryz.func46,Tryz.ntmps46
 go_wp2
 go_ret
 exact⟨rfl,rfl⟩
theorem emp3 (w:World):Calls Tryz.prog 46 #[.int .i64 3] w (fun e w'=>e=.returned (.iface 116 (.pointer (some ⟨w.heap.size,0,none⟩)))/\w'=w.alloc (.cells #[.slice none 0 0] 118)):=by
 go_enter Tryz.func46,Tryz.ntmps46
 go_wp2
 go_ret
 exact⟨rfl,rfl⟩
theorem emp4 (w:World):Calls Tryz.prog 46 #[.int .i64 4] w (fun e w'=>e=.returned (.iface 154 (.pointer (some ⟨w.heap.size,0,none⟩)))/\w'=w.alloc (.cells #[] 156)):=by
 go_enter Tryz.func46,Tryz.ntmps46
 go_wp2
 go_ret
 exact⟨rfl,rfl⟩
theorem emp5 (w:World):Calls Tryz.prog 46 #[.int .i64 5] w (fun e w'=>e=.returned (.iface 119 (.pointer (some ⟨w.heap.size,0,none⟩)))/\w'=w.alloc (.cells #[.string ⟨#[]⟩] 121)):=by
 go_enter Tryz.func46,Tryz.ntmps46
 go_wp2
 go_ret
 exact⟨rfl,rfl⟩
theorem emp6 (w:World):Calls Tryz.prog 46 #[.int .i64 6] w (fun e w'=>e=.returned (.iface 114 (.pointer (some ⟨w.heap.size,0,none⟩)))/\w'=w.alloc (.cells #[.int .u8 0,.string ⟨#[]⟩] 115)):=by
 go_enter Tryz.func46,Tryz.ntmps46
 go_wp2
 go_ret
 exact⟨rfl,rfl⟩
theorem emp7 (w:World):Calls Tryz.prog 46 #[.int .i64 7] w (fun e w'=>e=.returned (.iface 122 (.pointer (some ⟨w.heap.size,0,none⟩)))/\w'=w.alloc (.cells #[.string ⟨#[]⟩,.int .u32 0] 124)):=by
 go_enter Tryz.func46,Tryz.ntmps46
 go_wp2
 go_ret
 exact⟨rfl,rfl⟩
theorem emp8 (w:World):Calls Tryz.prog 46 #[.int .i64 8] w (fun e w'=>e=.returned (.iface 157 (.pointer (some ⟨w.heap.size,0,none⟩)))/\w'=w.alloc (.cells #[] 158)):=by
 go_enter Tryz.func46,Tryz.ntmps46
 go_wp2
 go_ret
 exact⟨rfl,rfl⟩
theorem emp9 (w:World):Calls Tryz.prog 46 #[.int .i64 9] w (fun e w'=>e=.returned (.iface 125 (.pointer (some ⟨w.heap.size,0,none⟩)))/\w'=w.alloc (.cells #[.int .u32 0,.slice none 0 0,.slice none 0 0,.int .u16 0] 131)):=by
 go_enter Tryz.func46,Tryz.ntmps46
 go_wp2
 go_ret
 exact⟨rfl,rfl⟩
theorem emp10 (w:World):Calls Tryz.prog 46 #[.int .i64 10] w (fun e w'=>e=.returned (.iface 159 (.pointer (some ⟨w.heap.size,0,none⟩)))/\w'=w.alloc (.cells #[] 160)):=by
 go_enter Tryz.func46,Tryz.ntmps46
 go_wp2
 go_ret
 exact⟨rfl,rfl⟩
theorem emp11 (w:World):Calls Tryz.prog 46 #[.int .i64 11] w (fun e w'=>e=.returned (.iface 132 (.pointer (some ⟨w.heap.size,0,none⟩)))/\w'=w.alloc (.cells #[.slice none 0 0] 133)):=by
 go_enter Tryz.func46,Tryz.ntmps46
 go_wp2
 go_ret
 exact⟨rfl,rfl⟩
theorem emp12 (w:World):Calls Tryz.prog 46 #[.int .i64 12] w (fun e w'=>e=.returned (.iface 134 (.pointer (some ⟨w.heap.size,0,none⟩)))/\w'=w.alloc (.cells #[.string ⟨#[]⟩,.string ⟨#[]⟩,.slice none 0 0] 137)):=by
 go_enter Tryz.func46,Tryz.ntmps46
 go_wp2
 go_ret
 exact⟨rfl,rfl⟩
theorem emp13 (w:World):Calls Tryz.prog 46 #[.int .i64 13] w (fun e w'=>e=.returned (.iface 138 (.pointer (some ⟨w.heap.size,0,none⟩)))/\w'=w.alloc (.cells #[.string ⟨#[]⟩] 140)):=by
 go_enter Tryz.func46,Tryz.ntmps46
 go_wp2
 go_ret
 exact⟨rfl,rfl⟩
theorem emp14 (w:World):Calls Tryz.prog 46 #[.int .i64 14] w (fun e w'=>e=.returned (.iface 141 (.pointer (some ⟨w.heap.size,0,none⟩)))/\w'=w.alloc (.cells #[.string ⟨#[]⟩] 143)):=by
 go_enter Tryz.func46,Tryz.ntmps46
 go_wp2
 go_ret
 exact⟨rfl,rfl⟩
theorem emp15 (w:World):Calls Tryz.prog 46 #[.int .i64 15] w (fun e w'=>e=.returned (.iface 144 (.pointer (some ⟨w.heap.size,0,none⟩)))/\w'=w.alloc (.cells #[.string ⟨#[]⟩,.slice none 0 0] 146)):=by
 go_enter Tryz.func46,Tryz.ntmps46
 go_wp2
 go_ret
 exact⟨rfl,rfl⟩
theorem emp16 (w:World):Calls Tryz.prog 46 #[.int .i64 16] w (fun e w'=>e=.returned (.iface 147 (.pointer (some ⟨w.heap.size,0,none⟩)))/\w'=w.alloc (.cells #[.slice none 0 0] 148)):=by
 go_enter Tryz.func46,Tryz.ntmps46
 go_wp2
 go_ret
 exact⟨rfl,rfl⟩
theorem emp17 (w:World):Calls Tryz.prog 46 #[.int .i64 17] w (fun e w'=>e=.returned (.iface 161 (.pointer (some ⟨w.heap.size,0,none⟩)))/\w'=w.alloc (.cells #[] 162)):=by
 go_enter Tryz.func46,Tryz.ntmps46
 go_wp2
 go_ret
 exact⟨rfl,rfl⟩
theorem emp18 (w:World):Calls Tryz.prog 46 #[.int .i64 18] w (fun e w'=>e=.returned (.iface 149 (.pointer (some ⟨w.heap.size,0,none⟩)))/\w'=w.alloc (.cells #[.int .u32 0,.map none] 152)):=by
 go_enter Tryz.func46,Tryz.ntmps46
 go_wp2
 go_ret
 exact⟨rfl,rfl⟩
theorem emp19 (w:World):Calls Tryz.prog 46 #[.int .i64 19] w (fun e w'=>e=.returned (.iface 163 (.pointer (some ⟨w.heap.size,0,none⟩)))/\w'=w.alloc (.cells #[] 164)):=by
 go_enter Tryz.func46,Tryz.ntmps46
 go_wp2
 go_ret
 exact⟨rfl,rfl⟩
theorem emp20 (w:World):Calls Tryz.prog 46 #[.int .i64 20] w (fun e w'=>e=.returned (.iface 165 (.pointer (some ⟨w.heap.size,0,none⟩)))/\w'=w.alloc (.cells #[] 166)):=by
 go_enter Tryz.func46,Tryz.ntmps46
 go_wp2
 go_ret
 exact⟨rfl,rfl⟩
theorem emp30 (w:World):Calls Tryz.prog 46 #[.int .i64 30] w (fun e w'=>e=.returned (.iface 167 (.pointer (some ⟨w.heap.size,0,none⟩)))/\w'=w.alloc (.cells #[] 168)):=by
 go_enter Tryz.func46,Tryz.ntmps46
 go_wp2
 go_ret
 exact⟨rfl,rfl⟩
theorem emp31 (w:World):Calls Tryz.prog 46 #[.int .i64 31] w (fun e w'=>e=.returned (.iface 169 (.pointer (some ⟨w.heap.size,0,none⟩)))/\w'=w.alloc (.cells #[] 170)):=by
 go_enter Tryz.func46,Tryz.ntmps46
 go_wp2
 go_ret
 exact⟨rfl,rfl⟩
theorem emp32 (w:World):Calls Tryz.prog 46 #[.int .i64 32] w (fun e w'=>e=.returned (.iface 185 (.pointer (some ⟨w.heap.size,0,none⟩)))/\w'=w.alloc (.cells #[.int .u8 0,.int .u8 0,.int .u8 0,.int .u8 0] 188)):=by
 go_enter Tryz.func46,Tryz.ntmps46
 go_wp2
 go_ret
 exact⟨rfl,rfl⟩
theorem emp33 (w:World):Calls Tryz.prog 46 #[.int .i64 33] w (fun e w'=>e=.returned (.iface 171 (.pointer (some ⟨w.heap.size,0,none⟩)))/\w'=w.alloc (.cells #[] 172)):=by
 go_enter Tryz.func46,Tryz.ntmps46
 go_wp2
 go_ret
 exact⟨rfl,rfl⟩
theorem emp34 (w:World):Calls Tryz.prog 46 #[.int .i64 34] w (fun e w'=>e=.returned (.iface 189 (.pointer (some ⟨w.heap.size,0,none⟩)))/\w'=w.alloc (.cells #[.slice none 0 0] 190)):=by
 go_enter Tryz.func46,Tryz.ntmps46
 go_wp2
 go_ret
 exact⟨rfl,rfl⟩
theorem emp35 (w:World):Calls Tryz.prog 46 #[.int .i64 35] w (fun e w'=>e=.returned (.iface 191 (.pointer (some ⟨w.heap.size,0,none⟩)))/\w'=w.alloc (.cells #[.slice none 0 0] 193)):=by
 go_enter Tryz.func46,Tryz.ntmps46
 go_wp2
 go_ret
 exact⟨rfl,rfl⟩
theorem emp36 (w:World):Calls Tryz.prog 46 #[.int .i64 36] w (fun e w'=>e=.returned (.iface 194 (.pointer (some ⟨w.heap.size,0,none⟩)))/\w'=w.alloc (.cells #[.slice none 0 0] 195)):=by
 go_enter Tryz.func46,Tryz.ntmps46
 go_wp2
 go_ret
 exact⟨rfl,rfl⟩
theorem emp37 (w:World):Calls Tryz.prog 46 #[.int .i64 37] w (fun e w'=>e=.returned (.iface 196 (.pointer (some ⟨w.heap.size,0,none⟩)))/\w'=w.alloc (.cells #[.slice none 0 0] 197)):=by
 go_enter Tryz.func46,Tryz.ntmps46
 go_wp2
 go_ret
 exact⟨rfl,rfl⟩
theorem emp38 (w:World):Calls Tryz.prog 46 #[.int .i64 38] w (fun e w'=>e=.returned (.iface 198 (.pointer (some ⟨w.heap.size,0,none⟩)))/\w'=w.alloc (.cells #[.int .u32 0,.slice none 0 0] 199)):=by
 go_enter Tryz.func46,Tryz.ntmps46
 go_wp2
 go_ret
 exact⟨rfl,rfl⟩
theorem emp39 (w:World):Calls Tryz.prog 46 #[.int .i64 39] w (fun e w'=>e=.returned (.iface 173 (.pointer (some ⟨w.heap.size,0,none⟩)))/\w'=w.alloc (.cells #[] 174)):=by
 go_enter Tryz.func46,Tryz.ntmps46
 go_wp2
 go_ret
 exact⟨rfl,rfl⟩
theorem emp40 (w:World):Calls Tryz.prog 46 #[.int .i64 40] w (fun e w'=>e=.returned (.iface 175 (.pointer (some ⟨w.heap.size,0,none⟩)))/\w'=w.alloc (.cells #[] 176)):=by
 go_enter Tryz.func46,Tryz.ntmps46
 go_wp2
 go_ret
 exact⟨rfl,rfl⟩
theorem emp41 (w:World):Calls Tryz.prog 46 #[.int .i64 41] w (fun e w'=>e=.returned (.iface 200 (.pointer (some ⟨w.heap.size,0,none⟩)))/\w'=w.alloc (.cells #[.slice none 0 0] 202)):=by
 go_enter Tryz.func46,Tryz.ntmps46
 go_wp2
 go_ret
 exact⟨rfl,rfl⟩
theorem emp42 (w:World):Calls Tryz.prog 46 #[.int .i64 42] w (fun e w'=>e=.returned (.iface 203 (.pointer (some ⟨w.heap.size,0,none⟩)))/\w'=w.alloc (.cells #[.int .u8 0,.slice none 0 0] 205)):=by
 go_enter Tryz.func46,Tryz.ntmps46
 go_wp2
 go_ret
 exact⟨rfl,rfl⟩
theorem emp43 (w:World):Calls Tryz.prog 46 #[.int .i64 43] w (fun e w'=>e=.returned (.iface 206 (.pointer (some ⟨w.heap.size,0,none⟩)))/\w'=w.alloc (.cells #[.int .u8 0,.slice none 0 0] 207)):=by
 go_enter Tryz.func46,Tryz.ntmps46
 go_wp2
 go_ret
 exact⟨rfl,rfl⟩
theorem emp44 (w:World):Calls Tryz.prog 46 #[.int .i64 44] w (fun e w'=>e=.returned (.iface 208 (.pointer (some ⟨w.heap.size,0,none⟩)))/\w'=w.alloc (.cells #[.int .u8 0,.slice none 0 0] 209)):=by
 go_enter Tryz.func46,Tryz.ntmps46
 go_wp2
 go_ret
 exact⟨rfl,rfl⟩
theorem emp45 (w:World):Calls Tryz.prog 46 #[.int .i64 45] w (fun e w'=>e=.returned (.iface 210 (.pointer (some ⟨w.heap.size,0,none⟩)))/\w'=w.alloc (.cells #[.slice none 0 0] 212)):=by
 go_enter Tryz.func46,Tryz.ntmps46
 go_wp2
 go_ret
 exact⟨rfl,rfl⟩
theorem emp46 (w:World):Calls Tryz.prog 46 #[.int .i64 46] w (fun e w'=>e=.returned (.iface 177 (.pointer (some ⟨w.heap.size,0,none⟩)))/\w'=w.alloc (.cells #[] 178)):=by
 go_enter Tryz.func46,Tryz.ntmps46
 go_wp2
 go_ret
 exact⟨rfl,rfl⟩
theorem emp47 (w:World):Calls Tryz.prog 46 #[.int .i64 47] w (fun e w'=>e=.returned (.iface 213 (.pointer (some ⟨w.heap.size,0,none⟩)))/\w'=w.alloc (.cells #[.string ⟨#[]⟩,.string ⟨#[]⟩,.string ⟨#[]⟩,.string ⟨#[]⟩,.string ⟨#[]⟩,.string ⟨#[]⟩,.int .i32 0,.int .i32 0,.string ⟨#[]⟩,.string ⟨#[]⟩,.string ⟨#[]⟩,.string ⟨#[]⟩,.string ⟨#[]⟩,.string ⟨#[]⟩,.string ⟨#[]⟩,.string ⟨#[]⟩,.int .i32 0,.string ⟨#[]⟩,.map none] 216)):=by
 go_enter Tryz.func46,Tryz.ntmps46
 go_wp2
 go_ret
 exact⟨rfl,rfl⟩
theorem emp48 (w:World):Calls Tryz.prog 46 #[.int .i64 48] w (fun e w'=>e=.returned (.iface 217 (.pointer (some ⟨w.heap.size,0,none⟩)))/\w'=w.alloc (.cells #[.string ⟨#[]⟩,.string ⟨#[]⟩,.string ⟨#[]⟩,.string ⟨#[]⟩,.string ⟨#[]⟩,.string ⟨#[]⟩,.int .i32 0,.int .i32 0,.string ⟨#[]⟩,.string ⟨#[]⟩,.string ⟨#[]⟩,.string ⟨#[]⟩,.string ⟨#[]⟩,.string ⟨#[]⟩,.string ⟨#[]⟩,.string ⟨#[]⟩,.int .i32 0,.string ⟨#[]⟩,.map none] 218)):=by
 go_enter Tryz.func46,Tryz.ntmps46
 go_wp2
 go_ret
 exact⟨rfl,rfl⟩
theorem emp49 (w:World):Calls Tryz.prog 46 #[.int .i64 49] w (fun e w'=>e=.returned (.iface 219 (.pointer (some ⟨w.heap.size,0,none⟩)))/\w'=w.alloc (.cells #[.slice none 0 0] 221)):=by
 go_enter Tryz.func46,Tryz.ntmps46
 go_wp2
 go_ret
 exact⟨rfl,rfl⟩
theorem emp50 (w:World):Calls Tryz.prog 46 #[.int .i64 50] w (fun e w'=>e=.returned (.iface 179 (.pointer (some ⟨w.heap.size,0,none⟩)))/\w'=w.alloc (.cells #[] 180)):=by
 go_enter Tryz.func46,Tryz.ntmps46
 go_wp2
 go_ret
 exact⟨rfl,rfl⟩
theorem emp51 (w:World):Calls Tryz.prog 46 #[.int .i64 51] w (fun e w'=>e=.returned (.iface 222 (.pointer (some ⟨w.heap.size,0,none⟩)))/\w'=w.alloc (.cells #[.int .u32 0,.string ⟨#[]⟩,.string ⟨#[]⟩] 224)):=by
 go_enter Tryz.func46,Tryz.ntmps46
 go_wp2
 go_ret
 exact⟨rfl,rfl⟩
theorem emp52 (w:World):Calls Tryz.prog 46 #[.int .i64 52] w (fun e w'=>e=.returned (.iface 225 (.pointer (some ⟨w.heap.size,0,none⟩)))/\w'=w.alloc (.cells #[.slice none 0 0] 227)):=by
 go_enter Tryz.func46,Tryz.ntmps46
 go_wp2
 go_ret
 exact⟨rfl,rfl⟩
theorem emp53 (w:World):Calls Tryz.prog 46 #[.int .i64 53] w (fun e w'=>e=.returned (.iface 228 (.pointer (some ⟨w.heap.size,0,none⟩)))/\w'=w.alloc (.cells #[.string ⟨#[]⟩,.string ⟨#[]⟩] 229)):=by
 go_enter Tryz.func46,Tryz.ntmps46
 go_wp2
 go_ret
 exact⟨rfl,rfl⟩
theorem emp54 (w:World):Calls Tryz.prog 46 #[.int .i64 54] w (fun e w'=>e=.returned (.iface 181 (.pointer (some ⟨w.heap.size,0,none⟩)))/\w'=w.alloc (.cells #[] 182)):=by
 go_enter Tryz.func46,Tryz.ntmps46
 go_wp2
 go_ret
 exact⟨rfl,rfl⟩
theorem emp55 (w:World):Calls Tryz.prog 46 #[.int .i64 55] w (fun e w'=>e=.returned (.iface 183 (.pointer (some ⟨w.heap.size,0,none⟩)))/\w'=w.alloc (.cells #[] 184)):=by
 go_enter Tryz.func46,Tryz.ntmps46
 go_wp2
 go_ret
 exact⟨rfl,rfl⟩
theorem emp56 (w:World):Calls Tryz.prog 46 #[.int .i64 56] w (fun e w'=>e=.returned (.iface 230 (.pointer (some ⟨w.heap.size,0,none⟩)))/\w'=w.alloc (.cells #[.int .u8 0] 232)):=by
 go_enter Tryz.func46,Tryz.ntmps46
 go_wp2
 go_ret
 exact⟨rfl,rfl⟩
theorem emp57 (w:World):Calls Tryz.prog 46 #[.int .i64 57] w (fun e w'=>e=.returned (.iface 233 (.pointer (some ⟨w.heap.size,0,none⟩)))/\w'=w.alloc (.cells #[.slice none 0 0] 236)):=by
 go_enter Tryz.func46,Tryz.ntmps46
 go_wp2
 go_ret
 exact⟨rfl,rfl⟩
theorem encCopyDone (b:Nat)(w:World)(R:List Int)(HR:Hid (R=msgB 99 ([]))):
 Calls Tryz.prog 215 #[.pointer (some ⟨b,0,none⟩),.slice none 0 0] w (Gives w R):=by
 have HB:=zh (Buf.nil w)
 go_enter Tryz.func215,Tryz.ntmps215
 go_wp2_with (first|(go_at_call 139;refine(begin_any _ _ _ _ HB.out (by simp)).mono ?_;rintro e w1 ⟨v1,rfl,hn⟩;replace HB:=zh hn;clear hn)|(go_at_call 145;refine(appendU32 _ _ _ _ (by omega) (by omega) HB.out (by simp only [List.length_append,List.length_cons,List.length_nil,sby_length,b16_len,b32_len];omega)).mono ?_;rintro e w1 ⟨v1,rfl,hn⟩;replace HB:=zh hn;clear hn)|(go_at_call 142;refine(appendI32 _ _ _ _ HB.out (by simp only [List.length_append,List.length_cons,List.length_nil,sby_length,b16_len,b32_len];omega)).mono ?_;rintro e w1 ⟨v1,rfl,hn⟩;replace HB:=zh hn;clear hn)|(go_at_call 143;refine(finish1 _ 99 _ ([]) _ HB.out (by simp only [txt,List.append_assoc,List.cons_append,List.nil_append]) (by first|omega|(simp only [txt,List.length_append,List.length_cons,List.length_nil,sby_length,b16_len,b32_len];omega))).mono ?_;rintro e w1 ⟨v1,rfl,hn⟩;clear HB;have HB:=zh hn;clear hn)|(at_builtin;refine ap_lit1 rfl _ _ 26 26 rfl Tryz.underlying26 Tryz.underlying26 rfl rfl HB.out (by simp only [List.length_append,List.length_cons,List.length_nil,sby_length,b16_len,b32_len];omega) ?_;intro v3 w3 hn;replace HB:=zh hn;clear hn)|(at_builtin;refine ap_lit5 rfl _ _ 26 26 rfl Tryz.underlying26 Tryz.underlying26 rfl rfl HB.out (by simp only [List.length_append,List.length_cons,List.length_nil,sby_length,b16_len,b32_len];omega) ?_;intro v3 w3 hn;replace HB:=zh hn;clear hn)|(at_builtin;refine ap_lit6 rfl _ _ 26 26 rfl Tryz.underlying26 Tryz.underlying26 rfl rfl HB.out (by simp only [List.length_append,List.length_cons,List.length_nil,sby_length,b16_len,b32_len];omega) ?_;intro v3 w3 hn;replace HB:=zh hn;clear hn))
 go_ret2
 exact gives_of HB.out (by rw [HR.out];rfl)
theorem encSync (b:Nat)(w:World)(R:List Int)(HR:Hid (R=msgB 83 ([]))):
 Calls Tryz.prog 226 #[.pointer (some ⟨b,0,none⟩),.slice none 0 0] w (Gives w R):=by
 have HB:=zh (Buf.nil w)
 go_enter Tryz.func226,Tryz.ntmps226
 go_wp2_with (first|(go_at_call 139;refine(begin_any _ _ _ _ HB.out (by simp)).mono ?_;rintro e w1 ⟨v1,rfl,hn⟩;replace HB:=zh hn;clear hn)|(go_at_call 145;refine(appendU32 _ _ _ _ (by omega) (by omega) HB.out (by simp only [List.length_append,List.length_cons,List.length_nil,sby_length,b16_len,b32_len];omega)).mono ?_;rintro e w1 ⟨v1,rfl,hn⟩;replace HB:=zh hn;clear hn)|(go_at_call 142;refine(appendI32 _ _ _ _ HB.out (by simp only [List.length_append,List.length_cons,List.length_nil,sby_length,b16_len,b32_len];omega)).mono ?_;rintro e w1 ⟨v1,rfl,hn⟩;replace HB:=zh hn;clear hn)|(go_at_call 143;refine(finish1 _ 83 _ ([]) _ HB.out (by simp only [txt,List.append_assoc,List.cons_append,List.nil_append]) (by first|omega|(simp only [txt,List.length_append,List.length_cons,List.length_nil,sby_length,b16_len,b32_len];omega))).mono ?_;rintro e w1 ⟨v1,rfl,hn⟩;clear HB;have HB:=zh hn;clear hn)|(at_builtin;refine ap_lit1 rfl _ _ 26 26 rfl Tryz.underlying26 Tryz.underlying26 rfl rfl HB.out (by simp only [List.length_append,List.length_cons,List.length_nil,sby_length,b16_len,b32_len];omega) ?_;intro v3 w3 hn;replace HB:=zh hn;clear hn)|(at_builtin;refine ap_lit5 rfl _ _ 26 26 rfl Tryz.underlying26 Tryz.underlying26 rfl rfl HB.out (by simp only [List.length_append,List.length_cons,List.length_nil,sby_length,b16_len,b32_len];omega) ?_;intro v3 w3 hn;replace HB:=zh hn;clear hn)|(at_builtin;refine ap_lit6 rfl _ _ 26 26 rfl Tryz.underlying26 Tryz.underlying26 rfl rfl HB.out (by simp only [List.length_append,List.length_cons,List.length_nil,sby_length,b16_len,b32_len];omega) ?_;intro v3 w3 hn;replace HB:=zh hn;clear hn))
 go_ret2
 exact gives_of HB.out (by rw [HR.out];rfl)
/-- the string of some bytes -/
def strOf (xs:List Int):ByteArray:=xs.foldl (fun r n=>r.push (UInt8.ofNat n.toNat)) ByteArray.empty
theorem conv_rd {w:World} {v:Value} {xs:List Int} (h:RdB w v xs):(convert 26 9 v).run Tryz.prog w=.ok (.string (strOf xs)) w:=by
 obtain⟨A,c,rfl,h1,h2,h3⟩:=h
 rw [run_convert_bytes_string w 26 9 5 A xs.length c Tryz.underlying26 Tryz.underlying5 Tryz.underlying9]
 by_cases hn:0 < xs.length
 ·obtain⟨b,off,rfl,hc⟩:=h3 hn
  refine run_bytesToString w ⟨b,off,none⟩ xs.length c xs ?_
  have:=run_loadCells_list (P:=Tryz.prog) w ⟨b,off,none⟩ (xs.map (Value.int .u8)) (fun j v hj=>by
   have hj':j < xs.length:=by
    have:=(List.getElem?_eq_some_iff.1 hj).1
    simpa using this
   rw [add_lit0,hc j hj']
   simp [List.getElem?_eq_getElem hj']at hj
   rw [<-hj]
   simp [List.getD,List.getElem?_eq_getElem hj'])
  simpa using this
 ·have hx:xs=[]:=List.eq_nil_of_length_eq_zero (by omega)
  subst hx
  cases A with
  | none=>simp [Conv.bytesToString,strOf,Sem.run_pure]
  | some a=>exact run_bytesToString w a 0 c [] (by simpa using run_loadCells_list (P:=Tryz.prog) w a [] (fun j v hj=>by simp at hj))
theorem meth19 (b:Nat)(w:World):(method 480 163 (.pointer (some ⟨b,0,none⟩)) "Encode").run Tryz.prog w=.ok (226,.pointer (some ⟨b,0,none⟩)) w:=by kernel_rfl
theorem cf226 (args:Array Value)(w:World):(callFunc 226 args).run Tryz.prog w=.ok (.enter 226 args) w:=by kernel_rfl
theorem made19 (n:Int)(v1 v2 v4 v5 v6 v7 v8 v9 v10 v11 v12:Value)(w:World)(R:List Int)(HR:Hid (R=msgB 83 [])):Calls Tryz.prog 34 #[.agg #[.int .i64 19,v1,v2,.int .u32 n,v4,v5,v6,v7,v8,v9,v10,v11,v12]] w (Made 163 226 w R):=
 made_dflt 163 226 164 #[] 19 n v1 v2 v4 v5 v6 v7 v8 v9 v10 v11 v12 w R (by decide) emp19 fun w1 b hx _ _=>ans_triv 163 226 b 19 n v1 v2 v4 v5 v6 v7 v8 v9 v10 v11 v12 w w1 R (by decide) hx fun w2=>encSync b w2 R HR
theorem enc19 (n:Int)(v1 v2 v4 v5 v6 v7 v8 v9 v10 v11 v12:Value)(w:World)(R:List Int)(HR:Hid (R=msgB 83 [])):Calls Tryz.prog 14 #[.agg #[.int .i64 19,v1,v2,.int .u32 n,v4,v5,v6,v7,v8,v9,v10,v11,v12]] w (Encs w R):=
 enc14 163 226 _ _ _ _ _ _ _ _ _ _ _ _ _ w R meth19 cf226 fun w' _=>made19 n v1 v2 v4 v5 v6 v7 v8 v9 v10 v11 v12 w' R HR
theorem str5:(strOf [83,0,0,0,4]).toList=[83,0,0,0,4]:=by
 rw [ByteArray.toList_eq];rfl
theorem works13 (w:World):Calls Tryz.prog 13 #[] w (fun e w'=>e=.returned (.bool true)/\Ext w w'):=by
 have h5:=str5
 go_enter Tryz.func13,Tryz.ntmps13
 go_wp2_with (go_at_call 14;refine(enc19 _ _ _ _ _ _ _ _ _ _ _ _ _ [83,0,0,0,4] (zh (by decide))).mono ?_;rintro e w1 ⟨A,c,rfl,hx,hr⟩;have HX:=zh hx;have hcv:(convert 26 9 (.slice A 5 c)).run Tryz.prog w1=.ok (.string (strOf [83,0,0,0,4])) w1:=conv_rd hr;clear hr hx)
 go_ret
 exact⟨rfl,HX.out⟩
open Go.RowKit Og
theorem idle45 (p q:Addr)(w:World):CallsD Tryz.prog 45 #[.pointer (some p),.pointer (some q)] .returning w fun e u' w'=>e=.returned (.tuple #[])/\u'=.returning/\w'=w:=by
 refine callsD_of_wpS Tryz.func45 rfl fun c₀ cs hu=>?_
 apply wpS_seq
 apply wpS_region
 simp [wpOpsS,go_sem,recoverD,hu,Tryz.ntmps45,Exit.thenS]
 refine wpS_cond (t:=false) (by simp [Act.eval,Array.replicate]) ?_
 simp only [Bool.false_eq_true,if_false]
 refine wpS_of_wp (wp_skip ?_)
 cases c₀
 simp_all [bodyPostS,results,Tryz.results45]
theorem copied47 (v:Value)(xs:List Int)(w:World)(h:RdB w v xs)(hl:xs.length<=1000000):Calls Tryz.prog 47 #[v] w (Gave w xs):=by
 have HR:=zh h
 have HB:=zh (Buf.nil w)
 go_enter Tryz.func47,Tryz.ntmps47
 go_wp2_with (at_builtin;refine ap_row (ys:=xs) rfl _ _ 26 26 rfl Tryz.underlying26 Tryz.underlying26 rfl HB.out rfl HR.out (by simp;omega) ?_;intro v2 w2 hn;clear HB;have HB:=zh hn;clear hn)
 go_ret
 exact⟨_,rfl,by simpa using HB.out⟩
/-- All blocks but one stand. -/
structure ExtBut (b:Nat) (w w':World):Prop where
 os:w'.os=w.os
 tape:w'.tape=w.tape
 output:w'.output=w.output
 size:w.heap.size<=w'.heap.size
 block:∀k,k < w.heap.size->k≠b->w'.heap[k]?=w.heap[k]?
theorem Ext.but {b:Nat} {w w':World} (h:Ext w w'):ExtBut b w w':=⟨h.os,h.tape,h.output,h.size,fun k hk _=>h.block k hk⟩
theorem ExtBut.trans {b:Nat} {w w1 w2:World} (h:ExtBut b w w1)(h2:ExtBut b w1 w2):ExtBut b w w2:=
 ⟨h2.os.trans h.os,h2.tape.trans h.tape,h2.output.trans h.output,Nat.le_trans h.size h2.size,fun k hk hb=>(h2.block k (Nat.lt_of_lt_of_le hk h.size) hb).trans (h.block k hk hb)⟩
theorem ExtBut.set {b:Nat} {w w1:World} (h:ExtBut b w w1)(j:Nat)(v:Value):ExtBut b w (w1.setCell ⟨b,j,none⟩ v):=
 ⟨h.os,h.tape,h.output,by simpa [World.setCell]using h.size,fun k hk hb=>(heap_setCell_other w1 ⟨b,j,none⟩ k v hb).trans (h.block k hk hb)⟩
theorem ExtBut.ext {b:Nat} {w w1 w2:World} (h:ExtBut b w1 w2)(hx:Ext w w1)(hb:w.heap.size<=b):Ext w w2:=
 ⟨h.os.trans hx.os,h.tape.trans hx.tape,h.output.trans hx.output,Nat.le_trans hx.size h.size,fun k hk=>(h.block k (Nat.lt_of_lt_of_le hk hx.size) (by omega)).trans (hx.block k hk)⟩
/-- What stays true while the blocks between two worlds stand. -/
def Keeps (w w':World) (R:World->Prop):Prop:=∀w3:World,(∀k,w.heap.size<=k->k < w'.heap.size->w3.heap[k]?=w'.heap[k]?)->R w3
theorem own_stay {w w' w3:World} {e size n:Nat} {v:Value} {xs:List Value} (h:w'.ownsRow 0 e size v n xs)(hoff:∀g,v.ownBlock=some g->¬g < w.heap.size)(hx:∀k,w.heap.size<=k->k < w'.heap.size->w3.heap[k]?=w'.heap[k]?):w3.ownsRow 0 e size v n xs:=
 own_keep h fun g hg=>hx g (Nat.le_of_not_lt (hoff g hg)) (h.lt g hg).2
theorem Buf.keeps {w w':World} {v:Value} {xs:List Int} (h:Buf (Lt w.heap.size) w w' v xs):Keeps w w' (fun w3=>RdB w3 v xs):=
 fun w3 hx=>RdB.of_own (own_stay h.own h.off hx)
/-- A row that is handed back and read. -/
def GaveR (R:Value->World->Prop) (n:Nat) (w:World):Ending->World->Prop:=fun e w'=>∃A c,e=.returned (.slice A n c)/\Ext w w'/\Keeps w w' (R (.slice A n c))
theorem copiedK (v:Value)(xs:List Int)(w:World)(h:RdB w v xs)(hl:xs.length<=1000000):Calls Tryz.prog 47 #[v] w (GaveR (fun v w=>RdB w v xs) xs.length w):=by
 refine(copied47 v xs w h hl).mono ?_
 rintro e w' ⟨v',rfl,hb⟩
 obtain⟨A,c,rfl⟩:=hb.len
 exact⟨A,c,rfl,hb.bel,hb.keeps⟩
theorem info243:(Tryz.prog.info? 243).map (fun i=>(i.zero,i.size,i.bytes))=some (some (.int .i16 0),1,2):=by kernel_rfl
theorem info128:(Tryz.prog.info? 128).map (fun i=>(i.zero,i.size,i.bytes))=some (some (.int .u16 0),1,2):=by kernel_rfl
theorem info22:(Tryz.prog.info? 22).map (fun i=>(i.zero,i.size,i.bytes))=some (some (.int .u32 0),1,4):=by kernel_rfl
theorem Row.bel {e size:Nat} {w0 w:World} {v:Value} {n:Nat} {xs:List Value} (h:Row e size (Lt w0.heap.size) w0 w v n xs):Ext w0 w:=
 ⟨h.os,h.tape,h.output,Nat.le_of_not_lt fun hl=>Nat.lt_irrefl _ (h.lt _ hl),fun k hk=>h.kept k hk⟩
theorem Row.start (e size:Nat)(w:World):Row e size (Lt w.heap.size) w w (.slice none 0 0) 0 []:=
 ⟨World.ownsRow_nil _ _ _ _,fun g hg=>by simp [Value.ownBlock]at hg,fun _ _=>rfl,fun k hk=>hk,rfl,rfl,rfl⟩
theorem RdI.of_own {kd:IntKind} {w:World} {B e:Nat} {v:Value} {xs:List Int} (h:w.ownsRow B e 1 v xs.length (xs.map (Value.int kd))):RdI kd w v xs:=by
 rcases h.2 with ⟨rfl,hn⟩|⟨g,cap,cur,rfl,hbg,hg,hnc,hcm,hcs,htake⟩
 ·exact⟨none,0,by rw [hn],by omega,by unfold maxLen;omega,fun h=>by omega⟩
 ·refine⟨_,cap,rfl,hnc,hcm,fun _=>⟨g,0,rfl,fun j hj=>?_⟩⟩
  have:=h.cells (g:=g) rfl j (.int kd (xs.getD j 0)) (by
   rw [List.getElem?_map,List.getElem?_eq_getElem hj]
   simp [List.getD,List.getElem?_eq_getElem hj])
  rwa [add_lit0]at this
theorem Row.keepsI {kd:IntKind} {e:Nat} {w w':World} {v:Value} {xs:List Int} (h:Row e 1 (Lt w.heap.size) w w' v xs.length (xs.map (Value.int kd))):Keeps w w' (fun w3=>RdI kd w3 v xs):=
 fun w3 hx=>RdI.of_own (own_stay h.own h.off hx)
end Go.Proofs.YtdenjanihikolaaGreatDoor
