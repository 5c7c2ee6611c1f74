/- Closed facts of the kinds, and what joins the pieces of a kind. -/
import Derived.Test.YtdenjanihikolaaGreatDoorRqA0
import Derived.Test.YtdenjanihikolaaGreatDoorRqA1
import Derived.Barred
import Derived.Test.YtdenjanihikolaaGreatDoorRqWrd
import Derived.Test.YtdenjanihikolaaGreatDoorRqDok
import Derived.Test.YtdenjanihikolaaGreatDoorRqTdc
import Derived.Test.YtdenjanihikolaaGreatDoorRqTa
import Derived.Test.YtdenjanihikolaaGreatDoorRqFit
import Derived.Test.YtdenjanihikolaaGreatDoorRqBdd
import Derived.Test.YtdenjanihikolaaGreatDoorRqPpc
import Derived.Test.YtdenjanihikolaaGreatDoorRqSmu
namespace Go.Proofs.YtdenjanihikolaaGreatDoor
set_option linter.unusedVariables false
set_option linter.unusedSimpArgs false
set_option maxRecDepth 100000
open Go.RowKit Og
structure KF (kd L:Int) (T E D ty:Nat) (cs:Array Value):Prop where
 me:∀b w,(method 480 T (.pointer (some ⟨b,0,none⟩)) "Encode").run Tryz.prog w=.ok (E,.pointer (some ⟨b,0,none⟩)) w
 ce:∀args w,(callFunc E args).run Tryz.prog w=.ok (.enter E args) w
 md:∀b w,(method 480 T (.pointer (some ⟨b,0,none⟩)) "Decode").run Tryz.prog w=.ok (D,.pointer (some ⟨b,0,none⟩)) w
 nd:∀b w,(nilAhead 480 T (.pointer (some ⟨b,0,none⟩)) "Decode").run Tryz.prog w=.ok (some false) w
 cd:∀args w,(callFunc D args).run Tryz.prog w=.ok (.enter D args) w
 em:∀w,Calls Tryz.prog 46 #[.int .i64 kd] w (fun e w'=>e=.returned (.iface T (.pointer (some ⟨w.heap.size,0,none⟩)))/\w'=w.alloc (.cells cs ty))
 le:∀w,Calls Tryz.prog 35 #[.int .i64 kd] w (fun e w'=>e=.returned (.int .u8 L)/\w'=w)
 lb:0<=L/\L < 256
theorem kf0:KF 0 66 101 134 133 107 #[.string ⟨#[]⟩,.string ⟨#[]⟩,.slice none 0 0,.slice none 0 0,.slice none 0 0]:=⟨fun _ _=>by kernel_rfl,fun _ _=>by kernel_rfl,fun _ _=>by kernel_rfl,fun _ _=>by kernel_rfl,fun _ _=>by kernel_rfl,fun w=>by go_enter Tryz.func46,Tryz.ntmps46;go_wp2;go_ret;exact⟨rfl,rfl⟩,fun w=>by go_enter Tryz.func35,Tryz.ntmps35;go_wp2;go_ret;exact⟨rfl,rfl⟩,by decide⟩
theorem kf1:KF 1 0 108 148 147 110 #[.int .u32 0,.slice none 0 0]:=⟨fun _ _=>by kernel_rfl,fun _ _=>by kernel_rfl,fun _ _=>by kernel_rfl,fun _ _=>by kernel_rfl,fun _ _=>by kernel_rfl,fun w=>by go_enter Tryz.func46,Tryz.ntmps46;go_wp2;go_ret;exact⟨rfl,rfl⟩,fun w=>by go_enter Tryz.func35,Tryz.ntmps35;go_wp2;go_ret;exact⟨rfl,rfl⟩,by decide⟩
theorem kf2:KF 2 67 111 151 150 113 #[.int .u8 0,.string ⟨#[]⟩]:=⟨fun _ _=>by kernel_rfl,fun _ _=>by kernel_rfl,fun _ _=>by kernel_rfl,fun _ _=>by kernel_rfl,fun _ _=>by kernel_rfl,fun w=>by go_enter Tryz.func46,Tryz.ntmps46;go_wp2;go_ret;exact⟨rfl,rfl⟩,fun w=>by go_enter Tryz.func35,Tryz.ntmps35;go_wp2;go_ret;exact⟨rfl,rfl⟩,by decide⟩
theorem kf3:KF 3 100 116 158 157 118 #[.slice none 0 0]:=⟨fun _ _=>by kernel_rfl,fun _ _=>by kernel_rfl,fun _ _=>by kernel_rfl,fun _ _=>by kernel_rfl,fun _ _=>by kernel_rfl,fun w=>by go_enter Tryz.func46,Tryz.ntmps46;go_wp2;go_ret;exact⟨rfl,rfl⟩,fun w=>by go_enter Tryz.func35,Tryz.ntmps35;go_wp2;go_ret;exact⟨rfl,rfl⟩,by decide⟩
theorem kf4:KF 4 99 154 215 214 156 #[]:=⟨fun _ _=>by kernel_rfl,fun _ _=>by kernel_rfl,fun _ _=>by kernel_rfl,fun _ _=>by kernel_rfl,fun _ _=>by kernel_rfl,fun w=>by go_enter Tryz.func46,Tryz.ntmps46;go_wp2;go_ret;exact⟨rfl,rfl⟩,fun w=>by go_enter Tryz.func35,Tryz.ntmps35;go_wp2;go_ret;exact⟨rfl,rfl⟩,by decide⟩
theorem kf5:KF 5 102 119 160 159 121 #[.string ⟨#[]⟩]:=⟨fun _ _=>by kernel_rfl,fun _ _=>by kernel_rfl,fun _ _=>by kernel_rfl,fun _ _=>by kernel_rfl,fun _ _=>by kernel_rfl,fun w=>by go_enter Tryz.func46,Tryz.ntmps46;go_wp2;go_ret;exact⟨rfl,rfl⟩,fun w=>by go_enter Tryz.func35,Tryz.ntmps35;go_wp2;go_ret;exact⟨rfl,rfl⟩,by decide⟩
theorem kf6:KF 6 68 114 154 153 115 #[.int .u8 0,.string ⟨#[]⟩]:=⟨fun _ _=>by kernel_rfl,fun _ _=>by kernel_rfl,fun _ _=>by kernel_rfl,fun _ _=>by kernel_rfl,fun _ _=>by kernel_rfl,fun w=>by go_enter Tryz.func46,Tryz.ntmps46;go_wp2;go_ret;exact⟨rfl,rfl⟩,fun w=>by go_enter Tryz.func35,Tryz.ntmps35;go_wp2;go_ret;exact⟨rfl,rfl⟩,by decide⟩
theorem kf7:KF 7 69 122 163 162 124 #[.string ⟨#[]⟩,.int .u32 0]:=⟨fun _ _=>by kernel_rfl,fun _ _=>by kernel_rfl,fun _ _=>by kernel_rfl,fun _ _=>by kernel_rfl,fun _ _=>by kernel_rfl,fun w=>by go_enter Tryz.func46,Tryz.ntmps46;go_wp2;go_ret;exact⟨rfl,rfl⟩,fun w=>by go_enter Tryz.func35,Tryz.ntmps35;go_wp2;go_ret;exact⟨rfl,rfl⟩,by decide⟩
theorem kf8:KF 8 72 157 217 216 158 #[]:=⟨fun _ _=>by kernel_rfl,fun _ _=>by kernel_rfl,fun _ _=>by kernel_rfl,fun _ _=>by kernel_rfl,fun _ _=>by kernel_rfl,fun w=>by go_enter Tryz.func46,Tryz.ntmps46;go_wp2;go_ret;exact⟨rfl,rfl⟩,fun w=>by go_enter Tryz.func35,Tryz.ntmps35;go_wp2;go_ret;exact⟨rfl,rfl⟩,by decide⟩
theorem kf9:KF 9 70 125 170 169 131 #[.int .u32 0,.slice none 0 0,.slice none 0 0,.int .u16 0]:=⟨fun _ _=>by kernel_rfl,fun _ _=>by kernel_rfl,fun _ _=>by kernel_rfl,fun _ _=>by kernel_rfl,fun _ _=>by kernel_rfl,fun w=>by go_enter Tryz.func46,Tryz.ntmps46;go_wp2;go_ret;exact⟨rfl,rfl⟩,fun w=>by go_enter Tryz.func35,Tryz.ntmps35;go_wp2;go_ret;exact⟨rfl,rfl⟩,by decide⟩
theorem kf10:KF 10 0 159 220 219 160 #[]:=⟨fun _ _=>by kernel_rfl,fun _ _=>by kernel_rfl,fun _ _=>by kernel_rfl,fun _ _=>by kernel_rfl,fun _ _=>by kernel_rfl,fun w=>by go_enter Tryz.func46,Tryz.ntmps46;go_wp2;go_ret;exact⟨rfl,rfl⟩,fun w=>by go_enter Tryz.func35,Tryz.ntmps35;go_wp2;go_ret;exact⟨rfl,rfl⟩,by decide⟩
theorem kf11:KF 11 112 132 173 172 133 #[.slice none 0 0]:=⟨fun _ _=>by kernel_rfl,fun _ _=>by kernel_rfl,fun _ _=>by kernel_rfl,fun _ _=>by kernel_rfl,fun _ _=>by kernel_rfl,fun w=>by go_enter Tryz.func46,Tryz.ntmps46;go_wp2;go_ret;exact⟨rfl,rfl⟩,fun w=>by go_enter Tryz.func35,Tryz.ntmps35;go_wp2;go_ret;exact⟨rfl,rfl⟩,by decide⟩
theorem kf12:KF 12 80 134 176 175 137 #[.string ⟨#[]⟩,.string ⟨#[]⟩,.slice none 0 0]:=⟨fun _ _=>by kernel_rfl,fun _ _=>by kernel_rfl,fun _ _=>by kernel_rfl,fun _ _=>by kernel_rfl,fun _ _=>by kernel_rfl,fun w=>by go_enter Tryz.func46,Tryz.ntmps46;go_wp2;go_ret;exact⟨rfl,rfl⟩,fun w=>by go_enter Tryz.func35,Tryz.ntmps35;go_wp2;go_ret;exact⟨rfl,rfl⟩,by decide⟩
theorem kf13:KF 13 112 138 179 178 140 #[.string ⟨#[]⟩]:=⟨fun _ _=>by kernel_rfl,fun _ _=>by kernel_rfl,fun _ _=>by kernel_rfl,fun _ _=>by kernel_rfl,fun _ _=>by kernel_rfl,fun w=>by go_enter Tryz.func46,Tryz.ntmps46;go_wp2;go_ret;exact⟨rfl,rfl⟩,fun w=>by go_enter Tryz.func35,Tryz.ntmps35;go_wp2;go_ret;exact⟨rfl,rfl⟩,by decide⟩
theorem kf14:KF 14 81 141 182 181 143 #[.string ⟨#[]⟩]:=⟨fun _ _=>by kernel_rfl,fun _ _=>by kernel_rfl,fun _ _=>by kernel_rfl,fun _ _=>by kernel_rfl,fun _ _=>by kernel_rfl,fun w=>by go_enter Tryz.func46,Tryz.ntmps46;go_wp2;go_ret;exact⟨rfl,rfl⟩,fun w=>by go_enter Tryz.func35,Tryz.ntmps35;go_wp2;go_ret;exact⟨rfl,rfl⟩,by decide⟩
theorem kf15:KF 15 112 144 185 184 146 #[.string ⟨#[]⟩,.slice none 0 0]:=⟨fun _ _=>by kernel_rfl,fun _ _=>by kernel_rfl,fun _ _=>by kernel_rfl,fun _ _=>by kernel_rfl,fun _ _=>by kernel_rfl,fun w=>by go_enter Tryz.func46,Tryz.ntmps46;go_wp2;go_ret;exact⟨rfl,rfl⟩,fun w=>by go_enter Tryz.func35,Tryz.ntmps35;go_wp2;go_ret;exact⟨rfl,rfl⟩,by decide⟩
theorem kf16:KF 16 112 147 188 187 148 #[.slice none 0 0]:=⟨fun _ _=>by kernel_rfl,fun _ _=>by kernel_rfl,fun _ _=>by kernel_rfl,fun _ _=>by kernel_rfl,fun _ _=>by kernel_rfl,fun w=>by go_enter Tryz.func46,Tryz.ntmps46;go_wp2;go_ret;exact⟨rfl,rfl⟩,fun w=>by go_enter Tryz.func35,Tryz.ntmps35;go_wp2;go_ret;exact⟨rfl,rfl⟩,by decide⟩
theorem kf17:KF 17 0 161 223 222 162 #[]:=⟨fun _ _=>by kernel_rfl,fun _ _=>by kernel_rfl,fun _ _=>by kernel_rfl,fun _ _=>by kernel_rfl,fun _ _=>by kernel_rfl,fun w=>by go_enter Tryz.func46,Tryz.ntmps46;go_wp2;go_ret;exact⟨rfl,rfl⟩,fun w=>by go_enter Tryz.func35,Tryz.ntmps35;go_wp2;go_ret;exact⟨rfl,rfl⟩,by decide⟩
theorem kf18:KF 18 0 149 191 190 152 #[.int .u32 0,.map none]:=⟨fun _ _=>by kernel_rfl,fun _ _=>by kernel_rfl,fun _ _=>by kernel_rfl,fun _ _=>by kernel_rfl,fun _ _=>by kernel_rfl,fun w=>by go_enter Tryz.func46,Tryz.ntmps46;go_wp2;go_ret;exact⟨rfl,rfl⟩,fun w=>by go_enter Tryz.func35,Tryz.ntmps35;go_wp2;go_ret;exact⟨rfl,rfl⟩,by decide⟩
theorem kf19:KF 19 83 163 226 225 164 #[]:=⟨fun _ _=>by kernel_rfl,fun _ _=>by kernel_rfl,fun _ _=>by kernel_rfl,fun _ _=>by kernel_rfl,fun _ _=>by kernel_rfl,fun w=>by go_enter Tryz.func46,Tryz.ntmps46;go_wp2;go_ret;exact⟨rfl,rfl⟩,fun w=>by go_enter Tryz.func35,Tryz.ntmps35;go_wp2;go_ret;exact⟨rfl,rfl⟩,by decide⟩
theorem kf20:KF 20 88 165 229 228 166 #[]:=⟨fun _ _=>by kernel_rfl,fun _ _=>by kernel_rfl,fun _ _=>by kernel_rfl,fun _ _=>by kernel_rfl,fun _ _=>by kernel_rfl,fun w=>by go_enter Tryz.func46,Tryz.ntmps46;go_wp2;go_ret;exact⟨rfl,rfl⟩,fun w=>by go_enter Tryz.func35,Tryz.ntmps35;go_wp2;go_ret;exact⟨rfl,rfl⟩,by decide⟩
theorem kf30:KF 30 82 167 233 232 168 #[]:=⟨fun _ _=>by kernel_rfl,fun _ _=>by kernel_rfl,fun _ _=>by kernel_rfl,fun _ _=>by kernel_rfl,fun _ _=>by kernel_rfl,fun w=>by go_enter Tryz.func46,Tryz.ntmps46;go_wp2;go_ret;exact⟨rfl,rfl⟩,fun w=>by go_enter Tryz.func35,Tryz.ntmps35;go_wp2;go_ret;exact⟨rfl,rfl⟩,by decide⟩
theorem kf31:KF 31 82 169 236 235 170 #[]:=⟨fun _ _=>by kernel_rfl,fun _ _=>by kernel_rfl,fun _ _=>by kernel_rfl,fun _ _=>by kernel_rfl,fun _ _=>by kernel_rfl,fun w=>by go_enter Tryz.func46,Tryz.ntmps46;go_wp2;go_ret;exact⟨rfl,rfl⟩,fun w=>by go_enter Tryz.func35,Tryz.ntmps35;go_wp2;go_ret;exact⟨rfl,rfl⟩,by decide⟩
theorem kf32:KF 32 82 185 260 259 188 #[.int .u8 0,.int .u8 0,.int .u8 0,.int .u8 0]:=⟨fun _ _=>by kernel_rfl,fun _ _=>by kernel_rfl,fun _ _=>by kernel_rfl,fun _ _=>by kernel_rfl,fun _ _=>by kernel_rfl,fun w=>by go_enter Tryz.func46,Tryz.ntmps46;go_wp2;go_ret;exact⟨rfl,rfl⟩,fun w=>by go_enter Tryz.func35,Tryz.ntmps35;go_wp2;go_ret;exact⟨rfl,rfl⟩,by decide⟩
theorem kf33:KF 33 82 171 239 238 172 #[]:=⟨fun _ _=>by kernel_rfl,fun _ _=>by kernel_rfl,fun _ _=>by kernel_rfl,fun _ _=>by kernel_rfl,fun _ _=>by kernel_rfl,fun w=>by go_enter Tryz.func46,Tryz.ntmps46;go_wp2;go_ret;exact⟨rfl,rfl⟩,fun w=>by go_enter Tryz.func35,Tryz.ntmps35;go_wp2;go_ret;exact⟨rfl,rfl⟩,by decide⟩
theorem kf34:KF 34 82 189 263 262 190 #[.slice none 0 0]:=⟨fun _ _=>by kernel_rfl,fun _ _=>by kernel_rfl,fun _ _=>by kernel_rfl,fun _ _=>by kernel_rfl,fun _ _=>by kernel_rfl,fun w=>by go_enter Tryz.func46,Tryz.ntmps46;go_wp2;go_ret;exact⟨rfl,rfl⟩,fun w=>by go_enter Tryz.func35,Tryz.ntmps35;go_wp2;go_ret;exact⟨rfl,rfl⟩,by decide⟩
theorem kf35:KF 35 82 191 266 265 193 #[.slice none 0 0]:=⟨fun _ _=>by kernel_rfl,fun _ _=>by kernel_rfl,fun _ _=>by kernel_rfl,fun _ _=>by kernel_rfl,fun _ _=>by kernel_rfl,fun w=>by go_enter Tryz.func46,Tryz.ntmps46;go_wp2;go_ret;exact⟨rfl,rfl⟩,fun w=>by go_enter Tryz.func35,Tryz.ntmps35;go_wp2;go_ret;exact⟨rfl,rfl⟩,by decide⟩
theorem kf36:KF 36 82 194 269 268 195 #[.slice none 0 0]:=⟨fun _ _=>by kernel_rfl,fun _ _=>by kernel_rfl,fun _ _=>by kernel_rfl,fun _ _=>by kernel_rfl,fun _ _=>by kernel_rfl,fun w=>by go_enter Tryz.func46,Tryz.ntmps46;go_wp2;go_ret;exact⟨rfl,rfl⟩,fun w=>by go_enter Tryz.func35,Tryz.ntmps35;go_wp2;go_ret;exact⟨rfl,rfl⟩,by decide⟩
theorem kf37:KF 37 82 196 272 271 197 #[.slice none 0 0]:=⟨fun _ _=>by kernel_rfl,fun _ _=>by kernel_rfl,fun _ _=>by kernel_rfl,fun _ _=>by kernel_rfl,fun _ _=>by kernel_rfl,fun w=>by go_enter Tryz.func46,Tryz.ntmps46;go_wp2;go_ret;exact⟨rfl,rfl⟩,fun w=>by go_enter Tryz.func35,Tryz.ntmps35;go_wp2;go_ret;exact⟨rfl,rfl⟩,by decide⟩
theorem kf38:KF 38 75 198 275 274 199 #[.int .u32 0,.slice none 0 0]:=⟨fun _ _=>by kernel_rfl,fun _ _=>by kernel_rfl,fun _ _=>by kernel_rfl,fun _ _=>by kernel_rfl,fun _ _=>by kernel_rfl,fun w=>by go_enter Tryz.func46,Tryz.ntmps46;go_wp2;go_ret;exact⟨rfl,rfl⟩,fun w=>by go_enter Tryz.func35,Tryz.ntmps35;go_wp2;go_ret;exact⟨rfl,rfl⟩,by decide⟩
theorem kf39:KF 39 50 173 242 241 174 #[]:=⟨fun _ _=>by kernel_rfl,fun _ _=>by kernel_rfl,fun _ _=>by kernel_rfl,fun _ _=>by kernel_rfl,fun _ _=>by kernel_rfl,fun w=>by go_enter Tryz.func46,Tryz.ntmps46;go_wp2;go_ret;exact⟨rfl,rfl⟩,fun w=>by go_enter Tryz.func35,Tryz.ntmps35;go_wp2;go_ret;exact⟨rfl,rfl⟩,by decide⟩
theorem kf40:KF 40 51 175 245 244 176 #[]:=⟨fun _ _=>by kernel_rfl,fun _ _=>by kernel_rfl,fun _ _=>by kernel_rfl,fun _ _=>by kernel_rfl,fun _ _=>by kernel_rfl,fun w=>by go_enter Tryz.func46,Tryz.ntmps46;go_wp2;go_ret;exact⟨rfl,rfl⟩,fun w=>by go_enter Tryz.func35,Tryz.ntmps35;go_wp2;go_ret;exact⟨rfl,rfl⟩,by decide⟩
theorem kf41:KF 41 67 200 278 277 202 #[.slice none 0 0]:=⟨fun _ _=>by kernel_rfl,fun _ _=>by kernel_rfl,fun _ _=>by kernel_rfl,fun _ _=>by kernel_rfl,fun _ _=>by kernel_rfl,fun w=>by go_enter Tryz.func46,Tryz.ntmps46;go_wp2;go_ret;exact⟨rfl,rfl⟩,fun w=>by go_enter Tryz.func35,Tryz.ntmps35;go_wp2;go_ret;exact⟨rfl,rfl⟩,by decide⟩
theorem kf42:KF 42 87 203 281 280 205 #[.int .u8 0,.slice none 0 0]:=⟨fun _ _=>by kernel_rfl,fun _ _=>by kernel_rfl,fun _ _=>by kernel_rfl,fun _ _=>by kernel_rfl,fun _ _=>by kernel_rfl,fun w=>by go_enter Tryz.func46,Tryz.ntmps46;go_wp2;go_ret;exact⟨rfl,rfl⟩,fun w=>by go_enter Tryz.func35,Tryz.ntmps35;go_wp2;go_ret;exact⟨rfl,rfl⟩,by decide⟩
theorem kf43:KF 43 71 206 284 283 207 #[.int .u8 0,.slice none 0 0]:=⟨fun _ _=>by kernel_rfl,fun _ _=>by kernel_rfl,fun _ _=>by kernel_rfl,fun _ _=>by kernel_rfl,fun _ _=>by kernel_rfl,fun w=>by go_enter Tryz.func46,Tryz.ntmps46;go_wp2;go_ret;exact⟨rfl,rfl⟩,fun w=>by go_enter Tryz.func35,Tryz.ntmps35;go_wp2;go_ret;exact⟨rfl,rfl⟩,by decide⟩
theorem kf44:KF 44 72 208 287 286 209 #[.int .u8 0,.slice none 0 0]:=⟨fun _ _=>by kernel_rfl,fun _ _=>by kernel_rfl,fun _ _=>by kernel_rfl,fun _ _=>by kernel_rfl,fun _ _=>by kernel_rfl,fun w=>by go_enter Tryz.func46,Tryz.ntmps46;go_wp2;go_ret;exact⟨rfl,rfl⟩,fun w=>by go_enter Tryz.func35,Tryz.ntmps35;go_wp2;go_ret;exact⟨rfl,rfl⟩,by decide⟩
theorem kf45:KF 45 68 210 290 289 212 #[.slice none 0 0]:=⟨fun _ _=>by kernel_rfl,fun _ _=>by kernel_rfl,fun _ _=>by kernel_rfl,fun _ _=>by kernel_rfl,fun _ _=>by kernel_rfl,fun w=>by go_enter Tryz.func46,Tryz.ntmps46;go_wp2;go_ret;exact⟨rfl,rfl⟩,fun w=>by go_enter Tryz.func35,Tryz.ntmps35;go_wp2;go_ret;exact⟨rfl,rfl⟩,by decide⟩
theorem kf46:KF 46 73 177 248 247 178 #[]:=⟨fun _ _=>by kernel_rfl,fun _ _=>by kernel_rfl,fun _ _=>by kernel_rfl,fun _ _=>by kernel_rfl,fun _ _=>by kernel_rfl,fun w=>by go_enter Tryz.func46,Tryz.ntmps46;go_wp2;go_ret;exact⟨rfl,rfl⟩,fun w=>by go_enter Tryz.func35,Tryz.ntmps35;go_wp2;go_ret;exact⟨rfl,rfl⟩,by decide⟩
theorem kf47:KF 47 69 213 293 292 216 #[.string ⟨#[]⟩,.string ⟨#[]⟩,.string ⟨#[]⟩,.string ⟨#[]⟩,.string ⟨#[]⟩,.string ⟨#[]⟩,.int .i32 0,.int .i32 0,.string ⟨#[]⟩,.string ⟨#[]⟩,.string ⟨#[]⟩,.string ⟨#[]⟩,.string ⟨#[]⟩,.string ⟨#[]⟩,.string ⟨#[]⟩,.string ⟨#[]⟩,.int .i32 0,.string ⟨#[]⟩,.map none]:=⟨fun _ _=>by kernel_rfl,fun _ _=>by kernel_rfl,fun _ _=>by kernel_rfl,fun _ _=>by kernel_rfl,fun _ _=>by kernel_rfl,fun w=>by go_enter Tryz.func46,Tryz.ntmps46;go_wp2;go_ret;exact⟨rfl,rfl⟩,fun w=>by go_enter Tryz.func35,Tryz.ntmps35;go_wp2;go_ret;exact⟨rfl,rfl⟩,by decide⟩
theorem kf48:KF 48 78 217 315 314 218 #[.string ⟨#[]⟩,.string ⟨#[]⟩,.string ⟨#[]⟩,.string ⟨#[]⟩,.string ⟨#[]⟩,.string ⟨#[]⟩,.int .i32 0,.int .i32 0,.string ⟨#[]⟩,.string ⟨#[]⟩,.string ⟨#[]⟩,.string ⟨#[]⟩,.string ⟨#[]⟩,.string ⟨#[]⟩,.string ⟨#[]⟩,.string ⟨#[]⟩,.int .i32 0,.string ⟨#[]⟩,.map none]:=⟨fun _ _=>by kernel_rfl,fun _ _=>by kernel_rfl,fun _ _=>by kernel_rfl,fun _ _=>by kernel_rfl,fun _ _=>by kernel_rfl,fun w=>by go_enter Tryz.func46,Tryz.ntmps46;go_wp2;go_ret;exact⟨rfl,rfl⟩,fun w=>by go_enter Tryz.func35,Tryz.ntmps35;go_wp2;go_ret;exact⟨rfl,rfl⟩,by decide⟩
theorem kf49:KF 49 86 219 318 317 221 #[.slice none 0 0]:=⟨fun _ _=>by kernel_rfl,fun _ _=>by kernel_rfl,fun _ _=>by kernel_rfl,fun _ _=>by kernel_rfl,fun _ _=>by kernel_rfl,fun w=>by go_enter Tryz.func46,Tryz.ntmps46;go_wp2;go_ret;exact⟨rfl,rfl⟩,fun w=>by go_enter Tryz.func35,Tryz.ntmps35;go_wp2;go_ret;exact⟨rfl,rfl⟩,by decide⟩
theorem kf50:KF 50 110 179 251 250 180 #[]:=⟨fun _ _=>by kernel_rfl,fun _ _=>by kernel_rfl,fun _ _=>by kernel_rfl,fun _ _=>by kernel_rfl,fun _ _=>by kernel_rfl,fun w=>by go_enter Tryz.func46,Tryz.ntmps46;go_wp2;go_ret;exact⟨rfl,rfl⟩,fun w=>by go_enter Tryz.func35,Tryz.ntmps35;go_wp2;go_ret;exact⟨rfl,rfl⟩,by decide⟩
theorem kf51:KF 51 65 222 321 320 224 #[.int .u32 0,.string ⟨#[]⟩,.string ⟨#[]⟩]:=⟨fun _ _=>by kernel_rfl,fun _ _=>by kernel_rfl,fun _ _=>by kernel_rfl,fun _ _=>by kernel_rfl,fun _ _=>by kernel_rfl,fun w=>by go_enter Tryz.func46,Tryz.ntmps46;go_wp2;go_ret;exact⟨rfl,rfl⟩,fun w=>by go_enter Tryz.func35,Tryz.ntmps35;go_wp2;go_ret;exact⟨rfl,rfl⟩,by decide⟩
theorem kf52:KF 52 116 225 324 323 227 #[.slice none 0 0]:=⟨fun _ _=>by kernel_rfl,fun _ _=>by kernel_rfl,fun _ _=>by kernel_rfl,fun _ _=>by kernel_rfl,fun _ _=>by kernel_rfl,fun w=>by go_enter Tryz.func46,Tryz.ntmps46;go_wp2;go_ret;exact⟨rfl,rfl⟩,fun w=>by go_enter Tryz.func35,Tryz.ntmps35;go_wp2;go_ret;exact⟨rfl,rfl⟩,by decide⟩
theorem kf53:KF 53 83 228 327 326 229 #[.string ⟨#[]⟩,.string ⟨#[]⟩]:=⟨fun _ _=>by kernel_rfl,fun _ _=>by kernel_rfl,fun _ _=>by kernel_rfl,fun _ _=>by kernel_rfl,fun _ _=>by kernel_rfl,fun w=>by go_enter Tryz.func46,Tryz.ntmps46;go_wp2;go_ret;exact⟨rfl,rfl⟩,fun w=>by go_enter Tryz.func35,Tryz.ntmps35;go_wp2;go_ret;exact⟨rfl,rfl⟩,by decide⟩
theorem kf54:KF 54 49 181 254 253 182 #[]:=⟨fun _ _=>by kernel_rfl,fun _ _=>by kernel_rfl,fun _ _=>by kernel_rfl,fun _ _=>by kernel_rfl,fun _ _=>by kernel_rfl,fun w=>by go_enter Tryz.func46,Tryz.ntmps46;go_wp2;go_ret;exact⟨rfl,rfl⟩,fun w=>by go_enter Tryz.func35,Tryz.ntmps35;go_wp2;go_ret;exact⟨rfl,rfl⟩,by decide⟩
theorem kf55:KF 55 115 183 257 256 184 #[]:=⟨fun _ _=>by kernel_rfl,fun _ _=>by kernel_rfl,fun _ _=>by kernel_rfl,fun _ _=>by kernel_rfl,fun _ _=>by kernel_rfl,fun w=>by go_enter Tryz.func46,Tryz.ntmps46;go_wp2;go_ret;exact⟨rfl,rfl⟩,fun w=>by go_enter Tryz.func35,Tryz.ntmps35;go_wp2;go_ret;exact⟨rfl,rfl⟩,by decide⟩
theorem kf56:KF 56 90 230 330 329 232 #[.int .u8 0]:=⟨fun _ _=>by kernel_rfl,fun _ _=>by kernel_rfl,fun _ _=>by kernel_rfl,fun _ _=>by kernel_rfl,fun _ _=>by kernel_rfl,fun w=>by go_enter Tryz.func46,Tryz.ntmps46;go_wp2;go_ret;exact⟨rfl,rfl⟩,fun w=>by go_enter Tryz.func35,Tryz.ntmps35;go_wp2;go_ret;exact⟨rfl,rfl⟩,by decide⟩
theorem kf57:KF 57 84 233 333 332 236 #[.slice none 0 0]:=⟨fun _ _=>by kernel_rfl,fun _ _=>by kernel_rfl,fun _ _=>by kernel_rfl,fun _ _=>by kernel_rfl,fun _ _=>by kernel_rfl,fun w=>by go_enter Tryz.func46,Tryz.ntmps46;go_wp2;go_ret;exact⟨rfl,rfl⟩,fun w=>by go_enter Tryz.func35,Tryz.ntmps35;go_wp2;go_ret;exact⟨rfl,rfl⟩,by decide⟩
structure SpIn (w:World) (A5 A6 A7 B7 A9 A10 B10 B11:Option Addr) (c5 c6 c7 d7 c9 c10 d10 d11:Nat) (lf lr ty d:List Int) (vls:List (Bool×List Int)) (ws:List ByteArray) (ps:List (ByteArray×ByteArray)) (fs:List Sf):Prop where
 hf:RdI .i64 w (.slice A5 lf.length c5) lf
 hr:RdI .i64 w (.slice A6 lr.length c6) lr
 ht:RdI .u32 w (.slice A7 ty.length c7) ty
 hv:RdM 2 isVal w (.slice B7 vls.length d7) vls
 hd:RdB w (.slice A9 d.length c9) d
 hw:Rd1 isStr w (.slice A10 ws.length c10) ws
 hp:RdM 2 isPr w (.slice B10 ps.length d10) ps
 hl:RdM 7 isSf w (.slice B11 fs.length d11) fs
theorem SpIn.ext {w w':World} {A5 A6 A7 B7 A9 A10 B10 B11:Option Addr} {c5 c6 c7 d7 c9 c10 d10 d11:Nat} {lf lr ty d:List Int} {vls:List (Bool×List Int)} {ws:List ByteArray} {ps:List (ByteArray×ByteArray)} {fs:List Sf} (h:SpIn w A5 A6 A7 B7 A9 A10 B10 B11 c5 c6 c7 d7 c9 c10 d10 d11 lf lr ty d vls ws ps fs)(hx:Ext w w'):SpIn w' A5 A6 A7 B7 A9 A10 B10 B11 c5 c6 c7 d7 c9 c10 d10 d11 lf lr ty d vls ws ps fs:=
 ⟨h.hf.ext hx,h.hr.ext hx,h.ht.ext hx,h.hv.ext hx (isVal.ext hx),h.hd.ext hx,h.hw.ext hx (fun _ _ h=>h),h.hp.ext hx (fun _ _ h=>h),h.hl.ext hx (fun _ _ h=>h)⟩
theorem opt_len {vls:List (Bool×List Int)} (h:∀y∈vls,y.2.length<=200):(vls.flatMap fun x=>valB x.1 x.2).length<=vls.length * 204:=by
 refine flat_len (fun x:Bool×List Int=>valB x.1 x.2) 204 vls fun x hx=>?_
 have:=h x hx
 rw [valB_opt]
 unfold optV optB
 obtain⟨b,d⟩:=x
 cases b <;> simp [b32_len];simp at this;omega
theorem n2_len (l:List Int):(l.flatMap fun n=>numB n 2).length<=l.length * 2:=flat_len _ 2 l fun x _=>by simp [numB_len]
theorem n4_len (l:List Int):(l.flatMap fun n=>numB n 4).length<=l.length * 4:=flat_len _ 4 l fun x _=>by simp [numB_len]
theorem small01 {l:List Int} (h:∀y∈l,y=0∨y=1):∀y∈l,0<=y/\y < 32768:=fun y hy=>by
 rcases h y hy with rfl|rfl <;> omega
theorem fd_sf (x:Sf):fdB (toFd x)=sfB x:=by
 simp only [fdB,toFd,sfB,txt,numB2,numB4,List.append_assoc]
theorem fds_sfs (l:List Sf):(l.map toFd).flatMap fdB=l.flatMap sfB:=by
 rw [List.flatMap_map]
 congr 1
 funext x
 exact fd_sf x
def DecR (kd:Int) (R:List Int) (np:Nat) (v:Value) (w:World):Prop:=
 ∃(a b:ByteArray) (n:Int) (A5 A6 A7 A8 A9 A10 A11 A12:Option Addr) (c5 c6 c7 c8 c9 c10 c11 c12:Nat) (lf lr ty d:List Int) (vls:List (Bool×List Int)) (ws:List ByteArray) (ps:List (ByteArray×ByteArray)) (fs:List Sf),MsgIn w v a b kd n 0 A5 A6 A7 A8 A9 A10 A11 A12 c5 c6 c7 c8 c9 c10 c11 c12 lf lr ty d vls ws ps fs/\(turnedQ kd=true->ps.length=np)/\vls.length<=1000/\ps.length<=1000/\fs.length<=1000/\
  ∀(B7 B10 B11:Option Addr) (d7 d10 d11:Nat) (wx:World),SpIn wx A5 A6 A7 B7 A9 A10 B10 B11 c5 c6 c7 d7 c9 c10 d10 d11 lf lr ty d vls ws ps fs->Calls Tryz.prog 15 #[.agg #[.int .i64 kd,.string a,.string b,.int .u32 n,.slice A5 lf.length c5,.slice A6 lr.length c6,.slice A7 ty.length c7,.slice B7 vls.length d7,.slice A9 d.length c9,.slice A10 ws.length c10,.slice B10 ps.length d10,.slice B11 fs.length d11]] wx (Gave wx R)
theorem decR_of {kd:Int} {R:List Int} {np:Nat} {v:Value} {w:World} {a b:ByteArray} {n:Int} {lf lr ty d:List Int} {vls:List (Bool×List Int)} {ws:List ByteArray} {ps:List (ByteArray×ByteArray)} {fs:List Sf}
 (h:DecP kd a b n lf lr ty d vls ws ps fs v w) (ht:turnedQ kd=true->ps.length=np) (h1:vls.length<=1000) (h2:ps.length<=1000) (h3:fs.length<=1000)
 (hb:∀{A5 A6 A7 B7 A9 A10 B10 B11:Option Addr} {c5 c6 c7 d7 c9 c10 d10 d11:Nat} {wx:World},SpIn wx A5 A6 A7 B7 A9 A10 B10 B11 c5 c6 c7 d7 c9 c10 d10 d11 lf lr ty d vls ws ps fs->Calls Tryz.prog 15 #[.agg #[.int .i64 kd,.string a,.string b,.int .u32 n,.slice A5 lf.length c5,.slice A6 lr.length c6,.slice A7 ty.length c7,.slice B7 vls.length d7,.slice A9 d.length c9,.slice A10 ws.length c10,.slice B10 ps.length d10,.slice B11 fs.length d11]] wx (Gave wx R)):DecR kd R np v w:=by
 obtain⟨A5,A6,A7,A8,A9,A10,A11,A12,c5,c6,c7,c8,c9,c10,c11,c12,hm⟩:=h
 exact⟨a,b,n,A5,A6,A7,A8,A9,A10,A11,A12,c5,c6,c7,c8,c9,c10,c11,c12,lf,lr,ty,d,vls,ws,ps,fs,hm,ht,h1,h2,h3,fun B7 B10 B11 d7 d10 d11 wx hs=>hb hs⟩
theorem decOk_mono {P Q:Value->World->Prop} {w:World} (h:∀v w2,P v w2->Q v w2):∀e w2,DecOk P w e w2->DecOk Q w e w2:=by
 rintro e w2 ⟨v,rfl,hx,hd⟩
 exact⟨v,rfl,hx,fun w3 h3=>h v w3 (hd w3 h3)⟩
structure DD (kd:Int) (x:Value) (w:World) (Bod:List Int->Prop) (RB R:List Int) (np:Nat):Prop where
 body:∀wy,Ext w wy->Calls Tryz.prog 16 #[x] wy (Gave wy RB)
 all:∀wy,Ext w wy->Calls Tryz.prog 15 #[x] wy (Gave wy R)
 isb:Bod RB
 len:∀r,Bod r->r.length=RB.length
 dec:∀w1 vb r,Bod r->RdB w1 vb r->Tab w1->Calls Tryz.prog 19 #[.int .i64 kd,vb] w1 (DecOk (DecR kd R np) w1)
theorem colF {y:Sf} (h:colP y)(hg:0<=y.tab/\y.tab < 4294967296/\0<=y.typ/\y.typ < 4294967296):y.name.size<=200/\0<=y.tab/\y.tab < 4294967296/\0<=y.typ/\y.typ < 4294967296/\0<=y.col/\y.col<=32767/\ -32768<=y.siz/\y.siz<=32767/\ -2147483648<=y.mdf/\y.mdf < 2147483648/\0<=y.fmt/\y.fmt<=1:=by
 unfold colP at h
 obtain⟨h1,h2⟩:=h
 exact⟨h1.1,hg.1,hg.2.1,hg.2.2.1,hg.2.2.2,h2⟩
def tup0:Value->Value
 | .tuple cs=>cs.getD 0 undef
 | _=>undef
def aggOf:Value->Array Value
 | .agg cs=>cs
 | _=> #[]
theorem decR_agg {kd:Int} {R:List Int} {np:Nat} {v:Value} {w:World} (h:DecR kd R np v w):v=.agg (aggOf v)/\(aggOf v).size=13/\(aggOf v).all (·.oneCell')=true:=by
 obtain⟨a,b,n,A5,A6,A7,A8,A9,A10,A11,A12,c5,c6,c7,c8,c9,c10,c11,c12,lf,lr,ty,d,vls,ws,ps,fs,hm,_⟩:=h
 have hv:=hm.val
 subst hv
 exact⟨rfl,rfl,one13⟩
theorem allB_tail (L:Int)(B:List Int):∃H,allB L B=H++B:=by
 unfold allB
 rw [<-List.append_assoc]
 exact⟨_,rfl⟩
def EncIn (x:Value) (w:World) (Bod:List Int->Prop) (RB R:List Int):Prop:=∃H BX,H.length+RB.length=R.length/\Bod BX/\Calls Tryz.prog 14 #[x] w (Encs w (H++BX))
def spRd (R:List Int):Sp Ext:=⟨fun v w=>RdB w v R,fun _ _ _ h k=>k.ext h⟩
structure Wh where
 (A5 A6 A7 B7 A9 A10 B10 B11:Option Addr)
 (c5 c6 c7 d7 c9 c10 d10 d11:Nat)
abbrev SpQ (w:World) (s:Wh) (lf lr ty d:List Int) (vls:List (Bool×List Int)) (ws:List ByteArray) (ps:List (ByteArray×ByteArray)) (fs:List Sf):Prop:=SpIn w s.A5 s.A6 s.A7 s.B7 s.A9 s.A10 s.B10 s.B11 s.c5 s.c6 s.c7 s.d7 s.c9 s.c10 s.d10 s.d11 lf lr ty d vls ws ps fs
abbrev XQ (s:Wh) (kd:Int) (a b:ByteArray) (n:Int) (lf lr ty d:List Int) (vls:List (Bool×List Int)) (ws:List ByteArray) (ps:List (ByteArray×ByteArray)) (fs:List Sf):Value:=.agg #[.int .i64 kd,.string a,.string b,.int .u32 n,.slice s.A5 lf.length s.c5,.slice s.A6 lr.length s.c6,.slice s.A7 ty.length s.c7,.slice s.B7 vls.length s.d7,.slice s.A9 d.length s.c9,.slice s.A10 ws.length s.c10,.slice s.B10 ps.length s.d10,.slice s.B11 fs.length s.d11]
def BO (kd:Int) (a b:ByteArray) (n:Int) (lf lr ty d:List Int) (vls:List (Bool×List Int)) (ws:List ByteArray) (ps:List (ByteArray×ByteArray)) (fs:List Sf) (B:List Int):Prop:=∀(s:Wh) (w:World),SpQ w s lf lr ty d vls ws ps fs->Calls Tryz.prog 16 #[XQ s kd a b n lf lr ty d vls ws ps fs] w (Gave w B)
def Goes (kd:Int) (y x:Value) (wx w:World) (np:Nat):Prop:=∃Bod RB R,DD kd y wx Bod RB R np/\EncIn x w Bod RB R
section
variable {kd L : Int} {T E D ty' : Nat} {cs : Array Value} {a b : ByteArray} {n : Int} {lf lr ty d : List Int} {vls : List (Bool × List Int)} {ws : List ByteArray} {ps : List (ByteArray × ByteArray)} {fs : List Sf} {da db : ByteArray} {dn : Int} {dlf dlr dty dd : List Int} {dvls : List (Bool × List Int)} {dws : List ByteArray} {dps : List (ByteArray × ByteArray)} {dfs : List Sf} {B B' Y : List Int} {Q : Nat → World → Prop} {w wx : World} {s : Wh} {v4 v5 v6 v7 v8 v9 v10 v11 v12 : Value}
theorem by_of (F:KF kd L T E D ty' cs)(hl:B.length<=60000)(h:BO kd a b n lf lr ty d vls ws ps fs B)(s:Wh)(w:World)(hs:SpQ w s lf lr ty d vls ws ps fs):Calls Tryz.prog 15 #[XQ s kd a b n lf lr ty d vls ws ps fs] w (Gave w (allB L B)):=
 bytes_gen kd _ _ _ _ _ _ _ _ _ _ _ w L _ (by omega) F.lb F.le fun w' hx=>h s w' (hs.ext hx)
theorem rk0 (F:KF kd L T E D ty' cs)(hs:SpQ wx s lf lr ty d vls ws ps fs)(hst:turnedQ kd=true->dps.length=ps.length)(hB:B=B')(hl:B.length<=60000)(hd:dvls.length<=1000/\dps.length<=1000/\dfs.length<=1000)
 (hdek:∀w1 b v,w1.heap[b]?=some (.cells cs ty' (0,0))->RdB w1 v B'->B'.length<=100000->v.ownBlock≠some b->Calls Tryz.prog D #[.pointer (some ⟨b,0,none⟩),v] w1 (Deced b Q w1))
 (hT:∀b w2,Q b w2->Calls Tryz.prog 48 #[.int .i64 kd,.iface T (.pointer (some ⟨b,0,none⟩))] w2 (Tells kd (DecP kd da db dn dlf dlr dty dd dvls dws dps dfs) w2))
 (hM:∀w',Ext w w'->Calls Tryz.prog 34 #[.agg #[.int .i64 kd,.string a,.string b,.int .u32 n,v4,v5,v6,v7,v8,v9,v10,v11,v12]] w' (Made T E w' (allB L B))) (hbo:BO kd a b n lf lr ty d vls ws ps fs B/\BO kd da db dn dlf dlr dty dd dvls dws dps dfs B):Goes kd (XQ s kd a b n lf lr ty d vls ws ps fs) (.agg #[.int .i64 kd,.string a,.string b,.int .u32 n,v4,v5,v6,v7,v8,v9,v10,v11,v12]) wx w ps.length:=by
 refine⟨fun r=>r=B,B,allB L B,⟨fun wy hy=>hbo.1 s wy (hs.ext hy),fun wy hy=>by_of F hl hbo.1 s wy (hs.ext hy),rfl,fun r h=>by rw [h],fun w1 vb r hr hv _=>?_⟩,?_⟩
 ·rw [hr,hB]at hv
  rw [hB]at hl
  exact(dec_ok T D ty' cs kd vb B' _ Q w1 hv (by omega) F.md F.nd F.cd F.em (fun w2 b v _ _ h1 h2 h3=>hdek w2 b v h1 h2 (by omega) h3) (fun b w2 hq _=>hT b w2 hq)).mono (decOk_mono fun v w2 h=>decR_of h hst hd.1 hd.2.1 hd.2.2 @fun A5 A6 A7 B7 A9 A10 B10 B11 c5 c6 c7 d7 c9 c10 d10 d11 w3 hs=>by_of F (by rw [hB];exact hl) hbo.2 ⟨A5,A6,A7,B7,A9,A10,B10,B11,c5,c6,c7,d7,c9,c10,d10,d11⟩ w3 hs)
 ·obtain⟨H,hH⟩:=allB_tail L B
  exact⟨H,B,by rw [hH,List.length_append],rfl,by rw [<-hH];exact enc14 T E _ _ _ _ _ _ _ _ _ _ _ _ _ w _ F.me F.ce hM⟩
theorem rk_f (F:KF kd L T E D ty' cs)(hs:SpQ wx s lf lr ty d vls ws ps fs)(hst:turnedQ kd=false)(hB:B=B')(hl:B.length<=60000)(hd:dvls.length<=1000/\dps.length<=1000/\dfs.length<=1000)
 (hdek:∀w1 b v,w1.heap[b]?=some (.cells cs ty' (0,0))->RdB w1 v B'->B'.length<=100000->v.ownBlock≠some b->Calls Tryz.prog D #[.pointer (some ⟨b,0,none⟩),v] w1 (Deced b Q w1))
 (hT:∀b w2,Q b w2->Calls Tryz.prog 48 #[.int .i64 kd,.iface T (.pointer (some ⟨b,0,none⟩))] w2 (Tells kd (DecP kd da db dn dlf dlr dty dd dvls dws dps dfs) w2))
 (hM:∀w',Ext w w'->Hid (allB L B=Y)->Calls Tryz.prog 34 #[.agg #[.int .i64 kd,.string a,.string b,.int .u32 n,v4,v5,v6,v7,v8,v9,v10,v11,v12]] w' (Made T E w' (allB L B))) (hY:allB L B=Y) (hbo:BO kd a b n lf lr ty d vls ws ps fs B/\BO kd da db dn dlf dlr dty dd dvls dws dps dfs B):Goes kd (XQ s kd a b n lf lr ty d vls ws ps fs) (.agg #[.int .i64 kd,.string a,.string b,.int .u32 n,v4,v5,v6,v7,v8,v9,v10,v11,v12]) wx w ps.length:=
 rk0 F hs (fun h=>by rw [hst]at h;cases h) hB hl hd hdek hT (fun w' hx=>hM w' hx (zh hY)) hbo
theorem rk_b (F:KF kd L T E D ty' cs)(hs:SpQ wx s lf lr ty d vls ws ps fs)(hst:turnedQ kd=false)(hB:B=B')(hl:B.length<=60000)(hd:dvls.length<=1000/\dps.length<=1000/\dfs.length<=1000)
 (hdek:∀w1 b v,w1.heap[b]?=some (.cells cs ty' (0,0))->RdB w1 v B'->B'.length<=100000->v.ownBlock≠some b->Calls Tryz.prog D #[.pointer (some ⟨b,0,none⟩),v] w1 (Deced b Q w1))
 (hT:∀b w2 w3,Q b w2->Ext w2 w3->w3.heap[w2.heap.size+1]?=some (.cells #[.int .i64 kd,.string ⟨#[]⟩,.string ⟨#[]⟩,.int .u32 0,.int .u32 0,.slice none 0 0,.slice none 0 0,.slice none 0 0,.slice none 0 0,.slice none 0 0,.slice none 0 0,.slice none 0 0,.slice none 0 0] 31 (0,0))->Calls Tryz.prog 65 #[.iface T (.pointer (some ⟨b,0,none⟩)),.pointer (some ⟨w2.heap.size+1,0,none⟩)] w3 (Answd kd (w2.heap.size+1) (DecP kd da db dn dlf dlr dty dd dvls dws dps dfs) w3))
 (hM:∀w' w1 k,Ext w w'->Hid (allB L B=Y)->Ext w' w1->w'.heap.size<=k->w1.heap[k]?=some (.cells cs ty' (0,0))->Calls Tryz.prog 60 #[.iface T (.pointer (some ⟨k,0,none⟩)),.agg #[.int .i64 kd,.string a,.string b,.int .u32 n,v4,v5,v6,v7,v8,v9,v10,v11,v12],.bool true] w1 (Ans T E k w' (allB L B))) (hY:allB L B=Y)
 (h1:T∉[101,108,111,114,116,119,122,125,132,134,138,141,144,147,149]) (hbo:BO kd a b n lf lr ty d vls ws ps fs B/\BO kd da db dn dlf dlr dty dd dvls dws dps dfs B):Goes kd (XQ s kd a b n lf lr ty d vls ws ps fs) (.agg #[.int .i64 kd,.string a,.string b,.int .u32 n,v4,v5,v6,v7,v8,v9,v10,v11,v12]) wx w ps.length:=
 rk0 F hs (fun h=>by rw [hst]at h;cases h) hB hl hd hdek (fun b w2 hq=>told_dflt T kd _ w2 b h1 fun w3 hx hm=>hT b w2 w3 hq hx hm)
  (fun w' hx=>made_dflt T E ty' cs kd n _ _ _ _ _ _ _ _ _ _ _ w' _ h1 F.em fun w1 k hx1 hbk hblk=>hM w' w1 k hx (zh hY) hx1 hbk hblk) hbo
theorem rk_t (F:KF kd L T E D ty' cs)(hs:SpQ wx s lf lr ty d vls ws ps fs)(hst:turnedQ kd=false)(hk: -9223372036854775808<=kd/\kd<=9223372036854775807)(hB:B=B')(hl:B.length<=60000)
 (hbo:∀{a b:ByteArray} {n:Int} {lf lr ty d:List Int} {vls:List (Bool×List Int)} {ws:List ByteArray} {ps:List (ByteArray×ByteArray)} {fs:List Sf},BO kd a b n lf lr ty d vls ws ps fs B)
 (hdek:∀w1 b v,w1.heap[b]?=some (.cells cs ty' (0,0))->RdB w1 v B'->B'.length<=100000->v.ownBlock≠some b->Calls Tryz.prog D #[.pointer (some ⟨b,0,none⟩),v] w1 (Deced b (fun _ _=>True) w1))
 (hM:∀b w2,Hid (allB L B=Y)->Calls Tryz.prog E #[.pointer (some ⟨b,0,none⟩),.slice none 0 0] w2 (Gives w2 (allB L B))) (hY:allB L B=Y)
 (h1:T∉[101,108,111,114,116,119,122,125,132,134,138,141,144,147,149]) (h2:T∉[185,189,191,194,196,198,200,203,206,208,210,213,217,219,222,225,228,230,233]):Goes kd (XQ s kd a b n lf lr ty d vls ws ps fs) (.agg #[.int .i64 kd,.string a,.string b,.int .u32 n,v4,v5,v6,v7,v8,v9,v10,v11,v12]) wx w ps.length:=
 rk_b F hs hst hB hl ⟨by simp,by simp,by simp⟩ hdek (fun b w2 w3 _ hx hm=>answd_triv T kd w3 _ _ h2 hk hm)
  (fun w' w1 b _ HY hx1 _ _=>ans_triv T E b kd n _ _ _ _ _ _ _ _ _ _ _ w' w1 _ h2 hx1 fun w2=>hM b w2 HY) hY h1 ⟨hbo,hbo⟩
end
end Go.Proofs.YtdenjanihikolaaGreatDoor
