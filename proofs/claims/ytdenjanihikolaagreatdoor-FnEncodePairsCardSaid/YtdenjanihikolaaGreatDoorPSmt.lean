/- The fields' names of no map: none. -/
import Derived.Shelf.Small.Bits
import Derived.Shelf.Strconv.Itoa3
import Derived.Test.YtdenjanihikolaaGreatDoorPBase
import Derived.Shelf.Strconv.ParseIntPublic10
import Derived.Lib.AppendIntMem
import Derived.Test.YtdenjanihikolaaGreatDoorPErg
import Derived.Maps.RangeWalk
import Derived.WalkKit
namespace Go.Proofs.YtdenjanihikolaaGreatDoor
set_option linter.unusedVariables false
set_option linter.unusedSimpArgs false
open Go.RowKit Go.Sort
open Go.Shelf
def lays125_ren : Go.Shelf.Ren := ⟨fun | 125 => 77 | 128 => 89 | 129 => 90 | n => n, fun | 46 => 264 | 3 => 3 | 51 => 22 | 53 => 277 | 4 => 4 | 5 => 5 | 9 => 9 | n => n, fun | n => n⟩
theorem lays125 : Go.Proofs.Lays.n125 Tryz.prog lays125_ren :=
  { mixed := by kernel_rfl,
    f125 := Tryz.func77.trans (congrArg some (by kernel_rfl)),
    f128 := Tryz.func89.trans (congrArg some (by kernel_rfl)),
    f129 := Tryz.func90.trans (congrArg some (by kernel_rfl)),
    t3 := Tryz.underlying3,
    a3 := Tryz.isAgg3,
    z3 := Tryz.sizeOf3,
    v3 := Tryz.zeroValue3,
    t4 := Tryz.underlying4,
    a4 := Tryz.isAgg4,
    z4 := Tryz.sizeOf4,
    v4 := Tryz.zeroValue4,
    t5 := Tryz.underlying5,
    a5 := Tryz.isAgg5,
    z5 := Tryz.sizeOf5,
    v5 := Tryz.zeroValue5,
    t9 := Tryz.underlying9,
    a9 := Tryz.isAgg9,
    z9 := Tryz.sizeOf9,
    v9 := Tryz.zeroValue9,
    t46 := Tryz.underlying264,
    a46 := Tryz.isAgg264,
    z46 := Tryz.sizeOf264,
    v46 := Tryz.zeroValue264,
    t51 := Tryz.underlying22,
    a51 := Tryz.isAgg22,
    z51 := Tryz.sizeOf22,
    v51 := Tryz.zeroValue22,
    t53 := Tryz.underlying277,
    a53 := Tryz.isAgg277,
    z53 := Tryz.sizeOf277,
    v53 := Tryz.zeroValue277 }
def laysM171_ren : Go.Shelf.Ren := ⟨fun | 171 => 78 | 243 => 91 | 246 => 102 | 283 => 108 | 284 => 109 | 285 => 110 | 286 => 111 | 129 => 90 | 317 => 112 | 318 => 113 | 319 => 114 | 320 => 115 | 337 => 116 | 338 => 117 | n => n, fun | 3 => 3 | 9 => 9 | 2 => 2 | 4 => 4 | 171 => 299 | 0 => 0 | 53 => 277 | 37 => 26 | 5 => 5 | 173 => 301 | 212 => 309 | 51 => 22 | 20 => 20 | 213 => 310 | 46 => 264 | 232 => 311 | 233 => 312 | n => n, fun | 17 => 2 | 18 => 3 | 19 => 4 | n => n⟩
theorem laysM171 : Go.Proofs.LaysM.n171 Tryz.prog laysM171_ren :=
  { mixed := by kernel_rfl,
    f129 := Tryz.func90.trans (congrArg some (by kernel_rfl)),
    f171 := Tryz.func78.trans (congrArg some (by kernel_rfl)),
    f243 := Tryz.func91.trans (congrArg some (by kernel_rfl)),
    f246 := Tryz.func102.trans (congrArg some (by kernel_rfl)),
    f283 := Tryz.func108.trans (congrArg some (by kernel_rfl)),
    f284 := Tryz.func109.trans (congrArg some (by kernel_rfl)),
    f285 := Tryz.func110.trans (congrArg some (by kernel_rfl)),
    f286 := Tryz.func111.trans (congrArg some (by kernel_rfl)),
    f317 := Tryz.func112.trans (congrArg some (by kernel_rfl)),
    f318 := Tryz.func113.trans (congrArg some (by kernel_rfl)),
    f319 := Tryz.func114.trans (congrArg some (by kernel_rfl)),
    f320 := Tryz.func115.trans (congrArg some (by kernel_rfl)),
    f337 := Tryz.func116.trans (congrArg some (by kernel_rfl)),
    f338 := Tryz.func117.trans (congrArg some (by kernel_rfl)),
    t0 := Tryz.underlying0,
    a0 := Tryz.isAgg0,
    z0 := Tryz.sizeOf0,
    v0 := Tryz.zeroValue0,
    t2 := Tryz.underlying2,
    a2 := Tryz.isAgg2,
    z2 := Tryz.sizeOf2,
    v2 := Tryz.zeroValue2,
    t3 := Tryz.underlying3,
    a3 := Tryz.isAgg3,
    z3 := Tryz.sizeOf3,
    v3 := Tryz.zeroValue3,
    t4 := Tryz.underlying4,
    a4 := Tryz.isAgg4,
    z4 := Tryz.sizeOf4,
    v4 := Tryz.zeroValue4,
    t5 := Tryz.underlying5,
    a5 := Tryz.isAgg5,
    z5 := Tryz.sizeOf5,
    v5 := Tryz.zeroValue5,
    t9 := Tryz.underlying9,
    a9 := Tryz.isAgg9,
    z9 := Tryz.sizeOf9,
    v9 := Tryz.zeroValue9,
    t20 := Tryz.underlying20,
    a20 := Tryz.isAgg20,
    z20 := Tryz.sizeOf20,
    v20 := Tryz.zeroValue20,
    t37 := Tryz.underlying26,
    a37 := Tryz.isAgg26,
    z37 := Tryz.sizeOf26,
    v37 := Tryz.zeroValue26,
    t46 := Tryz.underlying264,
    a46 := Tryz.isAgg264,
    z46 := Tryz.sizeOf264,
    v46 := Tryz.zeroValue264,
    t51 := Tryz.underlying22,
    a51 := Tryz.isAgg22,
    z51 := Tryz.sizeOf22,
    v51 := Tryz.zeroValue22,
    t53 := Tryz.underlying277,
    a53 := Tryz.isAgg277,
    z53 := Tryz.sizeOf277,
    v53 := Tryz.zeroValue277,
    t171 := Tryz.underlying299,
    a171 := Tryz.isAgg299,
    z171 := Tryz.sizeOf299,
    v171 := Tryz.zeroValue299,
    t173 := Tryz.underlying301,
    a173 := Tryz.isAgg301,
    z173 := Tryz.sizeOf301,
    v173 := Tryz.zeroValue301,
    t212 := Tryz.underlying309,
    a212 := Tryz.isAgg309,
    z212 := Tryz.sizeOf309,
    v212 := Tryz.zeroValue309,
    t213 := Tryz.underlying310,
    a213 := Tryz.isAgg310,
    z213 := Tryz.sizeOf310,
    t232 := Tryz.underlying311,
    a232 := Tryz.isAgg311,
    z232 := Tryz.sizeOf311,
    v232 := Tryz.zeroValue311,
    t233 := Tryz.underlying312,
    a233 := Tryz.isAgg312,
    z233 := Tryz.sizeOf312,
    v233 := Tryz.zeroValue312,
    g17 := by kernel_rfl,
    g18 := by kernel_rfl,
    g19 := by kernel_rfl,
    i0 := by kernel_rfl,
    i2 := by kernel_rfl,
    i3 := by kernel_rfl,
    i4 := by kernel_rfl,
    i5 := by kernel_rfl,
    i9 := by kernel_rfl,
    i20 := by kernel_rfl,
    i37 := by kernel_rfl,
    i46 := by kernel_rfl,
    i51 := by kernel_rfl,
    i53 := by kernel_rfl,
    i171 := by kernel_rfl,
    i173 := by kernel_rfl,
    i212 := by kernel_rfl,
    i232 := by kernel_rfl,
    i233 := by kernel_rfl,
    m17 := by kernel_rfl,
    m18 := by kernel_rfl,
    m19 := by kernel_rfl }
theorem lenS (x : Int) (w : World) (h0 : 0 ≤ x) (h1 : x ≤ 18446744073709551615) : Calls Tryz.prog 77 #[.int .u64 x] w fun e w' => e = .returned (.int .i64 (Lib.bitLen x.toNat)) ∧ w' = w := Any.bits_Len lays125 x w h0 h1
theorem itoaS (n : Int) (h0 : -9223372036854775808 ≤ n) (h1 : n ≤ 9223372036854775807) (w : World) (htab : Lib.TabIs Tryz.prog w "internal/strconv.uint64pow10" .u64 Lib.pow10Tab) :
    Calls Tryz.prog 78 #[.int .i64 n] w fun e w' => e = .returned (.string ⟨(Lib.itoa n).toArray⟩) ∧ ∃ k os, w' = grow (w.drewN k) os := Any.strconv_Itoa laysM171 n h0 h1 w htab
end Go.Proofs.YtdenjanihikolaaGreatDoor

namespace Go.Proofs.YtdenjanihikolaaGreatDoor
open Go.RowKit Go.Sort
open Go.Shelf
def laysC174_ren : Go.Shelf.Ren := ⟨fun | 174 => 75 | 247 => 79 | 245 => 80 | 287 => 92 | 279 => 93 | 280 => 94 | 281 => 95 | 282 => 96 | 321 => 103 | 322 => 104 | 316 => 105 | 171 => 78 | 205 => 106 | 243 => 91 | 246 => 102 | 283 => 108 | 284 => 109 | 285 => 110 | 286 => 111 | 129 => 90 | 317 => 112 | 318 => 113 | 319 => 114 | 320 => 115 | 337 => 116 | 338 => 117 | n => n, fun | 9 => 9 | 3 => 3 | 2 => 2 | 75 => 75 | 85 => 260 | 4 => 4 | 167 => 278 | 5 => 5 | 53 => 277 | 175 => 279 | 46 => 264 | 168 => 281 | 37 => 26 | 0 => 0 | 210 => 294 | 21 => 21 | 127 => 303 | 145 => 306 | 143 => 304 | 171 => 299 | 173 => 301 | 212 => 309 | 51 => 22 | 20 => 20 | 213 => 310 | 232 => 311 | 233 => 312 | 80 => 313 | n => n, fun | 15 => 0 | 16 => 1 | 17 => 2 | 18 => 3 | 19 => 4 | n => n⟩
theorem laysC174 : Go.Proofs.LaysC.n174 Tryz.prog laysC174_ren :=
  { mixed := by kernel_rfl,
    f129 := Tryz.func90.trans (congrArg some (by kernel_rfl)),
    f171 := Tryz.func78.trans (congrArg some (by kernel_rfl)),
    f174 := Tryz.func75.trans (congrArg some (by kernel_rfl)),
    f205 := Tryz.func106.trans (congrArg some (by kernel_rfl)),
    f243 := Tryz.func91.trans (congrArg some (by kernel_rfl)),
    f245 := Tryz.func80.trans (congrArg some (by kernel_rfl)),
    f246 := Tryz.func102.trans (congrArg some (by kernel_rfl)),
    f247 := Tryz.func79.trans (congrArg some (by kernel_rfl)),
    f279 := Tryz.func93.trans (congrArg some (by kernel_rfl)),
    f280 := Tryz.func94.trans (congrArg some (by kernel_rfl)),
    f281 := Tryz.func95.trans (congrArg some (by kernel_rfl)),
    f282 := Tryz.func96.trans (congrArg some (by kernel_rfl)),
    f283 := Tryz.func108.trans (congrArg some (by kernel_rfl)),
    f284 := Tryz.func109.trans (congrArg some (by kernel_rfl)),
    f285 := Tryz.func110.trans (congrArg some (by kernel_rfl)),
    f286 := Tryz.func111.trans (congrArg some (by kernel_rfl)),
    f287 := Tryz.func92.trans (congrArg some (by kernel_rfl)),
    f316 := Tryz.func105.trans (congrArg some (by kernel_rfl)),
    f317 := Tryz.func112.trans (congrArg some (by kernel_rfl)),
    f318 := Tryz.func113.trans (congrArg some (by kernel_rfl)),
    f319 := Tryz.func114.trans (congrArg some (by kernel_rfl)),
    f320 := Tryz.func115.trans (congrArg some (by kernel_rfl)),
    f321 := Tryz.func103.trans (congrArg some (by kernel_rfl)),
    f322 := Tryz.func104.trans (congrArg some (by kernel_rfl)),
    f337 := Tryz.func116.trans (congrArg some (by kernel_rfl)),
    f338 := Tryz.func117.trans (congrArg some (by kernel_rfl)),
    t0 := Tryz.underlying0,
    a0 := Tryz.isAgg0,
    z0 := Tryz.sizeOf0,
    v0 := Tryz.zeroValue0,
    t2 := Tryz.underlying2,
    a2 := Tryz.isAgg2,
    z2 := Tryz.sizeOf2,
    v2 := Tryz.zeroValue2,
    t3 := Tryz.underlying3,
    a3 := Tryz.isAgg3,
    z3 := Tryz.sizeOf3,
    v3 := Tryz.zeroValue3,
    t4 := Tryz.underlying4,
    a4 := Tryz.isAgg4,
    z4 := Tryz.sizeOf4,
    v4 := Tryz.zeroValue4,
    t5 := Tryz.underlying5,
    a5 := Tryz.isAgg5,
    z5 := Tryz.sizeOf5,
    v5 := Tryz.zeroValue5,
    t9 := Tryz.underlying9,
    a9 := Tryz.isAgg9,
    z9 := Tryz.sizeOf9,
    v9 := Tryz.zeroValue9,
    t20 := Tryz.underlying20,
    a20 := Tryz.isAgg20,
    z20 := Tryz.sizeOf20,
    v20 := Tryz.zeroValue20,
    t21 := Tryz.underlying21,
    a21 := Tryz.isAgg21,
    z21 := Tryz.sizeOf21,
    v21 := Tryz.zeroValue21,
    t37 := Tryz.underlying26,
    a37 := Tryz.isAgg26,
    z37 := Tryz.sizeOf26,
    v37 := Tryz.zeroValue26,
    t46 := Tryz.underlying264,
    a46 := Tryz.isAgg264,
    z46 := Tryz.sizeOf264,
    v46 := Tryz.zeroValue264,
    t51 := Tryz.underlying22,
    a51 := Tryz.isAgg22,
    z51 := Tryz.sizeOf22,
    v51 := Tryz.zeroValue22,
    t53 := Tryz.underlying277,
    a53 := Tryz.isAgg277,
    z53 := Tryz.sizeOf277,
    v53 := Tryz.zeroValue277,
    t75 := Tryz.underlying75,
    a75 := Tryz.isAgg75,
    z75 := Tryz.sizeOf75,
    v75 := Tryz.zeroValue75,
    t85 := Tryz.underlying260,
    a85 := Tryz.isAgg260,
    z85 := Tryz.sizeOf260,
    v85 := Tryz.zeroValue260,
    t127 := Tryz.underlying303,
    a127 := Tryz.isAgg303,
    z127 := Tryz.sizeOf303,
    v127 := Tryz.zeroValue303,
    t143 := Tryz.underlying304,
    a143 := Tryz.isAgg304,
    z143 := Tryz.sizeOf304,
    v143 := Tryz.zeroValue304,
    t145 := Tryz.underlying306,
    a145 := Tryz.isAgg306,
    z145 := Tryz.sizeOf306,
    v145 := Tryz.zeroValue306,
    t167 := Tryz.underlying278,
    a167 := Tryz.isAgg278,
    z167 := Tryz.sizeOf278,
    v167 := Tryz.zeroValue278,
    t168 := Tryz.underlying281,
    a168 := Tryz.isAgg281,
    z168 := Tryz.sizeOf281,
    v168 := Tryz.zeroValue281,
    t171 := Tryz.underlying299,
    a171 := Tryz.isAgg299,
    z171 := Tryz.sizeOf299,
    v171 := Tryz.zeroValue299,
    t173 := Tryz.underlying301,
    a173 := Tryz.isAgg301,
    z173 := Tryz.sizeOf301,
    v173 := Tryz.zeroValue301,
    t175 := Tryz.underlying279,
    a175 := Tryz.isAgg279,
    z175 := Tryz.sizeOf279,
    v175 := Tryz.zeroValue279,
    t210 := Tryz.underlying294,
    a210 := Tryz.isAgg294,
    z210 := Tryz.sizeOf294,
    v210 := Tryz.zeroValue294,
    t212 := Tryz.underlying309,
    a212 := Tryz.isAgg309,
    z212 := Tryz.sizeOf309,
    v212 := Tryz.zeroValue309,
    t213 := Tryz.underlying310,
    a213 := Tryz.isAgg310,
    z213 := Tryz.sizeOf310,
    t232 := Tryz.underlying311,
    a232 := Tryz.isAgg311,
    z232 := Tryz.sizeOf311,
    v232 := Tryz.zeroValue311,
    t233 := Tryz.underlying312,
    a233 := Tryz.isAgg312,
    z233 := Tryz.sizeOf312,
    v233 := Tryz.zeroValue312,
    g15 := by kernel_rfl,
    g16 := by kernel_rfl,
    g17 := by kernel_rfl,
    g18 := by kernel_rfl,
    g19 := by kernel_rfl,
    t80 := Tryz.underlying313,
    a80 := Tryz.isAgg313,
    z80 := Tryz.sizeOf313,
    v80 := Tryz.zeroValue313,
    i0 := by kernel_rfl,
    i2 := by kernel_rfl,
    i3 := by kernel_rfl,
    i4 := by kernel_rfl,
    i5 := by kernel_rfl,
    i9 := by kernel_rfl,
    i20 := by kernel_rfl,
    i21 := by kernel_rfl,
    i37 := by kernel_rfl,
    i46 := by kernel_rfl,
    i51 := by kernel_rfl,
    i53 := by kernel_rfl,
    i75 := by kernel_rfl,
    i80 := by kernel_rfl,
    i85 := by kernel_rfl,
    i127 := by kernel_rfl,
    i143 := by kernel_rfl,
    i145 := by kernel_rfl,
    i167 := by kernel_rfl,
    i168 := by kernel_rfl,
    i171 := by kernel_rfl,
    i173 := by kernel_rfl,
    i175 := by kernel_rfl,
    i210 := by kernel_rfl,
    i212 := by kernel_rfl,
    i232 := by kernel_rfl,
    i233 := by kernel_rfl,
    m15 := by kernel_rfl,
    m16 := by kernel_rfl,
    m17 := by kernel_rfl,
    m18 := by kernel_rfl,
    m19 := by kernel_rfl,
    c0 := by kernel_rfl,
    c2 := by kernel_rfl,
    c3 := by kernel_rfl,
    c4 := by kernel_rfl,
    c5 := by kernel_rfl,
    c9 := by kernel_rfl,
    c20 := by kernel_rfl,
    c21 := by kernel_rfl,
    c37 := by kernel_rfl,
    c46 := by kernel_rfl,
    c51 := by kernel_rfl,
    c53 := by kernel_rfl,
    c75 := by kernel_rfl,
    c80 := by kernel_rfl,
    c85 := by kernel_rfl,
    c127 := by kernel_rfl,
    c143 := by kernel_rfl,
    c145 := by kernel_rfl,
    c167 := by kernel_rfl,
    c168 := by kernel_rfl,
    c171 := by kernel_rfl,
    c173 := by kernel_rfl,
    c175 := by kernel_rfl,
    c210 := by kernel_rfl,
    c212 := by kernel_rfl,
    c213 := by kernel_rfl,
    c232 := by kernel_rfl,
    c233 := by kernel_rfl }
theorem parseS (s : ByteArray) (hmax : s.size ≤ 9223372036854775806) (v : Int) (h : Lib.parseIntB 32 s.data.toList = .ok v) (w : World) :
    Calls Tryz.prog 75 #[.string s, .int .i64 10, .int .i64 32] w fun e w' => e = .returned (.tuple #[.int .i64 v, .nilIface]) ∧ (w' = w ∨ ∃ t, w' = Lib.bytesWorld w 5 t) :=
  Any.strconv_ParseInt_10_at32_ok laysC174 s hmax v h w
end Go.Proofs.YtdenjanihikolaaGreatDoor

namespace Go.Proofs.YtdenjanihikolaaGreatDoor
open Go.RowKit
set_option linter.unusedVariables false
def Tab (w : World) : Prop := Lib.TabIs Tryz.prog w "internal/strconv.uint64pow10" .u64 Lib.pow10Tab
theorem Tab.ext {w w' : World} (h : Tab w) (hx : Ext w w') : Tab w' := Lib.tabBelow_of_tabIs h w' hx
theorem parse75 (s : ByteArray) (h : digP s) (w : World) : Calls Tryz.prog 75 #[.string s, .int .i64 10, .int .i64 32] w fun e w' => e = .returned (.tuple #[.int .i64 (numS s), .nilIface]) ∧ Ext w w' := by
  refine (parseS s (by have := h.2.1; omega) _ (num_facts h).1 w).mono ?_
  rintro e w' ⟨rfl, hw⟩
  refine ⟨rfl, ?_⟩
  rcases hw with rfl | ⟨t, rfl⟩
  · exact Ext.refl _
  · exact Lib.bytesWorld_below _ _ _
theorem itoa78 (s : ByteArray) (h : digP s) (w : World) (ht : Tab w) : Calls Tryz.prog 78 #[.int .i64 (numS s)] w fun e w' => e = .returned (.string s) ∧ Ext w w' := by
  obtain ⟨_, h1, h2, h3⟩ := num_facts h
  refine (itoaS (numS s) (by omega) (by omega) w ht).mono ?_
  rintro e w' ⟨rfl, k, os, rfl⟩
  rw [h3]
  exact ⟨by simp, Lib.below_grow _ _ (Nat.le_refl _) _ _⟩
end Go.Proofs.YtdenjanihikolaaGreatDoor

namespace Go.Proofs.YtdenjanihikolaaGreatDoor
open Go.RowKit Go.Maps
set_option linter.unusedVariables false
set_option linter.unusedSimpArgs false
set_option maxRecDepth 100000 in
theorem sort299 (w : World) : Calls Tryz.prog 299 #[.slice none 0 0, .int .i64 0, .int .i64 0] w fun e w' => e = .returned (.tuple #[]) ∧ w' = w := by
  go_enter Tryz.func299, Tryz.ntmps299
  go_wp2
  refine wp_loop_rounds 1 ?_
  rw [rounds_succ]
  go_wp2
  go_end0
  exact ⟨rfl, rfl⟩
set_option maxRecDepth 100000 in
theorem sort298 (n : Int) (w : World) : Calls Tryz.prog 298 #[.slice none 0 0, .int .i64 0, .int .i64 0, .int .i64 n] w fun e w' => e = .returned (.tuple #[]) ∧ w' = w := by
  go_enter Tryz.func298, Tryz.ntmps298
  go_wp2
  refine wp_loop_rounds 1 ?_
  rw [rounds_succ]
  go_wp2_with (go_at_call 299; refine (sort299 _).mono ?_; rintro e w1 ⟨rfl, hw1⟩; rw [hw1]; clear hw1)
  (try simp only [Exit.inBlock, Exit.then]); refine bodyPost_ret (results_none rfl _ _ _) rfl ?_
  exact ⟨rfl, rfl⟩
theorem len77 (w : World) : Calls Tryz.prog 77 #[.int .u64 0] w fun e w' => e = .returned (.int .i64 0) ∧ w' = w := by
  have h := lenS 0 w (by decide) (by decide)
  have e : Lib.bitLen (0 : Int).toNat = 0 := by decide
  rw [e] at h
  exact h
set_option maxRecDepth 100000 in
theorem sort297 (w : World) : Calls Tryz.prog 297 #[.slice none 0 0] w fun e w' => e = .returned (.tuple #[]) ∧ w' = w := by
  go_enter Tryz.func297, Tryz.ntmps297
  go_wp2_with (first | (go_at_call 77; refine (len77 _).mono ?_; rintro e w1 ⟨rfl, hw1⟩; rw [hw1]; clear hw1) | (go_at_call 298; refine (sort298 _ _).mono ?_; rintro e w1 ⟨rfl, hw1⟩; rw [hw1]; clear hw1))
  go_end0
  exact ⟨rfl, rfl⟩
set_option maxRecDepth 100000 in
theorem names296 (w : World) : Calls Tryz.prog 296 #[.map none] w fun e w' => e = .returned (.slice none 0 0) ∧ Ext w w' := by
  have hrg := run_range_nilMap (P := Tryz.prog) w 214 5 9 Tryz.underlying214
  have hnx : ∀ ty, (Instr.next (.pointer (some ⟨w.heap.size, 0, none⟩)) false ty).run Tryz.prog (w.alloc (.mapIter none 0 #[] 0)) = _ := fun ty => run_next_nilMap w ty 0 0 #[]
  go_enter Tryz.func296, Tryz.ntmps296
  go_wp2
  refine wp_loop_rounds 1 ?_
  rw [rounds_succ]
  go_wp2_with (go_at_call 297; refine (sort297 _).mono ?_; rintro e w1 ⟨rfl, hw1⟩; rw [hw1]; clear hw1)
  go_ret
  exact ⟨rfl, ext_alloc _ _⟩
end Go.Proofs.YtdenjanihikolaaGreatDoor
