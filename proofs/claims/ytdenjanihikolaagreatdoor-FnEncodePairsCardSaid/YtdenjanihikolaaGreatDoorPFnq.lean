/- A world in which the listed variables are laid; small facts on the program. -/
import Derived.Test.YtdenjanihikolaaGreatDoorPFnp
import Derived.ProofKit
import Derived.ChangeVars
import Derived.LaidLaws
import Derived.Deep.DeepLaidRun
import Derived.Stop.Joined
import Derived.Test.YtdenjanihikolaaGreatDoorRows
namespace Go.Proofs.YtdenjanihikolaaGreatDoor
set_option linter.unusedVariables false
set_option linter.unusedSimpArgs false
open Go.RowKit Og
set_option linter.unusedVariables false
set_option linter.unusedSimpArgs false
set_option maxRecDepth 100000 in
set_option maxHeartbeats 2000000 in
theorem pairsN (a b : ByteArray) (kd n mm : Int) (A5 A6 A7 A8 A9 A10 A11 A12 : Option Addr) (c5 c6 c7 c8 c9 c10 c11 c12 : Nat) (lf lr ty d : List Int) (vls : List (Bool × List Int)) (ws : List ByteArray) (ps : List (ByteArray × ByteArray)) (fs : List Sf) (w : World) (hst : turnedQ kd = false)
    (hm : MsgIn w (.agg #[.int .i64 kd, .string a, .string b, .int .u32 n, .int .u32 mm, .slice A5 lf.length c5, .slice A6 lr.length c6, .slice A7 ty.length c7, .slice A8 vls.length c8, .slice A9 d.length c9, .slice A10 ws.length c10, .slice A11 ps.length c11, .slice A12 fs.length c12]) a b kd n mm A5 A6 A7 A8 A9 A10 A11 A12 c5 c6 c7 c8 c9 c10 c11 c12 lf lr ty d vls ws ps fs) :
    Calls Tryz.prog 4 #[.agg #[.int .i64 kd, .string a, .string b, .int .u32 n, .int .u32 mm, .slice A5 lf.length c5, .slice A6 lr.length c6, .slice A7 ty.length c7, .slice A8 vls.length c8, .slice A9 d.length c9, .slice A10 ws.length c10, .slice A11 ps.length c11, .slice A12 fs.length c12]] w (fun e w' => e = .returned (.bool true) ∧ Ext w w') := by
  have HM := Lib.hid hm
  have H5 := Lib.hid hm.rf
  have H6 := Lib.hid hm.rr
  have H8 := Lib.hid hm.rv
  have H10 := Lib.hid hm.rw
  have H11 := Lib.hid hm.rp
  have H12 := Lib.hid hm.rl
  clear hm
  have hm0 : True := trivial
  have hm1 : True := trivial
  have hm2 : True := trivial
  have hm3 : True := trivial
  have hm4 : True := trivial
  have hm5 : True := trivial
  have hm6 : True := trivial
  have hm7 : True := trivial
  have hm8 : True := trivial
  have hm9 : True := trivial
  have hm10 : True := trivial
  have hm11 : True := trivial
  have hm12 : True := trivial
  go_enter Tryz.func4, Tryz.ntmps4
  go_wp2_with (first | (go_at_call 9; refine (fit1 a b _ _ _ A5 A6 A7 A8 A9 A10 A11 A12 c5 c6 c7 c8 c9 c10 c11 c12 lf lr ty d vls ws ps fs _ (H8.out.ext (ext_alloc w _) (isVal.ext (ext_alloc w _))) (H10.out.ext (ext_alloc w _) (fun _ _ h => h)) (H11.out.ext (ext_alloc w _) (fun _ _ h => h)) (H12.out.ext (ext_alloc w _) (fun _ _ h => h))).mono ?_; rintro e w1 ⟨bo, rfl, hbo, hbx⟩; have HE := Lib.hid hbx; have HS := Lib.hid hbo; clear hbo hbx; clear hm0; have hm0 := box_at HE.out 0 (.int .i64 kd) rfl; clear hm1; have hm1 := box_at HE.out 1 (.string a) rfl; clear hm2; have hm2 := box_at HE.out 2 (.string b) rfl; clear hm3; have hm3 := box_at HE.out 3 (.int .u32 n) rfl; clear hm4; have hm4 := box_at HE.out 4 (.int .u32 mm) rfl; clear hm5; have hm5 := box_at HE.out 5 (.slice A5 lf.length c5) rfl; clear hm6; have hm6 := box_at HE.out 6 (.slice A6 lr.length c6) rfl; clear hm7; have hm7 := box_at HE.out 7 (.slice A7 ty.length c7) rfl; clear hm8; have hm8 := box_at HE.out 8 (.slice A8 vls.length c8) rfl; clear hm9; have hm9 := box_at HE.out 9 (.slice A9 d.length c9) rfl; clear hm10; have hm10 := box_at HE.out 10 (.slice A10 ws.length c10) rfl; clear hm11; have hm11 := box_at HE.out 11 (.slice A11 ps.length c11) rfl; clear hm12; have hm12 := box_at HE.out 12 (.slice A12 fs.length c12) rfl; cases bo) | (go_at_call 10; refine msg10 a b kd n mm A5 A6 A7 A9 A10 A8 A11 A12 lf.length lr.length ty.length d.length ws.length c5 c6 c7 c9 c10 c8 c11 c12 vls ps fs _ (H8.out.ext ((ext_alloc w _).trans HE.out) (isVal.ext ((ext_alloc w _).trans HE.out))) (H11.out.ext ((ext_alloc w _).trans HE.out) (fun _ _ h => h)) (H12.out.ext ((ext_alloc w _).trans HE.out) (fun _ _ h => h)) (HS.out trivial).2.2.2.2.2.2.1.1 (HS.out trivial).2.2.2.2.2.2.2.2.1.1 (HS.out trivial).2.2.2.2.2.2.2.2.2.1 _ ?_; intro w2 B7 d7 B10 d10 B11 d11 hx2 hr7 hr10 hr11; have HE2 := Lib.hid (HE.out.trans hx2); have HR7 := Lib.hid hr7; have HR10 := Lib.hid hr10; have HR11 := Lib.hid hr11; clear hx2 hr7 hr10 hr11; clear hm0; have hm0 := box_at HE2.out 0 (.int .i64 kd) rfl; clear hm1; have hm1 := box_at HE2.out 1 (.string a) rfl; clear hm2; have hm2 := box_at HE2.out 2 (.string b) rfl; clear hm3; have hm3 := box_at HE2.out 3 (.int .u32 n) rfl; clear hm4; have hm4 := box_at HE2.out 4 (.int .u32 mm) rfl; clear hm5; have hm5 := box_at HE2.out 5 (.slice A5 lf.length c5) rfl; clear hm6; have hm6 := box_at HE2.out 6 (.slice A6 lr.length c6) rfl; clear hm7; have hm7 := box_at HE2.out 7 (.slice A7 ty.length c7) rfl; clear hm8; have hm8 := box_at HE2.out 8 (.slice A8 vls.length c8) rfl; clear hm9; have hm9 := box_at HE2.out 9 (.slice A9 d.length c9) rfl; clear hm10; have hm10 := box_at HE2.out 10 (.slice A10 ws.length c10) rfl; clear hm11; have hm11 := box_at HE2.out 11 (.slice A11 ps.length c11) rfl; clear hm12; have hm12 := box_at HE2.out 12 (.slice A12 fs.length c12) rfl; ) | (go_at_call 11; refine (proper11 a b kd n A5 A6 A7 B7 A9 A10 B10 B11 c5 c6 c7 d7 c9 c10 d10 d11 lf lr ty d vls ws ps fs _ (H5.out.ext ((ext_alloc w _).trans ((HE2.out.alloc (.cells #[.int .i64 kd, .string a, .string b, .int .u32 n, .slice A5 lf.length c5, .slice A6 lr.length c6, .slice A7 ty.length c7, .slice B7 vls.length d7, .slice A9 d.length c9, .slice A10 ws.length c10, .slice B10 ps.length d10, .slice B11 fs.length d11] 37))))) (H6.out.ext ((ext_alloc w _).trans ((HE2.out.alloc (.cells #[.int .i64 kd, .string a, .string b, .int .u32 n, .slice A5 lf.length c5, .slice A6 lr.length c6, .slice A7 ty.length c7, .slice B7 vls.length d7, .slice A9 d.length c9, .slice A10 ws.length c10, .slice B10 ps.length d10, .slice B11 fs.length d11] 37))))) (HR7.out.ext (ext_alloc _ _) (isVal.ext (ext_alloc _ _))) (H10.out.ext ((ext_alloc w _).trans ((HE2.out.alloc (.cells #[.int .i64 kd, .string a, .string b, .int .u32 n, .slice A5 lf.length c5, .slice A6 lr.length c6, .slice A7 ty.length c7, .slice B7 vls.length d7, .slice A9 d.length c9, .slice A10 ws.length c10, .slice B10 ps.length d10, .slice B11 fs.length d11] 37)))) (fun _ _ h => h)) (HR10.out.ext (ext_alloc _ _) (fun _ _ h => h)) (HR11.out.ext (ext_alloc _ _) (fun _ _ h => h)) (HS.out trivial).1 (HS.out trivial).2.1 (HS.out trivial).2.2.1 (HS.out trivial).2.2.2.1 (HS.out trivial).2.2.2.2.1 (HS.out trivial).2.2.2.2.2.2.1.1 (HS.out trivial).2.2.2.2.2.1 (HS.out trivial).2.2.2.2.2.2.2.1.1 (HS.out trivial).2.2.2.2.2.2.2.1.2 (HS.out trivial).2.2.2.2.2.2.2.2.1.1 (HS.out trivial).2.2.2.2.2.2.2.2.1.2 (HS.out trivial).2.2.2.2.2.2.2.2.2.1 (HS.out trivial).2.2.2.2.2.2.2.2.2.2).mono ?_; rintro e w3 ⟨bp, rfl, hbp, hbx⟩; have HX3 := Lib.hid hbx; have HP := Lib.hid hbp; clear hbp hbx; have HE3 := Lib.hid (((HE2.out.alloc (.cells #[.int .i64 kd, .string a, .string b, .int .u32 n, .slice A5 lf.length c5, .slice A6 lr.length c6, .slice A7 ty.length c7, .slice B7 vls.length d7, .slice A9 d.length c9, .slice A10 ws.length c10, .slice B10 ps.length d10, .slice B11 fs.length d11] 37))).trans HX3.out); clear hm0; have hm0 := box_at HE3.out 0 (.int .i64 kd) rfl; clear hm1; have hm1 := box_at HE3.out 1 (.string a) rfl; clear hm2; have hm2 := box_at HE3.out 2 (.string b) rfl; clear hm3; have hm3 := box_at HE3.out 3 (.int .u32 n) rfl; clear hm4; have hm4 := box_at HE3.out 4 (.int .u32 mm) rfl; clear hm5; have hm5 := box_at HE3.out 5 (.slice A5 lf.length c5) rfl; clear hm6; have hm6 := box_at HE3.out 6 (.slice A6 lr.length c6) rfl; clear hm7; have hm7 := box_at HE3.out 7 (.slice A7 ty.length c7) rfl; clear hm8; have hm8 := box_at HE3.out 8 (.slice A8 vls.length c8) rfl; clear hm9; have hm9 := box_at HE3.out 9 (.slice A9 d.length c9) rfl; clear hm10; have hm10 := box_at HE3.out 10 (.slice A10 ws.length c10) rfl; clear hm11; have hm11 := box_at HE3.out 11 (.slice A11 ps.length c11) rfl; clear hm12; have hm12 := box_at HE3.out 12 (.slice A12 fs.length c12) rfl; cases bp) | (go_at_call 12; refine (turned12 kd _).mono ?_; rintro e w4 ⟨rfl, hw4⟩; subst hw4; rw [hst]) | (go_at_call 13; refine (works13 _).mono ?_; rintro e w5 ⟨rfl, hx5⟩; have HX5 := Lib.hid hx5; clear hx5))
  all_goals first | (go_ret; exact ⟨rfl, ((ext_alloc w _).trans HE3.out).trans HX5.out⟩) | (go_ret; exact ⟨rfl, ((ext_alloc w _).trans HE3.out)⟩) | (go_ret; exact ⟨rfl, (ext_alloc w _).trans HE.out⟩)
theorem pairs4 (a b : ByteArray) (kd n mm : Int) (A5 A6 A7 A8 A9 A10 A11 A12 : Option Addr) (c5 c6 c7 c8 c9 c10 c11 c12 : Nat) (lf lr ty d : List Int) (vls : List (Bool × List Int)) (ws : List ByteArray) (ps : List (ByteArray × ByteArray)) (fs : List Sf) (w : World)
    (hm : MsgIn w (.agg #[.int .i64 kd, .string a, .string b, .int .u32 n, .int .u32 mm, .slice A5 lf.length c5, .slice A6 lr.length c6, .slice A7 ty.length c7, .slice A8 vls.length c8, .slice A9 d.length c9, .slice A10 ws.length c10, .slice A11 ps.length c11, .slice A12 fs.length c12]) a b kd n mm A5 A6 A7 A8 A9 A10 A11 A12 c5 c6 c7 c8 c9 c10 c11 c12 lf lr ty d vls ws ps fs) (htab : Tab w) :
    Calls Tryz.prog 4 #[.agg #[.int .i64 kd, .string a, .string b, .int .u32 n, .int .u32 mm, .slice A5 lf.length c5, .slice A6 lr.length c6, .slice A7 ty.length c7, .slice A8 vls.length c8, .slice A9 d.length c9, .slice A10 ws.length c10, .slice A11 ps.length c11, .slice A12 fs.length c12]] w (fun e w' => e = .returned (.bool true) ∧ Ext w w') := by
  cases hst : turnedQ kd
  · exact pairsN a b kd n mm A5 A6 A7 A8 A9 A10 A11 A12 c5 c6 c7 c8 c9 c10 c11 c12 lf lr ty d vls ws ps fs w hst hm
  · by_cases h18 : kd = 18
    · subst h18
      exact pairs18 a b n mm A5 A6 A7 A8 A9 A10 A11 A12 c5 c6 c7 c8 c9 c10 c11 c12 lf lr ty d vls ws ps fs w hm htab
    · exact pairsE a b kd n mm A5 A6 A7 A8 A9 A10 A11 A12 c5 c6 c7 c8 c9 c10 c11 c12 lf lr ty d vls ws ps fs w h18 hst hm htab
end Go.Proofs.YtdenjanihikolaaGreatDoor

namespace Go.Proofs.YtdenjanihikolaaGreatDoor
open Go Go.ChangeShapes Go.WideShapes Go.RowKit
set_option maxRecDepth 100000
theorem Tryz.own : ownKnob Tryz.prog.godebug = none := by kernel_rfl
theorem Tryz.laidOut : laidOutB Tryz.prog = true := by kernel_rfl
noncomputable def low : Nat := (World.holding Tryz.prog default ⟨#[], #[], []⟩).heap.size
noncomputable def laidWorld (os : Os) : World :=
  let w0 := World.holding Tryz.prog os ⟨#[.cells #[.string ⟨#[105, 110, 118, 97, 108, 105, 100, 32, 115, 121, 110, 116, 97, 120]⟩] 306, .cells #[.string ⟨#[118, 97, 108, 117, 101, 32, 111, 117, 116, 32, 111, 102, 32, 114, 97, 110, 103, 101]⟩] 306], #[], []⟩
  { w0 with heap := (((((w0.heap.modify 0 fun
      | .cells _ t frozen => .cells #[.iface 304 (.pointer (some ⟨low, 0, none⟩))] t frozen
      | o => o).modify 1 fun
      | .cells _ t frozen => .cells #[.iface 304 (.pointer (some ⟨low + 1, 0, none⟩))] t frozen
      | o => o).modify 2 fun
      | .cells _ t frozen => .cells #[.int .u64 1, .int .u64 10, .int .u64 100, .int .u64 1000, .int .u64 10000, .int .u64 100000, .int .u64 1000000, .int .u64 10000000, .int .u64 100000000, .int .u64 1000000000, .int .u64 10000000000, .int .u64 100000000000, .int .u64 1000000000000, .int .u64 10000000000000, .int .u64 100000000000000, .int .u64 1000000000000000, .int .u64 10000000000000000, .int .u64 100000000000000000, .int .u64 1000000000000000000, .int .u64 10000000000000000000] t frozen
      | o => o).modify 3 fun
      | .cells _ t frozen => .cells #[.int .u8 0, .int .u8 1, .int .u8 28, .int .u8 2, .int .u8 29, .int .u8 14, .int .u8 24, .int .u8 3, .int .u8 30, .int .u8 22, .int .u8 20, .int .u8 15, .int .u8 25, .int .u8 17, .int .u8 4, .int .u8 8, .int .u8 31, .int .u8 27, .int .u8 13, .int .u8 23, .int .u8 21, .int .u8 19, .int .u8 16, .int .u8 7, .int .u8 26, .int .u8 12, .int .u8 18, .int .u8 6, .int .u8 11, .int .u8 5, .int .u8 10, .int .u8 9] t frozen
      | o => o).modify 4 fun
      | .cells _ t frozen => .cells #[.int .u8 0, .int .u8 1, .int .u8 56, .int .u8 2, .int .u8 57, .int .u8 49, .int .u8 28, .int .u8 3, .int .u8 61, .int .u8 58, .int .u8 42, .int .u8 50, .int .u8 38, .int .u8 29, .int .u8 17, .int .u8 4, .int .u8 62, .int .u8 47, .int .u8 59, .int .u8 36, .int .u8 45, .int .u8 43, .int .u8 51, .int .u8 22, .int .u8 53, .int .u8 39, .int .u8 33, .int .u8 30, .int .u8 24, .int .u8 18, .int .u8 12, .int .u8 5, .int .u8 63, .int .u8 55, .int .u8 48, .int .u8 27, .int .u8 60, .int .u8 41, .int .u8 37, .int .u8 16, .int .u8 46, .int .u8 35, .int .u8 44, .int .u8 21, .int .u8 52, .int .u8 32, .int .u8 23, .int .u8 11, .int .u8 54, .int .u8 26, .int .u8 40, .int .u8 15, .int .u8 34, .int .u8 20, .int .u8 31, .int .u8 10, .int .u8 25, .int .u8 14, .int .u8 19, .int .u8 9, .int .u8 13, .int .u8 8, .int .u8 7, .int .u8 6] t frozen
      | o => o) }
abbrev laid5 : List (String × DataW Unit) := [("math/bits.deBruijn32tab", Rows.laid_math_bits_deBruijn32tab), ("math/bits.deBruijn64tab", Rows.laid_math_bits_deBruijn64tab), ("internal/strconv.uint64pow10", Rows.laid_internal_strconv_uint64pow10), ("strconv.ErrRange", Rows.laid_strconv_ErrRange), ("strconv.ErrSyntax", Rows.laid_strconv_ErrSyntax)]
theorem laidWorld_met (os : Os) (args : Array Value) : laidMet Tryz.prog laid5 ((laidWorld os).forCall (fun _ _ => 0) ⟨#[], args, []⟩).memory :=
  laidMet_of_run3 8 (by kernel_rfl) (by kernel_rfl) (by kernel_rfl)
end Go.Proofs.YtdenjanihikolaaGreatDoor
