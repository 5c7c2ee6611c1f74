/- FnLonger's walk. -/
import Derived.Test.YtdenjanihikolaaGreatDoorLonj
import Derived.Test.YtdenjanihikolaaGreatDoorMsf
import Derived.Test.YtdenjanihikolaaGreatDoorFitb
namespace Go.Proofs.YtdenjanihikolaaGreatDoor
open Go.RowKit Og
set_option linter.unusedVariables false
set_option linter.unusedSimpArgs false

set_option maxRecDepth 100000 in
set_option maxHeartbeats 2000000 in
theorem longer7 (a b : ByteArray) (kd n mm : Int) (A5 A6 A7 A8 A9 A10 A11 A12 : Option Addr) (c5 c6 c7 c8 c9 c10 c11 c12 : Nat) (lf lr ty d : List Int) (vls : List (Bool × List Int)) (ws : List ByteArray) (ps : List (ByteArray × ByteArray)) (fs : List Sf) (Ab : Option Addr) (cb : Nat) (bh : List Int) (w : World)
    (h5 : RdI .i64 w (.slice A5 lf.length c5) lf) (h6 : RdI .i64 w (.slice A6 lr.length c6) lr) (h8 : RdM 2 isVal w (.slice A8 vls.length c8) vls) (h10 : Rd1 isStr w (.slice A10 ws.length c10) ws) (h11 : RdM 2 isPr w (.slice A11 ps.length c11) ps) (h12 : RdM 7 isSf w (.slice A12 fs.length c12) fs) (hb : RdB w (.slice Ab bh.length cb) bh) (hn : 0 ≤ n ∧ n < 4294967296) :
    Calls Tryz.prog 7 #[.agg #[.int .i64 kd, .string a, .string b, .int .u32 n, .int .u32 mm, .slice A5 lf.length c5, .slice A6 lr.length c6, .slice A7 ty.length c7, .slice A8 vls.length c8, .slice A9 d.length c9, .slice A10 ws.length c10, .slice A11 ps.length c11, .slice A12 fs.length c12], .slice Ab bh.length cb] w (fun e w' => e = .returned (.bool true) ∧ Ext w w') := by
  have H5 := Lib.hid h5
  have H6 := Lib.hid h6
  have H8 := Lib.hid h8
  have H10 := Lib.hid h10
  have H11 := Lib.hid h11
  have H12 := Lib.hid h12
  have HB := Lib.hid hb
  have HN := Lib.hid hn
  clear h5 h6 h8 h10 h11 h12 hb hn
  have hm0 : True := trivial
  have hm1 : True := trivial
  have hm2 : True := trivial
  have hm3 : True := trivial
  have hm4 : True := trivial
  have hm5 : True := trivial
  have hm6 : True := trivial
  have hm7 : True := trivial
  have hm8 : True := trivial
  have hm9 : True := trivial
  have hm10 : True := trivial
  have hm11 : True := trivial
  have hm12 : True := trivial
  cases hst : strictQ kd
  · go_enter Tryz.func7, Tryz.ntmps7
    go_wp2_with (first | (go_at_call 9; refine (fit1 a b _ _ _ A5 A6 A7 A8 A9 A10 A11 A12 c5 c6 c7 c8 c9 c10 c11 c12 lf lr ty d vls ws ps fs _ (H8.out.ext (ext_alloc w _) (isVal.ext (ext_alloc w _))) (H10.out.ext (ext_alloc w _) (fun _ _ h => h)) (H11.out.ext (ext_alloc w _) (fun _ _ h => h)) (H12.out.ext (ext_alloc w _) (fun _ _ h => h))).mono ?_; rintro e w1 ⟨bo, rfl, hbo, hbx⟩; have HE := Lib.hid hbx; have HS := Lib.hid hbo; clear hbo hbx; clear hm0; have hm0 := box_at HE.out 0 (.int .i64 kd) rfl; clear hm1; have hm1 := box_at HE.out 1 (.string a) rfl; clear hm2; have hm2 := box_at HE.out 2 (.string b) rfl; clear hm3; have hm3 := box_at HE.out 3 (.int .u32 n) rfl; clear hm4; have hm4 := box_at HE.out 4 (.int .u32 mm) rfl; clear hm5; have hm5 := box_at HE.out 5 (.slice A5 lf.length c5) rfl; clear hm6; have hm6 := box_at HE.out 6 (.slice A6 lr.length c6) rfl; clear hm7; have hm7 := box_at HE.out 7 (.slice A7 ty.length c7) rfl; clear hm8; have hm8 := box_at HE.out 8 (.slice A8 vls.length c8) rfl; clear hm9; have hm9 := box_at HE.out 9 (.slice A9 d.length c9) rfl; clear hm10; have hm10 := box_at HE.out 10 (.slice A10 ws.length c10) rfl; clear hm11; have hm11 := box_at HE.out 11 (.slice A11 ps.length c11) rfl; clear hm12; have hm12 := box_at HE.out 12 (.slice A12 fs.length c12) rfl; cases bo) | (go_at_call 10; refine msg10 a b kd n mm A5 A6 A7 A9 A10 A8 A11 A12 lf.length lr.length ty.length d.length ws.length c5 c6 c7 c9 c10 c8 c11 c12 vls ps fs _ (H8.out.ext ((ext_alloc w _).trans HE.out) (isVal.ext ((ext_alloc w _).trans HE.out))) (H11.out.ext ((ext_alloc w _).trans HE.out) (fun _ _ h => h)) (H12.out.ext ((ext_alloc w _).trans HE.out) (fun _ _ h => h)) (HS.out trivial).2.2.2.2.2.2.1.1 (HS.out trivial).2.2.2.2.2.2.2.2.1.1 (HS.out trivial).2.2.2.2.2.2.2.2.2.1 _ ?_; intro w2 B7 d7 B10 d10 B11 d11 hx2 hr7 hr10 hr11; have HE2 := Lib.hid (HE.out.trans hx2); have HR7 := Lib.hid hr7; have HR10 := Lib.hid hr10; have HR11 := Lib.hid hr11; clear hx2 hr7 hr10 hr11; clear hm0; have hm0 := box_at HE2.out 0 (.int .i64 kd) rfl; clear hm1; have hm1 := box_at HE2.out 1 (.string a) rfl; clear hm2; have hm2 := box_at HE2.out 2 (.string b) rfl; clear hm3; have hm3 := box_at HE2.out 3 (.int .u32 n) rfl; clear hm4; have hm4 := box_at HE2.out 4 (.int .u32 mm) rfl; clear hm5; have hm5 := box_at HE2.out 5 (.slice A5 lf.length c5) rfl; clear hm6; have hm6 := box_at HE2.out 6 (.slice A6 lr.length c6) rfl; clear hm7; have hm7 := box_at HE2.out 7 (.slice A7 ty.length c7) rfl; clear hm8; have hm8 := box_at HE2.out 8 (.slice A8 vls.length c8) rfl; clear hm9; have hm9 := box_at HE2.out 9 (.slice A9 d.length c9) rfl; clear hm10; have hm10 := box_at HE2.out 10 (.slice A10 ws.length c10) rfl; clear hm11; have hm11 := box_at HE2.out 11 (.slice A11 ps.length c11) rfl; clear hm12; have hm12 := box_at HE2.out 12 (.slice A12 fs.length c12) rfl; ) | (go_at_call 11; refine (proper11 a b kd n A5 A6 A7 B7 A9 A10 B10 B11 c5 c6 c7 d7 c9 c10 d10 d11 lf lr ty d vls ws ps fs _ (H5.out.ext ((ext_alloc w _).trans ((HE2.out.alloc (.cells #[.int .i64 kd, .string a, .string b, .int .u32 n, .slice A5 lf.length c5, .slice A6 lr.length c6, .slice A7 ty.length c7, .slice B7 vls.length d7, .slice A9 d.length c9, .slice A10 ws.length c10, .slice B10 ps.length d10, .slice B11 fs.length d11] 37))))) (H6.out.ext ((ext_alloc w _).trans ((HE2.out.alloc (.cells #[.int .i64 kd, .string a, .string b, .int .u32 n, .slice A5 lf.length c5, .slice A6 lr.length c6, .slice A7 ty.length c7, .slice B7 vls.length d7, .slice A9 d.length c9, .slice A10 ws.length c10, .slice B10 ps.length d10, .slice B11 fs.length d11] 37))))) (HR7.out.ext (ext_alloc _ _) (isVal.ext (ext_alloc _ _))) (H10.out.ext ((ext_alloc w _).trans ((HE2.out.alloc (.cells #[.int .i64 kd, .string a, .string b, .int .u32 n, .slice A5 lf.length c5, .slice A6 lr.length c6, .slice A7 ty.length c7, .slice B7 vls.length d7, .slice A9 d.length c9, .slice A10 ws.length c10, .slice B10 ps.length d10, .slice B11 fs.length d11] 37)))) (fun _ _ h => h)) (HR10.out.ext (ext_alloc _ _) (fun _ _ h => h)) (HR11.out.ext (ext_alloc _ _) (fun _ _ h => h)) (HS.out trivial).1 (HS.out trivial).2.1 (HS.out trivial).2.2.1 (HS.out trivial).2.2.2.1 (HS.out trivial).2.2.2.2.1 (HS.out trivial).2.2.2.2.2.2.1.1 (HS.out trivial).2.2.2.2.2.1 (HS.out trivial).2.2.2.2.2.2.2.1.1 (HS.out trivial).2.2.2.2.2.2.2.1.2 (HS.out trivial).2.2.2.2.2.2.2.2.1.1 (HS.out trivial).2.2.2.2.2.2.2.2.1.2 (HS.out trivial).2.2.2.2.2.2.2.2.2.1 (HS.out trivial).2.2.2.2.2.2.2.2.2.2).mono ?_; rintro e w3 ⟨bp, rfl, hbp, hbx⟩; have HX3 := Lib.hid hbx; have HP := Lib.hid hbp; clear hbp hbx; have HE3 := Lib.hid (((HE2.out.alloc (.cells #[.int .i64 kd, .string a, .string b, .int .u32 n, .slice A5 lf.length c5, .slice A6 lr.length c6, .slice A7 ty.length c7, .slice B7 vls.length d7, .slice A9 d.length c9, .slice A10 ws.length c10, .slice B10 ps.length d10, .slice B11 fs.length d11] 37))).trans HX3.out); clear hm0; have hm0 := box_at HE3.out 0 (.int .i64 kd) rfl; clear hm1; have hm1 := box_at HE3.out 1 (.string a) rfl; clear hm2; have hm2 := box_at HE3.out 2 (.string b) rfl; clear hm3; have hm3 := box_at HE3.out 3 (.int .u32 n) rfl; clear hm4; have hm4 := box_at HE3.out 4 (.int .u32 mm) rfl; clear hm5; have hm5 := box_at HE3.out 5 (.slice A5 lf.length c5) rfl; clear hm6; have hm6 := box_at HE3.out 6 (.slice A6 lr.length c6) rfl; clear hm7; have hm7 := box_at HE3.out 7 (.slice A7 ty.length c7) rfl; clear hm8; have hm8 := box_at HE3.out 8 (.slice A8 vls.length c8) rfl; clear hm9; have hm9 := box_at HE3.out 9 (.slice A9 d.length c9) rfl; clear hm10; have hm10 := box_at HE3.out 10 (.slice A10 ws.length c10) rfl; clear hm11; have hm11 := box_at HE3.out 11 (.slice A11 ps.length c11) rfl; clear hm12; have hm12 := box_at HE3.out 12 (.slice A12 fs.length c12) rfl; cases bp) | (go_at_call 21; refine (strict21 kd _).mono ?_; rintro e w4 ⟨rfl, rfl⟩; rw [hst]) | (go_at_call 13; refine (works13 _).mono ?_; rintro e w5 ⟨rfl, hx5⟩; have HX5 := Lib.hid hx5; clear hx5))
    all_goals first | (go_ret; exact ⟨rfl, (ext_alloc w _).trans (HE3.out.trans HX5.out)⟩) | (go_ret; exact ⟨rfl, (ext_alloc w _).trans HE.out⟩)
  · go_enter Tryz.func7, Tryz.ntmps7
    go_wp2_with (first | (go_at_call 9; refine (fit1 a b _ _ _ A5 A6 A7 A8 A9 A10 A11 A12 c5 c6 c7 c8 c9 c10 c11 c12 lf lr ty d vls ws ps fs _ (H8.out.ext (ext_alloc w _) (isVal.ext (ext_alloc w _))) (H10.out.ext (ext_alloc w _) (fun _ _ h => h)) (H11.out.ext (ext_alloc w _) (fun _ _ h => h)) (H12.out.ext (ext_alloc w _) (fun _ _ h => h))).mono ?_; rintro e w1 ⟨bo, rfl, hbo, hbx⟩; have HE := Lib.hid hbx; have HS := Lib.hid hbo; clear hbo hbx; clear hm0; have hm0 := box_at HE.out 0 (.int .i64 kd) rfl; clear hm1; have hm1 := box_at HE.out 1 (.string a) rfl; clear hm2; have hm2 := box_at HE.out 2 (.string b) rfl; clear hm3; have hm3 := box_at HE.out 3 (.int .u32 n) rfl; clear hm4; have hm4 := box_at HE.out 4 (.int .u32 mm) rfl; clear hm5; have hm5 := box_at HE.out 5 (.slice A5 lf.length c5) rfl; clear hm6; have hm6 := box_at HE.out 6 (.slice A6 lr.length c6) rfl; clear hm7; have hm7 := box_at HE.out 7 (.slice A7 ty.length c7) rfl; clear hm8; have hm8 := box_at HE.out 8 (.slice A8 vls.length c8) rfl; clear hm9; have hm9 := box_at HE.out 9 (.slice A9 d.length c9) rfl; clear hm10; have hm10 := box_at HE.out 10 (.slice A10 ws.length c10) rfl; clear hm11; have hm11 := box_at HE.out 11 (.slice A11 ps.length c11) rfl; clear hm12; have hm12 := box_at HE.out 12 (.slice A12 fs.length c12) rfl; cases bo) | (go_at_call 10; refine msg10 a b kd n mm A5 A6 A7 A9 A10 A8 A11 A12 lf.length lr.length ty.length d.length ws.length c5 c6 c7 c9 c10 c8 c11 c12 vls ps fs _ (H8.out.ext ((ext_alloc w _).trans HE.out) (isVal.ext ((ext_alloc w _).trans HE.out))) (H11.out.ext ((ext_alloc w _).trans HE.out) (fun _ _ h => h)) (H12.out.ext ((ext_alloc w _).trans HE.out) (fun _ _ h => h)) (HS.out trivial).2.2.2.2.2.2.1.1 (HS.out trivial).2.2.2.2.2.2.2.2.1.1 (HS.out trivial).2.2.2.2.2.2.2.2.2.1 _ ?_; intro w2 B7 d7 B10 d10 B11 d11 hx2 hr7 hr10 hr11; have HE2 := Lib.hid (HE.out.trans hx2); have HR7 := Lib.hid hr7; have HR10 := Lib.hid hr10; have HR11 := Lib.hid hr11; clear hx2 hr7 hr10 hr11; clear hm0; have hm0 := box_at HE2.out 0 (.int .i64 kd) rfl; clear hm1; have hm1 := box_at HE2.out 1 (.string a) rfl; clear hm2; have hm2 := box_at HE2.out 2 (.string b) rfl; clear hm3; have hm3 := box_at HE2.out 3 (.int .u32 n) rfl; clear hm4; have hm4 := box_at HE2.out 4 (.int .u32 mm) rfl; clear hm5; have hm5 := box_at HE2.out 5 (.slice A5 lf.length c5) rfl; clear hm6; have hm6 := box_at HE2.out 6 (.slice A6 lr.length c6) rfl; clear hm7; have hm7 := box_at HE2.out 7 (.slice A7 ty.length c7) rfl; clear hm8; have hm8 := box_at HE2.out 8 (.slice A8 vls.length c8) rfl; clear hm9; have hm9 := box_at HE2.out 9 (.slice A9 d.length c9) rfl; clear hm10; have hm10 := box_at HE2.out 10 (.slice A10 ws.length c10) rfl; clear hm11; have hm11 := box_at HE2.out 11 (.slice A11 ps.length c11) rfl; clear hm12; have hm12 := box_at HE2.out 12 (.slice A12 fs.length c12) rfl; ) | (go_at_call 11; refine (proper11 a b kd n A5 A6 A7 B7 A9 A10 B10 B11 c5 c6 c7 d7 c9 c10 d10 d11 lf lr ty d vls ws ps fs _ (H5.out.ext ((ext_alloc w _).trans ((HE2.out.alloc (.cells #[.int .i64 kd, .string a, .string b, .int .u32 n, .slice A5 lf.length c5, .slice A6 lr.length c6, .slice A7 ty.length c7, .slice B7 vls.length d7, .slice A9 d.length c9, .slice A10 ws.length c10, .slice B10 ps.length d10, .slice B11 fs.length d11] 37))))) (H6.out.ext ((ext_alloc w _).trans ((HE2.out.alloc (.cells #[.int .i64 kd, .string a, .string b, .int .u32 n, .slice A5 lf.length c5, .slice A6 lr.length c6, .slice A7 ty.length c7, .slice B7 vls.length d7, .slice A9 d.length c9, .slice A10 ws.length c10, .slice B10 ps.length d10, .slice B11 fs.length d11] 37))))) (HR7.out.ext (ext_alloc _ _) (isVal.ext (ext_alloc _ _))) (H10.out.ext ((ext_alloc w _).trans ((HE2.out.alloc (.cells #[.int .i64 kd, .string a, .string b, .int .u32 n, .slice A5 lf.length c5, .slice A6 lr.length c6, .slice A7 ty.length c7, .slice B7 vls.length d7, .slice A9 d.length c9, .slice A10 ws.length c10, .slice B10 ps.length d10, .slice B11 fs.length d11] 37)))) (fun _ _ h => h)) (HR10.out.ext (ext_alloc _ _) (fun _ _ h => h)) (HR11.out.ext (ext_alloc _ _) (fun _ _ h => h)) (HS.out trivial).1 (HS.out trivial).2.1 (HS.out trivial).2.2.1 (HS.out trivial).2.2.2.1 (HS.out trivial).2.2.2.2.1 (HS.out trivial).2.2.2.2.2.2.1.1 (HS.out trivial).2.2.2.2.2.1 (HS.out trivial).2.2.2.2.2.2.2.1.1 (HS.out trivial).2.2.2.2.2.2.2.1.2 (HS.out trivial).2.2.2.2.2.2.2.2.1.1 (HS.out trivial).2.2.2.2.2.2.2.2.1.2 (HS.out trivial).2.2.2.2.2.2.2.2.2.1 (HS.out trivial).2.2.2.2.2.2.2.2.2.2).mono ?_; rintro e w3 ⟨bp, rfl, hbp, hbx⟩; have HX3 := Lib.hid hbx; have HP := Lib.hid hbp; clear hbp hbx; have HE3 := Lib.hid (((HE2.out.alloc (.cells #[.int .i64 kd, .string a, .string b, .int .u32 n, .slice A5 lf.length c5, .slice A6 lr.length c6, .slice A7 ty.length c7, .slice B7 vls.length d7, .slice A9 d.length c9, .slice A10 ws.length c10, .slice B10 ps.length d10, .slice B11 fs.length d11] 37))).trans HX3.out); clear hm0; have hm0 := box_at HE3.out 0 (.int .i64 kd) rfl; clear hm1; have hm1 := box_at HE3.out 1 (.string a) rfl; clear hm2; have hm2 := box_at HE3.out 2 (.string b) rfl; clear hm3; have hm3 := box_at HE3.out 3 (.int .u32 n) rfl; clear hm4; have hm4 := box_at HE3.out 4 (.int .u32 mm) rfl; clear hm5; have hm5 := box_at HE3.out 5 (.slice A5 lf.length c5) rfl; clear hm6; have hm6 := box_at HE3.out 6 (.slice A6 lr.length c6) rfl; clear hm7; have hm7 := box_at HE3.out 7 (.slice A7 ty.length c7) rfl; clear hm8; have hm8 := box_at HE3.out 8 (.slice A8 vls.length c8) rfl; clear hm9; have hm9 := box_at HE3.out 9 (.slice A9 d.length c9) rfl; clear hm10; have hm10 := box_at HE3.out 10 (.slice A10 ws.length c10) rfl; clear hm11; have hm11 := box_at HE3.out 11 (.slice A11 ps.length c11) rfl; clear hm12; have hm12 := box_at HE3.out 12 (.slice A12 fs.length c12) rfl; cases bp) | (go_at_call 21; refine (strict21 kd _).mono ?_; rintro e w4 ⟨rfl, rfl⟩; rw [hst]) | (go_at_call 13; refine (works13 _).mono ?_; rintro e w5 ⟨rfl, hx5⟩; have HX5 := Lib.hid hx5; clear hx5))
    all_goals first
      | first | (go_ret; exact ⟨rfl, (ext_alloc w _).trans (HE3.out.trans HX5.out)⟩) | (go_ret; exact ⟨rfl, (ext_alloc w _).trans HE.out⟩)
      | skip
    have hbne : bh ≠ [] := by assumption
    have hbl : bh.length ≤ 1000 := by
      have hbb : (↑bh.length == (0 : Int)) = false ∧ (↑bh.length : Int) ≤ 100 := by assumption
      omega
    have HBNE := Lib.hid hbne
    have HBL := Lib.hid hbl
    clear hbl
    have HM0 := Lib.hid hm0
    have BX := Lib.hid ((HX3.out.block w2.heap.size (by simp)).trans (heap_alloc_new w2 (.cells #[.int .i64 kd, .string a, .string b, .int .u32 n, .slice A5 lf.length c5, .slice A6 lr.length c6, .slice A7 ty.length c7, .slice B7 vls.length d7, .slice A9 d.length c9, .slice A10 ws.length c10, .slice B10 ps.length d10, .slice B11 fs.length d11] 37)))
    have HBH := Lib.hid (HB.out.ext ((ext_alloc w _).trans HE3.out))
    obtain ⟨R, hRL, hbody, hdec⟩ := strict_facts kd hst a b n (.slice A5 lf.length c5) (.slice A6 lr.length c6) (.slice A7 ty.length c7) (.slice B7 vls.length d7) (.slice A9 d.length c9) (.slice A10 ws.length c10) (.slice B10 ps.length d10) (.slice B11 fs.length d11) HN.out
    have HRL := Lib.hid hRL
    have HBODY := Lib.hid hbody
    have HDEC := Lib.hid hdec
    clear hRL hbody hdec hm0 hm1 hm2 hm3 hm4 hm5 hm6 hm7 hm8 hm9 hm10 hm11 hm12
    refine wp_region_ogL (J := LonJ w4 R bh) (R := fun _ _ => True) [Sp.eq _ (.pointer (some ⟨w.heap.size, 0, none⟩)), Sp.eq _ (.int .i64 kd), Sp.eq _ (.agg #[.int .i64 kd, .string a, .string b, .int .u32 n, .slice A5 lf.length c5, .slice A6 lr.length c6, .slice A7 ty.length c7, .slice B7 vls.length d7, .slice A9 d.length c9, .slice A10 ws.length c10, .slice B10 ps.length d10, .slice B11 fs.length d11]), Sp.any _, Sp.eq _ (.slice Ab bh.length cb), Sp.any _, Sp.eq _ (.tuple #[.agg #[.int .i64 0, .string ⟨#[]⟩, .string ⟨#[]⟩, .int .u32 0, .int .u32 0, .slice none 0 0, .slice none 0 0, .slice none 0 0, .slice none 0 0, .slice none 0 0, .slice none 0 0, .slice none 0 0, .slice none 0 0], .bool false]), Sp.eq _ (.tuple #[.agg #[.int .i64 0, .string ⟨#[]⟩, .string ⟨#[]⟩, .int .u32 0, .int .u32 0, .slice none 0 0, .slice none 0 0, .slice none 0 0, .slice none 0 0, .slice none 0 0, .slice none 0 0, .slice none 0 0, .slice none 0 0], .bool false]), Sp.eq _ (.agg #[.int .i64 0, .string ⟨#[]⟩, .string ⟨#[]⟩, .int .u32 0, .int .u32 0, .slice none 0 0, .slice none 0 0, .slice none 0 0, .slice none 0 0, .slice none 0 0, .slice none 0 0, .slice none 0 0, .slice none 0 0]), Sp.eq _ (.bool false), Sp.any _, Sp.any _, Sp.eq _ (.bool false)] (by kernel_rfl) (by kernel_rfl) ?_ ?_ ?_
    · exact LonJ.start w4 R bh
    · refine ⟨?_, ?_, ?_, ?_, ?_, ?_, ?_, ?_, ?_, ?_, ?_, ?_, ?_, trivial⟩
      · intro vs w1 L hLi hd hdt hJ hp
        have HJ := Lib.hid hJ
        clear hp hd hdt hLi hJ
        simp only [putAll, Nat.reduceAdd]
        go_wp2
        exact ⟨rfl, HJ.out.keep 0 _ (by decide) (by decide) (by decide) (by decide) (by decide), trivial, rfl⟩
      · intro vs w1 L hLi hd hdt hJ hp
        have q0 : vs 0 = .pointer (some ⟨w.heap.size, 0, none⟩) := hp 0 (by decide)
        have HJ := Lib.hid hJ
        have hq := hJ.1.cell HM0.out
        clear hp hd hdt hLi hJ
        simp only [putAll, Nat.reduceAdd]
        go_wp2
        exact ⟨rfl, HJ.out.keep 1 _ (by decide) (by decide) (by decide) (by decide) (by decide), trivial, rfl⟩
      · intro vs w1 L hLi hd hdt hJ hp
        have HJ := Lib.hid hJ
        have hq0' := hJ.1.cell (cell_slot BX.out 0 (.int .i64 kd) rfl)
        have hq1' := hJ.1.cell (cell_slot BX.out 1 (.string a) rfl)
        have hq2' := hJ.1.cell (cell_slot BX.out 2 (.string b) rfl)
        have hq3' := hJ.1.cell (cell_slot BX.out 3 (.int .u32 n) rfl)
        have hq4' := hJ.1.cell (cell_slot BX.out 4 (.slice A5 lf.length c5) rfl)
        have hq5' := hJ.1.cell (cell_slot BX.out 5 (.slice A6 lr.length c6) rfl)
        have hq6' := hJ.1.cell (cell_slot BX.out 6 (.slice A7 ty.length c7) rfl)
        have hq7' := hJ.1.cell (cell_slot BX.out 7 (.slice B7 vls.length d7) rfl)
        have hq8' := hJ.1.cell (cell_slot BX.out 8 (.slice A9 d.length c9) rfl)
        have hq9' := hJ.1.cell (cell_slot BX.out 9 (.slice A10 ws.length c10) rfl)
        have hq10' := hJ.1.cell (cell_slot BX.out 10 (.slice B10 ps.length d10) rfl)
        have hq11' := hJ.1.cell (cell_slot BX.out 11 (.slice B11 fs.length d11) rfl)
        clear hp hd hdt hLi hJ
        simp only [putAll, Nat.reduceAdd]
        go_wp2
        exact ⟨rfl, HJ.out.keep 2 _ (by decide) (by decide) (by decide) (by decide) (by decide), trivial, rfl⟩
      · intro vs w1 L hLi hd hdt hJ hp
        have q2 : vs 2 = .agg #[.int .i64 kd, .string a, .string b, .int .u32 n, .slice A5 lf.length c5, .slice A6 lr.length c6, .slice A7 ty.length c7, .slice B7 vls.length d7, .slice A9 d.length c9, .slice A10 ws.length c10, .slice B10 ps.length d10, .slice B11 fs.length d11] := hp 2 (by decide)
        have hL5 := hdt 5 (by decide)
        have hL11 := hdt 11 (by decide)
        have HJ := Lib.hid hJ
        have HL := Lib.hid (And.intro hL5 hL11)
        clear hL5 hL11
        clear hp hd hdt hLi hJ
        simp only [putAll, Nat.reduceAdd]
        go_wp2_with (go_at_call 16; refine (HBODY.out _).mono ?_; rintro e w2' ⟨v2, rfl, hbu⟩; have HBU := Lib.hid hbu; clear hbu)
        refine ⟨rfl, ?_, trivial, trivial⟩
        exact HJ.out.step3 HL.out.1 HL.out.2 HBU.out
      · intro vs w1 L hLi hd hdt hJ hp
        have HJ := Lib.hid hJ
        clear hp hd hdt hLi hJ
        simp only [putAll, Nat.reduceAdd]
        go_wp2
        exact ⟨rfl, HJ.out.keep 4 _ (by decide) (by decide) (by decide) (by decide) (by decide), trivial, rfl⟩
      · intro vs w1 L hLi hd hdt hJ hp
        have q4 : vs 4 = .slice Ab bh.length cb := hp 4 (by decide)
        have hL3 := hd 3 (by decide)
        have hL11 := hdt 11 (by decide)
        have HJ := Lib.hid hJ
        have HL11 := Lib.hid hL11
        have HRW := Lib.hid ((hJ.2 hL11).2.2 hL3 hLi)
        have HBB := Lib.hid (HBH.out.ext hJ.1)
        clear hL3 hL11
        clear hp hd hdt hLi hJ
        simp only [putAll, Nat.reduceAdd]
        refine ap_row (v := vs 3) (vx := .slice Ab bh.length cb) (ys := bh) rfl (.tmp 42) (.tmp 43) 26 26 rfl Tryz.underlying26 Tryz.underlying26 (by simp only [evp_none, ne_eq, Nat.reduceEqDiff, not_false_eq_true, evp_ne]; rw [evp_same _ _ _ (by simp [evp_size])]) HRW.out (by simp only [evp_none, ne_eq, Nat.reduceEqDiff, not_false_eq_true, evp_ne]; rw [evp_same _ _ _ (by simp [evp_size])]; exact q4) HBB.out (by have := HRL.out; have := HBL.out; omega) ?_
        intro v2 w2' hn
        refine ⟨rfl, ?_, trivial, trivial⟩
        rw [slot_put _ _ _ (by simp [evp_size])]
        exact HJ.out.step5 HL11.out hn
      · intro vs w1 L hLi hd hdt hJ hp
        have q1 : vs 1 = .int .i64 kd := hp 1 (by decide)
        have hL5 := hd 5 (by decide)
        have hL11 := hdt 11 (by decide)
        have HJ := Lib.hid hJ
        have HL := Lib.hid (And.intro hL5 hL11)
        have HRD := Lib.hid ((hJ.2 hL11).2.1 hL5 hLi)
        clear hL5 hL11
        clear hp hd hdt hLi hJ
        simp only [putAll, Nat.reduceAdd]
        go_wp2_with (go_at_call 19; refine (HDEC.out _ _ _ HBNE.out HBL.out HRD.out).mono ?_; rintro e w2' ⟨rfl, hx⟩; have HX6 := Lib.hid hx; clear hx)
        refine ⟨rfl, ?_, trivial, rfl⟩
        exact HJ.out.step6 HL.out.1 HL.out.2 HX6.out
      · intro vs w1 L hLi hd hdt hJ hp
        have q6 : vs 6 = .tuple #[.agg #[.int .i64 0, .string ⟨#[]⟩, .string ⟨#[]⟩, .int .u32 0, .int .u32 0, .slice none 0 0, .slice none 0 0, .slice none 0 0, .slice none 0 0, .slice none 0 0, .slice none 0 0, .slice none 0 0, .slice none 0 0], .bool false] := hp 6 (by decide)
        have HJ := Lib.hid hJ
        clear hp hd hdt hLi hJ
        simp only [putAll, Nat.reduceAdd]
        go_wp2
        exact ⟨rfl, HJ.out.keep 7 _ (by decide) (by decide) (by decide) (by decide) (by decide), trivial, rfl⟩
      · intro vs w1 L hLi hd hdt hJ hp
        have q7 : vs 7 = .tuple #[.agg #[.int .i64 0, .string ⟨#[]⟩, .string ⟨#[]⟩, .int .u32 0, .int .u32 0, .slice none 0 0, .slice none 0 0, .slice none 0 0, .slice none 0 0, .slice none 0 0, .slice none 0 0, .slice none 0 0, .slice none 0 0], .bool false] := hp 7 (by decide)
        have HJ := Lib.hid hJ
        clear hp hd hdt hLi hJ
        simp only [putAll, Nat.reduceAdd]
        go_wp2
        exact ⟨rfl, HJ.out.keep 8 _ (by decide) (by decide) (by decide) (by decide) (by decide), trivial, rfl⟩
      · intro vs w1 L hLi hd hdt hJ hp
        have q7 : vs 7 = .tuple #[.agg #[.int .i64 0, .string ⟨#[]⟩, .string ⟨#[]⟩, .int .u32 0, .int .u32 0, .slice none 0 0, .slice none 0 0, .slice none 0 0, .slice none 0 0, .slice none 0 0, .slice none 0 0, .slice none 0 0, .slice none 0 0], .bool false] := hp 7 (by decide)
        have HJ := Lib.hid hJ
        clear hp hd hdt hLi hJ
        simp only [putAll, Nat.reduceAdd]
        go_wp2
        exact ⟨rfl, HJ.out.keep 9 _ (by decide) (by decide) (by decide) (by decide) (by decide), trivial, rfl⟩
      · intro vs w1 L hLi hd hdt hJ hp
        have hL11 := hdt 11 (by decide)
        have HJ := Lib.hid hJ
        have HL := Lib.hid (And.intro hLi hL11)
        clear hL11
        clear hp hd hdt hLi hJ
        simp only [putAll, Nat.reduceAdd]
        go_wp2
        refine ⟨rfl, ?_, trivial, trivial⟩
        exact HJ.out.step10 HL.out.1 HL.out.2
      · intro vs w1 L hLi hd hdt hJ hp
        have q0 : vs 0 = .pointer (some ⟨w.heap.size, 0, none⟩) := hp 0 (by decide)
        have q1 : vs 1 = .int .i64 kd := hp 1 (by decide)
        have q2 : vs 2 = .agg #[.int .i64 kd, .string a, .string b, .int .u32 n, .slice A5 lf.length c5, .slice A6 lr.length c6, .slice A7 ty.length c7, .slice B7 vls.length d7, .slice A9 d.length c9, .slice A10 ws.length c10, .slice B10 ps.length d10, .slice B11 fs.length d11] := hp 2 (by decide)
        have q4 : vs 4 = .slice Ab bh.length cb := hp 4 (by decide)
        have q6 : vs 6 = .tuple #[.agg #[.int .i64 0, .string ⟨#[]⟩, .string ⟨#[]⟩, .int .u32 0, .int .u32 0, .slice none 0 0, .slice none 0 0, .slice none 0 0, .slice none 0 0, .slice none 0 0, .slice none 0 0, .slice none 0 0, .slice none 0 0], .bool false] := hp 6 (by decide)
        have q7 : vs 7 = .tuple #[.agg #[.int .i64 0, .string ⟨#[]⟩, .string ⟨#[]⟩, .int .u32 0, .int .u32 0, .slice none 0 0, .slice none 0 0, .slice none 0 0, .slice none 0 0, .slice none 0 0, .slice none 0 0, .slice none 0 0, .slice none 0 0], .bool false] := hp 7 (by decide)
        have q8 : vs 8 = .agg #[.int .i64 0, .string ⟨#[]⟩, .string ⟨#[]⟩, .int .u32 0, .int .u32 0, .slice none 0 0, .slice none 0 0, .slice none 0 0, .slice none 0 0, .slice none 0 0, .slice none 0 0, .slice none 0 0, .slice none 0 0] := hp 8 (by decide)
        have hL10 := hd 10 (by decide)
        have HPB := Lib.hid ((hJ.2 hLi).1 hL10)
        have HE1 := Lib.hid hJ.1
        have hv10 := HPB.out.1
        have HV10 := Lib.hid hv10
        have hz0 := cell_slot HPB.out.2.2 0 (.int .i64 0) rfl
        have hz1 := cell_slot HPB.out.2.2 1 (.string ⟨#[]⟩) rfl
        have hz2 := cell_slot HPB.out.2.2 2 (.string ⟨#[]⟩) rfl
        have hz3 := cell_slot HPB.out.2.2 3 (.int .u32 0) rfl
        have hz4 := cell_slot HPB.out.2.2 4 (.int .u32 0) rfl
        have hz5 := cell_slot HPB.out.2.2 5 (.slice none 0 0) rfl
        have hz6 := cell_slot HPB.out.2.2 6 (.slice none 0 0) rfl
        have hz7 := cell_slot HPB.out.2.2 7 (.slice none 0 0) rfl
        have hz8 := cell_slot HPB.out.2.2 8 (.slice none 0 0) rfl
        have hz9 := cell_slot HPB.out.2.2 9 (.slice none 0 0) rfl
        have hz10 := cell_slot HPB.out.2.2 10 (.slice none 0 0) rfl
        have hz11 := cell_slot HPB.out.2.2 11 (.slice none 0 0) rfl
        have hz12 := cell_slot HPB.out.2.2 12 (.slice none 0 0) rfl
        have hy0 := free_slot HPB.out.2.2 0
        have hy1 := free_slot HPB.out.2.2 1
        have hy2 := free_slot HPB.out.2.2 2
        have hy3 := free_slot HPB.out.2.2 3
        have hy4 := free_slot HPB.out.2.2 4
        have hy5 := free_slot HPB.out.2.2 5
        have hy6 := free_slot HPB.out.2.2 6
        have hy7 := free_slot HPB.out.2.2 7
        have hy8 := free_slot HPB.out.2.2 8
        have hy9 := free_slot HPB.out.2.2 9
        have hy10 := free_slot HPB.out.2.2 10
        have hy11 := free_slot HPB.out.2.2 11
        have hy12 := free_slot HPB.out.2.2 12
        clear hL10 hv10
        clear hp hd hdt hLi hJ
        simp only [putAll, Nat.reduceAdd]
        rw [HV10.out]
        go_wp2
        refine ⟨rfl, ?_, trivial, trivial⟩
        exact LonJ.step11 (((((((((((((HE1.out.set HPB.out.2.1 0 (.int .i64 0)).set HPB.out.2.1 1 (.string ⟨#[]⟩)).set HPB.out.2.1 2 (.string ⟨#[]⟩)).set HPB.out.2.1 3 (.int .u32 0)).set HPB.out.2.1 4 (.int .u32 0)).set HPB.out.2.1 5 (.slice none 0 0)).set HPB.out.2.1 6 (.slice none 0 0)).set HPB.out.2.1 7 (.slice none 0 0)).set HPB.out.2.1 8 (.slice none 0 0)).set HPB.out.2.1 9 (.slice none 0 0)).set HPB.out.2.1 10 (.slice none 0 0)).set HPB.out.2.1 11 (.slice none 0 0)).set HPB.out.2.1 12 (.slice none 0 0)) _
      · intro vs w1 L hLi hd hdt hJ hp
        have q0 : vs 0 = .pointer (some ⟨w.heap.size, 0, none⟩) := hp 0 (by decide)
        have q1 : vs 1 = .int .i64 kd := hp 1 (by decide)
        have q2 : vs 2 = .agg #[.int .i64 kd, .string a, .string b, .int .u32 n, .slice A5 lf.length c5, .slice A6 lr.length c6, .slice A7 ty.length c7, .slice B7 vls.length d7, .slice A9 d.length c9, .slice A10 ws.length c10, .slice B10 ps.length d10, .slice B11 fs.length d11] := hp 2 (by decide)
        have q4 : vs 4 = .slice Ab bh.length cb := hp 4 (by decide)
        have q6 : vs 6 = .tuple #[.agg #[.int .i64 0, .string ⟨#[]⟩, .string ⟨#[]⟩, .int .u32 0, .int .u32 0, .slice none 0 0, .slice none 0 0, .slice none 0 0, .slice none 0 0, .slice none 0 0, .slice none 0 0, .slice none 0 0, .slice none 0 0], .bool false] := hp 6 (by decide)
        have q7 : vs 7 = .tuple #[.agg #[.int .i64 0, .string ⟨#[]⟩, .string ⟨#[]⟩, .int .u32 0, .int .u32 0, .slice none 0 0, .slice none 0 0, .slice none 0 0, .slice none 0 0, .slice none 0 0, .slice none 0 0, .slice none 0 0, .slice none 0 0], .bool false] := hp 7 (by decide)
        have q8 : vs 8 = .agg #[.int .i64 0, .string ⟨#[]⟩, .string ⟨#[]⟩, .int .u32 0, .int .u32 0, .slice none 0 0, .slice none 0 0, .slice none 0 0, .slice none 0 0, .slice none 0 0, .slice none 0 0, .slice none 0 0, .slice none 0 0] := hp 8 (by decide)
        have q9 : vs 9 = .bool false := hp 9 (by decide)
        have HJ := Lib.hid hJ
        clear hp hd hdt hLi hJ
        simp only [putAll, Nat.reduceAdd]
        go_wp2
        exact ⟨rfl, HJ.out.keep 12 _ (by decide) (by decide) (by decide) (by decide) (by decide), trivial, rfl⟩
    · intro vs w1 L hall hJ hp
      have q0 : vs 0 = .pointer (some ⟨w.heap.size, 0, none⟩) := hp 0 (by decide)
      have q1 : vs 1 = .int .i64 kd := hp 1 (by decide)
      have q2 : vs 2 = .agg #[.int .i64 kd, .string a, .string b, .int .u32 n, .slice A5 lf.length c5, .slice A6 lr.length c6, .slice A7 ty.length c7, .slice B7 vls.length d7, .slice A9 d.length c9, .slice A10 ws.length c10, .slice B10 ps.length d10, .slice B11 fs.length d11] := hp 2 (by decide)
      have q4 : vs 4 = .slice Ab bh.length cb := hp 4 (by decide)
      have q6 : vs 6 = .tuple #[.agg #[.int .i64 0, .string ⟨#[]⟩, .string ⟨#[]⟩, .int .u32 0, .int .u32 0, .slice none 0 0, .slice none 0 0, .slice none 0 0, .slice none 0 0, .slice none 0 0, .slice none 0 0, .slice none 0 0, .slice none 0 0], .bool false] := hp 6 (by decide)
      have q7 : vs 7 = .tuple #[.agg #[.int .i64 0, .string ⟨#[]⟩, .string ⟨#[]⟩, .int .u32 0, .int .u32 0, .slice none 0 0, .slice none 0 0, .slice none 0 0, .slice none 0 0, .slice none 0 0, .slice none 0 0, .slice none 0 0, .slice none 0 0], .bool false] := hp 7 (by decide)
      have q8 : vs 8 = .agg #[.int .i64 0, .string ⟨#[]⟩, .string ⟨#[]⟩, .int .u32 0, .int .u32 0, .slice none 0 0, .slice none 0 0, .slice none 0 0, .slice none 0 0, .slice none 0 0, .slice none 0 0, .slice none 0 0, .slice none 0 0] := hp 8 (by decide)
      have q9 : vs 9 = .bool false := hp 9 (by decide)
      have q12 : vs 12 = .bool false := hp 12 (by decide)
      have HE6 := Lib.hid hJ.1
      clear hJ hp hall
      simp only [putAll, Nat.reduceAdd]
      simp only [Exit.then]
      go_at_K
      simp only [Act.put, q0, q1, q2, q4, q6, q7, q8, q9, q12, List.setIfInBounds_toArray, List.set_cons_zero, List.set_cons_succ]
      go_wp2_with (go_at_call 13; refine (works13 _).mono ?_; rintro e w5 ⟨rfl, hx5⟩; have HX5 := Lib.hid hx5; clear hx5)
      go_ret
      exact ⟨rfl, ((ext_alloc w _).trans HE3.out).trans (HE6.out.trans HX5.out)⟩
end Go.Proofs.YtdenjanihikolaaGreatDoor
