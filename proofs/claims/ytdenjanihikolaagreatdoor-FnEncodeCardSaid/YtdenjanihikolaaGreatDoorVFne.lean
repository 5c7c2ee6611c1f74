/- FnEncode's walk. -/
import Derived.Test.YtdenjanihikolaaGreatDoorVEnf
import Derived.Test.YtdenjanihikolaaGreatDoorVMsf
import Derived.Test.YtdenjanihikolaaGreatDoorVFit
import Derived.Test.YtdenjanihikolaaGreatDoorVPla
import Derived.Test.YtdenjanihikolaaGreatDoorVOpn
namespace Go.Proofs.YtdenjanihikolaaGreatDoor
open Go.RowKit Og
set_option linter.unusedVariables false
set_option linter.unusedSimpArgs false

/-- bytes that stay readable -/
def spRd (R : List Int) : Sp Ext := ⟨fun v w => RdB w v R, fun _ _ _ h k => k.ext h⟩

set_option maxRecDepth 100000 in
set_option maxHeartbeats 2000000 in
theorem encode3 (a b : ByteArray) (kd n mm : Int) (A5 A6 A7 A8 A9 A10 A11 A12 : Option Addr) (c5 c6 c7 c8 c9 c10 c11 c12 : Nat) (lf lr ty d : List Int) (vls : List (Bool × List Int)) (ws : List ByteArray) (ps : List (ByteArray × ByteArray)) (fs : List Sf) (w : World)
    (hm : MsgIn w (.agg #[.int .i64 kd, .string a, .string b, .int .u32 n, .int .u32 mm, .slice A5 lf.length c5, .slice A6 lr.length c6, .slice A7 ty.length c7, .slice A8 vls.length c8, .slice A9 d.length c9, .slice A10 ws.length c10, .slice A11 ps.length c11, .slice A12 fs.length c12]) a b kd n mm A5 A6 A7 A8 A9 A10 A11 A12 c5 c6 c7 c8 c9 c10 c11 c12 lf lr ty d vls ws ps fs) :
    Calls Tryz.prog 3 #[.agg #[.int .i64 kd, .string a, .string b, .int .u32 n, .int .u32 mm, .slice A5 lf.length c5, .slice A6 lr.length c6, .slice A7 ty.length c7, .slice A8 vls.length c8, .slice A9 d.length c9, .slice A10 ws.length c10, .slice A11 ps.length c11, .slice A12 fs.length c12]] w (fun e w' => e = .returned (.bool true) ∧ Ext w w') := by
  have HM := Lib.hid hm
  have H5 := Lib.hid hm.rf
  have H6 := Lib.hid hm.rr
  have H8 := Lib.hid hm.rv
  have H10 := Lib.hid hm.rw
  have H11 := Lib.hid hm.rp
  have H12 := Lib.hid hm.rl
  clear hm
  have hm0 : True := trivial
  have hm1 : True := trivial
  have hm2 : True := trivial
  have hm3 : True := trivial
  have hm4 : True := trivial
  have hm5 : True := trivial
  have hm6 : True := trivial
  have hm7 : True := trivial
  have hm8 : True := trivial
  have hm9 : True := trivial
  have hm10 : True := trivial
  have hm11 : True := trivial
  have hm12 : True := trivial
  cases hst : turnedQ kd
  · go_enter Tryz.func3, Tryz.ntmps3
    go_wp2_with (first | (go_at_call 9; refine (fit1 a b _ _ _ A5 A6 A7 A8 A9 A10 A11 A12 c5 c6 c7 c8 c9 c10 c11 c12 lf lr ty d vls ws ps fs _ (H8.out.ext (ext_alloc w _) (isVal.ext (ext_alloc w _))) (H10.out.ext (ext_alloc w _) (fun _ _ h => h)) (H11.out.ext (ext_alloc w _) (fun _ _ h => h)) (H12.out.ext (ext_alloc w _) (fun _ _ h => h))).mono ?_; rintro e w1 ⟨bo, rfl, hbo, hbx⟩; have HE := Lib.hid hbx; have HS := Lib.hid hbo; clear hbo hbx; clear hm0; have hm0 := box_at HE.out 0 (.int .i64 kd) rfl; clear hm1; have hm1 := box_at HE.out 1 (.string a) rfl; clear hm2; have hm2 := box_at HE.out 2 (.string b) rfl; clear hm3; have hm3 := box_at HE.out 3 (.int .u32 n) rfl; clear hm4; have hm4 := box_at HE.out 4 (.int .u32 mm) rfl; clear hm5; have hm5 := box_at HE.out 5 (.slice A5 lf.length c5) rfl; clear hm6; have hm6 := box_at HE.out 6 (.slice A6 lr.length c6) rfl; clear hm7; have hm7 := box_at HE.out 7 (.slice A7 ty.length c7) rfl; clear hm8; have hm8 := box_at HE.out 8 (.slice A8 vls.length c8) rfl; clear hm9; have hm9 := box_at HE.out 9 (.slice A9 d.length c9) rfl; clear hm10; have hm10 := box_at HE.out 10 (.slice A10 ws.length c10) rfl; clear hm11; have hm11 := box_at HE.out 11 (.slice A11 ps.length c11) rfl; clear hm12; have hm12 := box_at HE.out 12 (.slice A12 fs.length c12) rfl; cases bo) | (go_at_call 10; refine msg10 a b kd n mm A5 A6 A7 A9 A10 A8 A11 A12 lf.length lr.length ty.length d.length ws.length c5 c6 c7 c9 c10 c8 c11 c12 vls ps fs _ (H8.out.ext ((ext_alloc w _).trans HE.out) (isVal.ext ((ext_alloc w _).trans HE.out))) (H11.out.ext ((ext_alloc w _).trans HE.out) (fun _ _ h => h)) (H12.out.ext ((ext_alloc w _).trans HE.out) (fun _ _ h => h)) (HS.out trivial).2.2.2.2.2.2.1.1 (HS.out trivial).2.2.2.2.2.2.2.2.1.1 (HS.out trivial).2.2.2.2.2.2.2.2.2.1 _ ?_; intro w2 B7 d7 B10 d10 B11 d11 hx2 hr7 hr10 hr11; have HE2 := Lib.hid (HE.out.trans hx2); have HR7 := Lib.hid hr7; have HR10 := Lib.hid hr10; have HR11 := Lib.hid hr11; clear hx2 hr7 hr10 hr11; clear hm0; have hm0 := box_at HE2.out 0 (.int .i64 kd) rfl; clear hm1; have hm1 := box_at HE2.out 1 (.string a) rfl; clear hm2; have hm2 := box_at HE2.out 2 (.string b) rfl; clear hm3; have hm3 := box_at HE2.out 3 (.int .u32 n) rfl; clear hm4; have hm4 := box_at HE2.out 4 (.int .u32 mm) rfl; clear hm5; have hm5 := box_at HE2.out 5 (.slice A5 lf.length c5) rfl; clear hm6; have hm6 := box_at HE2.out 6 (.slice A6 lr.length c6) rfl; clear hm7; have hm7 := box_at HE2.out 7 (.slice A7 ty.length c7) rfl; clear hm8; have hm8 := box_at HE2.out 8 (.slice A8 vls.length c8) rfl; clear hm9; have hm9 := box_at HE2.out 9 (.slice A9 d.length c9) rfl; clear hm10; have hm10 := box_at HE2.out 10 (.slice A10 ws.length c10) rfl; clear hm11; have hm11 := box_at HE2.out 11 (.slice A11 ps.length c11) rfl; clear hm12; have hm12 := box_at HE2.out 12 (.slice A12 fs.length c12) rfl; ) | (go_at_call 11; refine (proper11 a b kd n A5 A6 A7 B7 A9 A10 B10 B11 c5 c6 c7 d7 c9 c10 d10 d11 lf lr ty d vls ws ps fs _ (H5.out.ext ((ext_alloc w _).trans ((HE2.out.alloc (.cells #[.int .i64 kd, .string a, .string b, .int .u32 n, .slice A5 lf.length c5, .slice A6 lr.length c6, .slice A7 ty.length c7, .slice B7 vls.length d7, .slice A9 d.length c9, .slice A10 ws.length c10, .slice B10 ps.length d10, .slice B11 fs.length d11] 37))))) (H6.out.ext ((ext_alloc w _).trans ((HE2.out.alloc (.cells #[.int .i64 kd, .string a, .string b, .int .u32 n, .slice A5 lf.length c5, .slice A6 lr.length c6, .slice A7 ty.length c7, .slice B7 vls.length d7, .slice A9 d.length c9, .slice A10 ws.length c10, .slice B10 ps.length d10, .slice B11 fs.length d11] 37))))) (HR7.out.ext (ext_alloc _ _) (isVal.ext (ext_alloc _ _))) (H10.out.ext ((ext_alloc w _).trans ((HE2.out.alloc (.cells #[.int .i64 kd, .string a, .string b, .int .u32 n, .slice A5 lf.length c5, .slice A6 lr.length c6, .slice A7 ty.length c7, .slice B7 vls.length d7, .slice A9 d.length c9, .slice A10 ws.length c10, .slice B10 ps.length d10, .slice B11 fs.length d11] 37)))) (fun _ _ h => h)) (HR10.out.ext (ext_alloc _ _) (fun _ _ h => h)) (HR11.out.ext (ext_alloc _ _) (fun _ _ h => h)) (HS.out trivial).1 (HS.out trivial).2.1 (HS.out trivial).2.2.1 (HS.out trivial).2.2.2.1 (HS.out trivial).2.2.2.2.1 (HS.out trivial).2.2.2.2.2.2.1.1 (HS.out trivial).2.2.2.2.2.1 (HS.out trivial).2.2.2.2.2.2.2.1.1 (HS.out trivial).2.2.2.2.2.2.2.1.2 (HS.out trivial).2.2.2.2.2.2.2.2.1.1 (HS.out trivial).2.2.2.2.2.2.2.2.1.2 (HS.out trivial).2.2.2.2.2.2.2.2.2.1 (HS.out trivial).2.2.2.2.2.2.2.2.2.2).mono ?_; rintro e w3 ⟨bp, rfl, hbp, hbx⟩; have HX3 := Lib.hid hbx; have HP := Lib.hid hbp; clear hbp hbx; have HE3 := Lib.hid (((HE2.out.alloc (.cells #[.int .i64 kd, .string a, .string b, .int .u32 n, .slice A5 lf.length c5, .slice A6 lr.length c6, .slice A7 ty.length c7, .slice B7 vls.length d7, .slice A9 d.length c9, .slice A10 ws.length c10, .slice B10 ps.length d10, .slice B11 fs.length d11] 37))).trans HX3.out); clear hm0; have hm0 := box_at HE3.out 0 (.int .i64 kd) rfl; clear hm1; have hm1 := box_at HE3.out 1 (.string a) rfl; clear hm2; have hm2 := box_at HE3.out 2 (.string b) rfl; clear hm3; have hm3 := box_at HE3.out 3 (.int .u32 n) rfl; clear hm4; have hm4 := box_at HE3.out 4 (.int .u32 mm) rfl; clear hm5; have hm5 := box_at HE3.out 5 (.slice A5 lf.length c5) rfl; clear hm6; have hm6 := box_at HE3.out 6 (.slice A6 lr.length c6) rfl; clear hm7; have hm7 := box_at HE3.out 7 (.slice A7 ty.length c7) rfl; clear hm8; have hm8 := box_at HE3.out 8 (.slice A8 vls.length c8) rfl; clear hm9; have hm9 := box_at HE3.out 9 (.slice A9 d.length c9) rfl; clear hm10; have hm10 := box_at HE3.out 10 (.slice A10 ws.length c10) rfl; clear hm11; have hm11 := box_at HE3.out 11 (.slice A11 ps.length c11) rfl; clear hm12; have hm12 := box_at HE3.out 12 (.slice A12 fs.length c12) rfl; cases bp) | (go_at_call 12; refine (turned12 kd _).mono ?_; rintro e w4 ⟨rfl, hw4⟩; subst hw4; rw [hst]) | (go_at_call 13; refine (works13 _).mono ?_; rintro e w5 ⟨rfl, hx5⟩; have HX5 := Lib.hid hx5; clear hx5) | (go_at_call 14; obtain ⟨R, h14, h15⟩ := encodes kd a b n mm A5 A6 A7 A8 A9 A10 A11 A12 B7 B10 B11 c5 c6 c7 c8 c9 c10 c11 c12 d7 d10 d11 lf lr ty d vls ws ps fs _ _ (HM.out.ext ((ext_alloc w _).trans HE3.out)) (HP.out trivial) hst (H5.out.ext ((ext_alloc w _).trans HE3.out)) (H6.out.ext ((ext_alloc w _).trans HE3.out)) (HM.out.rt.ext ((ext_alloc w _).trans HE3.out)) (HR7.out.ext ((ext_alloc w2 _).trans HX3.out) (isVal.ext ((ext_alloc w2 _).trans HX3.out))) (HM.out.rd.ext ((ext_alloc w _).trans HE3.out)) (H10.out.ext ((ext_alloc w _).trans HE3.out) (fun _ _ h => h)) (fun hk57 => en57 a b n mm A5 A6 A7 A8 A9 A10 A11 A12 B7 B10 B11 c5 c6 c7 c8 c9 c10 c11 c12 d7 d10 d11 lf lr ty d vls ws ps fs _ _ (H12.out.ext ((ext_alloc w _).trans HE3.out) (fun _ _ h => h)) (HP.out trivial).cols.1 (fun y hy => by have h1 := (HP.out trivial).cols.2 y hy; have h2 := HM.out.fs y hy; exact ⟨h1.1.1, h2.1, h2.2.1, h2.2.2.1, h2.2.2.2, h1.2⟩) (HR11.out.ext ((ext_alloc w2 _).trans HX3.out) (fun _ _ h => h))); have H15 := Lib.hid h15; refine h14.mono ?_; rintro e w4 ⟨AR, cR, rfl, hx4, hr4⟩; have HX4 := Lib.hid hx4; have HR4 := Lib.hid hr4; clear h15 h14 hx4 hr4))
    all_goals first
      | first | (go_ret; exact ⟨rfl, ((ext_alloc w _).trans HE3.out).trans HX5.out⟩) | (go_ret; exact ⟨rfl, ((ext_alloc w _).trans HE3.out)⟩) | (go_ret; exact ⟨rfl, (ext_alloc w _).trans HE.out⟩)
      | skip
    have BX := Lib.hid ((HX3.out.trans HX4.out).block w2.heap.size (by simp) |>.trans (heap_alloc_new w2 (.cells #[.int .i64 kd, .string a, .string b, .int .u32 n, .slice A5 lf.length c5, .slice A6 lr.length c6, .slice A7 ty.length c7, .slice B7 vls.length d7, .slice A9 d.length c9, .slice A10 ws.length c10, .slice B10 ps.length d10, .slice B11 fs.length d11] 37)))
    clear hm0 hm1 hm2 hm3 hm4 hm5 hm6 hm7 hm8 hm9 hm10 hm11 hm12
    refine wp_region_og (J := fun x => Ext w4 x) (R := Ext) [Sp.eq _ (.bool true), Sp.eq _ (.bool true), Sp.eq _ (.slice AR R.length cR), Sp.eq _ (.string (strOf R)), Sp.eq _ (.agg #[.int .i64 kd, .string a, .string b, .int .u32 n, .slice A5 lf.length c5, .slice A6 lr.length c6, .slice A7 ty.length c7, .slice B7 vls.length d7, .slice A9 d.length c9, .slice A10 ws.length c10, .slice B10 ps.length d10, .slice B11 fs.length d11]), spRd R, Sp.eq _ (.string (strOf R)), Sp.eq _ (.bool true), Sp.eq _ (.bool true), Sp.eq _ (.bool true), Sp.eq _ (.bool true), Sp.eq _ (.bool true), Sp.eq _ (.bool true)] (by kernel_rfl) (by kernel_rfl) (by kernel_rfl) (by kernel_rfl) ?_ ?_ ?_
    · exact (Ext.refl w4).drew
    · refine ⟨?_, ?_, ?_, ?_, ?_, ?_, ?_, ?_, ?_, ?_, ?_, ?_, ?_, trivial⟩
      · intro vs w1 hJ hp
        have HJ := Lib.hid hJ
        clear hp hJ
        simp only [putAll, Nat.reduceAdd]
        go_wp2
        exact ⟨rfl, HJ.out, Ext.refl _, rfl⟩
      · intro vs w1 hJ hp
        have q0 : vs 0 = .bool true := hp 0 (by decide)
        have HJ := Lib.hid hJ
        clear hp hJ
        simp only [putAll, Nat.reduceAdd]
        go_wp2
        exact ⟨rfl, HJ.out, Ext.refl _, rfl⟩
      · intro vs w1 hJ hp
        have q1 : vs 1 = .bool true := hp 1 (by decide)
        have HJ := Lib.hid hJ
        clear hp hJ
        simp only [putAll, Nat.reduceAdd]
        go_wp2
        exact ⟨rfl, HJ.out, Ext.refl _, rfl⟩
      · intro vs w1 hJ hp
        have q1 : vs 1 = .bool true := hp 1 (by decide)
        have q2 : vs 2 = .slice AR R.length cR := hp 2 (by decide)
        have HJ := Lib.hid hJ
        have hcv : (convert 26 9 (.slice AR R.length cR)).run Tryz.prog w1 = .ok (.string (strOf R)) w1 := conv_rd (HR4.out.ext hJ)
        clear hp hJ
        simp only [putAll, Nat.reduceAdd]
        go_wp2
        exact ⟨rfl, HJ.out, Ext.refl _, rfl⟩
      · intro vs w1 hJ hp
        have q1 : vs 1 = .bool true := hp 1 (by decide)
        have HJ := Lib.hid hJ
        have hq0' := hJ.cell (cell_slot BX.out 0 (.int .i64 kd) rfl)
        have hq1' := hJ.cell (cell_slot BX.out 1 (.string a) rfl)
        have hq2' := hJ.cell (cell_slot BX.out 2 (.string b) rfl)
        have hq3' := hJ.cell (cell_slot BX.out 3 (.int .u32 n) rfl)
        have hq4' := hJ.cell (cell_slot BX.out 4 (.slice A5 lf.length c5) rfl)
        have hq5' := hJ.cell (cell_slot BX.out 5 (.slice A6 lr.length c6) rfl)
        have hq6' := hJ.cell (cell_slot BX.out 6 (.slice A7 ty.length c7) rfl)
        have hq7' := hJ.cell (cell_slot BX.out 7 (.slice B7 vls.length d7) rfl)
        have hq8' := hJ.cell (cell_slot BX.out 8 (.slice A9 d.length c9) rfl)
        have hq9' := hJ.cell (cell_slot BX.out 9 (.slice A10 ws.length c10) rfl)
        have hq10' := hJ.cell (cell_slot BX.out 10 (.slice B10 ps.length d10) rfl)
        have hq11' := hJ.cell (cell_slot BX.out 11 (.slice B11 fs.length d11) rfl)
        clear hp hJ
        simp only [putAll, Nat.reduceAdd]
        go_wp2
        exact ⟨rfl, HJ.out, Ext.refl _, rfl⟩
      · intro vs w1 hJ hp
        have q1 : vs 1 = .bool true := hp 1 (by decide)
        have q4 : vs 4 = .agg #[.int .i64 kd, .string a, .string b, .int .u32 n, .slice A5 lf.length c5, .slice A6 lr.length c6, .slice A7 ty.length c7, .slice B7 vls.length d7, .slice A9 d.length c9, .slice A10 ws.length c10, .slice B10 ps.length d10, .slice B11 fs.length d11] := hp 4 (by decide)
        have HJ := Lib.hid hJ
        clear hp hJ
        simp only [putAll, Nat.reduceAdd]
        go_wp2_with (go_at_call 15; refine (H15.out _ (HX4.out.trans HJ.out)).mono ?_; rintro e w2' hg; obtain ⟨A', c', rfl, hx, hr⟩ := hg.elim; have HX' := Lib.hid hx; have HR' := Lib.hid hr; clear hx hr hg)
        exact ⟨rfl, HJ.out.trans HX'.out, HX'.out, HR'.out⟩
      · intro vs w1 hJ hp
        have q1 : vs 1 = .bool true := hp 1 (by decide)
        have q5 : RdB w1 (vs 5) R := hp 5 (by decide)
        have HJ := Lib.hid hJ
        have hcv : (convert 26 9 (vs 5)).run Tryz.prog w1 = .ok (.string (strOf R)) w1 := conv_rd q5
        clear q5
        clear hp hJ
        simp only [putAll, Nat.reduceAdd]
        go_wp2
        exact ⟨rfl, HJ.out, Ext.refl _, rfl⟩
      · intro vs w1 hJ hp
        have q1 : vs 1 = .bool true := hp 1 (by decide)
        have q3 : vs 3 = .string (strOf R) := hp 3 (by decide)
        have q6 : vs 6 = .string (strOf R) := hp 6 (by decide)
        have HJ := Lib.hid hJ
        clear hp hJ
        simp only [putAll, Nat.reduceAdd]
        go_wp2
        exact ⟨rfl, HJ.out, Ext.refl _, rfl⟩
      · intro vs w1 hJ hp
        have q1 : vs 1 = .bool true := hp 1 (by decide)
        have q7 : vs 7 = .bool true := hp 7 (by decide)
        have HJ := Lib.hid hJ
        clear hp hJ
        simp only [putAll, Nat.reduceAdd]
        go_wp2
        exact ⟨rfl, HJ.out, Ext.refl _, rfl⟩
      · intro vs w1 hJ hp
        have q5 : RdB w1 (vs 5) R := hp 5 (by decide)
        have q8 : vs 8 = .bool true := hp 8 (by decide)
        have HJ := Lib.hid hJ
        clear q5
        clear hp hJ
        simp only [putAll, Nat.reduceAdd]
        go_wp2
        exact ⟨rfl, HJ.out, Ext.refl _, rfl⟩
      · intro vs w1 hJ hp
        have q9 : vs 9 = .bool true := hp 9 (by decide)
        have HJ := Lib.hid hJ
        clear hp hJ
        simp only [putAll, Nat.reduceAdd]
        go_wp2_with (go_at_call 13; refine (works13 _).mono ?_; rintro e w5 ⟨rfl, hx5⟩; have HX5 := Lib.hid hx5; clear hx5)
        exact ⟨rfl, HJ.out.trans HX5.out, HX5.out, rfl⟩
      · intro vs w1 hJ hp
        have q9 : vs 9 = .bool true := hp 9 (by decide)
        have q10 : vs 10 = .bool true := hp 10 (by decide)
        have HJ := Lib.hid hJ
        clear hp hJ
        simp only [putAll, Nat.reduceAdd]
        go_wp2
        exact ⟨rfl, HJ.out, Ext.refl _, rfl⟩
      · intro vs w1 hJ hp
        have q0 : vs 0 = .bool true := hp 0 (by decide)
        have q1 : vs 1 = .bool true := hp 1 (by decide)
        have q2 : vs 2 = .slice AR R.length cR := hp 2 (by decide)
        have q3 : vs 3 = .string (strOf R) := hp 3 (by decide)
        have q4 : vs 4 = .agg #[.int .i64 kd, .string a, .string b, .int .u32 n, .slice A5 lf.length c5, .slice A6 lr.length c6, .slice A7 ty.length c7, .slice B7 vls.length d7, .slice A9 d.length c9, .slice A10 ws.length c10, .slice B10 ps.length d10, .slice B11 fs.length d11] := hp 4 (by decide)
        have q5 : RdB w1 (vs 5) R := hp 5 (by decide)
        have q6 : vs 6 = .string (strOf R) := hp 6 (by decide)
        have q7 : vs 7 = .bool true := hp 7 (by decide)
        have q8 : vs 8 = .bool true := hp 8 (by decide)
        have q9 : vs 9 = .bool true := hp 9 (by decide)
        have q10 : vs 10 = .bool true := hp 10 (by decide)
        have q11 : vs 11 = .bool true := hp 11 (by decide)
        have HJ := Lib.hid hJ
        clear q5
        clear hp hJ
        simp only [putAll, Nat.reduceAdd]
        go_wp2
        exact ⟨rfl, HJ.out, Ext.refl _, rfl⟩
    · intro vs w1 hJ hp
      have q0 : vs 0 = .bool true := hp 0 (by decide)
      have q1 : vs 1 = .bool true := hp 1 (by decide)
      have q2 : vs 2 = .slice AR R.length cR := hp 2 (by decide)
      have q3 : vs 3 = .string (strOf R) := hp 3 (by decide)
      have q4 : vs 4 = .agg #[.int .i64 kd, .string a, .string b, .int .u32 n, .slice A5 lf.length c5, .slice A6 lr.length c6, .slice A7 ty.length c7, .slice B7 vls.length d7, .slice A9 d.length c9, .slice A10 ws.length c10, .slice B10 ps.length d10, .slice B11 fs.length d11] := hp 4 (by decide)
      have q6 : vs 6 = .string (strOf R) := hp 6 (by decide)
      have q7 : vs 7 = .bool true := hp 7 (by decide)
      have q8 : vs 8 = .bool true := hp 8 (by decide)
      have q9 : vs 9 = .bool true := hp 9 (by decide)
      have q10 : vs 10 = .bool true := hp 10 (by decide)
      have q11 : vs 11 = .bool true := hp 11 (by decide)
      have q12 : vs 12 = .bool true := hp 12 (by decide)
      have HJ := Lib.hid hJ
      clear hJ hp
      simp only [putAll, Nat.reduceAdd]
      simp only [Exit.then]
      go_at_K
      simp only [Act.put, q0, q1, q2, q3, q4, q6, q7, q8, q9, q10, q11, q12, List.setIfInBounds_toArray, List.set_cons_zero, List.set_cons_succ]
      go_wp2
      go_ret
      exact ⟨rfl, (((ext_alloc w _).trans HE3.out).trans HX4.out).trans HJ.out⟩
  · go_enter Tryz.func3, Tryz.ntmps3
    go_wp2_with (first | (go_at_call 9; refine (fit1 a b _ _ _ A5 A6 A7 A8 A9 A10 A11 A12 c5 c6 c7 c8 c9 c10 c11 c12 lf lr ty d vls ws ps fs _ (H8.out.ext (ext_alloc w _) (isVal.ext (ext_alloc w _))) (H10.out.ext (ext_alloc w _) (fun _ _ h => h)) (H11.out.ext (ext_alloc w _) (fun _ _ h => h)) (H12.out.ext (ext_alloc w _) (fun _ _ h => h))).mono ?_; rintro e w1 ⟨bo, rfl, hbo, hbx⟩; have HE := Lib.hid hbx; have HS := Lib.hid hbo; clear hbo hbx; clear hm0; have hm0 := box_at HE.out 0 (.int .i64 kd) rfl; clear hm1; have hm1 := box_at HE.out 1 (.string a) rfl; clear hm2; have hm2 := box_at HE.out 2 (.string b) rfl; clear hm3; have hm3 := box_at HE.out 3 (.int .u32 n) rfl; clear hm4; have hm4 := box_at HE.out 4 (.int .u32 mm) rfl; clear hm5; have hm5 := box_at HE.out 5 (.slice A5 lf.length c5) rfl; clear hm6; have hm6 := box_at HE.out 6 (.slice A6 lr.length c6) rfl; clear hm7; have hm7 := box_at HE.out 7 (.slice A7 ty.length c7) rfl; clear hm8; have hm8 := box_at HE.out 8 (.slice A8 vls.length c8) rfl; clear hm9; have hm9 := box_at HE.out 9 (.slice A9 d.length c9) rfl; clear hm10; have hm10 := box_at HE.out 10 (.slice A10 ws.length c10) rfl; clear hm11; have hm11 := box_at HE.out 11 (.slice A11 ps.length c11) rfl; clear hm12; have hm12 := box_at HE.out 12 (.slice A12 fs.length c12) rfl; cases bo) | (go_at_call 10; refine msg10 a b kd n mm A5 A6 A7 A9 A10 A8 A11 A12 lf.length lr.length ty.length d.length ws.length c5 c6 c7 c9 c10 c8 c11 c12 vls ps fs _ (H8.out.ext ((ext_alloc w _).trans HE.out) (isVal.ext ((ext_alloc w _).trans HE.out))) (H11.out.ext ((ext_alloc w _).trans HE.out) (fun _ _ h => h)) (H12.out.ext ((ext_alloc w _).trans HE.out) (fun _ _ h => h)) (HS.out trivial).2.2.2.2.2.2.1.1 (HS.out trivial).2.2.2.2.2.2.2.2.1.1 (HS.out trivial).2.2.2.2.2.2.2.2.2.1 _ ?_; intro w2 B7 d7 B10 d10 B11 d11 hx2 hr7 hr10 hr11; have HE2 := Lib.hid (HE.out.trans hx2); have HR7 := Lib.hid hr7; have HR10 := Lib.hid hr10; have HR11 := Lib.hid hr11; clear hx2 hr7 hr10 hr11; clear hm0; have hm0 := box_at HE2.out 0 (.int .i64 kd) rfl; clear hm1; have hm1 := box_at HE2.out 1 (.string a) rfl; clear hm2; have hm2 := box_at HE2.out 2 (.string b) rfl; clear hm3; have hm3 := box_at HE2.out 3 (.int .u32 n) rfl; clear hm4; have hm4 := box_at HE2.out 4 (.int .u32 mm) rfl; clear hm5; have hm5 := box_at HE2.out 5 (.slice A5 lf.length c5) rfl; clear hm6; have hm6 := box_at HE2.out 6 (.slice A6 lr.length c6) rfl; clear hm7; have hm7 := box_at HE2.out 7 (.slice A7 ty.length c7) rfl; clear hm8; have hm8 := box_at HE2.out 8 (.slice A8 vls.length c8) rfl; clear hm9; have hm9 := box_at HE2.out 9 (.slice A9 d.length c9) rfl; clear hm10; have hm10 := box_at HE2.out 10 (.slice A10 ws.length c10) rfl; clear hm11; have hm11 := box_at HE2.out 11 (.slice A11 ps.length c11) rfl; clear hm12; have hm12 := box_at HE2.out 12 (.slice A12 fs.length c12) rfl; ) | (go_at_call 11; refine (proper11 a b kd n A5 A6 A7 B7 A9 A10 B10 B11 c5 c6 c7 d7 c9 c10 d10 d11 lf lr ty d vls ws ps fs _ (H5.out.ext ((ext_alloc w _).trans ((HE2.out.alloc (.cells #[.int .i64 kd, .string a, .string b, .int .u32 n, .slice A5 lf.length c5, .slice A6 lr.length c6, .slice A7 ty.length c7, .slice B7 vls.length d7, .slice A9 d.length c9, .slice A10 ws.length c10, .slice B10 ps.length d10, .slice B11 fs.length d11] 37))))) (H6.out.ext ((ext_alloc w _).trans ((HE2.out.alloc (.cells #[.int .i64 kd, .string a, .string b, .int .u32 n, .slice A5 lf.length c5, .slice A6 lr.length c6, .slice A7 ty.length c7, .slice B7 vls.length d7, .slice A9 d.length c9, .slice A10 ws.length c10, .slice B10 ps.length d10, .slice B11 fs.length d11] 37))))) (HR7.out.ext (ext_alloc _ _) (isVal.ext (ext_alloc _ _))) (H10.out.ext ((ext_alloc w _).trans ((HE2.out.alloc (.cells #[.int .i64 kd, .string a, .string b, .int .u32 n, .slice A5 lf.length c5, .slice A6 lr.length c6, .slice A7 ty.length c7, .slice B7 vls.length d7, .slice A9 d.length c9, .slice A10 ws.length c10, .slice B10 ps.length d10, .slice B11 fs.length d11] 37)))) (fun _ _ h => h)) (HR10.out.ext (ext_alloc _ _) (fun _ _ h => h)) (HR11.out.ext (ext_alloc _ _) (fun _ _ h => h)) (HS.out trivial).1 (HS.out trivial).2.1 (HS.out trivial).2.2.1 (HS.out trivial).2.2.2.1 (HS.out trivial).2.2.2.2.1 (HS.out trivial).2.2.2.2.2.2.1.1 (HS.out trivial).2.2.2.2.2.1 (HS.out trivial).2.2.2.2.2.2.2.1.1 (HS.out trivial).2.2.2.2.2.2.2.1.2 (HS.out trivial).2.2.2.2.2.2.2.2.1.1 (HS.out trivial).2.2.2.2.2.2.2.2.1.2 (HS.out trivial).2.2.2.2.2.2.2.2.2.1 (HS.out trivial).2.2.2.2.2.2.2.2.2.2).mono ?_; rintro e w3 ⟨bp, rfl, hbp, hbx⟩; have HX3 := Lib.hid hbx; have HP := Lib.hid hbp; clear hbp hbx; have HE3 := Lib.hid (((HE2.out.alloc (.cells #[.int .i64 kd, .string a, .string b, .int .u32 n, .slice A5 lf.length c5, .slice A6 lr.length c6, .slice A7 ty.length c7, .slice B7 vls.length d7, .slice A9 d.length c9, .slice A10 ws.length c10, .slice B10 ps.length d10, .slice B11 fs.length d11] 37))).trans HX3.out); clear hm0; have hm0 := box_at HE3.out 0 (.int .i64 kd) rfl; clear hm1; have hm1 := box_at HE3.out 1 (.string a) rfl; clear hm2; have hm2 := box_at HE3.out 2 (.string b) rfl; clear hm3; have hm3 := box_at HE3.out 3 (.int .u32 n) rfl; clear hm4; have hm4 := box_at HE3.out 4 (.int .u32 mm) rfl; clear hm5; have hm5 := box_at HE3.out 5 (.slice A5 lf.length c5) rfl; clear hm6; have hm6 := box_at HE3.out 6 (.slice A6 lr.length c6) rfl; clear hm7; have hm7 := box_at HE3.out 7 (.slice A7 ty.length c7) rfl; clear hm8; have hm8 := box_at HE3.out 8 (.slice A8 vls.length c8) rfl; clear hm9; have hm9 := box_at HE3.out 9 (.slice A9 d.length c9) rfl; clear hm10; have hm10 := box_at HE3.out 10 (.slice A10 ws.length c10) rfl; clear hm11; have hm11 := box_at HE3.out 11 (.slice A11 ps.length c11) rfl; clear hm12; have hm12 := box_at HE3.out 12 (.slice A12 fs.length c12) rfl; cases bp) | (go_at_call 12; refine (turned12 kd _).mono ?_; rintro e w4 ⟨rfl, hw4⟩; subst hw4; rw [hst]) | (go_at_call 13; refine (works13 _).mono ?_; rintro e w5 ⟨rfl, hx5⟩; have HX5 := Lib.hid hx5; clear hx5))
    all_goals first | (go_ret; exact ⟨rfl, ((ext_alloc w _).trans HE3.out).trans HX5.out⟩) | (go_ret; exact ⟨rfl, ((ext_alloc w _).trans HE3.out)⟩) | (go_ret; exact ⟨rfl, (ext_alloc w _).trans HE.out⟩)
end Go.Proofs.YtdenjanihikolaaGreatDoor

