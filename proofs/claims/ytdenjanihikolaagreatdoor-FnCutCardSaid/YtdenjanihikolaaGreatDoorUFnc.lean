/- FnCut's walk. -/
import Derived.Test.YtdenjanihikolaaGreatDoorUCls
import Derived.Test.YtdenjanihikolaaGreatDoorUMsf
import Derived.Test.YtdenjanihikolaaGreatDoorUFit
import Derived.Test.YtdenjanihikolaaGreatDoorUOpn
namespace Go.Proofs.YtdenjanihikolaaGreatDoor
open Go.RowKit Og
set_option linter.unusedVariables false
set_option linter.unusedSimpArgs false

def ptrC : Value → Nat
  | .pointer (some a) => a.block
  | _ => 0
/-- Where the region that decodes the cut body stands: 9 the variable, 10 its store. -/
structure CutJ (W0 : World) (L : Nat → Bool) (vs : Nat → Value) (w : World) : Prop where
  X : Ext W0 w
  P : L 9 = true → L 10 = false → vs 9 = .pointer (some ⟨ptrC (vs 9), 0, none⟩) ∧ W0.heap.size ≤ ptrC (vs 9) ∧ w.heap[ptrC (vs 9)]? = some (.cells #[.int .i64 0, .string ⟨#[]⟩, .string ⟨#[]⟩, .int .u32 0, .int .u32 0, .slice none 0 0, .slice none 0 0, .slice none 0 0, .slice none 0 0, .slice none 0 0, .slice none 0 0, .slice none 0 0, .slice none 0 0] 31 (0, 0))
theorem CutJ.start (W0 : World) (vs : Nat → Value) : CutJ W0 (fun _ => false) vs W0.drew := ⟨(Ext.refl W0).drew, nofun⟩
theorem CutJ.keep {W0 w : World} {L : Nat → Bool} {vs : Nat → Value} (h : CutJ W0 L vs w) (i : Nat) (u : Value) (h9 : 9 ≠ i) (h10 : 10 ≠ i) : CutJ W0 (updB L i) (upd vs i u) w := by
  refine ⟨h.X, ?_⟩
  have := h.P
  simpa [updB, upd, h9, h10] using this
theorem CutJ.step5 {W0 w w2 : World} {L : Nat → Bool} {vs : Nat → Value} {u : Value} (h : CutJ W0 L vs w) (hx : Ext w w2) : CutJ W0 (updB L 5) (upd vs 5 u) w2 := by
  refine ⟨h.X.trans hx, fun h9 h10 => ?_⟩
  have e9 : L 9 = true := by simpa [updB] using h9
  have e10 : L 10 = false := by simpa [updB] using h10
  obtain ⟨h1, h2, h3⟩ := h.P e9 e10
  show vs 9 = _ ∧ _ ∧ _
  exact ⟨h1, h2, (hx.block _ (lt_of_block h3)).trans h3⟩
theorem CutJ.step9 {W0 w : World} {L : Nat → Bool} {vs : Nat → Value} (h : CutJ W0 L vs w) (e10 : L 10 = false) : CutJ W0 (updB L 9) (upd vs 9 (.pointer (some ⟨w.heap.size, 0, none⟩))) (w.alloc (.cells #[.int .i64 0, .string ⟨#[]⟩, .string ⟨#[]⟩, .int .u32 0, .int .u32 0, .slice none 0 0, .slice none 0 0, .slice none 0 0, .slice none 0 0, .slice none 0 0, .slice none 0 0, .slice none 0 0, .slice none 0 0] 31)) :=
  ⟨h.X.alloc _, fun _ _ => ⟨rfl, h.X.size, heap_alloc_new _ _⟩⟩
theorem CutJ.step10 {W0 w w2 : World} {L : Nat → Bool} {vs : Nat → Value} (h : CutJ W0 L vs w) (hx : Ext W0 w2) (u : Value) : CutJ W0 (updB L 10) (upd vs 10 u) w2 :=
  ⟨hx, fun _ h10 => by simp [updB] at h10⟩

set_option maxRecDepth 100000 in
set_option maxHeartbeats 2000000 in
theorem cut5 (a b : ByteArray) (kd n mm : Int) (A5 A6 A7 A8 A9 A10 A11 A12 : Option Addr) (c5 c6 c7 c8 c9 c10 c11 c12 : Nat) (lf lr ty d : List Int) (vls : List (Bool × List Int)) (ws : List ByteArray) (ps : List (ByteArray × ByteArray)) (fs : List Sf) (nn : Int) (w : World)
    (hm : MsgIn w (.agg #[.int .i64 kd, .string a, .string b, .int .u32 n, .int .u32 mm, .slice A5 lf.length c5, .slice A6 lr.length c6, .slice A7 ty.length c7, .slice A8 vls.length c8, .slice A9 d.length c9, .slice A10 ws.length c10, .slice A11 ps.length c11, .slice A12 fs.length c12]) a b kd n mm A5 A6 A7 A8 A9 A10 A11 A12 c5 c6 c7 c8 c9 c10 c11 c12 lf lr ty d vls ws ps fs) :
    Calls Tryz.prog 5 #[.agg #[.int .i64 kd, .string a, .string b, .int .u32 n, .int .u32 mm, .slice A5 lf.length c5, .slice A6 lr.length c6, .slice A7 ty.length c7, .slice A8 vls.length c8, .slice A9 d.length c9, .slice A10 ws.length c10, .slice A11 ps.length c11, .slice A12 fs.length c12], .int .i64 nn] w (fun e w' => e = .returned (.bool true) ∧ Ext w w') := by
  have HM := Lib.hid hm
  have H5 := Lib.hid hm.rf
  have H6 := Lib.hid hm.rr
  have H8 := Lib.hid hm.rv
  have H10 := Lib.hid hm.rw
  have H11 := Lib.hid hm.rp
  have H12 := Lib.hid hm.rl
  clear hm
  have hm0 : True := trivial
  have hm1 : True := trivial
  have hm2 : True := trivial
  have hm3 : True := trivial
  have hm4 : True := trivial
  have hm5 : True := trivial
  have hm6 : True := trivial
  have hm7 : True := trivial
  have hm8 : True := trivial
  have hm9 : True := trivial
  have hm10 : True := trivial
  have hm11 : True := trivial
  have hm12 : True := trivial
  cases hst : closedQ kd
  · go_enter Tryz.func5, Tryz.ntmps5
    go_wp2_with (first | (go_at_call 9; refine (fit1 a b _ _ _ A5 A6 A7 A8 A9 A10 A11 A12 c5 c6 c7 c8 c9 c10 c11 c12 lf lr ty d vls ws ps fs _ (H8.out.ext (ext_alloc w _) (isVal.ext (ext_alloc w _))) (H10.out.ext (ext_alloc w _) (fun _ _ h => h)) (H11.out.ext (ext_alloc w _) (fun _ _ h => h)) (H12.out.ext (ext_alloc w _) (fun _ _ h => h))).mono ?_; rintro e w1 ⟨bo, rfl, hbo, hbx⟩; have HE := Lib.hid hbx; have HS := Lib.hid hbo; clear hbo hbx; clear hm0; have hm0 := box_at HE.out 0 (.int .i64 kd) rfl; clear hm1; have hm1 := box_at HE.out 1 (.string a) rfl; clear hm2; have hm2 := box_at HE.out 2 (.string b) rfl; clear hm3; have hm3 := box_at HE.out 3 (.int .u32 n) rfl; clear hm4; have hm4 := box_at HE.out 4 (.int .u32 mm) rfl; clear hm5; have hm5 := box_at HE.out 5 (.slice A5 lf.length c5) rfl; clear hm6; have hm6 := box_at HE.out 6 (.slice A6 lr.length c6) rfl; clear hm7; have hm7 := box_at HE.out 7 (.slice A7 ty.length c7) rfl; clear hm8; have hm8 := box_at HE.out 8 (.slice A8 vls.length c8) rfl; clear hm9; have hm9 := box_at HE.out 9 (.slice A9 d.length c9) rfl; clear hm10; have hm10 := box_at HE.out 10 (.slice A10 ws.length c10) rfl; clear hm11; have hm11 := box_at HE.out 11 (.slice A11 ps.length c11) rfl; clear hm12; have hm12 := box_at HE.out 12 (.slice A12 fs.length c12) rfl; cases bo) | (go_at_call 10; refine msg10 a b kd n mm A5 A6 A7 A9 A10 A8 A11 A12 lf.length lr.length ty.length d.length ws.length c5 c6 c7 c9 c10 c8 c11 c12 vls ps fs _ (H8.out.ext ((ext_alloc w _).trans HE.out) (isVal.ext ((ext_alloc w _).trans HE.out))) (H11.out.ext ((ext_alloc w _).trans HE.out) (fun _ _ h => h)) (H12.out.ext ((ext_alloc w _).trans HE.out) (fun _ _ h => h)) (HS.out trivial).2.2.2.2.2.2.1.1 (HS.out trivial).2.2.2.2.2.2.2.2.1.1 (HS.out trivial).2.2.2.2.2.2.2.2.2.1 _ ?_; intro w2 B7 d7 B10 d10 B11 d11 hx2 hr7 hr10 hr11; have HE2 := Lib.hid (HE.out.trans hx2); have HR7 := Lib.hid hr7; have HR10 := Lib.hid hr10; have HR11 := Lib.hid hr11; clear hx2 hr7 hr10 hr11; clear hm0; have hm0 := box_at HE2.out 0 (.int .i64 kd) rfl; clear hm1; have hm1 := box_at HE2.out 1 (.string a) rfl; clear hm2; have hm2 := box_at HE2.out 2 (.string b) rfl; clear hm3; have hm3 := box_at HE2.out 3 (.int .u32 n) rfl; clear hm4; have hm4 := box_at HE2.out 4 (.int .u32 mm) rfl; clear hm5; have hm5 := box_at HE2.out 5 (.slice A5 lf.length c5) rfl; clear hm6; have hm6 := box_at HE2.out 6 (.slice A6 lr.length c6) rfl; clear hm7; have hm7 := box_at HE2.out 7 (.slice A7 ty.length c7) rfl; clear hm8; have hm8 := box_at HE2.out 8 (.slice A8 vls.length c8) rfl; clear hm9; have hm9 := box_at HE2.out 9 (.slice A9 d.length c9) rfl; clear hm10; have hm10 := box_at HE2.out 10 (.slice A10 ws.length c10) rfl; clear hm11; have hm11 := box_at HE2.out 11 (.slice A11 ps.length c11) rfl; clear hm12; have hm12 := box_at HE2.out 12 (.slice A12 fs.length c12) rfl; ) | (go_at_call 11; refine (proper11 a b kd n A5 A6 A7 B7 A9 A10 B10 B11 c5 c6 c7 d7 c9 c10 d10 d11 lf lr ty d vls ws ps fs _ (H5.out.ext ((ext_alloc w _).trans ((HE2.out.alloc (.cells #[.int .i64 kd, .string a, .string b, .int .u32 n, .slice A5 lf.length c5, .slice A6 lr.length c6, .slice A7 ty.length c7, .slice B7 vls.length d7, .slice A9 d.length c9, .slice A10 ws.length c10, .slice B10 ps.length d10, .slice B11 fs.length d11] 37))))) (H6.out.ext ((ext_alloc w _).trans ((HE2.out.alloc (.cells #[.int .i64 kd, .string a, .string b, .int .u32 n, .slice A5 lf.length c5, .slice A6 lr.length c6, .slice A7 ty.length c7, .slice B7 vls.length d7, .slice A9 d.length c9, .slice A10 ws.length c10, .slice B10 ps.length d10, .slice B11 fs.length d11] 37))))) (HR7.out.ext (ext_alloc _ _) (isVal.ext (ext_alloc _ _))) (H10.out.ext ((ext_alloc w _).trans ((HE2.out.alloc (.cells #[.int .i64 kd, .string a, .string b, .int .u32 n, .slice A5 lf.length c5, .slice A6 lr.length c6, .slice A7 ty.length c7, .slice B7 vls.length d7, .slice A9 d.length c9, .slice A10 ws.length c10, .slice B10 ps.length d10, .slice B11 fs.length d11] 37)))) (fun _ _ h => h)) (HR10.out.ext (ext_alloc _ _) (fun _ _ h => h)) (HR11.out.ext (ext_alloc _ _) (fun _ _ h => h)) (HS.out trivial).1 (HS.out trivial).2.1 (HS.out trivial).2.2.1 (HS.out trivial).2.2.2.1 (HS.out trivial).2.2.2.2.1 (HS.out trivial).2.2.2.2.2.2.1.1 (HS.out trivial).2.2.2.2.2.1 (HS.out trivial).2.2.2.2.2.2.2.1.1 (HS.out trivial).2.2.2.2.2.2.2.1.2 (HS.out trivial).2.2.2.2.2.2.2.2.1.1 (HS.out trivial).2.2.2.2.2.2.2.2.1.2 (HS.out trivial).2.2.2.2.2.2.2.2.2.1 (HS.out trivial).2.2.2.2.2.2.2.2.2.2).mono ?_; rintro e w3 ⟨bp, rfl, hbp, hbx⟩; have HX3 := Lib.hid hbx; have HP := Lib.hid hbp; clear hbp hbx; have HE3 := Lib.hid (((HE2.out.alloc (.cells #[.int .i64 kd, .string a, .string b, .int .u32 n, .slice A5 lf.length c5, .slice A6 lr.length c6, .slice A7 ty.length c7, .slice B7 vls.length d7, .slice A9 d.length c9, .slice A10 ws.length c10, .slice B10 ps.length d10, .slice B11 fs.length d11] 37))).trans HX3.out); clear hm0; have hm0 := box_at HE3.out 0 (.int .i64 kd) rfl; clear hm1; have hm1 := box_at HE3.out 1 (.string a) rfl; clear hm2; have hm2 := box_at HE3.out 2 (.string b) rfl; clear hm3; have hm3 := box_at HE3.out 3 (.int .u32 n) rfl; clear hm4; have hm4 := box_at HE3.out 4 (.int .u32 mm) rfl; clear hm5; have hm5 := box_at HE3.out 5 (.slice A5 lf.length c5) rfl; clear hm6; have hm6 := box_at HE3.out 6 (.slice A6 lr.length c6) rfl; clear hm7; have hm7 := box_at HE3.out 7 (.slice A7 ty.length c7) rfl; clear hm8; have hm8 := box_at HE3.out 8 (.slice A8 vls.length c8) rfl; clear hm9; have hm9 := box_at HE3.out 9 (.slice A9 d.length c9) rfl; clear hm10; have hm10 := box_at HE3.out 10 (.slice A10 ws.length c10) rfl; clear hm11; have hm11 := box_at HE3.out 11 (.slice A11 ps.length c11) rfl; clear hm12; have hm12 := box_at HE3.out 12 (.slice A12 fs.length c12) rfl; cases bp) | (go_at_call 18; refine (closed18 kd _).mono ?_; rintro e w4 ⟨rfl, hw4⟩; subst hw4; rw [hst]; have hbx := (HX3.out.block w2.heap.size (by simp)).trans (heap_alloc_new w2 (.cells #[.int .i64 kd, .string a, .string b, .int .u32 n, .slice A5 lf.length c5, .slice A6 lr.length c6, .slice A7 ty.length c7, .slice B7 vls.length d7, .slice A9 d.length c9, .slice A10 ws.length c10, .slice B10 ps.length d10, .slice B11 fs.length d11] 37)); have hxx0 := cell_slot hbx 0 (.int .i64 kd) rfl; have hxx1 := cell_slot hbx 1 (.string a) rfl; have hxx2 := cell_slot hbx 2 (.string b) rfl; have hxx3 := cell_slot hbx 3 (.int .u32 n) rfl; have hxx4 := cell_slot hbx 4 (.slice A5 lf.length c5) rfl; have hxx5 := cell_slot hbx 5 (.slice A6 lr.length c6) rfl; have hxx6 := cell_slot hbx 6 (.slice A7 ty.length c7) rfl; have hxx7 := cell_slot hbx 7 (.slice B7 vls.length d7) rfl; have hxx8 := cell_slot hbx 8 (.slice A9 d.length c9) rfl; have hxx9 := cell_slot hbx 9 (.slice A10 ws.length c10) rfl; have hxx10 := cell_slot hbx 10 (.slice B10 ps.length d10) rfl; have hxx11 := cell_slot hbx 11 (.slice B11 fs.length d11) rfl; clear hbx) | (go_at_call 13; refine (works13 _).mono ?_; rintro e w5 ⟨rfl, hx5⟩; have HX5 := Lib.hid hx5; clear hx5))
    all_goals first | (go_ret; exact ⟨rfl, ((ext_alloc w _).trans HE3.out).trans HX5.out⟩) | (go_ret; exact ⟨rfl, (((ext_alloc w _).trans HE3.out).trans HX7.out).trans HX5.out⟩) | (go_ret; exact ⟨rfl, ((ext_alloc w _).trans HE3.out)⟩) | (go_ret; exact ⟨rfl, (ext_alloc w _).trans HE.out⟩)
  · by_cases hneg : nn < 0
    · go_enter Tryz.func5, Tryz.ntmps5
      go_wp2_with (first | (go_at_call 9; refine (fit1 a b _ _ _ A5 A6 A7 A8 A9 A10 A11 A12 c5 c6 c7 c8 c9 c10 c11 c12 lf lr ty d vls ws ps fs _ (H8.out.ext (ext_alloc w _) (isVal.ext (ext_alloc w _))) (H10.out.ext (ext_alloc w _) (fun _ _ h => h)) (H11.out.ext (ext_alloc w _) (fun _ _ h => h)) (H12.out.ext (ext_alloc w _) (fun _ _ h => h))).mono ?_; rintro e w1 ⟨bo, rfl, hbo, hbx⟩; have HE := Lib.hid hbx; have HS := Lib.hid hbo; clear hbo hbx; clear hm0; have hm0 := box_at HE.out 0 (.int .i64 kd) rfl; clear hm1; have hm1 := box_at HE.out 1 (.string a) rfl; clear hm2; have hm2 := box_at HE.out 2 (.string b) rfl; clear hm3; have hm3 := box_at HE.out 3 (.int .u32 n) rfl; clear hm4; have hm4 := box_at HE.out 4 (.int .u32 mm) rfl; clear hm5; have hm5 := box_at HE.out 5 (.slice A5 lf.length c5) rfl; clear hm6; have hm6 := box_at HE.out 6 (.slice A6 lr.length c6) rfl; clear hm7; have hm7 := box_at HE.out 7 (.slice A7 ty.length c7) rfl; clear hm8; have hm8 := box_at HE.out 8 (.slice A8 vls.length c8) rfl; clear hm9; have hm9 := box_at HE.out 9 (.slice A9 d.length c9) rfl; clear hm10; have hm10 := box_at HE.out 10 (.slice A10 ws.length c10) rfl; clear hm11; have hm11 := box_at HE.out 11 (.slice A11 ps.length c11) rfl; clear hm12; have hm12 := box_at HE.out 12 (.slice A12 fs.length c12) rfl; cases bo) | (go_at_call 10; refine msg10 a b kd n mm A5 A6 A7 A9 A10 A8 A11 A12 lf.length lr.length ty.length d.length ws.length c5 c6 c7 c9 c10 c8 c11 c12 vls ps fs _ (H8.out.ext ((ext_alloc w _).trans HE.out) (isVal.ext ((ext_alloc w _).trans HE.out))) (H11.out.ext ((ext_alloc w _).trans HE.out) (fun _ _ h => h)) (H12.out.ext ((ext_alloc w _).trans HE.out) (fun _ _ h => h)) (HS.out trivial).2.2.2.2.2.2.1.1 (HS.out trivial).2.2.2.2.2.2.2.2.1.1 (HS.out trivial).2.2.2.2.2.2.2.2.2.1 _ ?_; intro w2 B7 d7 B10 d10 B11 d11 hx2 hr7 hr10 hr11; have HE2 := Lib.hid (HE.out.trans hx2); have HR7 := Lib.hid hr7; have HR10 := Lib.hid hr10; have HR11 := Lib.hid hr11; clear hx2 hr7 hr10 hr11; clear hm0; have hm0 := box_at HE2.out 0 (.int .i64 kd) rfl; clear hm1; have hm1 := box_at HE2.out 1 (.string a) rfl; clear hm2; have hm2 := box_at HE2.out 2 (.string b) rfl; clear hm3; have hm3 := box_at HE2.out 3 (.int .u32 n) rfl; clear hm4; have hm4 := box_at HE2.out 4 (.int .u32 mm) rfl; clear hm5; have hm5 := box_at HE2.out 5 (.slice A5 lf.length c5) rfl; clear hm6; have hm6 := box_at HE2.out 6 (.slice A6 lr.length c6) rfl; clear hm7; have hm7 := box_at HE2.out 7 (.slice A7 ty.length c7) rfl; clear hm8; have hm8 := box_at HE2.out 8 (.slice A8 vls.length c8) rfl; clear hm9; have hm9 := box_at HE2.out 9 (.slice A9 d.length c9) rfl; clear hm10; have hm10 := box_at HE2.out 10 (.slice A10 ws.length c10) rfl; clear hm11; have hm11 := box_at HE2.out 11 (.slice A11 ps.length c11) rfl; clear hm12; have hm12 := box_at HE2.out 12 (.slice A12 fs.length c12) rfl; ) | (go_at_call 11; refine (proper11 a b kd n A5 A6 A7 B7 A9 A10 B10 B11 c5 c6 c7 d7 c9 c10 d10 d11 lf lr ty d vls ws ps fs _ (H5.out.ext ((ext_alloc w _).trans ((HE2.out.alloc (.cells #[.int .i64 kd, .string a, .string b, .int .u32 n, .slice A5 lf.length c5, .slice A6 lr.length c6, .slice A7 ty.length c7, .slice B7 vls.length d7, .slice A9 d.length c9, .slice A10 ws.length c10, .slice B10 ps.length d10, .slice B11 fs.length d11] 37))))) (H6.out.ext ((ext_alloc w _).trans ((HE2.out.alloc (.cells #[.int .i64 kd, .string a, .string b, .int .u32 n, .slice A5 lf.length c5, .slice A6 lr.length c6, .slice A7 ty.length c7, .slice B7 vls.length d7, .slice A9 d.length c9, .slice A10 ws.length c10, .slice B10 ps.length d10, .slice B11 fs.length d11] 37))))) (HR7.out.ext (ext_alloc _ _) (isVal.ext (ext_alloc _ _))) (H10.out.ext ((ext_alloc w _).trans ((HE2.out.alloc (.cells #[.int .i64 kd, .string a, .string b, .int .u32 n, .slice A5 lf.length c5, .slice A6 lr.length c6, .slice A7 ty.length c7, .slice B7 vls.length d7, .slice A9 d.length c9, .slice A10 ws.length c10, .slice B10 ps.length d10, .slice B11 fs.length d11] 37)))) (fun _ _ h => h)) (HR10.out.ext (ext_alloc _ _) (fun _ _ h => h)) (HR11.out.ext (ext_alloc _ _) (fun _ _ h => h)) (HS.out trivial).1 (HS.out trivial).2.1 (HS.out trivial).2.2.1 (HS.out trivial).2.2.2.1 (HS.out trivial).2.2.2.2.1 (HS.out trivial).2.2.2.2.2.2.1.1 (HS.out trivial).2.2.2.2.2.1 (HS.out trivial).2.2.2.2.2.2.2.1.1 (HS.out trivial).2.2.2.2.2.2.2.1.2 (HS.out trivial).2.2.2.2.2.2.2.2.1.1 (HS.out trivial).2.2.2.2.2.2.2.2.1.2 (HS.out trivial).2.2.2.2.2.2.2.2.2.1 (HS.out trivial).2.2.2.2.2.2.2.2.2.2).mono ?_; rintro e w3 ⟨bp, rfl, hbp, hbx⟩; have HX3 := Lib.hid hbx; have HP := Lib.hid hbp; clear hbp hbx; have HE3 := Lib.hid (((HE2.out.alloc (.cells #[.int .i64 kd, .string a, .string b, .int .u32 n, .slice A5 lf.length c5, .slice A6 lr.length c6, .slice A7 ty.length c7, .slice B7 vls.length d7, .slice A9 d.length c9, .slice A10 ws.length c10, .slice B10 ps.length d10, .slice B11 fs.length d11] 37))).trans HX3.out); clear hm0; have hm0 := box_at HE3.out 0 (.int .i64 kd) rfl; clear hm1; have hm1 := box_at HE3.out 1 (.string a) rfl; clear hm2; have hm2 := box_at HE3.out 2 (.string b) rfl; clear hm3; have hm3 := box_at HE3.out 3 (.int .u32 n) rfl; clear hm4; have hm4 := box_at HE3.out 4 (.int .u32 mm) rfl; clear hm5; have hm5 := box_at HE3.out 5 (.slice A5 lf.length c5) rfl; clear hm6; have hm6 := box_at HE3.out 6 (.slice A6 lr.length c6) rfl; clear hm7; have hm7 := box_at HE3.out 7 (.slice A7 ty.length c7) rfl; clear hm8; have hm8 := box_at HE3.out 8 (.slice A8 vls.length c8) rfl; clear hm9; have hm9 := box_at HE3.out 9 (.slice A9 d.length c9) rfl; clear hm10; have hm10 := box_at HE3.out 10 (.slice A10 ws.length c10) rfl; clear hm11; have hm11 := box_at HE3.out 11 (.slice A11 ps.length c11) rfl; clear hm12; have hm12 := box_at HE3.out 12 (.slice A12 fs.length c12) rfl; cases bp) | (go_at_call 18; refine (closed18 kd _).mono ?_; rintro e w4 ⟨rfl, hw4⟩; subst hw4; rw [hst]; have hbx := (HX3.out.block w2.heap.size (by simp)).trans (heap_alloc_new w2 (.cells #[.int .i64 kd, .string a, .string b, .int .u32 n, .slice A5 lf.length c5, .slice A6 lr.length c6, .slice A7 ty.length c7, .slice B7 vls.length d7, .slice A9 d.length c9, .slice A10 ws.length c10, .slice B10 ps.length d10, .slice B11 fs.length d11] 37)); have hxx0 := cell_slot hbx 0 (.int .i64 kd) rfl; have hxx1 := cell_slot hbx 1 (.string a) rfl; have hxx2 := cell_slot hbx 2 (.string b) rfl; have hxx3 := cell_slot hbx 3 (.int .u32 n) rfl; have hxx4 := cell_slot hbx 4 (.slice A5 lf.length c5) rfl; have hxx5 := cell_slot hbx 5 (.slice A6 lr.length c6) rfl; have hxx6 := cell_slot hbx 6 (.slice A7 ty.length c7) rfl; have hxx7 := cell_slot hbx 7 (.slice B7 vls.length d7) rfl; have hxx8 := cell_slot hbx 8 (.slice A9 d.length c9) rfl; have hxx9 := cell_slot hbx 9 (.slice A10 ws.length c10) rfl; have hxx10 := cell_slot hbx 10 (.slice B10 ps.length d10) rfl; have hxx11 := cell_slot hbx 11 (.slice B11 fs.length d11) rfl; clear hbx) | (go_at_call 13; refine (works13 _).mono ?_; rintro e w5 ⟨rfl, hx5⟩; have HX5 := Lib.hid hx5; clear hx5) | (go_at_call 16; obtain ⟨R, hRL, h16, h19⟩ := cuts kd hst a b n mm A5 A6 A7 A8 A9 A10 A11 A12 B7 B10 B11 c5 c6 c7 c8 c9 c10 c11 c12 d7 d10 d11 lf lr ty d vls ws ps fs _ _ (HM.out.ext ((ext_alloc w _).trans HE3.out)) (HP.out trivial) (H5.out.ext ((ext_alloc w _).trans HE3.out)) (H6.out.ext ((ext_alloc w _).trans HE3.out)) (HM.out.rt.ext ((ext_alloc w _).trans HE3.out)) (HR7.out.ext ((ext_alloc w2 _).trans HX3.out) (isVal.ext ((ext_alloc w2 _).trans HX3.out))) (HR11.out.ext ((ext_alloc w2 _).trans HX3.out) (fun _ _ h => h)); have H19 := Lib.hid h19; refine (h16 _ (Ext.refl _)).mono ?_; rintro e w7 hg; obtain ⟨AR, cR, rfl, hx7, hr7⟩ := hg.elim; have HX7 := Lib.hid hx7; have HRB := Lib.hid hr7; have hRc := hr7.parts.2.1; clear h16 h19 hg hx7 hr7))
      all_goals first | (go_ret; exact ⟨rfl, ((ext_alloc w _).trans HE3.out).trans HX5.out⟩) | (go_ret; exact ⟨rfl, (((ext_alloc w _).trans HE3.out).trans HX7.out).trans HX5.out⟩) | (go_ret; exact ⟨rfl, ((ext_alloc w _).trans HE3.out)⟩) | (go_ret; exact ⟨rfl, (ext_alloc w _).trans HE.out⟩)
    · obtain ⟨m, rfl⟩ : ∃ m : Nat, nn = m := ⟨nn.toNat, by omega⟩
      clear hneg
      go_enter Tryz.func5, Tryz.ntmps5
      go_wp2_with (first | (go_at_call 9; refine (fit1 a b _ _ _ A5 A6 A7 A8 A9 A10 A11 A12 c5 c6 c7 c8 c9 c10 c11 c12 lf lr ty d vls ws ps fs _ (H8.out.ext (ext_alloc w _) (isVal.ext (ext_alloc w _))) (H10.out.ext (ext_alloc w _) (fun _ _ h => h)) (H11.out.ext (ext_alloc w _) (fun _ _ h => h)) (H12.out.ext (ext_alloc w _) (fun _ _ h => h))).mono ?_; rintro e w1 ⟨bo, rfl, hbo, hbx⟩; have HE := Lib.hid hbx; have HS := Lib.hid hbo; clear hbo hbx; clear hm0; have hm0 := box_at HE.out 0 (.int .i64 kd) rfl; clear hm1; have hm1 := box_at HE.out 1 (.string a) rfl; clear hm2; have hm2 := box_at HE.out 2 (.string b) rfl; clear hm3; have hm3 := box_at HE.out 3 (.int .u32 n) rfl; clear hm4; have hm4 := box_at HE.out 4 (.int .u32 mm) rfl; clear hm5; have hm5 := box_at HE.out 5 (.slice A5 lf.length c5) rfl; clear hm6; have hm6 := box_at HE.out 6 (.slice A6 lr.length c6) rfl; clear hm7; have hm7 := box_at HE.out 7 (.slice A7 ty.length c7) rfl; clear hm8; have hm8 := box_at HE.out 8 (.slice A8 vls.length c8) rfl; clear hm9; have hm9 := box_at HE.out 9 (.slice A9 d.length c9) rfl; clear hm10; have hm10 := box_at HE.out 10 (.slice A10 ws.length c10) rfl; clear hm11; have hm11 := box_at HE.out 11 (.slice A11 ps.length c11) rfl; clear hm12; have hm12 := box_at HE.out 12 (.slice A12 fs.length c12) rfl; cases bo) | (go_at_call 10; refine msg10 a b kd n mm A5 A6 A7 A9 A10 A8 A11 A12 lf.length lr.length ty.length d.length ws.length c5 c6 c7 c9 c10 c8 c11 c12 vls ps fs _ (H8.out.ext ((ext_alloc w _).trans HE.out) (isVal.ext ((ext_alloc w _).trans HE.out))) (H11.out.ext ((ext_alloc w _).trans HE.out) (fun _ _ h => h)) (H12.out.ext ((ext_alloc w _).trans HE.out) (fun _ _ h => h)) (HS.out trivial).2.2.2.2.2.2.1.1 (HS.out trivial).2.2.2.2.2.2.2.2.1.1 (HS.out trivial).2.2.2.2.2.2.2.2.2.1 _ ?_; intro w2 B7 d7 B10 d10 B11 d11 hx2 hr7 hr10 hr11; have HE2 := Lib.hid (HE.out.trans hx2); have HR7 := Lib.hid hr7; have HR10 := Lib.hid hr10; have HR11 := Lib.hid hr11; clear hx2 hr7 hr10 hr11; clear hm0; have hm0 := box_at HE2.out 0 (.int .i64 kd) rfl; clear hm1; have hm1 := box_at HE2.out 1 (.string a) rfl; clear hm2; have hm2 := box_at HE2.out 2 (.string b) rfl; clear hm3; have hm3 := box_at HE2.out 3 (.int .u32 n) rfl; clear hm4; have hm4 := box_at HE2.out 4 (.int .u32 mm) rfl; clear hm5; have hm5 := box_at HE2.out 5 (.slice A5 lf.length c5) rfl; clear hm6; have hm6 := box_at HE2.out 6 (.slice A6 lr.length c6) rfl; clear hm7; have hm7 := box_at HE2.out 7 (.slice A7 ty.length c7) rfl; clear hm8; have hm8 := box_at HE2.out 8 (.slice A8 vls.length c8) rfl; clear hm9; have hm9 := box_at HE2.out 9 (.slice A9 d.length c9) rfl; clear hm10; have hm10 := box_at HE2.out 10 (.slice A10 ws.length c10) rfl; clear hm11; have hm11 := box_at HE2.out 11 (.slice A11 ps.length c11) rfl; clear hm12; have hm12 := box_at HE2.out 12 (.slice A12 fs.length c12) rfl; ) | (go_at_call 11; refine (proper11 a b kd n A5 A6 A7 B7 A9 A10 B10 B11 c5 c6 c7 d7 c9 c10 d10 d11 lf lr ty d vls ws ps fs _ (H5.out.ext ((ext_alloc w _).trans ((HE2.out.alloc (.cells #[.int .i64 kd, .string a, .string b, .int .u32 n, .slice A5 lf.length c5, .slice A6 lr.length c6, .slice A7 ty.length c7, .slice B7 vls.length d7, .slice A9 d.length c9, .slice A10 ws.length c10, .slice B10 ps.length d10, .slice B11 fs.length d11] 37))))) (H6.out.ext ((ext_alloc w _).trans ((HE2.out.alloc (.cells #[.int .i64 kd, .string a, .string b, .int .u32 n, .slice A5 lf.length c5, .slice A6 lr.length c6, .slice A7 ty.length c7, .slice B7 vls.length d7, .slice A9 d.length c9, .slice A10 ws.length c10, .slice B10 ps.length d10, .slice B11 fs.length d11] 37))))) (HR7.out.ext (ext_alloc _ _) (isVal.ext (ext_alloc _ _))) (H10.out.ext ((ext_alloc w _).trans ((HE2.out.alloc (.cells #[.int .i64 kd, .string a, .string b, .int .u32 n, .slice A5 lf.length c5, .slice A6 lr.length c6, .slice A7 ty.length c7, .slice B7 vls.length d7, .slice A9 d.length c9, .slice A10 ws.length c10, .slice B10 ps.length d10, .slice B11 fs.length d11] 37)))) (fun _ _ h => h)) (HR10.out.ext (ext_alloc _ _) (fun _ _ h => h)) (HR11.out.ext (ext_alloc _ _) (fun _ _ h => h)) (HS.out trivial).1 (HS.out trivial).2.1 (HS.out trivial).2.2.1 (HS.out trivial).2.2.2.1 (HS.out trivial).2.2.2.2.1 (HS.out trivial).2.2.2.2.2.2.1.1 (HS.out trivial).2.2.2.2.2.1 (HS.out trivial).2.2.2.2.2.2.2.1.1 (HS.out trivial).2.2.2.2.2.2.2.1.2 (HS.out trivial).2.2.2.2.2.2.2.2.1.1 (HS.out trivial).2.2.2.2.2.2.2.2.1.2 (HS.out trivial).2.2.2.2.2.2.2.2.2.1 (HS.out trivial).2.2.2.2.2.2.2.2.2.2).mono ?_; rintro e w3 ⟨bp, rfl, hbp, hbx⟩; have HX3 := Lib.hid hbx; have HP := Lib.hid hbp; clear hbp hbx; have HE3 := Lib.hid (((HE2.out.alloc (.cells #[.int .i64 kd, .string a, .string b, .int .u32 n, .slice A5 lf.length c5, .slice A6 lr.length c6, .slice A7 ty.length c7, .slice B7 vls.length d7, .slice A9 d.length c9, .slice A10 ws.length c10, .slice B10 ps.length d10, .slice B11 fs.length d11] 37))).trans HX3.out); clear hm0; have hm0 := box_at HE3.out 0 (.int .i64 kd) rfl; clear hm1; have hm1 := box_at HE3.out 1 (.string a) rfl; clear hm2; have hm2 := box_at HE3.out 2 (.string b) rfl; clear hm3; have hm3 := box_at HE3.out 3 (.int .u32 n) rfl; clear hm4; have hm4 := box_at HE3.out 4 (.int .u32 mm) rfl; clear hm5; have hm5 := box_at HE3.out 5 (.slice A5 lf.length c5) rfl; clear hm6; have hm6 := box_at HE3.out 6 (.slice A6 lr.length c6) rfl; clear hm7; have hm7 := box_at HE3.out 7 (.slice A7 ty.length c7) rfl; clear hm8; have hm8 := box_at HE3.out 8 (.slice A8 vls.length c8) rfl; clear hm9; have hm9 := box_at HE3.out 9 (.slice A9 d.length c9) rfl; clear hm10; have hm10 := box_at HE3.out 10 (.slice A10 ws.length c10) rfl; clear hm11; have hm11 := box_at HE3.out 11 (.slice A11 ps.length c11) rfl; clear hm12; have hm12 := box_at HE3.out 12 (.slice A12 fs.length c12) rfl; cases bp) | (go_at_call 18; refine (closed18 kd _).mono ?_; rintro e w4 ⟨rfl, hw4⟩; subst hw4; rw [hst]; have hbx := (HX3.out.block w2.heap.size (by simp)).trans (heap_alloc_new w2 (.cells #[.int .i64 kd, .string a, .string b, .int .u32 n, .slice A5 lf.length c5, .slice A6 lr.length c6, .slice A7 ty.length c7, .slice B7 vls.length d7, .slice A9 d.length c9, .slice A10 ws.length c10, .slice B10 ps.length d10, .slice B11 fs.length d11] 37)); have hxx0 := cell_slot hbx 0 (.int .i64 kd) rfl; have hxx1 := cell_slot hbx 1 (.string a) rfl; have hxx2 := cell_slot hbx 2 (.string b) rfl; have hxx3 := cell_slot hbx 3 (.int .u32 n) rfl; have hxx4 := cell_slot hbx 4 (.slice A5 lf.length c5) rfl; have hxx5 := cell_slot hbx 5 (.slice A6 lr.length c6) rfl; have hxx6 := cell_slot hbx 6 (.slice A7 ty.length c7) rfl; have hxx7 := cell_slot hbx 7 (.slice B7 vls.length d7) rfl; have hxx8 := cell_slot hbx 8 (.slice A9 d.length c9) rfl; have hxx9 := cell_slot hbx 9 (.slice A10 ws.length c10) rfl; have hxx10 := cell_slot hbx 10 (.slice B10 ps.length d10) rfl; have hxx11 := cell_slot hbx 11 (.slice B11 fs.length d11) rfl; clear hbx) | (go_at_call 13; refine (works13 _).mono ?_; rintro e w5 ⟨rfl, hx5⟩; have HX5 := Lib.hid hx5; clear hx5) | (go_at_call 16; obtain ⟨R, hRL, h16, h19⟩ := cuts kd hst a b n mm A5 A6 A7 A8 A9 A10 A11 A12 B7 B10 B11 c5 c6 c7 c8 c9 c10 c11 c12 d7 d10 d11 lf lr ty d vls ws ps fs _ _ (HM.out.ext ((ext_alloc w _).trans HE3.out)) (HP.out trivial) (H5.out.ext ((ext_alloc w _).trans HE3.out)) (H6.out.ext ((ext_alloc w _).trans HE3.out)) (HM.out.rt.ext ((ext_alloc w _).trans HE3.out)) (HR7.out.ext ((ext_alloc w2 _).trans HX3.out) (isVal.ext ((ext_alloc w2 _).trans HX3.out))) (HR11.out.ext ((ext_alloc w2 _).trans HX3.out) (fun _ _ h => h)); have H19 := Lib.hid h19; refine (h16 _ (Ext.refl _)).mono ?_; rintro e w7 hg; obtain ⟨AR, cR, rfl, hx7, hr7⟩ := hg.elim; have HX7 := Lib.hid hx7; have HRB := Lib.hid hr7; have hRc := hr7.parts.2.1; clear h16 h19 hg hx7 hr7))
      all_goals first
        | first | (go_ret; exact ⟨rfl, ((ext_alloc w _).trans HE3.out).trans HX5.out⟩) | (go_ret; exact ⟨rfl, (((ext_alloc w _).trans HE3.out).trans HX7.out).trans HX5.out⟩) | (go_ret; exact ⟨rfl, ((ext_alloc w _).trans HE3.out)⟩) | (go_ret; exact ⟨rfl, (ext_alloc w _).trans HE.out⟩)
        | skip
      have HML : Hid (m < R.length) := Lib.hid (by omega)
      have HML2 : Hid (m ≤ R.length) := Lib.hid (by have := HML.out; omega)
      have HM0 : Hid (w7.cell? ⟨w.heap.size, 0, none⟩ = some (.int .i64 kd)) := Lib.hid (cell_slot (((HE3.out.trans HX7.out).block w.heap.size (by simp)).trans (heap_alloc_new w (.cells #[.int .i64 kd, .string a, .string b, .int .u32 n, .int .u32 mm, .slice A5 lf.length c5, .slice A6 lr.length c6, .slice A7 ty.length c7, .slice A8 vls.length c8, .slice A9 d.length c9, .slice A10 ws.length c10, .slice A11 ps.length c11, .slice A12 fs.length c12] 31))) 0 _ rfl)
      have hmc : m ≤ cR := by have := HML.out; omega
      clear hm0 hm1 hm2 hm3 hm4 hm5 hm6 hm7 hm8 hm9 hm10 hm11 hm12 hxx0 hxx1 hxx2 hxx3 hxx4 hxx5 hxx6 hxx7 hxx8 hxx9 hxx10 hxx11
      refine wp_region_ogL (J := CutJ w7) (R := fun _ _ => True) [Sp.eq _ (.pointer (some ⟨w.heap.size, 0, none⟩)), Sp.eq _ (.int .i64 kd), Sp.eq _ (.slice AR R.length cR), Sp.eq _ (.int .i64 m), Sp.eq _ (.slice AR m cR), Sp.eq _ (.tuple #[.agg #[.int .i64 0, .string ⟨#[]⟩, .string ⟨#[]⟩, .int .u32 0, .int .u32 0, .slice none 0 0, .slice none 0 0, .slice none 0 0, .slice none 0 0, .slice none 0 0, .slice none 0 0, .slice none 0 0, .slice none 0 0], .bool false]), Sp.eq _ (.tuple #[.agg #[.int .i64 0, .string ⟨#[]⟩, .string ⟨#[]⟩, .int .u32 0, .int .u32 0, .slice none 0 0, .slice none 0 0, .slice none 0 0, .slice none 0 0, .slice none 0 0, .slice none 0 0, .slice none 0 0, .slice none 0 0], .bool false]), Sp.eq _ (.agg #[.int .i64 0, .string ⟨#[]⟩, .string ⟨#[]⟩, .int .u32 0, .int .u32 0, .slice none 0 0, .slice none 0 0, .slice none 0 0, .slice none 0 0, .slice none 0 0, .slice none 0 0, .slice none 0 0, .slice none 0 0]), Sp.eq _ (.bool false), Sp.any _, Sp.any _, Sp.eq _ (.bool false)] (by kernel_rfl) (by kernel_rfl) ?_ ?_ ?_
      · exact CutJ.start w7 _
      · refine ⟨?_, ?_, ?_, ?_, ?_, ?_, ?_, ?_, ?_, ?_, ?_, ?_, trivial⟩
        · intro vs w1 L hLi hd hdt hJ hp
          have HJ := Lib.hid hJ
          clear hp hd hdt hLi hJ
          simp only [putAll, Nat.reduceAdd]
          go_wp2
          exact ⟨rfl, HJ.out.keep 0 _ (by decide) (by decide), trivial, rfl⟩
        · intro vs w1 L hLi hd hdt hJ hp
          have q0 : vs 0 = .pointer (some ⟨w.heap.size, 0, none⟩) := hp 0 (by decide)
          have HJ := Lib.hid hJ
          have hq := hJ.X.cell HM0.out
          clear hp hd hdt hLi hJ
          simp only [putAll, Nat.reduceAdd]
          go_wp2
          exact ⟨rfl, HJ.out.keep 1 _ (by decide) (by decide), trivial, rfl⟩
        · intro vs w1 L hLi hd hdt hJ hp
          have HJ := Lib.hid hJ
          clear hp hd hdt hLi hJ
          simp only [putAll, Nat.reduceAdd]
          go_wp2
          exact ⟨rfl, HJ.out.keep 2 _ (by decide) (by decide), trivial, rfl⟩
        · intro vs w1 L hLi hd hdt hJ hp
          have HJ := Lib.hid hJ
          clear hp hd hdt hLi hJ
          simp only [putAll, Nat.reduceAdd]
          go_wp2
          exact ⟨rfl, HJ.out.keep 3 _ (by decide) (by decide), trivial, rfl⟩
        · intro vs w1 L hLi hd hdt hJ hp
          have q2 : vs 2 = .slice AR R.length cR := hp 2 (by decide)
          have q3 : vs 3 = .int .i64 m := hp 3 (by decide)
          have HJ := Lib.hid hJ
          clear hp hd hdt hLi hJ
          simp only [putAll, Nat.reduceAdd]
          go_wp2
          exact ⟨rfl, HJ.out.keep 4 _ (by decide) (by decide), trivial, rfl⟩
        · intro vs w1 L hLi hd hdt hJ hp
          have q1 : vs 1 = .int .i64 kd := hp 1 (by decide)
          have q4 : vs 4 = .slice AR m cR := hp 4 (by decide)
          have HJ := Lib.hid hJ
          clear hp hd hdt hLi hJ
          simp only [putAll, Nat.reduceAdd]
          go_wp2_with (go_at_call 19; refine (H19.out m _ _ HML.out (((HRB.out.ext HJ.out.X).take m HML2.out))).mono ?_; rintro e w2' ⟨rfl, hx⟩; have HX6 := Lib.hid hx; clear hx)
          refine ⟨rfl, ?_, trivial, rfl⟩
          exact HJ.out.step5 HX6.out
        · intro vs w1 L hLi hd hdt hJ hp
          have q5 : vs 5 = .tuple #[.agg #[.int .i64 0, .string ⟨#[]⟩, .string ⟨#[]⟩, .int .u32 0, .int .u32 0, .slice none 0 0, .slice none 0 0, .slice none 0 0, .slice none 0 0, .slice none 0 0, .slice none 0 0, .slice none 0 0, .slice none 0 0], .bool false] := hp 5 (by decide)
          have HJ := Lib.hid hJ
          clear hp hd hdt hLi hJ
          simp only [putAll, Nat.reduceAdd]
          go_wp2
          exact ⟨rfl, HJ.out.keep 6 _ (by decide) (by decide), trivial, rfl⟩
        · intro vs w1 L hLi hd hdt hJ hp
          have q6 : vs 6 = .tuple #[.agg #[.int .i64 0, .string ⟨#[]⟩, .string ⟨#[]⟩, .int .u32 0, .int .u32 0, .slice none 0 0, .slice none 0 0, .slice none 0 0, .slice none 0 0, .slice none 0 0, .slice none 0 0, .slice none 0 0, .slice none 0 0], .bool false] := hp 6 (by decide)
          have HJ := Lib.hid hJ
          clear hp hd hdt hLi hJ
          simp only [putAll, Nat.reduceAdd]
          go_wp2
          exact ⟨rfl, HJ.out.keep 7 _ (by decide) (by decide), trivial, rfl⟩
        · intro vs w1 L hLi hd hdt hJ hp
          have q6 : vs 6 = .tuple #[.agg #[.int .i64 0, .string ⟨#[]⟩, .string ⟨#[]⟩, .int .u32 0, .int .u32 0, .slice none 0 0, .slice none 0 0, .slice none 0 0, .slice none 0 0, .slice none 0 0, .slice none 0 0, .slice none 0 0, .slice none 0 0], .bool false] := hp 6 (by decide)
          have HJ := Lib.hid hJ
          clear hp hd hdt hLi hJ
          simp only [putAll, Nat.reduceAdd]
          go_wp2
          exact ⟨rfl, HJ.out.keep 8 _ (by decide) (by decide), trivial, rfl⟩
        · intro vs w1 L hLi hd hdt hJ hp
          have HLi := Lib.hid hLi
          have H10 := Lib.hid (hdt 10 (by decide))
          have HJ := Lib.hid hJ
          clear hp hd hdt hLi hJ
          simp only [putAll, Nat.reduceAdd]
          go_wp2
          refine ⟨rfl, ?_, trivial, trivial⟩
          exact HJ.out.step9 H10.out
        · intro vs w1 L hLi hd hdt hJ hp
          have q0 : vs 0 = .pointer (some ⟨w.heap.size, 0, none⟩) := hp 0 (by decide)
          have q1 : vs 1 = .int .i64 kd := hp 1 (by decide)
          have q2 : vs 2 = .slice AR R.length cR := hp 2 (by decide)
          have q3 : vs 3 = .int .i64 m := hp 3 (by decide)
          have q4 : vs 4 = .slice AR m cR := hp 4 (by decide)
          have q5 : vs 5 = .tuple #[.agg #[.int .i64 0, .string ⟨#[]⟩, .string ⟨#[]⟩, .int .u32 0, .int .u32 0, .slice none 0 0, .slice none 0 0, .slice none 0 0, .slice none 0 0, .slice none 0 0, .slice none 0 0, .slice none 0 0, .slice none 0 0], .bool false] := hp 5 (by decide)
          have q6 : vs 6 = .tuple #[.agg #[.int .i64 0, .string ⟨#[]⟩, .string ⟨#[]⟩, .int .u32 0, .int .u32 0, .slice none 0 0, .slice none 0 0, .slice none 0 0, .slice none 0 0, .slice none 0 0, .slice none 0 0, .slice none 0 0, .slice none 0 0], .bool false] := hp 6 (by decide)
          have q7 : vs 7 = .agg #[.int .i64 0, .string ⟨#[]⟩, .string ⟨#[]⟩, .int .u32 0, .int .u32 0, .slice none 0 0, .slice none 0 0, .slice none 0 0, .slice none 0 0, .slice none 0 0, .slice none 0 0, .slice none 0 0, .slice none 0 0] := hp 7 (by decide)
          have h9 := hd 9 (by decide)
          have H9 := Lib.hid h9
          have HLi := Lib.hid hLi
          have HPB := Lib.hid (hJ.P h9 hLi)
          have HJ := Lib.hid hJ
          have hv9 := HPB.out.1
          have HV9 := Lib.hid hv9
          have hz0 := cell_slot HPB.out.2.2 0 (.int .i64 0) rfl
          have hz1 := cell_slot HPB.out.2.2 1 (.string ⟨#[]⟩) rfl
          have hz2 := cell_slot HPB.out.2.2 2 (.string ⟨#[]⟩) rfl
          have hz3 := cell_slot HPB.out.2.2 3 (.int .u32 0) rfl
          have hz4 := cell_slot HPB.out.2.2 4 (.int .u32 0) rfl
          have hz5 := cell_slot HPB.out.2.2 5 (.slice none 0 0) rfl
          have hz6 := cell_slot HPB.out.2.2 6 (.slice none 0 0) rfl
          have hz7 := cell_slot HPB.out.2.2 7 (.slice none 0 0) rfl
          have hz8 := cell_slot HPB.out.2.2 8 (.slice none 0 0) rfl
          have hz9 := cell_slot HPB.out.2.2 9 (.slice none 0 0) rfl
          have hz10 := cell_slot HPB.out.2.2 10 (.slice none 0 0) rfl
          have hz11 := cell_slot HPB.out.2.2 11 (.slice none 0 0) rfl
          have hz12 := cell_slot HPB.out.2.2 12 (.slice none 0 0) rfl
          have hy0 := free_slot HPB.out.2.2 0
          have hy1 := free_slot HPB.out.2.2 1
          have hy2 := free_slot HPB.out.2.2 2
          have hy3 := free_slot HPB.out.2.2 3
          have hy4 := free_slot HPB.out.2.2 4
          have hy5 := free_slot HPB.out.2.2 5
          have hy6 := free_slot HPB.out.2.2 6
          have hy7 := free_slot HPB.out.2.2 7
          have hy8 := free_slot HPB.out.2.2 8
          have hy9 := free_slot HPB.out.2.2 9
          have hy10 := free_slot HPB.out.2.2 10
          have hy11 := free_slot HPB.out.2.2 11
          have hy12 := free_slot HPB.out.2.2 12
          clear h9 hv9
          clear hp hd hdt hLi hJ
          simp only [putAll, Nat.reduceAdd]
          rw [HV9.out]
          go_wp2
          refine ⟨rfl, ?_, trivial, trivial⟩
          exact HJ.out.step10 (((((((((((((HJ.out.X.set HPB.out.2.1 0 (.int .i64 0)).set HPB.out.2.1 1 (.string ⟨#[]⟩)).set HPB.out.2.1 2 (.string ⟨#[]⟩)).set HPB.out.2.1 3 (.int .u32 0)).set HPB.out.2.1 4 (.int .u32 0)).set HPB.out.2.1 5 (.slice none 0 0)).set HPB.out.2.1 6 (.slice none 0 0)).set HPB.out.2.1 7 (.slice none 0 0)).set HPB.out.2.1 8 (.slice none 0 0)).set HPB.out.2.1 9 (.slice none 0 0)).set HPB.out.2.1 10 (.slice none 0 0)).set HPB.out.2.1 11 (.slice none 0 0)).set HPB.out.2.1 12 (.slice none 0 0)) _
        · intro vs w1 L hLi hd hdt hJ hp
          have q0 : vs 0 = .pointer (some ⟨w.heap.size, 0, none⟩) := hp 0 (by decide)
          have q1 : vs 1 = .int .i64 kd := hp 1 (by decide)
          have q2 : vs 2 = .slice AR R.length cR := hp 2 (by decide)
          have q3 : vs 3 = .int .i64 m := hp 3 (by decide)
          have q4 : vs 4 = .slice AR m cR := hp 4 (by decide)
          have q5 : vs 5 = .tuple #[.agg #[.int .i64 0, .string ⟨#[]⟩, .string ⟨#[]⟩, .int .u32 0, .int .u32 0, .slice none 0 0, .slice none 0 0, .slice none 0 0, .slice none 0 0, .slice none 0 0, .slice none 0 0, .slice none 0 0, .slice none 0 0], .bool false] := hp 5 (by decide)
          have q6 : vs 6 = .tuple #[.agg #[.int .i64 0, .string ⟨#[]⟩, .string ⟨#[]⟩, .int .u32 0, .int .u32 0, .slice none 0 0, .slice none 0 0, .slice none 0 0, .slice none 0 0, .slice none 0 0, .slice none 0 0, .slice none 0 0, .slice none 0 0], .bool false] := hp 6 (by decide)
          have q7 : vs 7 = .agg #[.int .i64 0, .string ⟨#[]⟩, .string ⟨#[]⟩, .int .u32 0, .int .u32 0, .slice none 0 0, .slice none 0 0, .slice none 0 0, .slice none 0 0, .slice none 0 0, .slice none 0 0, .slice none 0 0, .slice none 0 0] := hp 7 (by decide)
          have q8 : vs 8 = .bool false := hp 8 (by decide)
          have HJ := Lib.hid hJ
          clear hp hd hdt hLi hJ
          simp only [putAll, Nat.reduceAdd]
          go_wp2
          exact ⟨rfl, HJ.out.keep 11 _ (by decide) (by decide), trivial, rfl⟩
      · intro vs w1 L hall hJ hp
        have q0 : vs 0 = .pointer (some ⟨w.heap.size, 0, none⟩) := hp 0 (by decide)
        have q1 : vs 1 = .int .i64 kd := hp 1 (by decide)
        have q2 : vs 2 = .slice AR R.length cR := hp 2 (by decide)
        have q3 : vs 3 = .int .i64 m := hp 3 (by decide)
        have q4 : vs 4 = .slice AR m cR := hp 4 (by decide)
        have q5 : vs 5 = .tuple #[.agg #[.int .i64 0, .string ⟨#[]⟩, .string ⟨#[]⟩, .int .u32 0, .int .u32 0, .slice none 0 0, .slice none 0 0, .slice none 0 0, .slice none 0 0, .slice none 0 0, .slice none 0 0, .slice none 0 0, .slice none 0 0], .bool false] := hp 5 (by decide)
        have q6 : vs 6 = .tuple #[.agg #[.int .i64 0, .string ⟨#[]⟩, .string ⟨#[]⟩, .int .u32 0, .int .u32 0, .slice none 0 0, .slice none 0 0, .slice none 0 0, .slice none 0 0, .slice none 0 0, .slice none 0 0, .slice none 0 0, .slice none 0 0], .bool false] := hp 6 (by decide)
        have q7 : vs 7 = .agg #[.int .i64 0, .string ⟨#[]⟩, .string ⟨#[]⟩, .int .u32 0, .int .u32 0, .slice none 0 0, .slice none 0 0, .slice none 0 0, .slice none 0 0, .slice none 0 0, .slice none 0 0, .slice none 0 0, .slice none 0 0] := hp 7 (by decide)
        have q8 : vs 8 = .bool false := hp 8 (by decide)
        have q11 : vs 11 = .bool false := hp 11 (by decide)
        have HXJ := Lib.hid hJ.X
        clear hJ hp hall
        simp only [putAll, Nat.reduceAdd]
        simp only [Exit.then]
        go_at_K
        simp only [Act.put, q0, q1, q2, q3, q4, q5, q6, q7, q8, q11, List.setIfInBounds_toArray, List.set_cons_zero, List.set_cons_succ]
        go_wp2_with (go_at_call 13; refine (works13 _).mono ?_; rintro e w5 ⟨rfl, hx5⟩; have HX5 := Lib.hid hx5; clear hx5)
        go_ret
        exact ⟨rfl, ((((ext_alloc w _).trans HE3.out).trans HX7.out).trans HXJ.out).trans HX5.out⟩
end Go.Proofs.YtdenjanihikolaaGreatDoor

