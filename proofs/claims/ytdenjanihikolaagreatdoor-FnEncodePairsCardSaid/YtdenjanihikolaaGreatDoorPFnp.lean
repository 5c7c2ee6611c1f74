/- FnEncodePairs' walk. -/
import Derived.Test.YtdenjanihikolaaGreatDoorPBdm
import Derived.Test.YtdenjanihikolaaGreatDoorPErl
import Derived.Test.YtdenjanihikolaaGreatDoorPMsf
import Derived.Test.YtdenjanihikolaaGreatDoorPEri
namespace Go.Proofs.YtdenjanihikolaaGreatDoor
set_option linter.unusedVariables false
set_option linter.unusedSimpArgs false
open Go.RowKit Og
set_option linter.unusedVariables false
set_option linter.unusedSimpArgs false
set_option maxRecDepth 100000 in
theorem sl_upto (A : Option Addr) (N c p : Nat) (hp : p ≤ c) : ∀ w : World, (Instr.slice 26 (.slice A N c) none (some (.int .i64 (p : Int))) none).run Tryz.prog w = .ok (.slice A p c) w := by
  intro w
  rw [run_slice_h (P := Tryz.prog) w 26 A N c Tryz.underlying26 .i64 p (by omega) (by omega)]
  have hs : (sizeOf (Tryz.prog.elem 26)).run Tryz.prog w = .ok 1 w := by
    obtain ⟨i0, hi, hz0, hz1, hz2⟩ := info_parts info5
    simp [sizeOf, typeInfo, show Tryz.prog.elem 26 = 5 from by kernel_rfl, hi, hz1]
  rw [hs]
  by_cases e : c = 0
  · subst e
    have : p = 0 := by omega
    subst this
    cases A <;> simp [Result.andThen, sliced, Addr.add]
  · cases A <;> simp [Result.andThen, sliced, Addr.add, e]
def hdOf (kd : Int) : Nat := if kd = 18 then 4 else 5
theorem hdOf_ne {kd : Int} (h : kd ≠ 18) : hdOf kd = 5 := if_neg h
def ReadsTo (kd : Int) (ps : List Pr) (xs : List Int) : Prop := ∀ (A : Option Addr) (n c : Nat) (w : World), RdB w (.slice A n c) xs → Calls Tryz.prog 17 #[.slice A n c, .bool (kd != 18)] w (GaveQ ps w)
theorem RdB.part {w : World} {A : Option Addr} {n c : Nat} {xs : List Int} (h : RdB w (.slice A n c) xs) {A' : Option Addr} {c' k p : Nat} (hs : ∀ (b : Nat) (w : World) (xs : List Int), RdN b w (.slice A n c) xs → RdN b w (.slice A' k c') ((xs.drop p).take k)) : RdB w (.slice A' k c') ((xs.drop p).take k) := by
  by_cases hb : ∃ b, A = some b
  · obtain ⟨⟨b, o, p⟩, rfl⟩ := hb
    exact (hs (b + 1) w xs ⟨h, fun _ e => by simp [Value.ownBlock] at e⟩).1
  · have hA : A = none := by
      cases A with
      | none => rfl
      | some a => exact absurd ⟨a, rfl⟩ hb
    subst hA
    exact (hs 0 w xs ⟨h, fun _ e => by simp [Value.ownBlock] at e⟩).1
/-- a tuple of pairs and true -/
def tupA : Value → Option Addr
  | .tuple xs => slA (xs.getD 0 undef)
  | _ => none
def tupC : Value → Nat
  | .tuple xs => slC (xs.getD 0 undef)
  | _ => 0
def spTup (ps : List Pr) : Sp Ext := ⟨fun v x => v = .tuple #[.slice (tupA v) ps.length (tupC v), .bool true] ∧ RdM 2 isPr x (.slice (tupA v) ps.length (tupC v)) ps, fun _ _ _ h k => ⟨k.1, k.2.ext h fun _ _ h => h⟩⟩
/-- The same, ready for the walk. -/
theorem pair_use {kd : Int} {a b : ByteArray} {n mm : Int} {A5 A6 A7 A8 A9 A10 A11 A12 B7 B10 B11 : Option Addr} {c5 c6 c7 c8 c9 c10 c11 c12 d7 d10 d11 : Nat} {lf lr ty d : List Int} {vls : List (Bool × List Int)} {ws : List ByteArray} {ps : List Pr} {fs : List Sf} {w wx : World} (h : PairEnc kd a b n mm A5 A6 A7 A8 A9 A10 A11 A12 B7 B10 B11 c5 c6 c7 c8 c9 c10 c11 c12 d7 d10 d11 lf lr ty d vls ws ps fs w wx) :
    ∃ (R1 R2 B : List Int) (M : Nat), R1.length = hdOf kd + M ∧ R2.length = hdOf kd + M ∧ B.length = M ∧ M ≤ 100000 ∧ R1.take (hdOf kd) = R2.take (hdOf kd) ∧ (kd = 18 → 4 ≤ M ∧ (R1.drop 4).take 4 = (R2.drop 4).take 4) ∧ ReadsTo kd ps (R1.drop (hdOf kd + if kd = 18 then 4 else 0)) ∧
      Calls Tryz.prog 14 #[.agg #[.int .i64 kd, .string a, .string b, .int .u32 n, .int .u32 mm, .slice A5 lf.length c5, .slice A6 lr.length c6, .slice A7 ty.length c7, .slice A8 vls.length c8, .slice A9 d.length c9, .slice A10 ws.length c10, .slice A11 ps.length c11, .slice A12 fs.length c12]] w (Encs w R1) ∧ (∀ wy, Ext wx wy → Calls Tryz.prog 15 #[.agg #[.int .i64 kd, .string a, .string b, .int .u32 n, .slice A5 lf.length c5, .slice A6 lr.length c6, .slice A7 ty.length c7, .slice B7 vls.length d7, .slice A9 d.length c9, .slice A10 ws.length c10, .slice B10 ps.length d10, .slice B11 fs.length d11]] wy (Gave wy R2)) ∧ (∀ wy, Ext wx wy → Calls Tryz.prog 16 #[.agg #[.int .i64 kd, .string a, .string b, .int .u32 n, .slice A5 lf.length c5, .slice A6 lr.length c6, .slice A7 ty.length c7, .slice B7 vls.length d7, .slice A9 d.length c9, .slice A10 ws.length c10, .slice B10 ps.length d10, .slice B11 fs.length d11]] wy (Gave wy B)) := by
  obtain ⟨H, P, g, qs, hb, h14, h15, h16⟩ := h
  have hH : H.length = hdOf kd := hb.H
  have hP := hb.P
  have hlen := flat_perm (f := g) hb.perm
  have hq : ∀ y ∈ qs, plainP y.1 ∧ plainP y.2 ∧ y.1.size ≠ 0 := fun y hy => hb.txt y (hb.perm.subset hy)
  have hql : qs.length ≤ 100 := by have := hb.perm.length_eq; have := hb.len; omega
  have hg402 : ∀ y ∈ ps, (g y).length ≤ 402 := fun y hy => by
    have h1 := hb.txt y hy
    rw [hb.g]
    split
    · exact prB_len h1.1.1 h1.2.1.1
    · exact erB_len h1.1.1 h1.2.1.1
  have hfl := flat_len g 402 ps hg402
  have h20 := hb.len
  refine ⟨_, _, _, (P ++ ps.flatMap g ++ [0]).length, ?_, ?_, rfl, ?_, ?_, ?_, ?_, h14, h15, h16⟩
  · simp only [List.length_append, hlen, hH]
  · simp only [List.length_append, hH]
  · simp only [List.length_append, List.length_cons, List.length_nil]; split at hP <;> omega
  · rw [← hH, List.take_left, List.take_left]
  · intro hk
    rw [if_pos hk] at hP
    have h4 : H.length = 4 := by rw [hH, hk]; rfl
    refine ⟨by simp only [List.length_append]; omega, ?_⟩
    rw [← h4, List.drop_left, List.drop_left, h4, ← hP, List.append_assoc, List.append_assoc, List.take_left, List.take_left]
  · have hX : (H ++ (P ++ qs.flatMap g ++ [0])).drop (hdOf kd + if kd = 18 then 4 else 0) = qs.flatMap g ++ [0] := by
      rw [← hP, ← hH, ← List.drop_drop, List.drop_left, List.append_assoc, List.drop_left]
    rw [hX]
    intro A n c w hr
    by_cases hk : kd = 18
    · have e : (kd != 18) = false := by rw [hk]; rfl
      have hg : g = prB := by rw [hb.g, if_pos hk]
      rw [e]
      rw [hg] at hr
      exact readP qs ps hq hql hb.perm hb.srt A n c w hr
    · have e : (kd != 18) = true := by simp [bne, hk]
      have hg : g = erB := by rw [hb.g, if_neg hk]
      rw [e]
      rw [hg] at hr
      exact readS qs ps (fun y hy => ⟨(hq y hy).1, (hq y hy).2.1, hb.one hk y (hb.perm.subset hy)⟩) hql hb.perm hb.srt A n c w hr
set_option maxRecDepth 100000 in
set_option maxHeartbeats 4000000 in
theorem pairs18 (a b : ByteArray) (n mm : Int) (A5 A6 A7 A8 A9 A10 A11 A12 : Option Addr) (c5 c6 c7 c8 c9 c10 c11 c12 : Nat) (lf lr ty d : List Int) (vls : List (Bool × List Int)) (ws : List ByteArray) (ps : List (ByteArray × ByteArray)) (fs : List Sf) (w : World) 
    (hm : MsgIn w (.agg #[.int .i64 18, .string a, .string b, .int .u32 n, .int .u32 mm, .slice A5 lf.length c5, .slice A6 lr.length c6, .slice A7 ty.length c7, .slice A8 vls.length c8, .slice A9 d.length c9, .slice A10 ws.length c10, .slice A11 ps.length c11, .slice A12 fs.length c12]) a b 18 n mm A5 A6 A7 A8 A9 A10 A11 A12 c5 c6 c7 c8 c9 c10 c11 c12 lf lr ty d vls ws ps fs) (htab : Tab w) :
    Calls Tryz.prog 4 #[.agg #[.int .i64 18, .string a, .string b, .int .u32 n, .int .u32 mm, .slice A5 lf.length c5, .slice A6 lr.length c6, .slice A7 ty.length c7, .slice A8 vls.length c8, .slice A9 d.length c9, .slice A10 ws.length c10, .slice A11 ps.length c11, .slice A12 fs.length c12]] w (fun e w' => e = .returned (.bool true) ∧ Ext w w') := by
  have HM := Lib.hid hm
  have HTAB := Lib.hid htab
  have H5 := Lib.hid hm.rf
  have H6 := Lib.hid hm.rr
  have H8 := Lib.hid hm.rv
  have H10 := Lib.hid hm.rw
  have H11 := Lib.hid hm.rp
  have H12 := Lib.hid hm.rl
  clear hm htab
  have hdn : hdOf 18 = 4 := rfl
  have hst : turnedQ 18 = true := rfl
  have hm0 : True := trivial
  have hm1 : True := trivial
  have hm2 : True := trivial
  have hm3 : True := trivial
  have hm4 : True := trivial
  have hm5 : True := trivial
  have hm6 : True := trivial
  have hm7 : True := trivial
  have hm8 : True := trivial
  have hm9 : True := trivial
  have hm10 : True := trivial
  have hm11 : True := trivial
  have hm12 : True := trivial
  go_enter Tryz.func4, Tryz.ntmps4
  go_wp2_with (first | (go_at_call 9; refine (fit1 a b _ _ _ A5 A6 A7 A8 A9 A10 A11 A12 c5 c6 c7 c8 c9 c10 c11 c12 lf lr ty d vls ws ps fs _ (H8.out.ext (ext_alloc w _) (isVal.ext (ext_alloc w _))) (H10.out.ext (ext_alloc w _) (fun _ _ h => h)) (H11.out.ext (ext_alloc w _) (fun _ _ h => h)) (H12.out.ext (ext_alloc w _) (fun _ _ h => h))).mono ?_; rintro e w1 ⟨bo, rfl, hbo, hbx⟩; have HE := Lib.hid hbx; have HS := Lib.hid hbo; clear hbo hbx; clear hm0; have hm0 := box_at HE.out 0 (.int .i64 18) rfl; clear hm1; have hm1 := box_at HE.out 1 (.string a) rfl; clear hm2; have hm2 := box_at HE.out 2 (.string b) rfl; clear hm3; have hm3 := box_at HE.out 3 (.int .u32 n) rfl; clear hm4; have hm4 := box_at HE.out 4 (.int .u32 mm) rfl; clear hm5; have hm5 := box_at HE.out 5 (.slice A5 lf.length c5) rfl; clear hm6; have hm6 := box_at HE.out 6 (.slice A6 lr.length c6) rfl; clear hm7; have hm7 := box_at HE.out 7 (.slice A7 ty.length c7) rfl; clear hm8; have hm8 := box_at HE.out 8 (.slice A8 vls.length c8) rfl; clear hm9; have hm9 := box_at HE.out 9 (.slice A9 d.length c9) rfl; clear hm10; have hm10 := box_at HE.out 10 (.slice A10 ws.length c10) rfl; clear hm11; have hm11 := box_at HE.out 11 (.slice A11 ps.length c11) rfl; clear hm12; have hm12 := box_at HE.out 12 (.slice A12 fs.length c12) rfl; cases bo) | (go_at_call 10; refine msg10 a b 18 n mm A5 A6 A7 A9 A10 A8 A11 A12 lf.length lr.length ty.length d.length ws.length c5 c6 c7 c9 c10 c8 c11 c12 vls ps fs _ (H8.out.ext ((ext_alloc w _).trans HE.out) (isVal.ext ((ext_alloc w _).trans HE.out))) (H11.out.ext ((ext_alloc w _).trans HE.out) (fun _ _ h => h)) (H12.out.ext ((ext_alloc w _).trans HE.out) (fun _ _ h => h)) (HS.out trivial).2.2.2.2.2.2.1.1 (HS.out trivial).2.2.2.2.2.2.2.2.1.1 (HS.out trivial).2.2.2.2.2.2.2.2.2.1 _ ?_; intro w2 B7 d7 B10 d10 B11 d11 hx2 hr7 hr10 hr11; have HE2 := Lib.hid (HE.out.trans hx2); have HR7 := Lib.hid hr7; have HR10 := Lib.hid hr10; have HR11 := Lib.hid hr11; clear hx2 hr7 hr10 hr11; clear hm0; have hm0 := box_at HE2.out 0 (.int .i64 18) rfl; clear hm1; have hm1 := box_at HE2.out 1 (.string a) rfl; clear hm2; have hm2 := box_at HE2.out 2 (.string b) rfl; clear hm3; have hm3 := box_at HE2.out 3 (.int .u32 n) rfl; clear hm4; have hm4 := box_at HE2.out 4 (.int .u32 mm) rfl; clear hm5; have hm5 := box_at HE2.out 5 (.slice A5 lf.length c5) rfl; clear hm6; have hm6 := box_at HE2.out 6 (.slice A6 lr.length c6) rfl; clear hm7; have hm7 := box_at HE2.out 7 (.slice A7 ty.length c7) rfl; clear hm8; have hm8 := box_at HE2.out 8 (.slice A8 vls.length c8) rfl; clear hm9; have hm9 := box_at HE2.out 9 (.slice A9 d.length c9) rfl; clear hm10; have hm10 := box_at HE2.out 10 (.slice A10 ws.length c10) rfl; clear hm11; have hm11 := box_at HE2.out 11 (.slice A11 ps.length c11) rfl; clear hm12; have hm12 := box_at HE2.out 12 (.slice A12 fs.length c12) rfl; ) | (go_at_call 11; refine (proper11 a b 18 n A5 A6 A7 B7 A9 A10 B10 B11 c5 c6 c7 d7 c9 c10 d10 d11 lf lr ty d vls ws ps fs _ (H5.out.ext ((ext_alloc w _).trans ((HE2.out.alloc (.cells #[.int .i64 18, .string a, .string b, .int .u32 n, .slice A5 lf.length c5, .slice A6 lr.length c6, .slice A7 ty.length c7, .slice B7 vls.length d7, .slice A9 d.length c9, .slice A10 ws.length c10, .slice B10 ps.length d10, .slice B11 fs.length d11] 37))))) (H6.out.ext ((ext_alloc w _).trans ((HE2.out.alloc (.cells #[.int .i64 18, .string a, .string b, .int .u32 n, .slice A5 lf.length c5, .slice A6 lr.length c6, .slice A7 ty.length c7, .slice B7 vls.length d7, .slice A9 d.length c9, .slice A10 ws.length c10, .slice B10 ps.length d10, .slice B11 fs.length d11] 37))))) (HR7.out.ext (ext_alloc _ _) (isVal.ext (ext_alloc _ _))) (H10.out.ext ((ext_alloc w _).trans ((HE2.out.alloc (.cells #[.int .i64 18, .string a, .string b, .int .u32 n, .slice A5 lf.length c5, .slice A6 lr.length c6, .slice A7 ty.length c7, .slice B7 vls.length d7, .slice A9 d.length c9, .slice A10 ws.length c10, .slice B10 ps.length d10, .slice B11 fs.length d11] 37)))) (fun _ _ h => h)) (HR10.out.ext (ext_alloc _ _) (fun _ _ h => h)) (HR11.out.ext (ext_alloc _ _) (fun _ _ h => h)) (HS.out trivial).1 (HS.out trivial).2.1 (HS.out trivial).2.2.1 (HS.out trivial).2.2.2.1 (HS.out trivial).2.2.2.2.1 (HS.out trivial).2.2.2.2.2.2.1.1 (HS.out trivial).2.2.2.2.2.1 (HS.out trivial).2.2.2.2.2.2.2.1.1 (HS.out trivial).2.2.2.2.2.2.2.1.2 (HS.out trivial).2.2.2.2.2.2.2.2.1.1 (HS.out trivial).2.2.2.2.2.2.2.2.1.2 (HS.out trivial).2.2.2.2.2.2.2.2.2.1 (HS.out trivial).2.2.2.2.2.2.2.2.2.2).mono ?_; rintro e w3 ⟨bp, rfl, hbp, hbx⟩; have HX3 := Lib.hid hbx; have HP := Lib.hid hbp; clear hbp hbx; have HE3 := Lib.hid (((HE2.out.alloc (.cells #[.int .i64 18, .string a, .string b, .int .u32 n, .slice A5 lf.length c5, .slice A6 lr.length c6, .slice A7 ty.length c7, .slice B7 vls.length d7, .slice A9 d.length c9, .slice A10 ws.length c10, .slice B10 ps.length d10, .slice B11 fs.length d11] 37))).trans HX3.out); clear hm0; have hm0 := box_at HE3.out 0 (.int .i64 18) rfl; clear hm1; have hm1 := box_at HE3.out 1 (.string a) rfl; clear hm2; have hm2 := box_at HE3.out 2 (.string b) rfl; clear hm3; have hm3 := box_at HE3.out 3 (.int .u32 n) rfl; clear hm4; have hm4 := box_at HE3.out 4 (.int .u32 mm) rfl; clear hm5; have hm5 := box_at HE3.out 5 (.slice A5 lf.length c5) rfl; clear hm6; have hm6 := box_at HE3.out 6 (.slice A6 lr.length c6) rfl; clear hm7; have hm7 := box_at HE3.out 7 (.slice A7 ty.length c7) rfl; clear hm8; have hm8 := box_at HE3.out 8 (.slice A8 vls.length c8) rfl; clear hm9; have hm9 := box_at HE3.out 9 (.slice A9 d.length c9) rfl; clear hm10; have hm10 := box_at HE3.out 10 (.slice A10 ws.length c10) rfl; clear hm11; have hm11 := box_at HE3.out 11 (.slice A11 ps.length c11) rfl; clear hm12; have hm12 := box_at HE3.out 12 (.slice A12 fs.length c12) rfl; cases bp) | (go_at_call 12; refine (turned12 18 _).mono ?_; rintro e w4 ⟨rfl, hw4⟩; subst hw4; rw [hst]) | (go_at_call 13; refine (works13 _).mono ?_; rintro e w5 ⟨rfl, hx5⟩; have HX5 := Lib.hid hx5; clear hx5) | (go_at_call 14; obtain ⟨R1, R2, B, M, hl1, hl2, hl3, hMM, htk, h18, hrd, h14, h15, h16⟩ := pair_use (pair_enc 18 a b n mm A5 A6 A7 A8 A9 A10 A11 A12 B7 B10 B11 c5 c6 c7 c8 c9 c10 c11 c12 d7 d10 d11 lf lr ty d vls ws ps fs _ _ hst (H11.out.ext ((ext_alloc w _).trans HE3.out) (fun _ _ h => h)) (HR10.out.ext ((ext_alloc w2 _).trans HX3.out) (fun _ _ h => h)) HM.out.n (HTAB.out.ext ((ext_alloc w _).trans HE3.out)) (HP.out trivial)); have H15 := Lib.hid h15; have H16 := Lib.hid h16; have HRD : Hid (∀ (A : Option Addr) (n c : Nat) (w : World), RdB w (.slice A n c) (R1.drop 8) → Calls Tryz.prog 17 #[.slice A n c, .bool false] w (GaveQ ps w)) := Lib.hid (fun A n c w h => by have h9 := hrd A n c w (by rw [hdn]; exact h); rw [show ((18 : Int) != 18) = false from rfl] at h9; exact h9); have HTK := Lib.hid htk; have H18 := Lib.hid h18; have HMM := Lib.hid hMM; refine h14.mono ?_; rintro e w4 ⟨AR, cR, rfl, hx4, hr4⟩; have HX4 := Lib.hid hx4; have HR4 := Lib.hid hr4; have HL1 := Lib.hid hl1; have HL2 := Lib.hid hl2; have HL3 := Lib.hid hl3; have BX4 := Lib.hid ((HX3.out.trans HX4.out).block w2.heap.size (by simp) |>.trans (heap_alloc_new w2 (.cells #[.int .i64 18, .string a, .string b, .int .u32 n, .slice A5 lf.length c5, .slice A6 lr.length c6, .slice A7 ty.length c7, .slice B7 vls.length d7, .slice A9 d.length c9, .slice A10 ws.length c10, .slice B10 ps.length d10, .slice B11 fs.length d11] 37))); have HE4 := Lib.hid (HE3.out.trans HX4.out); clear hm0; have hm0 := box_at HE4.out 0 (.int .i64 18) rfl; (try clear hq0); have hq0 := cell_slot BX4.out 0 (.int .i64 18) rfl; (try clear hq1); have hq1 := cell_slot BX4.out 1 (.string a) rfl; (try clear hq2); have hq2 := cell_slot BX4.out 2 (.string b) rfl; (try clear hq3); have hq3 := cell_slot BX4.out 3 (.int .u32 n) rfl; (try clear hq4); have hq4 := cell_slot BX4.out 4 (.slice A5 lf.length c5) rfl; (try clear hq5); have hq5 := cell_slot BX4.out 5 (.slice A6 lr.length c6) rfl; (try clear hq6); have hq6 := cell_slot BX4.out 6 (.slice A7 ty.length c7) rfl; (try clear hq7); have hq7 := cell_slot BX4.out 7 (.slice B7 vls.length d7) rfl; (try clear hq8); have hq8 := cell_slot BX4.out 8 (.slice A9 d.length c9) rfl; (try clear hq9); have hq9 := cell_slot BX4.out 9 (.slice A10 ws.length c10) rfl; (try clear hq10); have hq10 := cell_slot BX4.out 10 (.slice B10 ps.length d10) rfl; (try clear hq11); have hq11 := cell_slot BX4.out 11 (.slice B11 fs.length d11) rfl; rw [HL1.out, hdn]; clear h15 h16 hrd htk h18 hMM h14 hx4 hr4 hl1 hl2 hl3) | (go_at_call 15; refine (H15.out _ HX4.out).mono ?_; rintro e w6 hg; obtain ⟨A15, c15, rfl, hx6, hr6⟩ := hg.elim; have HX6 := Lib.hid hx6; have HR6 := Lib.hid hr6; have BX6 := Lib.hid ((HX6.out.block _ (lt_of_block BX4.out)).trans BX4.out); have HE6 := Lib.hid (HE4.out.trans HX6.out); clear hm0; have hm0 := box_at HE6.out 0 (.int .i64 18) rfl; (try clear hq0); have hq0 := cell_slot BX6.out 0 (.int .i64 18) rfl; (try clear hq1); have hq1 := cell_slot BX6.out 1 (.string a) rfl; (try clear hq2); have hq2 := cell_slot BX6.out 2 (.string b) rfl; (try clear hq3); have hq3 := cell_slot BX6.out 3 (.int .u32 n) rfl; (try clear hq4); have hq4 := cell_slot BX6.out 4 (.slice A5 lf.length c5) rfl; (try clear hq5); have hq5 := cell_slot BX6.out 5 (.slice A6 lr.length c6) rfl; (try clear hq6); have hq6 := cell_slot BX6.out 6 (.slice A7 ty.length c7) rfl; (try clear hq7); have hq7 := cell_slot BX6.out 7 (.slice B7 vls.length d7) rfl; (try clear hq8); have hq8 := cell_slot BX6.out 8 (.slice A9 d.length c9) rfl; (try clear hq9); have hq9 := cell_slot BX6.out 9 (.slice A10 ws.length c10) rfl; (try clear hq10); have hq10 := cell_slot BX6.out 10 (.slice B10 ps.length d10) rfl; (try clear hq11); have hq11 := cell_slot BX6.out 11 (.slice B11 fs.length d11) rfl; rw [HL2.out, hdn]; clear hg hx6 hr6) | (go_at_call 16; refine (H16.out _ (HX4.out.trans HX6.out)).mono ?_; rintro e w7 hg; obtain ⟨A16, c16, rfl, hx7, hr7⟩ := hg.elim; have HX7 := Lib.hid hx7; have BX7 := Lib.hid ((HX7.out.block _ (lt_of_block BX6.out)).trans BX6.out); have HE7 := Lib.hid (HE6.out.trans HX7.out); clear hm0; have hm0 := box_at HE7.out 0 (.int .i64 18) rfl; (try clear hq0); have hq0 := cell_slot BX7.out 0 (.int .i64 18) rfl; (try clear hq1); have hq1 := cell_slot BX7.out 1 (.string a) rfl; (try clear hq2); have hq2 := cell_slot BX7.out 2 (.string b) rfl; (try clear hq3); have hq3 := cell_slot BX7.out 3 (.int .u32 n) rfl; (try clear hq4); have hq4 := cell_slot BX7.out 4 (.slice A5 lf.length c5) rfl; (try clear hq5); have hq5 := cell_slot BX7.out 5 (.slice A6 lr.length c6) rfl; (try clear hq6); have hq6 := cell_slot BX7.out 6 (.slice A7 ty.length c7) rfl; (try clear hq7); have hq7 := cell_slot BX7.out 7 (.slice B7 vls.length d7) rfl; (try clear hq8); have hq8 := cell_slot BX7.out 8 (.slice A9 d.length c9) rfl; (try clear hq9); have hq9 := cell_slot BX7.out 9 (.slice A10 ws.length c10) rfl; (try clear hq10); have hq10 := cell_slot BX7.out 10 (.slice B10 ps.length d10) rfl; (try clear hq11); have hq11 := cell_slot BX7.out 11 (.slice B11 fs.length d11) rfl; rw [HL3.out]; clear hg hx7 hr7))
  all_goals first
    | (go_ret; exact ⟨rfl, ((ext_alloc w _).trans HE3.out).trans HX5.out⟩) | (go_ret; exact ⟨rfl, (ext_alloc w _).trans HE.out⟩)
    | skip
  clear hm1 hm2 hm3 hm4 hm5 hm6 hm7 hm8 hm9 hm10 hm11 hm12 hq0 hq1 hq2 hq3 hq4 hq5 hq6 hq7 hq8 hq9 hq11
  have HRA := Lib.hid (HR4.out.ext (HX6.out.trans HX7.out))
  have HRB := Lib.hid (HR6.out.ext HX7.out)
  have hcR : 4 + M ≤ cR := by have h9 := HRA.out.parts; rw [HL1.out, hdn] at h9; exact h9.2.1
  have hc15 : 4 + M ≤ c15 := by have h9 := HRB.out.parts; rw [HL2.out, hdn] at h9; exact h9.2.1
  have hcv1 : ∀ q, (convert 26 9 (.slice AR 4 cR)).run Tryz.prog (w7.drewN q) = .ok (.string (strOf (R1.take 4))) (w7.drewN q) := fun q => conv_rd (by have h9 := (HRA.out.ext ((Ext.refl w7).drewN q)).take 4 (by rw [HL1.out, hdn]; omega); exact h9)
  have hcv2 : ∀ q, (convert 26 9 (.slice A15 4 c15)).run Tryz.prog (w7.drewN q) = .ok (.string (strOf (R1.take 4))) (w7.drewN q) := fun q => conv_rd (by have h9 := (HRB.out.ext ((Ext.refl w7).drewN q)).take 4 (by rw [HL2.out, hdn]; omega); have h8 := HTK.out; rw [hdn] at h8; rw [h8]; exact h9)
  have hsl1 := sl_upto AR (4 + M) cR 4 (by omega)
  have hsl2 := sl_upto A15 (4 + M) c15 4 (by omega)
  go_quiet (skip)
  go_wp2
  obtain ⟨n1, hn1⟩ : ∃ x, x = nq := ⟨_, rfl⟩
  subst hn1
  obtain ⟨AP, cP, hsl4, hsp4⟩ := sl_midr AR (4 + M) cR 4 4 (by have := (H18.out (by first | rfl | trivial)).1; omega) hcR (by have h9 := HRA.out.parts; exact h9.2.2)
  obtain ⟨AQ, cQ, hsl5, hsp5⟩ := sl_midr A15 (4 + M) c15 4 4 (by have := (H18.out (by first | rfl | trivial)).1; omega) hc15 (by have h9 := HRB.out.parts; exact h9.2.2)
  have hs4 := fun w : World => hsl4 4 8 w rfl rfl
  have hs5 := fun w : World => hsl5 4 8 w rfl rfl
  have hcv3 : ∀ w', Ext w7 w' → (convert 26 9 (.slice AP 4 cP)).run Tryz.prog w' = .ok (.string (strOf ((R1.drop 4).take 4))) w' := fun w' hx => conv_rd (RdB.part (by have h9 := HRA.out.ext hx; rw [HL1.out, hdn] at h9; exact h9) hsp4)
  have hcv4 : ∀ w', Ext w7 w' → (convert 26 9 (.slice AQ 4 cQ)).run Tryz.prog w' = .ok (.string (strOf ((R1.drop 4).take 4))) w' := fun w' hx => conv_rd (by rw [(H18.out (by first | rfl | trivial)).2]; exact RdB.part (by have h9 := HRB.out.ext hx; rw [HL2.out, hdn] at h9; exact h9) hsp5)
  have hcv3' := fun q => hcv3 (w7.drewN q) ((Ext.refl w7).drewN q)
  have hcv4' := fun q => hcv4 (w7.drewN q) ((Ext.refl w7).drewN q)
  clear hsl4 hsp4 hsl5 hsp5 hcv3 hcv4
  have h8w : IntKind.i64.wrap 8 = 8 := by decide
  go_quiet (skip)
  go_wp2
  obtain ⟨w8, hw8⟩ : ∃ w8, w8 = (w7.drewN n1).drewN nq := ⟨_, rfl⟩
  have HX8 : Hid (Ext w7 w8) := Lib.hid (by rw [hw8]; exact ((Ext.refl w7).drewN _).drewN _)
  first | rw [← hw8] | (have hw8' := hw8; rw [World.drewN_drewN] at hw8'; rw [← hw8'])
  clear hw8 hm0 hq10 hcv1 hcv2 hsl1 hsl2
  have HE8 := Lib.hid (HE7.out.trans HX8.out)
  have HM0 := Lib.hid (box_at HE8.out 0 (.int .i64 18) rfl)
  have BX8 := Lib.hid ((HX8.out.block _ (lt_of_block BX7.out)).trans BX7.out)
  obtain ⟨A3, c3, hsl, hdr⟩ := sl_at AR (4 + M) cR 8 (by have := (H18.out (by first | rfl | trivial)).1; omega) hcR (by have h9 := HRA.out.parts; exact h9.2.2)
  have hslh := fun w : World => hsl 8 w rfl
  obtain ⟨ML, hML⟩ : ∃ x, x = 4 + M - 8 := ⟨_, rfl⟩
  rw [← hML] at hslh
  have HSRC : Hid (RdB w8 (.slice A3 ML c3) (R1.drop 8)) := Lib.hid (by rw [hML]; exact RdB.tail (by have h9 := HRA.out.ext HX8.out; rw [HL1.out, hdn] at h9; exact h9) hdr)
  clear hsl hdr hML
  refine wp_region_og (J := fun x => Ext w8 x) (R := Ext) [Sp.eq _ (.slice AR (4 + M) cR), Sp.eq _ (.int .i64 8), Sp.eq _ (.slice A3 ML c3), Sp.eq _ (.pointer (some ⟨w.heap.size, 0, none⟩)), Sp.eq _ (.int .i64 18), Sp.eq _ (.bool false), spTup ps, spTup ps, spPrs ps, Sp.eq _ (.bool true), spPrs ps, Sp.eq _ (.bool true)] (by kernel_rfl) (by kernel_rfl) (by kernel_rfl) (by kernel_rfl) ?_ ?_ ?_
  · exact (Ext.refl w8).drew
  · refine ⟨?_, ?_, ?_, ?_, ?_, ?_, ?_, ?_, ?_, ?_, ?_, ?_, trivial⟩
    · intro vs w1 hJ hp
      have HJ := Lib.hid hJ
      clear hp hJ
      simp only [putAll, Nat.reduceAdd]
      go_wp2
      exact ⟨rfl, HJ.out, Ext.refl _, rfl⟩
    · intro vs w1 hJ hp
      have HJ := Lib.hid hJ
      clear hp hJ
      simp only [putAll, Nat.reduceAdd]
      go_wp2
      exact ⟨rfl, HJ.out, Ext.refl _, rfl⟩
    · intro vs w1 hJ hp
      have q0 : vs 0 = .slice AR (4 + M) cR := hp 0 (by decide)
      have q1 : vs 1 = .int .i64 8 := hp 1 (by decide)
      have HJ := Lib.hid hJ
      clear hp hJ
      simp only [putAll, Nat.reduceAdd]
      go_wp2
      exact ⟨rfl, HJ.out, Ext.refl _, rfl⟩
    · intro vs w1 hJ hp
      have HJ := Lib.hid hJ
      clear hp hJ
      simp only [putAll, Nat.reduceAdd]
      go_wp2
      exact ⟨rfl, HJ.out, Ext.refl _, rfl⟩
    · intro vs w1 hJ hp
      have q3 : vs 3 = .pointer (some ⟨w.heap.size, 0, none⟩) := hp 3 (by decide)
      have HJ := Lib.hid hJ
      have hq := hJ.cell HM0.out
      clear hp hJ
      simp only [putAll, Nat.reduceAdd]
      go_wp2
      exact ⟨rfl, HJ.out, Ext.refl _, rfl⟩
    · intro vs w1 hJ hp
      have q4 : vs 4 = .int .i64 18 := hp 4 (by decide)
      have HJ := Lib.hid hJ
      clear hp hJ
      simp only [putAll, Nat.reduceAdd]
      go_wp2
      exact ⟨rfl, HJ.out, Ext.refl _, rfl⟩
    · intro vs w1 hJ hp
      have q2 : vs 2 = .slice A3 ML c3 := hp 2 (by decide)
      have q5 : vs 5 = .bool false := hp 5 (by decide)
      have HJ := Lib.hid hJ
      clear hp hJ
      simp only [putAll, Nat.reduceAdd]
      go_wp2_with (go_at_call 17; refine (HRD.out A3 _ c3 _ (HSRC.out.ext HJ.out)).mono ?_; rintro e w9 ⟨Aq, cq, rfl, hx9, hr9⟩; have HX9 := Lib.hid hx9; have HR9 := Lib.hid hr9; clear hx9 hr9)
      exact ⟨rfl, HJ.out.trans HX9.out, HX9.out, rfl, HR9.out⟩
    · intro vs w1 hJ hp
      have q6 : (spTup ps).p (vs 6) w1 := hp 6 (by decide)
      have HJ := Lib.hid hJ
      have HQ6 := Lib.hid q6
      clear hp hJ q6
      simp only [putAll, Nat.reduceAdd]
      rw [HQ6.out.1]
      go_wp2
      exact ⟨rfl, HJ.out, Ext.refl _, rfl, HQ6.out.2⟩
    · intro vs w1 hJ hp
      have q7 : (spTup ps).p (vs 7) w1 := hp 7 (by decide)
      have HJ := Lib.hid hJ
      have HQ7 := Lib.hid q7
      clear hp hJ q7
      simp only [putAll, Nat.reduceAdd]
      rw [HQ7.out.1]
      go_wp2
      exact ⟨rfl, HJ.out, Ext.refl _, rfl, HQ7.out.2⟩
    · intro vs w1 hJ hp
      have q7 : (spTup ps).p (vs 7) w1 := hp 7 (by decide)
      have HJ := Lib.hid hJ
      have HQ7 := Lib.hid q7
      clear hp hJ q7
      simp only [putAll, Nat.reduceAdd]
      rw [HQ7.out.1]
      go_wp2
      exact ⟨rfl, HJ.out, Ext.refl _, rfl⟩
    · intro vs w1 hJ hp
      have q0 : vs 0 = .slice AR (4 + M) cR := hp 0 (by decide)
      have q1 : vs 1 = .int .i64 8 := hp 1 (by decide)
      have q2 : vs 2 = .slice A3 ML c3 := hp 2 (by decide)
      have q3 : vs 3 = .pointer (some ⟨w.heap.size, 0, none⟩) := hp 3 (by decide)
      have q4 : vs 4 = .int .i64 18 := hp 4 (by decide)
      have q5 : vs 5 = .bool false := hp 5 (by decide)
      have q6 : (spTup ps).p (vs 6) w1 := hp 6 (by decide)
      have q7 : (spTup ps).p (vs 7) w1 := hp 7 (by decide)
      have q8 : (spPrs ps).p (vs 8) w1 := hp 8 (by decide)
      have HJ := Lib.hid hJ
      have HQ6 := Lib.hid q6
      have HQ7 := Lib.hid q7
      have HQ8 := Lib.hid q8
      clear hp hJ q6 q7 q8
      simp only [putAll, Nat.reduceAdd]
      rw [HQ8.out.1]
      go_wp2
      exact ⟨rfl, HJ.out, Ext.refl _, rfl, by have h9 := HQ8.out; rw [h9.1] at h9; exact h9.2⟩
    · intro vs w1 hJ hp
      have q0 : vs 0 = .slice AR (4 + M) cR := hp 0 (by decide)
      have q1 : vs 1 = .int .i64 8 := hp 1 (by decide)
      have q2 : vs 2 = .slice A3 ML c3 := hp 2 (by decide)
      have q3 : vs 3 = .pointer (some ⟨w.heap.size, 0, none⟩) := hp 3 (by decide)
      have q4 : vs 4 = .int .i64 18 := hp 4 (by decide)
      have q5 : vs 5 = .bool false := hp 5 (by decide)
      have q6 : (spTup ps).p (vs 6) w1 := hp 6 (by decide)
      have q7 : (spTup ps).p (vs 7) w1 := hp 7 (by decide)
      have q8 : (spPrs ps).p (vs 8) w1 := hp 8 (by decide)
      have q9 : vs 9 = .bool true := hp 9 (by decide)
      have q10 : (spPrs ps).p (vs 10) w1 := hp 10 (by decide)
      have HJ := Lib.hid hJ
      have HQ6 := Lib.hid q6
      have HQ7 := Lib.hid q7
      have HQ8 := Lib.hid q8
      have HQ10 := Lib.hid q10
      clear hp hJ q6 q7 q8 q10
      simp only [putAll, Nat.reduceAdd]
      go_wp2
      exact ⟨rfl, HJ.out, Ext.refl _, rfl⟩
  · intro vs w9 hJ hp
    have q0 : vs 0 = .slice AR (4 + M) cR := hp 0 (by decide)
    have q1 : vs 1 = .int .i64 8 := hp 1 (by decide)
    have q2 : vs 2 = .slice A3 ML c3 := hp 2 (by decide)
    have q3 : vs 3 = .pointer (some ⟨w.heap.size, 0, none⟩) := hp 3 (by decide)
    have q4 : vs 4 = .int .i64 18 := hp 4 (by decide)
    have q5 : vs 5 = .bool false := hp 5 (by decide)
    have q6 : (spTup ps).p (vs 6) w9 := hp 6 (by decide)
    have q7 : (spTup ps).p (vs 7) w9 := hp 7 (by decide)
    have q8 : (spPrs ps).p (vs 8) w9 := hp 8 (by decide)
    have q9 : vs 9 = .bool true := hp 9 (by decide)
    have q10 : (spPrs ps).p (vs 10) w9 := hp 10 (by decide)
    have q11 : vs 11 = .bool true := hp 11 (by decide)
    have HJ := Lib.hid hJ
    have HQ6 := Lib.hid q6
    have HQ7 := Lib.hid q7
    have HQ8 := Lib.hid q8
    have HQ10 := Lib.hid q10
    clear hp hJ q6 q7 q8 q10
    simp only [putAll, Nat.reduceAdd]
    rw [HQ6.out.1, HQ7.out.1, HQ8.out.1, HQ10.out.1]
    obtain ⟨Aq, cq, hAq⟩ : ∃ A c, Value.slice A ps.length c = .slice (slA (vs 10)) ps.length (slC (vs 10)) := ⟨_, _, rfl⟩
    have HRP : Hid (RdM 2 isPr w9 (.slice (slA (vs 10)) ps.length (slC (vs 10))) ps) := Lib.hid (by have h9 := HQ10.out; rw [h9.1] at h9; exact h9.2)
    generalize slA (vs 10) = Az at HRP ⊢
    generalize slC (vs 10) = cz at HRP ⊢
    have HRX := Lib.hid (HR10.out.ext (((ext_alloc w2 _).trans HX3.out).trans ((((HX4.out.trans HX6.out).trans HX7.out).trans HX8.out).trans HJ.out)) (fun _ _ h => h))
    have hqp := cell_slot ((HJ.out.block _ (lt_of_block BX8.out)).trans BX8.out) 10 (.slice B10 ps.length d10) rfl
    simp only [Exit.then]
    go_at_K
    simp only [Act.put, q0, q1, q2, q3, q4, q5, q9, q11, List.setIfInBounds_toArray, List.set_cons_zero, List.set_cons_succ]
    go_wp2
    have hpl : ps.length ≤ 2147483647 := (HS.out trivial).2.2.2.2.2.2.2.2.1.1
    go_loopw [99] (fun i wr => ∃ k : Nat, k ≤ ps.length ∧ i = .int .i64 k ∧ Hid (Ext w9 wr)) (fun i _ => ps.length - (intOf i).toNat)
    case atStart => exact ⟨0, Nat.zero_le _, rfl, Lib.hid (Ext.refl _)⟩
    case round =>
      obtain ⟨k, hk1, rfl, HE9⟩ := hrel
      have HQP := Lib.hid (HE9.out.cell hqp)
      have hqp2 := HQP.out
      by_cases hlt : k < ps.length
      · obtain ⟨b1, o1, f, rfl, hcell, hv⟩ := HRP.out.at_ hlt
        obtain ⟨b2, o2, f2, rfl, hcell2, hv2⟩ := HRX.out.at_ hlt
        obtain ⟨⟨x1, x2⟩, hx⟩ : ∃ x, x = ps[k] := ⟨_, rfl⟩
        rw [← hx] at hv hv2
        have hf0 : f 0 = .string x1 := hv.1
        have hf1 : f 1 = .string x2 := hv.2
        have hg0 : f2 0 = .string x1 := hv2.1
        have hg1 : f2 1 = .string x2 := hv2.2
        have hd0 := HE9.out.cell (hcell 0 (by omega))
        have hd1 := HE9.out.cell (hcell 1 (by omega))
        have he0 := HE9.out.cell (hcell2 0 (by omega))
        have he1 := HE9.out.cell (hcell2 1 (by omega))
        rw [hf0, Nat.add_zero] at hd0
        rw [hf1] at hd1
        rw [hg0, Nat.add_zero] at he0
        rw [hg1] at he1
        clear hx hcell hcell2 hf0 hf1 hg0 hg1 hv hv2
        go_wp2
        go_quiet (skip)
        go_wp2
        go_roundw
        case rel => exact ⟨k + 1, by omega, by go_num, Lib.hid (HE9.out.drewN _)⟩
        case measure => simp only [intOf]; omega
      · obtain rfl : k = ps.length := by omega
        go_wp2_with (go_at_call 13; refine (works13 _).mono ?_; rintro e w5 ⟨rfl, hx5⟩; have HX5 := Lib.hid hx5; clear hx5)
        go_ret
        exact ⟨rfl, (((ext_alloc w _).trans HE8.out).trans (HJ.out.trans HE9.out)).trans HX5.out⟩
set_option maxRecDepth 100000 in
set_option maxHeartbeats 4000000 in
theorem pairsE (a b : ByteArray) (kd n mm : Int) (A5 A6 A7 A8 A9 A10 A11 A12 : Option Addr) (c5 c6 c7 c8 c9 c10 c11 c12 : Nat) (lf lr ty d : List Int) (vls : List (Bool × List Int)) (ws : List ByteArray) (ps : List (ByteArray × ByteArray)) (fs : List Sf) (w : World) (hne18 : kd ≠ 18) (hturn : turnedQ kd = true)
    (hm : MsgIn w (.agg #[.int .i64 kd, .string a, .string b, .int .u32 n, .int .u32 mm, .slice A5 lf.length c5, .slice A6 lr.length c6, .slice A7 ty.length c7, .slice A8 vls.length c8, .slice A9 d.length c9, .slice A10 ws.length c10, .slice A11 ps.length c11, .slice A12 fs.length c12]) a b kd n mm A5 A6 A7 A8 A9 A10 A11 A12 c5 c6 c7 c8 c9 c10 c11 c12 lf lr ty d vls ws ps fs) (htab : Tab w) :
    Calls Tryz.prog 4 #[.agg #[.int .i64 kd, .string a, .string b, .int .u32 n, .int .u32 mm, .slice A5 lf.length c5, .slice A6 lr.length c6, .slice A7 ty.length c7, .slice A8 vls.length c8, .slice A9 d.length c9, .slice A10 ws.length c10, .slice A11 ps.length c11, .slice A12 fs.length c12]] w (fun e w' => e = .returned (.bool true) ∧ Ext w w') := by
  have HM := Lib.hid hm
  have HTAB := Lib.hid htab
  have H5 := Lib.hid hm.rf
  have H6 := Lib.hid hm.rr
  have H8 := Lib.hid hm.rv
  have H10 := Lib.hid hm.rw
  have H11 := Lib.hid hm.rp
  have H12 := Lib.hid hm.rl
  clear hm htab
  have hdn : hdOf kd = 5 := hdOf_ne hne18
  have hst : turnedQ kd = true := hturn
  have hke : (kd == 18) = false := beq_eq_false_iff_ne.2 hne18
  have hkn : (kd != 18) = true := by simp [bne, hke]
  clear hturn
  have hm0 : True := trivial
  have hm1 : True := trivial
  have hm2 : True := trivial
  have hm3 : True := trivial
  have hm4 : True := trivial
  have hm5 : True := trivial
  have hm6 : True := trivial
  have hm7 : True := trivial
  have hm8 : True := trivial
  have hm9 : True := trivial
  have hm10 : True := trivial
  have hm11 : True := trivial
  have hm12 : True := trivial
  go_enter Tryz.func4, Tryz.ntmps4
  go_wp2_with (first | (go_at_call 9; refine (fit1 a b _ _ _ A5 A6 A7 A8 A9 A10 A11 A12 c5 c6 c7 c8 c9 c10 c11 c12 lf lr ty d vls ws ps fs _ (H8.out.ext (ext_alloc w _) (isVal.ext (ext_alloc w _))) (H10.out.ext (ext_alloc w _) (fun _ _ h => h)) (H11.out.ext (ext_alloc w _) (fun _ _ h => h)) (H12.out.ext (ext_alloc w _) (fun _ _ h => h))).mono ?_; rintro e w1 ⟨bo, rfl, hbo, hbx⟩; have HE := Lib.hid hbx; have HS := Lib.hid hbo; clear hbo hbx; clear hm0; have hm0 := box_at HE.out 0 (.int .i64 kd) rfl; clear hm1; have hm1 := box_at HE.out 1 (.string a) rfl; clear hm2; have hm2 := box_at HE.out 2 (.string b) rfl; clear hm3; have hm3 := box_at HE.out 3 (.int .u32 n) rfl; clear hm4; have hm4 := box_at HE.out 4 (.int .u32 mm) rfl; clear hm5; have hm5 := box_at HE.out 5 (.slice A5 lf.length c5) rfl; clear hm6; have hm6 := box_at HE.out 6 (.slice A6 lr.length c6) rfl; clear hm7; have hm7 := box_at HE.out 7 (.slice A7 ty.length c7) rfl; clear hm8; have hm8 := box_at HE.out 8 (.slice A8 vls.length c8) rfl; clear hm9; have hm9 := box_at HE.out 9 (.slice A9 d.length c9) rfl; clear hm10; have hm10 := box_at HE.out 10 (.slice A10 ws.length c10) rfl; clear hm11; have hm11 := box_at HE.out 11 (.slice A11 ps.length c11) rfl; clear hm12; have hm12 := box_at HE.out 12 (.slice A12 fs.length c12) rfl; cases bo) | (go_at_call 10; refine msg10 a b kd n mm A5 A6 A7 A9 A10 A8 A11 A12 lf.length lr.length ty.length d.length ws.length c5 c6 c7 c9 c10 c8 c11 c12 vls ps fs _ (H8.out.ext ((ext_alloc w _).trans HE.out) (isVal.ext ((ext_alloc w _).trans HE.out))) (H11.out.ext ((ext_alloc w _).trans HE.out) (fun _ _ h => h)) (H12.out.ext ((ext_alloc w _).trans HE.out) (fun _ _ h => h)) (HS.out trivial).2.2.2.2.2.2.1.1 (HS.out trivial).2.2.2.2.2.2.2.2.1.1 (HS.out trivial).2.2.2.2.2.2.2.2.2.1 _ ?_; intro w2 B7 d7 B10 d10 B11 d11 hx2 hr7 hr10 hr11; have HE2 := Lib.hid (HE.out.trans hx2); have HR7 := Lib.hid hr7; have HR10 := Lib.hid hr10; have HR11 := Lib.hid hr11; clear hx2 hr7 hr10 hr11; clear hm0; have hm0 := box_at HE2.out 0 (.int .i64 kd) rfl; clear hm1; have hm1 := box_at HE2.out 1 (.string a) rfl; clear hm2; have hm2 := box_at HE2.out 2 (.string b) rfl; clear hm3; have hm3 := box_at HE2.out 3 (.int .u32 n) rfl; clear hm4; have hm4 := box_at HE2.out 4 (.int .u32 mm) rfl; clear hm5; have hm5 := box_at HE2.out 5 (.slice A5 lf.length c5) rfl; clear hm6; have hm6 := box_at HE2.out 6 (.slice A6 lr.length c6) rfl; clear hm7; have hm7 := box_at HE2.out 7 (.slice A7 ty.length c7) rfl; clear hm8; have hm8 := box_at HE2.out 8 (.slice A8 vls.length c8) rfl; clear hm9; have hm9 := box_at HE2.out 9 (.slice A9 d.length c9) rfl; clear hm10; have hm10 := box_at HE2.out 10 (.slice A10 ws.length c10) rfl; clear hm11; have hm11 := box_at HE2.out 11 (.slice A11 ps.length c11) rfl; clear hm12; have hm12 := box_at HE2.out 12 (.slice A12 fs.length c12) rfl; ) | (go_at_call 11; refine (proper11 a b kd n A5 A6 A7 B7 A9 A10 B10 B11 c5 c6 c7 d7 c9 c10 d10 d11 lf lr ty d vls ws ps fs _ (H5.out.ext ((ext_alloc w _).trans ((HE2.out.alloc (.cells #[.int .i64 kd, .string a, .string b, .int .u32 n, .slice A5 lf.length c5, .slice A6 lr.length c6, .slice A7 ty.length c7, .slice B7 vls.length d7, .slice A9 d.length c9, .slice A10 ws.length c10, .slice B10 ps.length d10, .slice B11 fs.length d11] 37))))) (H6.out.ext ((ext_alloc w _).trans ((HE2.out.alloc (.cells #[.int .i64 kd, .string a, .string b, .int .u32 n, .slice A5 lf.length c5, .slice A6 lr.length c6, .slice A7 ty.length c7, .slice B7 vls.length d7, .slice A9 d.length c9, .slice A10 ws.length c10, .slice B10 ps.length d10, .slice B11 fs.length d11] 37))))) (HR7.out.ext (ext_alloc _ _) (isVal.ext (ext_alloc _ _))) (H10.out.ext ((ext_alloc w _).trans ((HE2.out.alloc (.cells #[.int .i64 kd, .string a, .string b, .int .u32 n, .slice A5 lf.length c5, .slice A6 lr.length c6, .slice A7 ty.length c7, .slice B7 vls.length d7, .slice A9 d.length c9, .slice A10 ws.length c10, .slice B10 ps.length d10, .slice B11 fs.length d11] 37)))) (fun _ _ h => h)) (HR10.out.ext (ext_alloc _ _) (fun _ _ h => h)) (HR11.out.ext (ext_alloc _ _) (fun _ _ h => h)) (HS.out trivial).1 (HS.out trivial).2.1 (HS.out trivial).2.2.1 (HS.out trivial).2.2.2.1 (HS.out trivial).2.2.2.2.1 (HS.out trivial).2.2.2.2.2.2.1.1 (HS.out trivial).2.2.2.2.2.1 (HS.out trivial).2.2.2.2.2.2.2.1.1 (HS.out trivial).2.2.2.2.2.2.2.1.2 (HS.out trivial).2.2.2.2.2.2.2.2.1.1 (HS.out trivial).2.2.2.2.2.2.2.2.1.2 (HS.out trivial).2.2.2.2.2.2.2.2.2.1 (HS.out trivial).2.2.2.2.2.2.2.2.2.2).mono ?_; rintro e w3 ⟨bp, rfl, hbp, hbx⟩; have HX3 := Lib.hid hbx; have HP := Lib.hid hbp; clear hbp hbx; have HE3 := Lib.hid (((HE2.out.alloc (.cells #[.int .i64 kd, .string a, .string b, .int .u32 n, .slice A5 lf.length c5, .slice A6 lr.length c6, .slice A7 ty.length c7, .slice B7 vls.length d7, .slice A9 d.length c9, .slice A10 ws.length c10, .slice B10 ps.length d10, .slice B11 fs.length d11] 37))).trans HX3.out); clear hm0; have hm0 := box_at HE3.out 0 (.int .i64 kd) rfl; clear hm1; have hm1 := box_at HE3.out 1 (.string a) rfl; clear hm2; have hm2 := box_at HE3.out 2 (.string b) rfl; clear hm3; have hm3 := box_at HE3.out 3 (.int .u32 n) rfl; clear hm4; have hm4 := box_at HE3.out 4 (.int .u32 mm) rfl; clear hm5; have hm5 := box_at HE3.out 5 (.slice A5 lf.length c5) rfl; clear hm6; have hm6 := box_at HE3.out 6 (.slice A6 lr.length c6) rfl; clear hm7; have hm7 := box_at HE3.out 7 (.slice A7 ty.length c7) rfl; clear hm8; have hm8 := box_at HE3.out 8 (.slice A8 vls.length c8) rfl; clear hm9; have hm9 := box_at HE3.out 9 (.slice A9 d.length c9) rfl; clear hm10; have hm10 := box_at HE3.out 10 (.slice A10 ws.length c10) rfl; clear hm11; have hm11 := box_at HE3.out 11 (.slice A11 ps.length c11) rfl; clear hm12; have hm12 := box_at HE3.out 12 (.slice A12 fs.length c12) rfl; cases bp) | (go_at_call 12; refine (turned12 kd _).mono ?_; rintro e w4 ⟨rfl, hw4⟩; subst hw4; rw [hst]) | (go_at_call 13; refine (works13 _).mono ?_; rintro e w5 ⟨rfl, hx5⟩; have HX5 := Lib.hid hx5; clear hx5) | (go_at_call 14; obtain ⟨R1, R2, B, M, hl1, hl2, hl3, hMM, htk, h18, hrd, h14, h15, h16⟩ := pair_use (pair_enc kd a b n mm A5 A6 A7 A8 A9 A10 A11 A12 B7 B10 B11 c5 c6 c7 c8 c9 c10 c11 c12 d7 d10 d11 lf lr ty d vls ws ps fs _ _ hst (H11.out.ext ((ext_alloc w _).trans HE3.out) (fun _ _ h => h)) (HR10.out.ext ((ext_alloc w2 _).trans HX3.out) (fun _ _ h => h)) HM.out.n (HTAB.out.ext ((ext_alloc w _).trans HE3.out)) (HP.out trivial)); have H15 := Lib.hid h15; have H16 := Lib.hid h16; have HRD : Hid (∀ (A : Option Addr) (n c : Nat) (w : World), RdB w (.slice A n c) (R1.drop 5) → Calls Tryz.prog 17 #[.slice A n c, .bool true] w (GaveQ ps w)) := Lib.hid (fun A n c w h => by have h9 := hrd A n c w (by rw [hdn]; rw [if_neg hne18]; exact h); rw [hkn] at h9; exact h9); have HTK := Lib.hid htk; have H18 := Lib.hid h18; have HMM := Lib.hid hMM; refine h14.mono ?_; rintro e w4 ⟨AR, cR, rfl, hx4, hr4⟩; have HX4 := Lib.hid hx4; have HR4 := Lib.hid hr4; have HL1 := Lib.hid hl1; have HL2 := Lib.hid hl2; have HL3 := Lib.hid hl3; have BX4 := Lib.hid ((HX3.out.trans HX4.out).block w2.heap.size (by simp) |>.trans (heap_alloc_new w2 (.cells #[.int .i64 kd, .string a, .string b, .int .u32 n, .slice A5 lf.length c5, .slice A6 lr.length c6, .slice A7 ty.length c7, .slice B7 vls.length d7, .slice A9 d.length c9, .slice A10 ws.length c10, .slice B10 ps.length d10, .slice B11 fs.length d11] 37))); have HE4 := Lib.hid (HE3.out.trans HX4.out); clear hm0; have hm0 := box_at HE4.out 0 (.int .i64 kd) rfl; (try clear hq0); have hq0 := cell_slot BX4.out 0 (.int .i64 kd) rfl; (try clear hq1); have hq1 := cell_slot BX4.out 1 (.string a) rfl; (try clear hq2); have hq2 := cell_slot BX4.out 2 (.string b) rfl; (try clear hq3); have hq3 := cell_slot BX4.out 3 (.int .u32 n) rfl; (try clear hq4); have hq4 := cell_slot BX4.out 4 (.slice A5 lf.length c5) rfl; (try clear hq5); have hq5 := cell_slot BX4.out 5 (.slice A6 lr.length c6) rfl; (try clear hq6); have hq6 := cell_slot BX4.out 6 (.slice A7 ty.length c7) rfl; (try clear hq7); have hq7 := cell_slot BX4.out 7 (.slice B7 vls.length d7) rfl; (try clear hq8); have hq8 := cell_slot BX4.out 8 (.slice A9 d.length c9) rfl; (try clear hq9); have hq9 := cell_slot BX4.out 9 (.slice A10 ws.length c10) rfl; (try clear hq10); have hq10 := cell_slot BX4.out 10 (.slice B10 ps.length d10) rfl; (try clear hq11); have hq11 := cell_slot BX4.out 11 (.slice B11 fs.length d11) rfl; rw [HL1.out, hdn]; clear h15 h16 hrd htk h18 hMM h14 hx4 hr4 hl1 hl2 hl3) | (go_at_call 15; refine (H15.out _ HX4.out).mono ?_; rintro e w6 hg; obtain ⟨A15, c15, rfl, hx6, hr6⟩ := hg.elim; have HX6 := Lib.hid hx6; have HR6 := Lib.hid hr6; have BX6 := Lib.hid ((HX6.out.block _ (lt_of_block BX4.out)).trans BX4.out); have HE6 := Lib.hid (HE4.out.trans HX6.out); clear hm0; have hm0 := box_at HE6.out 0 (.int .i64 kd) rfl; (try clear hq0); have hq0 := cell_slot BX6.out 0 (.int .i64 kd) rfl; (try clear hq1); have hq1 := cell_slot BX6.out 1 (.string a) rfl; (try clear hq2); have hq2 := cell_slot BX6.out 2 (.string b) rfl; (try clear hq3); have hq3 := cell_slot BX6.out 3 (.int .u32 n) rfl; (try clear hq4); have hq4 := cell_slot BX6.out 4 (.slice A5 lf.length c5) rfl; (try clear hq5); have hq5 := cell_slot BX6.out 5 (.slice A6 lr.length c6) rfl; (try clear hq6); have hq6 := cell_slot BX6.out 6 (.slice A7 ty.length c7) rfl; (try clear hq7); have hq7 := cell_slot BX6.out 7 (.slice B7 vls.length d7) rfl; (try clear hq8); have hq8 := cell_slot BX6.out 8 (.slice A9 d.length c9) rfl; (try clear hq9); have hq9 := cell_slot BX6.out 9 (.slice A10 ws.length c10) rfl; (try clear hq10); have hq10 := cell_slot BX6.out 10 (.slice B10 ps.length d10) rfl; (try clear hq11); have hq11 := cell_slot BX6.out 11 (.slice B11 fs.length d11) rfl; rw [HL2.out, hdn]; clear hg hx6 hr6) | (go_at_call 16; refine (H16.out _ (HX4.out.trans HX6.out)).mono ?_; rintro e w7 hg; obtain ⟨A16, c16, rfl, hx7, hr7⟩ := hg.elim; have HX7 := Lib.hid hx7; have BX7 := Lib.hid ((HX7.out.block _ (lt_of_block BX6.out)).trans BX6.out); have HE7 := Lib.hid (HE6.out.trans HX7.out); clear hm0; have hm0 := box_at HE7.out 0 (.int .i64 kd) rfl; (try clear hq0); have hq0 := cell_slot BX7.out 0 (.int .i64 kd) rfl; (try clear hq1); have hq1 := cell_slot BX7.out 1 (.string a) rfl; (try clear hq2); have hq2 := cell_slot BX7.out 2 (.string b) rfl; (try clear hq3); have hq3 := cell_slot BX7.out 3 (.int .u32 n) rfl; (try clear hq4); have hq4 := cell_slot BX7.out 4 (.slice A5 lf.length c5) rfl; (try clear hq5); have hq5 := cell_slot BX7.out 5 (.slice A6 lr.length c6) rfl; (try clear hq6); have hq6 := cell_slot BX7.out 6 (.slice A7 ty.length c7) rfl; (try clear hq7); have hq7 := cell_slot BX7.out 7 (.slice B7 vls.length d7) rfl; (try clear hq8); have hq8 := cell_slot BX7.out 8 (.slice A9 d.length c9) rfl; (try clear hq9); have hq9 := cell_slot BX7.out 9 (.slice A10 ws.length c10) rfl; (try clear hq10); have hq10 := cell_slot BX7.out 10 (.slice B10 ps.length d10) rfl; (try clear hq11); have hq11 := cell_slot BX7.out 11 (.slice B11 fs.length d11) rfl; rw [HL3.out]; clear hg hx7 hr7))
  all_goals first
    | (go_ret; exact ⟨rfl, ((ext_alloc w _).trans HE3.out).trans HX5.out⟩) | (go_ret; exact ⟨rfl, (ext_alloc w _).trans HE.out⟩)
    | skip
  clear hm1 hm2 hm3 hm4 hm5 hm6 hm7 hm8 hm9 hm10 hm11 hm12 hq0 hq1 hq2 hq3 hq4 hq5 hq6 hq7 hq8 hq9 hq11
  have HRA := Lib.hid (HR4.out.ext (HX6.out.trans HX7.out))
  have HRB := Lib.hid (HR6.out.ext HX7.out)
  have hcR : 5 + M ≤ cR := by have h9 := HRA.out.parts; rw [HL1.out, hdn] at h9; exact h9.2.1
  have hc15 : 5 + M ≤ c15 := by have h9 := HRB.out.parts; rw [HL2.out, hdn] at h9; exact h9.2.1
  have hcv1 : ∀ q, (convert 26 9 (.slice AR 5 cR)).run Tryz.prog (w7.drewN q) = .ok (.string (strOf (R1.take 5))) (w7.drewN q) := fun q => conv_rd (by have h9 := (HRA.out.ext ((Ext.refl w7).drewN q)).take 5 (by rw [HL1.out, hdn]; omega); exact h9)
  have hcv2 : ∀ q, (convert 26 9 (.slice A15 5 c15)).run Tryz.prog (w7.drewN q) = .ok (.string (strOf (R1.take 5))) (w7.drewN q) := fun q => conv_rd (by have h9 := (HRB.out.ext ((Ext.refl w7).drewN q)).take 5 (by rw [HL2.out, hdn]; omega); have h8 := HTK.out; rw [hdn] at h8; rw [h8]; exact h9)
  have hsl1 := sl_upto AR (5 + M) cR 5 (by omega)
  have hsl2 := sl_upto A15 (5 + M) c15 5 (by omega)
  go_quiet (skip)
  go_wp2
  obtain ⟨w8, hw8⟩ : ∃ w8, w8 = w7.drewN nq := ⟨_, rfl⟩
  have HX8 : Hid (Ext w7 w8) := Lib.hid (by rw [hw8]; exact (Ext.refl w7).drewN _)
  first | rw [← hw8] | (have hw8' := hw8; rw [World.drewN_drewN] at hw8'; rw [← hw8'])
  clear hw8 hm0 hq10 hcv1 hcv2 hsl1 hsl2
  have HE8 := Lib.hid (HE7.out.trans HX8.out)
  have HM0 := Lib.hid (box_at HE8.out 0 (.int .i64 kd) rfl)
  have BX8 := Lib.hid ((HX8.out.block _ (lt_of_block BX7.out)).trans BX7.out)
  obtain ⟨A3, c3, hsl, hdr⟩ := sl_at AR (5 + M) cR 5 (by omega) hcR (by have h9 := HRA.out.parts; exact h9.2.2)
  have hslh := fun w : World => hsl 5 w rfl
  obtain ⟨ML, hML⟩ : ∃ x, x = 5 + M - 5 := ⟨_, rfl⟩
  rw [← hML] at hslh
  have HSRC : Hid (RdB w8 (.slice A3 ML c3) (R1.drop 5)) := Lib.hid (by rw [hML]; exact RdB.tail (by have h9 := HRA.out.ext HX8.out; rw [HL1.out, hdn] at h9; exact h9) hdr)
  clear hsl hdr hML
  refine wp_region_og (J := fun x => Ext w8 x) (R := Ext) [Sp.eq _ (.slice AR (5 + M) cR), Sp.eq _ (.int .i64 5), Sp.eq _ (.slice A3 ML c3), Sp.eq _ (.pointer (some ⟨w.heap.size, 0, none⟩)), Sp.eq _ (.int .i64 kd), Sp.eq _ (.bool true), spTup ps, spTup ps, spPrs ps, Sp.eq _ (.bool true), spPrs ps, Sp.eq _ (.bool true)] (by kernel_rfl) (by kernel_rfl) (by kernel_rfl) (by kernel_rfl) ?_ ?_ ?_
  · exact (Ext.refl w8).drew
  · refine ⟨?_, ?_, ?_, ?_, ?_, ?_, ?_, ?_, ?_, ?_, ?_, ?_, trivial⟩
    · intro vs w1 hJ hp
      have HJ := Lib.hid hJ
      clear hp hJ
      simp only [putAll, Nat.reduceAdd]
      go_wp2
      exact ⟨rfl, HJ.out, Ext.refl _, rfl⟩
    · intro vs w1 hJ hp
      have HJ := Lib.hid hJ
      clear hp hJ
      simp only [putAll, Nat.reduceAdd]
      go_wp2
      exact ⟨rfl, HJ.out, Ext.refl _, rfl⟩
    · intro vs w1 hJ hp
      have q0 : vs 0 = .slice AR (5 + M) cR := hp 0 (by decide)
      have q1 : vs 1 = .int .i64 5 := hp 1 (by decide)
      have HJ := Lib.hid hJ
      clear hp hJ
      simp only [putAll, Nat.reduceAdd]
      go_wp2
      exact ⟨rfl, HJ.out, Ext.refl _, rfl⟩
    · intro vs w1 hJ hp
      have HJ := Lib.hid hJ
      clear hp hJ
      simp only [putAll, Nat.reduceAdd]
      go_wp2
      exact ⟨rfl, HJ.out, Ext.refl _, rfl⟩
    · intro vs w1 hJ hp
      have q3 : vs 3 = .pointer (some ⟨w.heap.size, 0, none⟩) := hp 3 (by decide)
      have HJ := Lib.hid hJ
      have hq := hJ.cell HM0.out
      clear hp hJ
      simp only [putAll, Nat.reduceAdd]
      go_wp2
      exact ⟨rfl, HJ.out, Ext.refl _, rfl⟩
    · intro vs w1 hJ hp
      have q4 : vs 4 = .int .i64 kd := hp 4 (by decide)
      have HJ := Lib.hid hJ
      clear hp hJ
      simp only [putAll, Nat.reduceAdd]
      go_wp2
      exact ⟨rfl, HJ.out, Ext.refl _, rfl⟩
    · intro vs w1 hJ hp
      have q2 : vs 2 = .slice A3 ML c3 := hp 2 (by decide)
      have q5 : vs 5 = .bool true := hp 5 (by decide)
      have HJ := Lib.hid hJ
      clear hp hJ
      simp only [putAll, Nat.reduceAdd]
      go_wp2_with (go_at_call 17; refine (HRD.out A3 _ c3 _ (HSRC.out.ext HJ.out)).mono ?_; rintro e w9 ⟨Aq, cq, rfl, hx9, hr9⟩; have HX9 := Lib.hid hx9; have HR9 := Lib.hid hr9; clear hx9 hr9)
      exact ⟨rfl, HJ.out.trans HX9.out, HX9.out, rfl, HR9.out⟩
    · intro vs w1 hJ hp
      have q6 : (spTup ps).p (vs 6) w1 := hp 6 (by decide)
      have HJ := Lib.hid hJ
      have HQ6 := Lib.hid q6
      clear hp hJ q6
      simp only [putAll, Nat.reduceAdd]
      rw [HQ6.out.1]
      go_wp2
      exact ⟨rfl, HJ.out, Ext.refl _, rfl, HQ6.out.2⟩
    · intro vs w1 hJ hp
      have q7 : (spTup ps).p (vs 7) w1 := hp 7 (by decide)
      have HJ := Lib.hid hJ
      have HQ7 := Lib.hid q7
      clear hp hJ q7
      simp only [putAll, Nat.reduceAdd]
      rw [HQ7.out.1]
      go_wp2
      exact ⟨rfl, HJ.out, Ext.refl _, rfl, HQ7.out.2⟩
    · intro vs w1 hJ hp
      have q7 : (spTup ps).p (vs 7) w1 := hp 7 (by decide)
      have HJ := Lib.hid hJ
      have HQ7 := Lib.hid q7
      clear hp hJ q7
      simp only [putAll, Nat.reduceAdd]
      rw [HQ7.out.1]
      go_wp2
      exact ⟨rfl, HJ.out, Ext.refl _, rfl⟩
    · intro vs w1 hJ hp
      have q0 : vs 0 = .slice AR (5 + M) cR := hp 0 (by decide)
      have q1 : vs 1 = .int .i64 5 := hp 1 (by decide)
      have q2 : vs 2 = .slice A3 ML c3 := hp 2 (by decide)
      have q3 : vs 3 = .pointer (some ⟨w.heap.size, 0, none⟩) := hp 3 (by decide)
      have q4 : vs 4 = .int .i64 kd := hp 4 (by decide)
      have q5 : vs 5 = .bool true := hp 5 (by decide)
      have q6 : (spTup ps).p (vs 6) w1 := hp 6 (by decide)
      have q7 : (spTup ps).p (vs 7) w1 := hp 7 (by decide)
      have q8 : (spPrs ps).p (vs 8) w1 := hp 8 (by decide)
      have HJ := Lib.hid hJ
      have HQ6 := Lib.hid q6
      have HQ7 := Lib.hid q7
      have HQ8 := Lib.hid q8
      clear hp hJ q6 q7 q8
      simp only [putAll, Nat.reduceAdd]
      rw [HQ8.out.1]
      go_wp2
      exact ⟨rfl, HJ.out, Ext.refl _, rfl, by have h9 := HQ8.out; rw [h9.1] at h9; exact h9.2⟩
    · intro vs w1 hJ hp
      have q0 : vs 0 = .slice AR (5 + M) cR := hp 0 (by decide)
      have q1 : vs 1 = .int .i64 5 := hp 1 (by decide)
      have q2 : vs 2 = .slice A3 ML c3 := hp 2 (by decide)
      have q3 : vs 3 = .pointer (some ⟨w.heap.size, 0, none⟩) := hp 3 (by decide)
      have q4 : vs 4 = .int .i64 kd := hp 4 (by decide)
      have q5 : vs 5 = .bool true := hp 5 (by decide)
      have q6 : (spTup ps).p (vs 6) w1 := hp 6 (by decide)
      have q7 : (spTup ps).p (vs 7) w1 := hp 7 (by decide)
      have q8 : (spPrs ps).p (vs 8) w1 := hp 8 (by decide)
      have q9 : vs 9 = .bool true := hp 9 (by decide)
      have q10 : (spPrs ps).p (vs 10) w1 := hp 10 (by decide)
      have HJ := Lib.hid hJ
      have HQ6 := Lib.hid q6
      have HQ7 := Lib.hid q7
      have HQ8 := Lib.hid q8
      have HQ10 := Lib.hid q10
      clear hp hJ q6 q7 q8 q10
      simp only [putAll, Nat.reduceAdd]
      go_wp2
      exact ⟨rfl, HJ.out, Ext.refl _, rfl⟩
  · intro vs w9 hJ hp
    have q0 : vs 0 = .slice AR (5 + M) cR := hp 0 (by decide)
    have q1 : vs 1 = .int .i64 5 := hp 1 (by decide)
    have q2 : vs 2 = .slice A3 ML c3 := hp 2 (by decide)
    have q3 : vs 3 = .pointer (some ⟨w.heap.size, 0, none⟩) := hp 3 (by decide)
    have q4 : vs 4 = .int .i64 kd := hp 4 (by decide)
    have q5 : vs 5 = .bool true := hp 5 (by decide)
    have q6 : (spTup ps).p (vs 6) w9 := hp 6 (by decide)
    have q7 : (spTup ps).p (vs 7) w9 := hp 7 (by decide)
    have q8 : (spPrs ps).p (vs 8) w9 := hp 8 (by decide)
    have q9 : vs 9 = .bool true := hp 9 (by decide)
    have q10 : (spPrs ps).p (vs 10) w9 := hp 10 (by decide)
    have q11 : vs 11 = .bool true := hp 11 (by decide)
    have HJ := Lib.hid hJ
    have HQ6 := Lib.hid q6
    have HQ7 := Lib.hid q7
    have HQ8 := Lib.hid q8
    have HQ10 := Lib.hid q10
    clear hp hJ q6 q7 q8 q10
    simp only [putAll, Nat.reduceAdd]
    rw [HQ6.out.1, HQ7.out.1, HQ8.out.1, HQ10.out.1]
    obtain ⟨Aq, cq, hAq⟩ : ∃ A c, Value.slice A ps.length c = .slice (slA (vs 10)) ps.length (slC (vs 10)) := ⟨_, _, rfl⟩
    have HRP : Hid (RdM 2 isPr w9 (.slice (slA (vs 10)) ps.length (slC (vs 10))) ps) := Lib.hid (by have h9 := HQ10.out; rw [h9.1] at h9; exact h9.2)
    generalize slA (vs 10) = Az at HRP ⊢
    generalize slC (vs 10) = cz at HRP ⊢
    have HRX := Lib.hid (HR10.out.ext (((ext_alloc w2 _).trans HX3.out).trans ((((HX4.out.trans HX6.out).trans HX7.out).trans HX8.out).trans HJ.out)) (fun _ _ h => h))
    have hqp := cell_slot ((HJ.out.block _ (lt_of_block BX8.out)).trans BX8.out) 10 (.slice B10 ps.length d10) rfl
    simp only [Exit.then]
    go_at_K
    simp only [Act.put, q0, q1, q2, q3, q4, q5, q9, q11, List.setIfInBounds_toArray, List.set_cons_zero, List.set_cons_succ]
    go_wp2
    have hpl : ps.length ≤ 2147483647 := (HS.out trivial).2.2.2.2.2.2.2.2.1.1
    go_loopw [99] (fun i wr => ∃ k : Nat, k ≤ ps.length ∧ i = .int .i64 k ∧ Hid (Ext w9 wr)) (fun i _ => ps.length - (intOf i).toNat)
    case atStart => exact ⟨0, Nat.zero_le _, rfl, Lib.hid (Ext.refl _)⟩
    case round =>
      obtain ⟨k, hk1, rfl, HE9⟩ := hrel
      have HQP := Lib.hid (HE9.out.cell hqp)
      have hqp2 := HQP.out
      by_cases hlt : k < ps.length
      · obtain ⟨b1, o1, f, rfl, hcell, hv⟩ := HRP.out.at_ hlt
        obtain ⟨b2, o2, f2, rfl, hcell2, hv2⟩ := HRX.out.at_ hlt
        obtain ⟨⟨x1, x2⟩, hx⟩ : ∃ x, x = ps[k] := ⟨_, rfl⟩
        rw [← hx] at hv hv2
        have hf0 : f 0 = .string x1 := hv.1
        have hf1 : f 1 = .string x2 := hv.2
        have hg0 : f2 0 = .string x1 := hv2.1
        have hg1 : f2 1 = .string x2 := hv2.2
        have hd0 := HE9.out.cell (hcell 0 (by omega))
        have hd1 := HE9.out.cell (hcell 1 (by omega))
        have he0 := HE9.out.cell (hcell2 0 (by omega))
        have he1 := HE9.out.cell (hcell2 1 (by omega))
        rw [hf0, Nat.add_zero] at hd0
        rw [hf1] at hd1
        rw [hg0, Nat.add_zero] at he0
        rw [hg1] at he1
        clear hx hcell hcell2 hf0 hf1 hg0 hg1 hv hv2
        go_wp2
        go_quiet (skip)
        go_wp2
        go_roundw
        case rel => exact ⟨k + 1, by omega, by go_num, Lib.hid (HE9.out.drewN _)⟩
        case measure => simp only [intOf]; omega
      · obtain rfl : k = ps.length := by omega
        go_wp2_with (go_at_call 13; refine (works13 _).mono ?_; rintro e w5 ⟨rfl, hx5⟩; have HX5 := Lib.hid hx5; clear hx5)
        go_ret
        exact ⟨rfl, (((ext_alloc w _).trans HE8.out).trans (HJ.out.trans HE9.out)).trans HX5.out⟩
end Go.Proofs.YtdenjanihikolaaGreatDoor
