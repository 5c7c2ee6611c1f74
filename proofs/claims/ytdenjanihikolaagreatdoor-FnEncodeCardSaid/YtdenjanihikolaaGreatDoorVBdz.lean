/- Bodies of the messages of the reference, with loops, by contract. -/
import Derived.Test.YtdenjanihikolaaGreatDoorVWrc
namespace Go.Proofs.YtdenjanihikolaaGreatDoor
open Go.RowKit Og
set_option linter.unusedVariables false
set_option linter.unusedSimpArgs false

theorem number_v (kk : Int) (k : Nat) (hkk : kk = (k : Int)) (hk : k ≤ 4) (n : Int) {K : Nat → Prop} {w0 w : World} {pb : Nat} {v : Value} {xs : List Int} (h : Wr K w0 w pb v xs) (hl : xs.length ≤ 1099511627776) :
    Calls Tryz.prog 36 #[.pointer (some ⟨pb, 0, none⟩), .int .i64 n, .int .i64 kk] w (Wrote K w0 pb (xs ++ numB n k)) := by
  subst hkk
  exact number_any k hk n h hl

/-- A column of the reference. -/
structure Sf where
  name : ByteArray
  tab : Int
  col : Int
  typ : Int
  siz : Int
  mdf : Int
  fmt : Int
def sfB (x : Sf) : List Int := txt x.name ++ numB x.tab 4 ++ numB x.col 2 ++ numB x.typ 4 ++ numB x.siz 2 ++ numB x.mdf 4 ++ numB x.fmt 2
def isSf (_ : World) (x : Sf) (f : Nat → Value) : Prop :=
  f 0 = .string x.name ∧ f 1 = .int .u32 x.tab ∧ f 2 = .int .i64 x.col ∧ f 3 = .int .u32 x.typ ∧ f 4 = .int .i64 x.siz ∧ f 5 = .int .i64 x.mdf ∧ f 6 = .int .i64 x.fmt
/-- A pair of the reference. -/
def isPr (_ : World) (x : ByteArray × ByteArray) (f : Nat → Value) : Prop := f 0 = .string x.1 ∧ f 1 = .string x.2
def prB (x : ByteArray × ByteArray) : List Int := txt x.1 ++ txt x.2
def erB (x : ByteArray × ByteArray) : List Int := sby x.1 ++ txt x.2

end Go.Proofs.YtdenjanihikolaaGreatDoor

namespace Go.Proofs.YtdenjanihikolaaGreatDoor
open Go.RowKit Og
set_option linter.unusedVariables false
set_option linter.unusedSimpArgs false

set_option maxRecDepth 100000 in
set_option maxHeartbeats 1000000 in
theorem body9 (a b : ByteArray) (n : Int) (vf vr vt vv vd vw vp vl : Value) (w : World) (hn : 0 ≤ n ∧ n < 4294967296) (lf : List Int) (hrf : RdI .i64 w vf lf) (hlf : lf.length ≤ 4294967296) (vls : List (Bool × List Int)) (hrv : RdM 2 isVal w vv vls) (hlv : vls.length ≤ 1000) (hmv : ∀ y ∈ vls, y.2.length ≤ 2000) (lr : List Int) (A_l : Option Addr) (c_l : Nat) (hvl : vr = .slice A_l lr.length c_l) (hr : RdI .i64 w (.slice A_l lr.length c_l) lr) (hl : lr.length ≤ 4294967296) (R : List Int) (hE : (numB n 4 ++ (numB (lf.length : Int) 2 ++ lf.flatMap fun n => numB n 2) ++ (numB (vls.length : Int) 2 ++ vls.flatMap fun x => valB x.1 x.2) ++ lr.flatMap fun n => numB n 2) = R) :
    Calls Tryz.prog 16 #[.agg #[.int .i64 9, .string a, .string b, .int .u32 n, vf, vr, vt, vv, vd, vw, vp, vl]] w (Gave w R) := by
  subst hvl
  have hwn : wrap64 n = n := by unfold wrap64; omega
  have HRf := Lib.hid (hrf.ext (ext_alloc w (.cells #[.int .i64 9, .string a, .string b, .int .u32 n, vf, .slice A_l lr.length c_l, vt, vv, vd, vw, vp, vl] 37)))
  clear hrf
  have hflf := flat_len (fun n => numB n 2) 2 lf fun y _ => Nat.le_of_eq (numB_len y 2)
  have hfv := flat_len (fun x : Bool × List Int => valB x.1 x.2) 2004 vls fun y hy => Nat.le_trans (valB_len y) (by have := hmv y hy; omega)
  have HRv := Lib.hid (hrv.ext (ext_alloc w (.cells #[.int .i64 9, .string a, .string b, .int .u32 n, vf, .slice A_l lr.length c_l, vt, vv, vd, vw, vp, vl] 37)) (isVal.ext (ext_alloc w (.cells #[.int .i64 9, .string a, .string b, .int .u32 n, vf, .slice A_l lr.length c_l, vt, vv, vd, vw, vp, vl] 37))))
  clear hrv
  have HMv := Lib.hid hmv
  clear hmv
  have HRl := Lib.hid (hr.ext (ext_alloc w (.cells #[.int .i64 9, .string a, .string b, .int .u32 n, vf, .slice A_l lr.length c_l, vt, vv, vd, vw, vp, vl] 37)))
  clear hr
  have HF := Lib.hid (show ∀ y ∈ lr, ((fun n => numB n 2) y).length ≤ 2 from fun y _ => Nat.le_of_eq (numB_len y 2))
  have hx3 : True := trivial
  have hx4 : True := trivial
  have hx5 : True := trivial
  have hx7 : True := trivial
  have h0 := Wr.start1 w (.cells #[.int .i64 9, .string a, .string b, .int .u32 n, vf, .slice A_l lr.length c_l, vt, vv, vd, vw, vp, vl] 37)
  have hc := h0.cell
  have HB := Lib.hid h0
  clear h0
  have HE := Lib.hid hE
  clear hE
  go_enter Tryz.func16, Tryz.ntmps16
  go_wp2_with (first | (go_at_call 36; refine (number_w 4 (by omega) _ HB.out (by first | omega | (simp only [List.length_append, List.length_nil, List.length_cons, txt, sby_length, numB_len, sfB] <;> omega))).mono ?_; rintro e w1 ⟨rfl, v1, hn⟩; clear hc; have hc := hn.cell; clear hx3; have hx3 := box_at hn.buf.bel 3 (.int .u32 n) rfl; clear hx4; have hx4 := box_at hn.buf.bel 4 (vf) rfl; clear hx5; have hx5 := box_at hn.buf.bel 5 (.slice A_l lr.length c_l) rfl; clear hx7; have hx7 := box_at hn.buf.bel 7 (vv) rfl; replace HB := Lib.hid hn; clear hn) | (go_at_call 39; refine (shorts_w lf HB.out HRf.out (by first | omega | (simp only [List.length_append, List.length_nil, List.length_cons, txt, sby_length, numB_len, sfB] <;> omega))).mono ?_; rintro e w1 ⟨rfl, v1, hn⟩; clear hc; have hc := hn.cell; clear hx3; have hx3 := box_at hn.buf.bel 3 (.int .u32 n) rfl; clear hx4; have hx4 := box_at hn.buf.bel 4 (vf) rfl; clear hx5; have hx5 := box_at hn.buf.bel 5 (.slice A_l lr.length c_l) rfl; clear hx7; have hx7 := box_at hn.buf.bel 7 (vv) rfl; replace HB := Lib.hid hn; clear hn; clear HRf) | (go_at_call 40; refine (values_w vls HB.out HRv.out HMv.out (by first | omega | (simp only [List.length_append, List.length_nil, List.length_cons, txt, sby_length, numB_len, sfB] <;> omega))).mono ?_; rintro e w1 ⟨rfl, v1, hn⟩; clear hc; have hc := hn.cell; clear hx3; have hx3 := box_at hn.buf.bel 3 (.int .u32 n) rfl; clear hx4; have hx4 := box_at hn.buf.bel 4 (vf) rfl; clear hx5; have hx5 := box_at hn.buf.bel 5 (.slice A_l lr.length c_l) rfl; clear hx7; have hx7 := box_at hn.buf.bel 7 (vv) rfl; replace HB := Lib.hid hn; clear hn))
  obtain ⟨PRE0, HB', HP0⟩ : ∃ P, Hid (Wr (Lt (w.alloc (.cells #[.int .i64 9, .string a, .string b, .int .u32 n, vf, .slice A_l lr.length c_l, vt, vv, vd, vw, vp, vl] 37)).heap.size) (w.alloc (.cells #[.int .i64 9, .string a, .string b, .int .u32 n, vf, .slice A_l lr.length c_l, vt, vv, vd, vw, vp, vl] 37)) _ (w.heap.size + 1 + 1) _ (P)) ∧ Hid (P = numB n 4 ++ (numB (lf.length : Int) 2 ++ lf.flatMap fun n => numB n 2) ++ (numB (vls.length : Int) 2 ++ vls.flatMap fun x => valB x.1 x.2)) := ⟨_, HB, Lib.hid rfl⟩
  clear HB
  have hpl0 : PRE0.length ≤ 8603000000 := by rw [HP0.out]; first | omega | (simp only [List.length_append, List.length_nil, List.length_cons, txt, sby_length, numB_len, sfB] <;> omega)
  go_loopw [113] (fun i wr => ∃ k : Nat, k ≤ lr.length ∧ i = .int .i64 k ∧ ∃ v', Hid (Wr (Lt (w.alloc (.cells #[.int .i64 9, .string a, .string b, .int .u32 n, vf, .slice A_l lr.length c_l, vt, vv, vd, vw, vp, vl] 37)).heap.size) (w.alloc (.cells #[.int .i64 9, .string a, .string b, .int .u32 n, vf, .slice A_l lr.length c_l, vt, vv, vd, vw, vp, vl] 37)) wr (w.heap.size + 1 + 1) v' (PRE0 ++ (lr.take k).flatMap (fun n => numB n 2)))) (fun i _ => lr.length - (intOf i).toNat)
  case atStart => exact ⟨0, Nat.zero_le _, rfl, _, by simpa using HB'⟩
  case round =>
    clear HB' hc hx3 hx4 hx5 hx7
    obtain ⟨k, hk1, rfl, v2, HB⟩ := hrel
    by_cases hlt : k < lr.length
    · have hfl := flat_take_len (fun n => numB n 2) 2 k lr HF.out
      obtain ⟨b1, o1, rfl, hcell⟩ := (HRl.out.ext HB.out.buf.bel).at_ hlt
      rw [getD_at hlt] at hcell
      obtain ⟨x, hx⟩ : ∃ x, x = lr[k] := ⟨_, rfl⟩
      rw [← hx] at hcell
      have HX := Lib.hid hx
      clear hx
      go_wp2_with (go_at_call 36; refine (number_w 2 (by omega) _ HB.out (by first | omega | (simp only [List.length_append, List.length_nil, List.length_cons, txt, sby_length, numB_len, sfB] <;> omega))).mono ?_; rintro e w1 ⟨rfl, v1, hn⟩; replace HB := Lib.hid hn; clear hn)
      go_roundw
      case rel =>
        refine ⟨k + 1, by omega, by go_num, v1, ?_⟩
        rw [take_flat _ lr k hlt, ← HX.out]
        have hz := HB.out
        simp only [List.append_assoc, sfB, prB, erB] at hz ⊢
        exact Lib.hid hz
      case measure => simp [intOf]; omega
    · obtain rfl : k = lr.length := by omega
      have hfl := flat_len (fun n => numB n 2) 2 lr HF.out
      rw [List.take_length] at HB
      have hc := HB.out.cell
      go_wp2
      go_ret
      exact gave_of HB.out (by have hz := HE.out; subst hz; rw [HP0.out]; first | done | (simp only [List.nil_append, List.append_assoc, List.append_nil]))

end Go.Proofs.YtdenjanihikolaaGreatDoor

namespace Go.Proofs.YtdenjanihikolaaGreatDoor
open Go.RowKit Og
set_option linter.unusedVariables false
set_option linter.unusedSimpArgs false

set_option maxRecDepth 100000 in
set_option maxHeartbeats 1000000 in
theorem body35 (a b : ByteArray) (n : Int) (vf vr vt vv vd vw vp vl : Value) (w : World) (ws : List ByteArray) (A_l : Option Addr) (c_l : Nat) (hvl : vw = .slice A_l ws.length c_l) (hr : Rd1 isStr w (.slice A_l ws.length c_l) ws) (hl : ws.length ≤ 1000) (hm : ∀ y ∈ ws, y.size ≤ 1000) (R : List Int) (hE : (numB 10 4 ++ ws.flatMap txt ++ numB 0 1) = R) :
    Calls Tryz.prog 16 #[.agg #[.int .i64 35, .string a, .string b, .int .u32 n, vf, vr, vt, vv, vd, vw, vp, vl]] w (Gave w R) := by
  subst hvl
  have HRl := Lib.hid (hr.ext (ext_alloc w (.cells #[.int .i64 35, .string a, .string b, .int .u32 n, vf, vr, vt, vv, vd, .slice A_l ws.length c_l, vp, vl] 37)) (fun _ _ h => h))
  clear hr
  have HM := Lib.hid hm
  have HF := Lib.hid (show ∀ y ∈ ws, (txt y).length ≤ 1001 from fun y hy => (by have := hm y hy; simp only [txt, List.length_append, List.length_cons, List.length_nil, sby_length]; omega))
  clear hm
  have hx9 : True := trivial
  have h0 := Wr.start1 w (.cells #[.int .i64 35, .string a, .string b, .int .u32 n, vf, vr, vt, vv, vd, .slice A_l ws.length c_l, vp, vl] 37)
  have hc := h0.cell
  have HB := Lib.hid h0
  clear h0
  have HE := Lib.hid hE
  clear hE
  go_enter Tryz.func16, Tryz.ntmps16
  go_wp2_with (first | (go_at_call 36; refine (number_w 4 (by omega) _ HB.out (by first | omega | (simp only [List.length_append, List.length_nil, List.length_cons, txt, sby_length, numB_len, sfB] <;> omega))).mono ?_; rintro e w1 ⟨rfl, v1, hn⟩; clear hc; have hc := hn.cell; clear hx9; have hx9 := box_at hn.buf.bel 9 (.slice A_l ws.length c_l) rfl; replace HB := Lib.hid hn; clear hn))
  obtain ⟨PRE0, HB', HP0⟩ : ∃ P, Hid (Wr (Lt (w.alloc (.cells #[.int .i64 35, .string a, .string b, .int .u32 n, vf, vr, vt, vv, vd, .slice A_l ws.length c_l, vp, vl] 37)).heap.size) (w.alloc (.cells #[.int .i64 35, .string a, .string b, .int .u32 n, vf, vr, vt, vv, vd, .slice A_l ws.length c_l, vp, vl] 37)) _ (w.heap.size + 1 + 1) _ (P)) ∧ Hid (P = numB 10 4) := ⟨_, HB, Lib.hid rfl⟩
  clear HB
  have hpl0 : PRE0.length ≤ 4 := by rw [HP0.out]; first | omega | (simp only [List.length_append, List.length_nil, List.length_cons, txt, sby_length, numB_len, sfB] <;> omega)
  go_loopw [218] (fun i wr => ∃ k : Nat, k ≤ ws.length ∧ i = .int .i64 k ∧ ∃ v', Hid (Wr (Lt (w.alloc (.cells #[.int .i64 35, .string a, .string b, .int .u32 n, vf, vr, vt, vv, vd, .slice A_l ws.length c_l, vp, vl] 37)).heap.size) (w.alloc (.cells #[.int .i64 35, .string a, .string b, .int .u32 n, vf, vr, vt, vv, vd, .slice A_l ws.length c_l, vp, vl] 37)) wr (w.heap.size + 1 + 1) v' (PRE0 ++ (ws.take k).flatMap txt))) (fun i _ => ws.length - (intOf i).toNat)
  case atStart => exact ⟨0, Nat.zero_le _, rfl, _, by simpa using HB'⟩
  case round =>
    clear HB' hc hx9
    obtain ⟨k, hk1, rfl, v2, HB⟩ := hrel
    by_cases hlt : k < ws.length
    · have hfl := flat_take_len txt 1001 k ws HF.out
      obtain ⟨b1, o1, u, rfl, hcell, hu⟩ := HRl.out.at_ hlt
      replace hcell := HB.out.buf.bel.cell hcell
      have hxl := HM.out _ (List.getElem_mem hlt)
      obtain ⟨x, hx⟩ : ∃ x, x = ws[k] := ⟨_, rfl⟩
      rw [← hx] at hu hxl
      rw [show u = .string x from hu] at hcell
      have HX := Lib.hid hx
      clear hx hu
      go_wp2_with (go_at_call 38; refine (text_w _ HB.out (by first | omega | (simp only [List.length_append, List.length_nil, List.length_cons, txt, sby_length, numB_len, sfB] <;> omega))).mono ?_; rintro e w1 ⟨rfl, v1, hn⟩; replace HB := Lib.hid hn; clear hn)
      go_roundw
      case rel =>
        refine ⟨k + 1, by omega, by go_num, v1, ?_⟩
        rw [take_flat _ ws k hlt, ← HX.out]
        have hz := HB.out
        simp only [List.append_assoc, sfB, prB, erB] at hz ⊢
        exact Lib.hid hz
      case measure => simp [intOf]; omega
    · obtain rfl : k = ws.length := by omega
      have hfl := flat_len txt 1001 ws HF.out
      rw [List.take_length] at HB
      have hc := HB.out.cell
      go_wp2_with (go_at_call 36; refine (number_w 1 (by omega) _ HB.out (by first | omega | (simp only [List.length_append, List.length_nil, List.length_cons, txt, sby_length, numB_len, sfB] <;> omega))).mono ?_; rintro e w1 ⟨rfl, v1, hn⟩; clear hc; have hc := hn.cell; replace HB := Lib.hid hn; clear hn)
      go_ret
      exact gave_of HB.out (by have hz := HE.out; subst hz; rw [HP0.out]; first | done | (simp only [List.nil_append, List.append_assoc, List.append_nil]))

end Go.Proofs.YtdenjanihikolaaGreatDoor

