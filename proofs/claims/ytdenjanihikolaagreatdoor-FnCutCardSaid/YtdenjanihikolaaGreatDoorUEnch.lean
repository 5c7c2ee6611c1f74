/- Encode of a function's result and of a row's description. -/
import Derived.Test.YtdenjanihikolaaGreatDoorUBase
namespace Go.Proofs.YtdenjanihikolaaGreatDoor
open Go.RowKit
set_option linter.unusedVariables false
set_option linter.unusedSimpArgs false

set_option maxRecDepth 100000 in
theorem encFuncResNil (b : Nat) (w : World) (hc0 : w.cell? ⟨b, 0, none⟩ = some (.slice none 0 0)) (R : List Int) (HR : Hid (R = msgB 86 (b32 (-1)))) :
    Calls Tryz.prog 318 #[.pointer (some ⟨b, 0, none⟩), .slice none 0 0] w (Gives w R) := by
  have hb : b < w.heap.size := lt_of_cell hc0
  have hk : True := trivial
  have HB := Lib.hid (Buf.nil w)
  have hq := fun wx => Lib.run_eql_slice_nil (P := Tryz.prog) wx 26 5 none 0 0 0 0 Tryz.underlying26
  go_enter Tryz.func318, Tryz.ntmps318
  go_wp2_with (first | (go_at_call 139; refine (begin_any _ _ _ _ HB.out (by simp)).mono ?_; rintro e w1 ⟨v1, rfl, hn⟩; clear hk; have hk := hn.cellb hb; replace HB := Lib.hid hn; clear hn) | (go_at_call 142; refine (appendI32 _ _ _ _ HB.out (by simp only [List.length_append, List.length_cons, List.length_nil, sby_length, b16_len, b32_len]; omega)).mono ?_; rintro e w1 ⟨v1, rfl, hn⟩; clear hk; have hk := hn.cellb hb; replace HB := Lib.hid hn; clear hn) | (go_at_call 143; refine (finish1 _ 86 _ (b32 (-1)) _ HB.out (by simp only [List.append_assoc, List.cons_append, List.nil_append]) (by rw [b32_len]; omega)).mono ?_; rintro e w1 ⟨v1, rfl, hn⟩; clear HB; have HB := Lib.hid hn; clear hn))
  go_ret2
  exact gives_of HB.out HR.out

set_option maxRecDepth 100000 in
theorem encFuncRes (b : Nat) (a : Addr) (c : Nat) (d : List Int) (w : World) (hc0 : w.cell? ⟨b, 0, none⟩ = some (.slice (some a) d.length c)) (hd : RdB w (.slice (some a) d.length c) d) (hl : d.length ≤ 1000) (R : List Int) (HR : Hid (R = msgB 86 (b32 d.length ++ d))) :
    Calls Tryz.prog 318 #[.pointer (some ⟨b, 0, none⟩), .slice none 0 0] w (Gives w R) := by
  have hb : b < w.heap.size := lt_of_cell hc0
  have hk : True := trivial
  have HD := Lib.hid hd
  clear hd
  have HB := Lib.hid (Buf.nil w)
  have hq := fun wx => Lib.run_eql_slice_nil (P := Tryz.prog) wx 26 5 (some a) d.length c 0 0 Tryz.underlying26
  go_enter Tryz.func318, Tryz.ntmps318
  go_wp2_with (first | (go_at_call 139; refine (begin_any _ _ _ _ HB.out (by simp)).mono ?_; rintro e w1 ⟨v1, rfl, hn⟩; clear hk; have hk := hn.cellb hb; replace HB := Lib.hid hn; clear hn) | (go_at_call 142; refine (appendI32 _ _ _ _ HB.out (by simp only [List.length_append, List.length_cons, List.length_nil, sby_length, b16_len, b32_len]; omega)).mono ?_; rintro e w1 ⟨v1, rfl, hn⟩; clear hk; have hk := hn.cellb hb; replace HB := Lib.hid hn; clear hn) | (at_builtin; refine ap_row (ys := d) rfl _ _ 26 26 rfl Tryz.underlying26 Tryz.underlying26 rfl HB.out rfl (HD.out.ext HB.out.bel) (by simp only [List.length_append, List.length_cons, List.length_nil, sby_length, b16_len, b32_len]; omega) ?_; intro v4 w4 hn; clear hk; have hk := hn.cellb hb; replace HB := Lib.hid hn; clear hn) | (go_at_call 143; refine (finish1 _ 86 _ (b32 d.length ++ d) _ HB.out (by simp only [List.append_assoc, List.cons_append, List.nil_append]) (by simp only [List.length_append, b32_len]; omega)).mono ?_; rintro e w1 ⟨v1, rfl, hn⟩; clear HB; have HB := Lib.hid hn; clear hn))
  go_ret2
  exact gives_of HB.out HR.out

set_option maxRecDepth 100000 in
set_option maxHeartbeats 1000000 in
theorem encRowDescription (b : Nat) (A_l : Option Addr) (c_l : Nat) (l : List Fd) (w : World) (hc0 : w.cell? ⟨b, 0, none⟩ = some (.slice A_l l.length c_l)) (hr_l : RdM 7 isFd w (.slice A_l l.length c_l) l) (hl_l : l.length ≤ 100)
    (hg_l : ∀ y ∈ l, y.name.length ≤ 300 ∧ (0 ≤ y.tab ∧ y.tab < 4294967296) ∧ (0 ≤ y.col ∧ y.col < 65536) ∧ (0 ≤ y.typ ∧ y.typ < 4294967296)) (R : List Int) (HR : Hid (R = msgB 84 (b16 l.length ++ l.flatMap fdB))) :
    Calls Tryz.prog 333 #[.pointer (some ⟨b, 0, none⟩), .slice none 0 0] w (Gives w R) := by
  have hb : b < w.heap.size := lt_of_cell hc0
  have hk : True := trivial
  have HR_l := Lib.hid hr_l
  clear hr_l
  have HG_l := Lib.hid hg_l
  clear hg_l
  have hm_l : ∀ y ∈ l, (fdB y).length ≤ 321 := fun y hy => by have := (HG_l.out _ hy).1; simp only [fdB, List.length_append, List.length_cons, List.length_nil, b32_len, b16_len]; omega
  have HM_l := Lib.hid hm_l
  clear hm_l
  have HB := Lib.hid (Buf.nil w)
  go_enter Tryz.func333, Tryz.ntmps333
  go_wp2_with (first | (go_at_call 139; refine (begin_any _ _ _ _ HB.out (by simp)).mono ?_; rintro e w1 ⟨v1, rfl, hn⟩; clear hk; have hk := hn.cellb hb; replace HB := Lib.hid hn; clear hn) | (go_at_call 140; refine (appendU16 _ _ _ _ (by omega) (by omega) HB.out (by simp only [List.length_append, List.length_cons, List.length_nil, sby_length, b16_len, b32_len]; omega)).mono ?_; rintro e w1 ⟨v1, rfl, hn⟩; clear hk; have hk := hn.cellb hb; replace HB := Lib.hid hn; clear hn))
  obtain ⟨PRE0, HB', HP0⟩ : ∃ P, Hid (Buf (Lt w.heap.size) w _ _ P) ∧ Hid (P = _) := ⟨_, HB, Lib.hid rfl⟩
  clear HB
  have hpl0 : PRE0.length ≤ 3000 := by rw [HP0.out]; simp only [List.length_append, List.length_cons, List.length_nil, sby_length, b16_len, b32_len]; omega
  go_loopw [1, 34] (fun v i wr => ∃ k : Nat, k ≤ l.length ∧ i = .int .i64 k ∧ Hid (Buf (Lt w.heap.size) w wr v (PRE0 ++ (l.take k).flatMap fdB))) (fun _ i _ => l.length - (intOf i).toNat)
  case atStart => exact ⟨0, Nat.zero_le _, rfl, by simpa using HB'⟩
  case round =>
    clear HB'
    obtain ⟨k, hk1, rfl, HB⟩ := hrel
    clear hk
    by_cases hlt : k < l.length
    · have hfl := flat_take_len fdB 321 k l HM_l.out
      obtain ⟨b1, o1, f, rfl, hcell0, hu⟩ := HR_l.out.at_ hlt
      obtain ⟨h1, h2, h3, h4⟩ := HG_l.out _ (List.getElem_mem hlt)
      obtain ⟨x, hx⟩ : ∃ x, x = l[k] := ⟨_, rfl⟩
      rw [← hx] at hu h1 h2 h3 h4
      have HX := Lib.hid hx
      clear hx
      obtain ⟨⟨An, cn, f0, hd⟩, f1, f2, f3, f4, f5, f6⟩ := hu
      have HD := Lib.hid hd
      clear hd
      have e0 := Ext.cell HB.out.bel (hcell0 0 (by omega))
      have e1 := Ext.cell HB.out.bel (hcell0 1 (by omega))
      have e2 := Ext.cell HB.out.bel (hcell0 2 (by omega))
      have e3 := Ext.cell HB.out.bel (hcell0 3 (by omega))
      have e4 := Ext.cell HB.out.bel (hcell0 4 (by omega))
      have e5 := Ext.cell HB.out.bel (hcell0 5 (by omega))
      have e6 := Ext.cell HB.out.bel (hcell0 6 (by omega))
      rw [f0, Nat.add_zero] at e0
      rw [f1] at e1
      rw [f2] at e2
      rw [f3] at e3
      rw [f4] at e4
      rw [f5] at e5
      rw [f6] at e6
      clear hcell0 f0 f1 f2 f3 f4 f5 f6
      have HF := Lib.hid (fun o => Buf.box HB.out o)
      have hcs : True := trivial
      go_wp2_with (first | (at_builtin; refine ap_row (ys := x.name) rfl _ _ 26 26 rfl Tryz.underlying26 Tryz.underlying26 rfl (HF.out _) rfl (HD.out.ext ((HB.out.unbox (HF.out _)).bel)) (by simp only [List.length_append]; omega) ?_; clear e0 e1 e2 e3 e4 e5 e6; intro v4 w4 hn; clear hcs; have hcs := hn.boxed; have HN := Lib.hid hn; clear hn) | (at_builtin; refine ap_lit1 rfl _ _ 26 26 rfl Tryz.underlying26 Tryz.underlying26 rfl rfl HN.out (by simp only [List.length_append]; omega) ?_; intro v3 w3 hn; clear hcs; have hcs := hn.boxed; replace HN := Lib.hid hn; clear hn) | (go_at_call 145; refine (appendU32 _ _ _ _ (by omega) (by omega) HN.out (by simp only [List.length_append, List.length_cons, List.length_nil, b16_len, b32_len]; omega)).mono ?_; rintro e w1 ⟨v1, rfl, hn⟩; clear hcs; have hcs := hn.boxed; replace HN := Lib.hid hn; clear hn) | (go_at_call 140; refine (appendU16 _ _ _ _ (by omega) (by omega) HN.out (by simp only [List.length_append, List.length_cons, List.length_nil, b16_len, b32_len]; omega)).mono ?_; rintro e w1 ⟨v1, rfl, hn⟩; clear hcs; have hcs := hn.boxed; replace HN := Lib.hid hn; clear hn) | (go_at_call 141; refine (appendI16 _ _ _ _ HN.out (by simp only [List.length_append, List.length_cons, List.length_nil, b16_len, b32_len]; omega)).mono ?_; rintro e w1 ⟨v1, rfl, hn⟩; clear hcs; have hcs := hn.boxed; replace HN := Lib.hid hn; clear hn) | (go_at_call 142; refine (appendI32 _ _ _ _ HN.out (by simp only [List.length_append, List.length_cons, List.length_nil, b16_len, b32_len]; omega)).mono ?_; rintro e w1 ⟨v1, rfl, hn⟩; clear hcs; have hcs := hn.boxed; replace HN := Lib.hid hn; clear hn))
      go_roundw
      case rel =>
        refine ⟨k + 1, by omega, by go_num, ?_⟩
        rw [take_flat fdB l k hlt, ← List.append_assoc, ← HX.out]
        have hz := HB.out.unbox HN.out
        exact Lib.hid (by simpa only [fdB, List.append_assoc] using hz)
      case measure => simp [intOf]; omega
    · have hk := HB.out.cellb hb
      obtain rfl : k = l.length := by omega
      have hfl0 := flat_len fdB 321 l HM_l.out
      rw [List.take_length] at HB
      go_wp2_with (go_at_call 143; refine (finish1 _ 84 _ (b16 l.length ++ l.flatMap fdB) _ HB.out (by rw [HP0.out]; simp only [txt, List.append_assoc, List.cons_append, List.nil_append]) (by first | omega | (simp only [txt, List.length_append, List.length_cons, List.length_nil, sby_length, b16_len, b32_len]; omega))).mono ?_; rintro e w1 ⟨v1, rfl, hn⟩; clear HB; have HB := Lib.hid hn; clear hn)
      go_ret2
      exact gives_of HB.out HR.out

end Go.Proofs.YtdenjanihikolaaGreatDoor

