/- Encode of a function's result and of a row's description. -/
import Derived.Test.YtdenjanihikolaaGreatDoorVBase
namespace Go.Proofs.YtdenjanihikolaaGreatDoor
open Go.RowKit
set_option linter.unusedVariables false
set_option linter.unusedSimpArgs false

set_option maxRecDepth 100000 in
set_option maxHeartbeats 1000000 in
theorem encDataRow (b : Nat) (A_l : Option Addr) (c_l : Nat) (l : List (Option (List Int))) (w : World) (hc0 : w.cell? ⟨b, 0, none⟩ = some (.slice A_l l.length c_l)) (hr_l : Rd1 isOpt w (.slice A_l l.length c_l) l) (hl_l : l.length ≤ 100) (hg_l : ∀ y ∈ l, ∀ d, y = some d → d.length ≤ 300) (R : List Int) (HR : Hid (R = msgB 68 (b16 l.length ++ l.flatMap optB))) :
    Calls Tryz.prog 290 #[.pointer (some ⟨b, 0, none⟩), .slice none 0 0] w (Gives w R) := by
  have hb : b < w.heap.size := lt_of_cell hc0
  have hk : True := trivial
  have HR_l := Lib.hid hr_l
  clear hr_l
  have HG_l := Lib.hid hg_l
  clear hg_l
  have hm_l : ∀ y ∈ l, (optB y).length ≤ 304 := fun y hy => by cases y with | none => simp [optB, b32_len] | some d => have := HG_l.out _ hy d rfl; simp only [optB, List.length_append, b32_len]; omega
  have HM_l := Lib.hid hm_l
  clear hm_l
  have HB := Lib.hid (Buf.nil w)
  go_enter Tryz.func290, Tryz.ntmps290
  go_wp2_with (first | (go_at_call 139; refine (begin_any _ _ _ _ HB.out (by simp)).mono ?_; rintro e w1 ⟨v1, rfl, hn⟩; clear hk; have hk := hn.cellb hb; replace HB := Lib.hid hn; clear hn) | (go_at_call 140; refine (appendU16 _ _ _ _ (by omega) (by omega) HB.out (by simp only [List.length_append, List.length_cons, List.length_nil, sby_length, b16_len, b32_len]; omega)).mono ?_; rintro e w1 ⟨v1, rfl, hn⟩; clear hk; have hk := hn.cellb hb; replace HB := Lib.hid hn; clear hn) | (go_at_call 145; refine (appendU32 _ _ _ _ (by omega) (by omega) HB.out (by simp only [List.length_append, List.length_cons, List.length_nil, sby_length, b16_len, b32_len]; omega)).mono ?_; rintro e w1 ⟨v1, rfl, hn⟩; clear hk; have hk := hn.cellb hb; replace HB := Lib.hid hn; clear hn) | (at_builtin; refine ap_lit1 rfl _ _ 26 26 rfl Tryz.underlying26 Tryz.underlying26 rfl rfl HB.out (by simp only [List.length_append, List.length_cons, List.length_nil, sby_length, b16_len, b32_len]; omega) ?_; intro v3 w3 hn; clear hk; have hk := hn.cellb hb; replace HB := Lib.hid hn; clear hn))
  obtain ⟨PRE0, HB', HP0⟩ : ∃ P, Hid (Buf (Lt w.heap.size) w _ _ P) ∧ Hid (P = _) := ⟨_, HB, Lib.hid rfl⟩
  clear HB
  have hpl0 : PRE0.length ≤ 3000 := by rw [HP0.out]; simp only [List.length_append, List.length_cons, List.length_nil, sby_length, b16_len, b32_len]; omega
  go_loopw [1, 34] (fun v i wr => ∃ k : Nat, k ≤ l.length ∧ i = .int .i64 k ∧ Hid (Buf (Lt w.heap.size) w wr v (PRE0 ++ (l.take k).flatMap optB))) (fun _ i _ => l.length - (intOf i).toNat)
  case atStart => exact ⟨0, Nat.zero_le _, rfl, by simpa using HB'⟩
  case round =>
    clear HB'
    obtain ⟨k, hk1, rfl, HB⟩ := hrel
    clear hk
    have hk := HB.out.cellb hb
    by_cases hlt : k < l.length
    · have hfl := flat_take_len optB 304 k l HM_l.out
      obtain ⟨b1, o1, u, rfl, hcell0, hu⟩ := HR_l.out.at_ hlt
      have hcell := Ext.cell HB.out.bel hcell0
      clear hcell0
      have h1 := HG_l.out _ (List.getElem_mem hlt)
      obtain ⟨x, hx⟩ : ∃ x, x = l[k] := ⟨_, rfl⟩
      rw [← hx] at hu h1
      have HX := Lib.hid hx
      clear hx
      cases x with
      | none =>
        clear h1
        have hu' : u = .slice none 0 0 := hu
        subst hu'
        have hq := fun wx => Lib.run_eql_slice_nil (P := Tryz.prog) wx 26 5 none 0 0 0 0 Tryz.underlying26
        go_wp2_with (go_at_call 142; refine (appendI32 _ _ _ _ HB.out (by simp only [List.length_append, List.length_cons, List.length_nil, sby_length, b16_len, b32_len]; omega)).mono ?_; rintro e w1 ⟨v1, rfl, hn⟩; replace HB := Lib.hid hn; clear hn)
        go_roundw
        case rel =>
          refine ⟨k + 1, by omega, by go_num, ?_⟩
          rw [take_flat optB l k hlt, ← List.append_assoc, ← HX.out]
          exact HB
        case measure => simp [intOf]; omega
      | some d =>
        have h2 := h1 d rfl
        clear h1
        obtain ⟨a1, c1, hu', hd⟩ := hu
        subst hu'
        have HD := Lib.hid hd
        clear hd
        have hq := fun wx => Lib.run_eql_slice_nil (P := Tryz.prog) wx 26 5 (some a1) d.length c1 0 0 Tryz.underlying26
        go_wp2_with (first | (go_at_call 142; refine (appendI32 _ _ _ _ HB.out (by simp only [List.length_append, List.length_cons, List.length_nil, sby_length, b16_len, b32_len]; omega)).mono ?_; rintro e w1 ⟨v1, rfl, hn⟩; replace HB := Lib.hid hn; clear hn) | (at_builtin; refine ap_row (ys := d) rfl _ _ 26 26 rfl Tryz.underlying26 Tryz.underlying26 rfl HB.out rfl (HD.out.ext HB.out.bel) (by simp only [List.length_append, List.length_cons, List.length_nil, sby_length, b16_len, b32_len]; omega) ?_; intro v4 w4 hn; replace HB := Lib.hid hn; clear hn))
        go_roundw
        case rel =>
          refine ⟨k + 1, by omega, by go_num, ?_⟩
          rw [take_flat optB l k hlt, ← List.append_assoc, ← HX.out]
          exact (by simpa only [optB, List.append_assoc] using HB)
        case measure => simp [intOf]; omega
    · obtain rfl : k = l.length := by omega
      have hfl0 := flat_len optB 304 l HM_l.out
      rw [List.take_length] at HB
      go_wp2_with (first | (go_at_call 143; refine (finish1 _ 68 _ (b16 l.length ++ l.flatMap optB) _ HB.out (by rw [HP0.out]; simp only [txt, List.append_assoc, List.cons_append, List.nil_append]) (by first | omega | (simp only [txt, List.length_append, List.length_cons, List.length_nil, sby_length, b16_len, b32_len]; omega))).mono ?_; rintro e w1 ⟨v1, rfl, hn⟩; clear HB; have HB := Lib.hid hn; clear hn) | (go_at_call 139; refine (begin_any _ _ _ _ HB.out (by simp)).mono ?_; rintro e w1 ⟨v1, rfl, hn⟩; clear hk; have hk := hn.cellb hb; replace HB := Lib.hid hn; clear hn) | (go_at_call 140; refine (appendU16 _ _ _ _ (by omega) (by omega) HB.out (by simp only [List.length_append, List.length_cons, List.length_nil, sby_length, b16_len, b32_len]; omega)).mono ?_; rintro e w1 ⟨v1, rfl, hn⟩; clear hk; have hk := hn.cellb hb; replace HB := Lib.hid hn; clear hn) | (go_at_call 145; refine (appendU32 _ _ _ _ (by omega) (by omega) HB.out (by simp only [List.length_append, List.length_cons, List.length_nil, sby_length, b16_len, b32_len]; omega)).mono ?_; rintro e w1 ⟨v1, rfl, hn⟩; clear hk; have hk := hn.cellb hb; replace HB := Lib.hid hn; clear hn) | (at_builtin; refine ap_lit1 rfl _ _ 26 26 rfl Tryz.underlying26 Tryz.underlying26 rfl rfl HB.out (by simp only [List.length_append, List.length_cons, List.length_nil, sby_length, b16_len, b32_len]; omega) ?_; intro v3 w3 hn; clear hk; have hk := hn.cellb hb; replace HB := Lib.hid hn; clear hn))
      go_ret2
      exact gives_of HB.out HR.out

set_option maxRecDepth 100000 in
set_option maxHeartbeats 1000000 in
theorem encAuthSASL (b : Nat) (A_l : Option Addr) (c_l : Nat) (l : List (ByteArray)) (w : World) (hc0 : w.cell? ⟨b, 0, none⟩ = some (.slice A_l l.length c_l)) (hr_l : Rd1 isStr w (.slice A_l l.length c_l) l) (hl_l : l.length ≤ 100) (hg_l : ∀ y ∈ l, y.size ≤ 300) (R : List Int) (HR : Hid (R = msgB 82 (b32 10 ++ l.flatMap txt ++ [0]))) :
    Calls Tryz.prog 266 #[.pointer (some ⟨b, 0, none⟩), .slice none 0 0] w (Gives w R) := by
  have hb : b < w.heap.size := lt_of_cell hc0
  have hk : True := trivial
  have HR_l := Lib.hid hr_l
  clear hr_l
  have HG_l := Lib.hid hg_l
  clear hg_l
  have hm_l : ∀ y ∈ l, (txt y).length ≤ 301 := fun y hy => by have := HG_l.out _ hy; rw [txt_len]; omega
  have HM_l := Lib.hid hm_l
  clear hm_l
  have HB := Lib.hid (Buf.nil w)
  go_enter Tryz.func266, Tryz.ntmps266
  go_wp2_with (first | (go_at_call 139; refine (begin_any _ _ _ _ HB.out (by simp)).mono ?_; rintro e w1 ⟨v1, rfl, hn⟩; clear hk; have hk := hn.cellb hb; replace HB := Lib.hid hn; clear hn) | (go_at_call 140; refine (appendU16 _ _ _ _ (by omega) (by omega) HB.out (by simp only [List.length_append, List.length_cons, List.length_nil, sby_length, b16_len, b32_len]; omega)).mono ?_; rintro e w1 ⟨v1, rfl, hn⟩; clear hk; have hk := hn.cellb hb; replace HB := Lib.hid hn; clear hn) | (go_at_call 145; refine (appendU32 _ _ _ _ (by omega) (by omega) HB.out (by simp only [List.length_append, List.length_cons, List.length_nil, sby_length, b16_len, b32_len]; omega)).mono ?_; rintro e w1 ⟨v1, rfl, hn⟩; clear hk; have hk := hn.cellb hb; replace HB := Lib.hid hn; clear hn) | (at_builtin; refine ap_lit1 rfl _ _ 26 26 rfl Tryz.underlying26 Tryz.underlying26 rfl rfl HB.out (by simp only [List.length_append, List.length_cons, List.length_nil, sby_length, b16_len, b32_len]; omega) ?_; intro v3 w3 hn; clear hk; have hk := hn.cellb hb; replace HB := Lib.hid hn; clear hn))
  obtain ⟨PRE0, HB', HP0⟩ : ∃ P, Hid (Buf (Lt w.heap.size) w _ _ P) ∧ Hid (P = _) := ⟨_, HB, Lib.hid rfl⟩
  clear HB
  have hpl0 : PRE0.length ≤ 3000 := by rw [HP0.out]; simp only [List.length_append, List.length_cons, List.length_nil, sby_length, b16_len, b32_len]; omega
  go_loopw [1, 21] (fun v i wr => ∃ k : Nat, k ≤ l.length ∧ i = .int .i64 k ∧ Hid (Buf (Lt w.heap.size) w wr v (PRE0 ++ (l.take k).flatMap txt))) (fun _ i _ => l.length - (intOf i).toNat)
  case atStart => exact ⟨0, Nat.zero_le _, rfl, by simpa using HB'⟩
  case round =>
    clear HB'
    obtain ⟨k, hk1, rfl, HB⟩ := hrel
    clear hk
    have hk := HB.out.cellb hb
    by_cases hlt : k < l.length
    · have hfl := flat_take_len txt 301 k l HM_l.out
      obtain ⟨b1, o1, u, rfl, hcell, hu⟩ := (HR_l.out.ext HB.out.bel (fun _ _ h => h)).at_ hlt
      have h1 := HG_l.out _ (List.getElem_mem hlt)
      obtain ⟨x, hx⟩ : ∃ x, x = l[k] := ⟨_, rfl⟩
      rw [← hx] at hu h1
      have HX := Lib.hid hx
      clear hx
      have hu' : u = .string x := hu
      subst hu'
      clear hu
      have hcv := run_bytes x
      go_wp2_with (first | (at_builtin; refine ap_conv (st := x) rfl _ _ 26 26 rfl Tryz.underlying26 Tryz.underlying26 rfl rfl HB.out (by simp only [List.length_append, List.length_cons, List.length_nil, sby_length, b16_len, b32_len]; omega) ?_; intro v5 w5 hn; replace HB := Lib.hid hn; clear hn) | (at_builtin; refine ap_lit1 rfl _ _ 26 26 rfl Tryz.underlying26 Tryz.underlying26 rfl rfl HB.out (by simp only [List.length_append, List.length_cons, List.length_nil, sby_length, b16_len, b32_len]; omega) ?_; intro v3 w3 hn; replace HB := Lib.hid hn; clear hn))
      go_roundw
      case rel =>
        refine ⟨k + 1, by omega, by go_num, ?_⟩
        rw [take_flat txt l k hlt, ← List.append_assoc, ← HX.out]
        exact (by simpa only [txt, List.append_assoc] using HB)
      case measure => simp [intOf]; omega
    · obtain rfl : k = l.length := by omega
      have hfl0 := flat_len txt 301 l HM_l.out
      rw [List.take_length] at HB
      go_wp2_with (first | (go_at_call 143; refine (finish1 _ 82 _ (b32 10 ++ l.flatMap txt ++ [0]) _ HB.out (by rw [HP0.out]; simp only [txt, List.append_assoc, List.cons_append, List.nil_append]) (by first | omega | (simp only [txt, List.length_append, List.length_cons, List.length_nil, sby_length, b16_len, b32_len]; omega))).mono ?_; rintro e w1 ⟨v1, rfl, hn⟩; clear HB; have HB := Lib.hid hn; clear hn) | (go_at_call 139; refine (begin_any _ _ _ _ HB.out (by simp)).mono ?_; rintro e w1 ⟨v1, rfl, hn⟩; clear hk; have hk := hn.cellb hb; replace HB := Lib.hid hn; clear hn) | (go_at_call 140; refine (appendU16 _ _ _ _ (by omega) (by omega) HB.out (by simp only [List.length_append, List.length_cons, List.length_nil, sby_length, b16_len, b32_len]; omega)).mono ?_; rintro e w1 ⟨v1, rfl, hn⟩; clear hk; have hk := hn.cellb hb; replace HB := Lib.hid hn; clear hn) | (go_at_call 145; refine (appendU32 _ _ _ _ (by omega) (by omega) HB.out (by simp only [List.length_append, List.length_cons, List.length_nil, sby_length, b16_len, b32_len]; omega)).mono ?_; rintro e w1 ⟨v1, rfl, hn⟩; clear hk; have hk := hn.cellb hb; replace HB := Lib.hid hn; clear hn) | (at_builtin; refine ap_lit1 rfl _ _ 26 26 rfl Tryz.underlying26 Tryz.underlying26 rfl rfl HB.out (by simp only [List.length_append, List.length_cons, List.length_nil, sby_length, b16_len, b32_len]; omega) ?_; intro v3 w3 hn; clear hk; have hk := hn.cellb hb; replace HB := Lib.hid hn; clear hn))
      go_ret2
      exact gives_of HB.out HR.out

end Go.Proofs.YtdenjanihikolaaGreatDoor

namespace Go.Proofs.YtdenjanihikolaaGreatDoor
open Go.RowKit
set_option linter.unusedVariables false
set_option linter.unusedSimpArgs false

set_option maxRecDepth 100000 in
set_option maxHeartbeats 1000000 in
theorem encBind (b : Nat) (s : ByteArray) (s2 : ByteArray) (A_l : Option Addr) (c_l : Nat) (l : List Int) (A_m : Option Addr) (c_m : Nat) (m : List (Option (List Int))) (A_n : Option Addr) (c_n : Nat) (n : List Int) (w : World) (hc0 : w.cell? ⟨b, 0, none⟩ = some (.string s)) (hc1 : w.cell? ⟨b, 1, none⟩ = some (.string s2)) (hc2 : w.cell? ⟨b, 2, none⟩ = some (.slice A_l l.length c_l)) (hc3 : w.cell? ⟨b, 3, none⟩ = some (.slice A_m m.length c_m)) (hc4 : w.cell? ⟨b, 4, none⟩ = some (.slice A_n n.length c_n)) (hs_s : s.size ≤ 1000) (hs_s2 : s2.size ≤ 1000) (hr_l : RdI .i16 w (.slice A_l l.length c_l) l) (hl_l : l.length ≤ 100)  (hr_m : Rd1 isOpt w (.slice A_m m.length c_m) m) (hl_m : m.length ≤ 100) (hg_m : ∀ y ∈ m, ∀ d, y = some d → d.length ≤ 300) (hr_n : RdI .i16 w (.slice A_n n.length c_n) n) (hl_n : n.length ≤ 100)  (R : List Int) (HR : Hid (R = msgB 66 (txt s ++ txt s2 ++ b16 l.length ++ l.flatMap b16 ++ b16 m.length ++ m.flatMap optB ++ b16 n.length ++ n.flatMap b16))) :
    Calls Tryz.prog 134 #[.pointer (some ⟨b, 0, none⟩), .slice none 0 0] w (Gives w R) := by
  have hb : b < w.heap.size := lt_of_cell hc0
  have hk : True := trivial
  have HR_l := Lib.hid hr_l
  clear hr_l
  have hm_l : ∀ y ∈ l, (b16 y).length ≤ 2 := fun _ _ => Nat.le_refl _
  have HM_l := Lib.hid hm_l
  clear hm_l
  have HR_m := Lib.hid hr_m
  clear hr_m
  have HG_m := Lib.hid hg_m
  clear hg_m
  have hm_m : ∀ y ∈ m, (optB y).length ≤ 304 := fun y hy => by cases y with | none => simp [optB, b32_len] | some d => have := HG_m.out _ hy d rfl; simp only [optB, List.length_append, b32_len]; omega
  have HM_m := Lib.hid hm_m
  clear hm_m
  have HR_n := Lib.hid hr_n
  clear hr_n
  have hm_n : ∀ y ∈ n, (b16 y).length ≤ 2 := fun _ _ => Nat.le_refl _
  have HM_n := Lib.hid hm_n
  clear hm_n
  have HB := Lib.hid (Buf.nil w)
  go_enter Tryz.func134, Tryz.ntmps134
  go_wp2_with (first | (go_at_call 139; refine (begin_any _ _ _ _ HB.out (by simp)).mono ?_; rintro e w1 ⟨v1, rfl, hn⟩; clear hk; have hk := hn.cellb hb; replace HB := Lib.hid hn; clear hn) | (go_at_call 140; refine (appendU16 _ _ _ _ (by omega) (by omega) HB.out (by simp only [List.length_append, List.length_cons, List.length_nil, sby_length, b16_len, b32_len]; omega)).mono ?_; rintro e w1 ⟨v1, rfl, hn⟩; clear hk; have hk := hn.cellb hb; replace HB := Lib.hid hn; clear hn) | (go_at_call 145; refine (appendU32 _ _ _ _ (by omega) (by omega) HB.out (by simp only [List.length_append, List.length_cons, List.length_nil, sby_length, b16_len, b32_len]; omega)).mono ?_; rintro e w1 ⟨v1, rfl, hn⟩; clear hk; have hk := hn.cellb hb; replace HB := Lib.hid hn; clear hn) | (at_builtin; refine ap_str (st := s) rfl _ _ 26 rfl Tryz.underlying26 rfl rfl HB.out (by simp only [List.length_append, List.length_cons, List.length_nil, sby_length, b16_len, b32_len]; omega) ?_; intro v2 w2 hn; clear hk; have hk := hn.cellb hb; replace HB := Lib.hid hn; clear hn) | (at_builtin; refine ap_str (st := s2) rfl _ _ 26 rfl Tryz.underlying26 rfl rfl HB.out (by simp only [List.length_append, List.length_cons, List.length_nil, sby_length, b16_len, b32_len]; omega) ?_; intro v2 w2 hn; clear hk; have hk := hn.cellb hb; replace HB := Lib.hid hn; clear hn) | (at_builtin; refine ap_lit1 rfl _ _ 26 26 rfl Tryz.underlying26 Tryz.underlying26 rfl rfl HB.out (by simp only [List.length_append, List.length_cons, List.length_nil, sby_length, b16_len, b32_len]; omega) ?_; intro v3 w3 hn; clear hk; have hk := hn.cellb hb; replace HB := Lib.hid hn; clear hn))
  obtain ⟨PRE0, HB', HP0⟩ : ∃ P, Hid (Buf (Lt w.heap.size) w _ _ P) ∧ Hid (P = _) := ⟨_, HB, Lib.hid rfl⟩
  clear HB
  have hpl0 : PRE0.length ≤ 3000 := by rw [HP0.out]; simp only [List.length_append, List.length_cons, List.length_nil, sby_length, b16_len, b32_len]; omega
  go_loopw [1, 56] (fun v i wr => ∃ k : Nat, k ≤ l.length ∧ i = .int .i64 k ∧ Hid (Buf (Lt w.heap.size) w wr v (PRE0 ++ (l.take k).flatMap b16))) (fun _ i _ => l.length - (intOf i).toNat)
  case atStart => exact ⟨0, Nat.zero_le _, rfl, by simpa using HB'⟩
  case round =>
    clear HB'
    obtain ⟨k, hk1, rfl, HB⟩ := hrel
    clear hk
    have hk := HB.out.cellb hb
    by_cases hlt : k < l.length
    · have hfl := flat_take_len b16 2 k l HM_l.out
      obtain ⟨b1, o1, rfl, hcell⟩ := (HR_l.out.ext HB.out.bel).at_ hlt
      rw [getD_at hlt] at hcell
      obtain ⟨x, hx⟩ : ∃ x, x = l[k] := ⟨_, rfl⟩
      rw [← hx] at hcell
      have HX := Lib.hid hx
      clear hx
      go_wp2_with (go_at_call 141; refine (appendI16 _ _ _ _ HB.out (by simp only [List.length_append, List.length_cons, List.length_nil, sby_length, b16_len, b32_len]; omega)).mono ?_; rintro e w1 ⟨v1, rfl, hn⟩; replace HB := Lib.hid hn; clear hn)
      go_roundw
      case rel =>
        refine ⟨k + 1, by omega, by go_num, ?_⟩
        rw [take_flat b16 l k hlt, ← List.append_assoc, ← HX.out]
        exact HB
      case measure => simp [intOf]; omega
    · obtain rfl : k = l.length := by omega
      have hfl0 := flat_len b16 2 l HM_l.out
      rw [List.take_length] at HB
      go_wp2_with (first | (go_at_call 139; refine (begin_any _ _ _ _ HB.out (by simp)).mono ?_; rintro e w1 ⟨v1, rfl, hn⟩; clear hk; have hk := hn.cellb hb; replace HB := Lib.hid hn; clear hn) | (go_at_call 140; refine (appendU16 _ _ _ _ (by omega) (by omega) HB.out (by simp only [List.length_append, List.length_cons, List.length_nil, sby_length, b16_len, b32_len]; omega)).mono ?_; rintro e w1 ⟨v1, rfl, hn⟩; clear hk; have hk := hn.cellb hb; replace HB := Lib.hid hn; clear hn) | (go_at_call 145; refine (appendU32 _ _ _ _ (by omega) (by omega) HB.out (by simp only [List.length_append, List.length_cons, List.length_nil, sby_length, b16_len, b32_len]; omega)).mono ?_; rintro e w1 ⟨v1, rfl, hn⟩; clear hk; have hk := hn.cellb hb; replace HB := Lib.hid hn; clear hn) | (at_builtin; refine ap_str (st := s) rfl _ _ 26 rfl Tryz.underlying26 rfl rfl HB.out (by simp only [List.length_append, List.length_cons, List.length_nil, sby_length, b16_len, b32_len]; omega) ?_; intro v2 w2 hn; clear hk; have hk := hn.cellb hb; replace HB := Lib.hid hn; clear hn) | (at_builtin; refine ap_str (st := s2) rfl _ _ 26 rfl Tryz.underlying26 rfl rfl HB.out (by simp only [List.length_append, List.length_cons, List.length_nil, sby_length, b16_len, b32_len]; omega) ?_; intro v2 w2 hn; clear hk; have hk := hn.cellb hb; replace HB := Lib.hid hn; clear hn) | (at_builtin; refine ap_lit1 rfl _ _ 26 26 rfl Tryz.underlying26 Tryz.underlying26 rfl rfl HB.out (by simp only [List.length_append, List.length_cons, List.length_nil, sby_length, b16_len, b32_len]; omega) ?_; intro v3 w3 hn; clear hk; have hk := hn.cellb hb; replace HB := Lib.hid hn; clear hn))
      obtain ⟨PRE1, HB', HP1⟩ : ∃ P, Hid (Buf (Lt w.heap.size) w _ _ P) ∧ Hid (P = _) := ⟨_, HB, Lib.hid rfl⟩
      clear HB
      have hpl1 : PRE1.length ≤ 43000 := by rw [HP1.out]; simp only [List.length_append, List.length_cons, List.length_nil, sby_length, b16_len, b32_len]; omega
      go_loopw [1, 84] (fun v i wr => ∃ k : Nat, k ≤ m.length ∧ i = .int .i64 k ∧ Hid (Buf (Lt w.heap.size) w wr v (PRE1 ++ (m.take k).flatMap optB))) (fun _ i _ => m.length - (intOf i).toNat)
      case atStart => exact ⟨0, Nat.zero_le _, rfl, by simpa using HB'⟩
      case round =>
        clear HB'
        obtain ⟨k, hk1, rfl, HB⟩ := hrel
        clear hk
        have hk := HB.out.cellb hb
        by_cases hlt : k < m.length
        · have hfl := flat_take_len optB 304 k m HM_m.out
          obtain ⟨b1, o1, u, rfl, hcell0, hu⟩ := HR_m.out.at_ hlt
          have hcell := Ext.cell HB.out.bel hcell0
          clear hcell0
          have h1 := HG_m.out _ (List.getElem_mem hlt)
          obtain ⟨x, hx⟩ : ∃ x, x = m[k] := ⟨_, rfl⟩
          rw [← hx] at hu h1
          have HX := Lib.hid hx
          clear hx
          cases x with
          | none =>
            clear h1
            have hu' : u = .slice none 0 0 := hu
            subst hu'
            have hq := fun wx => Lib.run_eql_slice_nil (P := Tryz.prog) wx 26 5 none 0 0 0 0 Tryz.underlying26
            go_wp2_with (go_at_call 142; refine (appendI32 _ _ _ _ HB.out (by simp only [List.length_append, List.length_cons, List.length_nil, sby_length, b16_len, b32_len]; omega)).mono ?_; rintro e w1 ⟨v1, rfl, hn⟩; replace HB := Lib.hid hn; clear hn)
            go_roundw
            case rel =>
              refine ⟨k + 1, by omega, by go_num, ?_⟩
              rw [take_flat optB m k hlt, ← List.append_assoc, ← HX.out]
              exact HB
            case measure => simp [intOf]; omega
          | some d =>
            have h2 := h1 d rfl
            clear h1
            obtain ⟨a1, c1, hu', hd⟩ := hu
            subst hu'
            have HD := Lib.hid hd
            clear hd
            have hq := fun wx => Lib.run_eql_slice_nil (P := Tryz.prog) wx 26 5 (some a1) d.length c1 0 0 Tryz.underlying26
            go_wp2_with (first | (go_at_call 142; refine (appendI32 _ _ _ _ HB.out (by simp only [List.length_append, List.length_cons, List.length_nil, sby_length, b16_len, b32_len]; omega)).mono ?_; rintro e w1 ⟨v1, rfl, hn⟩; replace HB := Lib.hid hn; clear hn) | (at_builtin; refine ap_row (ys := d) rfl _ _ 26 26 rfl Tryz.underlying26 Tryz.underlying26 rfl HB.out rfl (HD.out.ext HB.out.bel) (by simp only [List.length_append, List.length_cons, List.length_nil, sby_length, b16_len, b32_len]; omega) ?_; intro v4 w4 hn; replace HB := Lib.hid hn; clear hn))
            go_roundw
            case rel =>
              refine ⟨k + 1, by omega, by go_num, ?_⟩
              rw [take_flat optB m k hlt, ← List.append_assoc, ← HX.out]
              exact (by simpa only [optB, List.append_assoc] using HB)
            case measure => simp [intOf]; omega
        · obtain rfl : k = m.length := by omega
          have hfl1 := flat_len optB 304 m HM_m.out
          rw [List.take_length] at HB
          go_wp2_with (first | (go_at_call 139; refine (begin_any _ _ _ _ HB.out (by simp)).mono ?_; rintro e w1 ⟨v1, rfl, hn⟩; clear hk; have hk := hn.cellb hb; replace HB := Lib.hid hn; clear hn) | (go_at_call 140; refine (appendU16 _ _ _ _ (by omega) (by omega) HB.out (by simp only [List.length_append, List.length_cons, List.length_nil, sby_length, b16_len, b32_len]; omega)).mono ?_; rintro e w1 ⟨v1, rfl, hn⟩; clear hk; have hk := hn.cellb hb; replace HB := Lib.hid hn; clear hn) | (go_at_call 145; refine (appendU32 _ _ _ _ (by omega) (by omega) HB.out (by simp only [List.length_append, List.length_cons, List.length_nil, sby_length, b16_len, b32_len]; omega)).mono ?_; rintro e w1 ⟨v1, rfl, hn⟩; clear hk; have hk := hn.cellb hb; replace HB := Lib.hid hn; clear hn) | (at_builtin; refine ap_str (st := s) rfl _ _ 26 rfl Tryz.underlying26 rfl rfl HB.out (by simp only [List.length_append, List.length_cons, List.length_nil, sby_length, b16_len, b32_len]; omega) ?_; intro v2 w2 hn; clear hk; have hk := hn.cellb hb; replace HB := Lib.hid hn; clear hn) | (at_builtin; refine ap_str (st := s2) rfl _ _ 26 rfl Tryz.underlying26 rfl rfl HB.out (by simp only [List.length_append, List.length_cons, List.length_nil, sby_length, b16_len, b32_len]; omega) ?_; intro v2 w2 hn; clear hk; have hk := hn.cellb hb; replace HB := Lib.hid hn; clear hn) | (at_builtin; refine ap_lit1 rfl _ _ 26 26 rfl Tryz.underlying26 Tryz.underlying26 rfl rfl HB.out (by simp only [List.length_append, List.length_cons, List.length_nil, sby_length, b16_len, b32_len]; omega) ?_; intro v3 w3 hn; clear hk; have hk := hn.cellb hb; replace HB := Lib.hid hn; clear hn))
          obtain ⟨PRE2, HB', HP2⟩ : ∃ P, Hid (Buf (Lt w.heap.size) w _ _ P) ∧ Hid (P = _) := ⟨_, HB, Lib.hid rfl⟩
          clear HB
          have hpl2 : PRE2.length ≤ 83000 := by rw [HP2.out]; simp only [List.length_append, List.length_cons, List.length_nil, sby_length, b16_len, b32_len]; omega
          go_loopw [1, 121] (fun v i wr => ∃ k : Nat, k ≤ n.length ∧ i = .int .i64 k ∧ Hid (Buf (Lt w.heap.size) w wr v (PRE2 ++ (n.take k).flatMap b16))) (fun _ i _ => n.length - (intOf i).toNat)
          case atStart => exact ⟨0, Nat.zero_le _, rfl, by simpa using HB'⟩
          case round =>
            clear HB'
            obtain ⟨k, hk1, rfl, HB⟩ := hrel
            clear hk
            have hk := HB.out.cellb hb
            by_cases hlt : k < n.length
            · have hfl := flat_take_len b16 2 k n HM_n.out
              obtain ⟨b1, o1, rfl, hcell⟩ := (HR_n.out.ext HB.out.bel).at_ hlt
              rw [getD_at hlt] at hcell
              obtain ⟨x, hx⟩ : ∃ x, x = n[k] := ⟨_, rfl⟩
              rw [← hx] at hcell
              have HX := Lib.hid hx
              clear hx
              go_wp2_with (go_at_call 141; refine (appendI16 _ _ _ _ HB.out (by simp only [List.length_append, List.length_cons, List.length_nil, sby_length, b16_len, b32_len]; omega)).mono ?_; rintro e w1 ⟨v1, rfl, hn⟩; replace HB := Lib.hid hn; clear hn)
              go_roundw
              case rel =>
                refine ⟨k + 1, by omega, by go_num, ?_⟩
                rw [take_flat b16 n k hlt, ← List.append_assoc, ← HX.out]
                exact HB
              case measure => simp [intOf]; omega
            · obtain rfl : k = n.length := by omega
              have hfl2 := flat_len b16 2 n HM_n.out
              rw [List.take_length] at HB
              go_wp2_with (first | (go_at_call 143; refine (finish1 _ 66 _ (txt s ++ txt s2 ++ b16 l.length ++ l.flatMap b16 ++ b16 m.length ++ m.flatMap optB ++ b16 n.length ++ n.flatMap b16) _ HB.out (by rw [HP2.out, HP1.out, HP0.out]; simp only [txt, List.append_assoc, List.cons_append, List.nil_append]) (by first | omega | (simp only [txt, List.length_append, List.length_cons, List.length_nil, sby_length, b16_len, b32_len]; omega))).mono ?_; rintro e w1 ⟨v1, rfl, hn⟩; clear HB; have HB := Lib.hid hn; clear hn) | (go_at_call 139; refine (begin_any _ _ _ _ HB.out (by simp)).mono ?_; rintro e w1 ⟨v1, rfl, hn⟩; clear hk; have hk := hn.cellb hb; replace HB := Lib.hid hn; clear hn) | (go_at_call 140; refine (appendU16 _ _ _ _ (by omega) (by omega) HB.out (by simp only [List.length_append, List.length_cons, List.length_nil, sby_length, b16_len, b32_len]; omega)).mono ?_; rintro e w1 ⟨v1, rfl, hn⟩; clear hk; have hk := hn.cellb hb; replace HB := Lib.hid hn; clear hn) | (go_at_call 145; refine (appendU32 _ _ _ _ (by omega) (by omega) HB.out (by simp only [List.length_append, List.length_cons, List.length_nil, sby_length, b16_len, b32_len]; omega)).mono ?_; rintro e w1 ⟨v1, rfl, hn⟩; clear hk; have hk := hn.cellb hb; replace HB := Lib.hid hn; clear hn) | (at_builtin; refine ap_str (st := s) rfl _ _ 26 rfl Tryz.underlying26 rfl rfl HB.out (by simp only [List.length_append, List.length_cons, List.length_nil, sby_length, b16_len, b32_len]; omega) ?_; intro v2 w2 hn; clear hk; have hk := hn.cellb hb; replace HB := Lib.hid hn; clear hn) | (at_builtin; refine ap_str (st := s2) rfl _ _ 26 rfl Tryz.underlying26 rfl rfl HB.out (by simp only [List.length_append, List.length_cons, List.length_nil, sby_length, b16_len, b32_len]; omega) ?_; intro v2 w2 hn; clear hk; have hk := hn.cellb hb; replace HB := Lib.hid hn; clear hn) | (at_builtin; refine ap_lit1 rfl _ _ 26 26 rfl Tryz.underlying26 Tryz.underlying26 rfl rfl HB.out (by simp only [List.length_append, List.length_cons, List.length_nil, sby_length, b16_len, b32_len]; omega) ?_; intro v3 w3 hn; clear hk; have hk := hn.cellb hb; replace HB := Lib.hid hn; clear hn))
              go_ret2
              exact gives_of HB.out HR.out

end Go.Proofs.YtdenjanihikolaaGreatDoor

namespace Go.Proofs.YtdenjanihikolaaGreatDoor
open Go.RowKit
set_option linter.unusedVariables false
set_option linter.unusedSimpArgs false

set_option maxRecDepth 100000 in
set_option maxHeartbeats 1000000 in
theorem encFunctionCall (b : Nat) (f : Int) (A_l : Option Addr) (c_l : Nat) (l : List Int) (A_m : Option Addr) (c_m : Nat) (m : List (Option (List Int))) (r : Int) (w : World) (hc0 : w.cell? ⟨b, 0, none⟩ = some (.int .u32 f)) (hc1 : w.cell? ⟨b, 1, none⟩ = some (.slice A_l l.length c_l)) (hc2 : w.cell? ⟨b, 2, none⟩ = some (.slice A_m m.length c_m)) (hc3 : w.cell? ⟨b, 3, none⟩ = some (.int .u16 r)) (h0_f : 0 ≤ f) (h1_f : f < 4294967296) (hr_l : RdI .u16 w (.slice A_l l.length c_l) l) (hl_l : l.length ≤ 100) (hg_l : ∀ y ∈ l, 0 ≤ y ∧ y < 65536) (hr_m : Rd1 isOpt w (.slice A_m m.length c_m) m) (hl_m : m.length ≤ 100) (hg_m : ∀ y ∈ m, ∀ d, y = some d → d.length ≤ 300) (h0_r : 0 ≤ r) (h1_r : r < 65536) (R : List Int) (HR : Hid (R = msgB 70 (b32 f ++ b16 l.length ++ l.flatMap b16 ++ b16 m.length ++ m.flatMap optB ++ b16 r))) :
    Calls Tryz.prog 170 #[.pointer (some ⟨b, 0, none⟩), .slice none 0 0] w (Gives w R) := by
  have hb : b < w.heap.size := lt_of_cell hc0
  have hk : True := trivial
  have HR_l := Lib.hid hr_l
  clear hr_l
  have HG_l := Lib.hid hg_l
  clear hg_l
  have hm_l : ∀ y ∈ l, (b16 y).length ≤ 2 := fun _ _ => Nat.le_refl _
  have HM_l := Lib.hid hm_l
  clear hm_l
  have HR_m := Lib.hid hr_m
  clear hr_m
  have HG_m := Lib.hid hg_m
  clear hg_m
  have hm_m : ∀ y ∈ m, (optB y).length ≤ 304 := fun y hy => by cases y with | none => simp [optB, b32_len] | some d => have := HG_m.out _ hy d rfl; simp only [optB, List.length_append, b32_len]; omega
  have HM_m := Lib.hid hm_m
  clear hm_m
  have HB := Lib.hid (Buf.nil w)
  go_enter Tryz.func170, Tryz.ntmps170
  go_wp2_with (first | (go_at_call 139; refine (begin_any _ _ _ _ HB.out (by simp)).mono ?_; rintro e w1 ⟨v1, rfl, hn⟩; clear hk; have hk := hn.cellb hb; replace HB := Lib.hid hn; clear hn) | (go_at_call 140; refine (appendU16 _ _ _ _ (by omega) (by omega) HB.out (by simp only [List.length_append, List.length_cons, List.length_nil, sby_length, b16_len, b32_len]; omega)).mono ?_; rintro e w1 ⟨v1, rfl, hn⟩; clear hk; have hk := hn.cellb hb; replace HB := Lib.hid hn; clear hn) | (go_at_call 145; refine (appendU32 _ _ _ _ (by omega) (by omega) HB.out (by simp only [List.length_append, List.length_cons, List.length_nil, sby_length, b16_len, b32_len]; omega)).mono ?_; rintro e w1 ⟨v1, rfl, hn⟩; clear hk; have hk := hn.cellb hb; replace HB := Lib.hid hn; clear hn) | (at_builtin; refine ap_lit1 rfl _ _ 26 26 rfl Tryz.underlying26 Tryz.underlying26 rfl rfl HB.out (by simp only [List.length_append, List.length_cons, List.length_nil, sby_length, b16_len, b32_len]; omega) ?_; intro v3 w3 hn; clear hk; have hk := hn.cellb hb; replace HB := Lib.hid hn; clear hn))
  obtain ⟨PRE0, HB', HP0⟩ : ∃ P, Hid (Buf (Lt w.heap.size) w _ _ P) ∧ Hid (P = _) := ⟨_, HB, Lib.hid rfl⟩
  clear HB
  have hpl0 : PRE0.length ≤ 3000 := by rw [HP0.out]; simp only [List.length_append, List.length_cons, List.length_nil, sby_length, b16_len, b32_len]; omega
  go_loopw [1, 42] (fun v i wr => ∃ k : Nat, k ≤ l.length ∧ i = .int .i64 k ∧ Hid (Buf (Lt w.heap.size) w wr v (PRE0 ++ (l.take k).flatMap b16))) (fun _ i _ => l.length - (intOf i).toNat)
  case atStart => exact ⟨0, Nat.zero_le _, rfl, by simpa using HB'⟩
  case round =>
    clear HB'
    obtain ⟨k, hk1, rfl, HB⟩ := hrel
    clear hk
    have hk := HB.out.cellb hb
    by_cases hlt : k < l.length
    · have hfl := flat_take_len b16 2 k l HM_l.out
      obtain ⟨b1, o1, rfl, hcell⟩ := (HR_l.out.ext HB.out.bel).at_ hlt
      rw [getD_at hlt] at hcell
      have h1 := HG_l.out _ (List.getElem_mem hlt)
      obtain ⟨x, hx⟩ : ∃ x, x = l[k] := ⟨_, rfl⟩
      rw [← hx] at hcell h1
      have HX := Lib.hid hx
      clear hx
      go_wp2_with (go_at_call 140; refine (appendU16 _ _ _ _ (by omega) (by omega) HB.out (by simp only [List.length_append, List.length_cons, List.length_nil, sby_length, b16_len, b32_len]; omega)).mono ?_; rintro e w1 ⟨v1, rfl, hn⟩; replace HB := Lib.hid hn; clear hn)
      go_roundw
      case rel =>
        refine ⟨k + 1, by omega, by go_num, ?_⟩
        rw [take_flat b16 l k hlt, ← List.append_assoc, ← HX.out]
        exact HB
      case measure => simp [intOf]; omega
    · obtain rfl : k = l.length := by omega
      have hfl0 := flat_len b16 2 l HM_l.out
      rw [List.take_length] at HB
      go_wp2_with (first | (go_at_call 139; refine (begin_any _ _ _ _ HB.out (by simp)).mono ?_; rintro e w1 ⟨v1, rfl, hn⟩; clear hk; have hk := hn.cellb hb; replace HB := Lib.hid hn; clear hn) | (go_at_call 140; refine (appendU16 _ _ _ _ (by omega) (by omega) HB.out (by simp only [List.length_append, List.length_cons, List.length_nil, sby_length, b16_len, b32_len]; omega)).mono ?_; rintro e w1 ⟨v1, rfl, hn⟩; clear hk; have hk := hn.cellb hb; replace HB := Lib.hid hn; clear hn) | (go_at_call 145; refine (appendU32 _ _ _ _ (by omega) (by omega) HB.out (by simp only [List.length_append, List.length_cons, List.length_nil, sby_length, b16_len, b32_len]; omega)).mono ?_; rintro e w1 ⟨v1, rfl, hn⟩; clear hk; have hk := hn.cellb hb; replace HB := Lib.hid hn; clear hn) | (at_builtin; refine ap_lit1 rfl _ _ 26 26 rfl Tryz.underlying26 Tryz.underlying26 rfl rfl HB.out (by simp only [List.length_append, List.length_cons, List.length_nil, sby_length, b16_len, b32_len]; omega) ?_; intro v3 w3 hn; clear hk; have hk := hn.cellb hb; replace HB := Lib.hid hn; clear hn))
      obtain ⟨PRE1, HB', HP1⟩ : ∃ P, Hid (Buf (Lt w.heap.size) w _ _ P) ∧ Hid (P = _) := ⟨_, HB, Lib.hid rfl⟩
      clear HB
      have hpl1 : PRE1.length ≤ 43000 := by rw [HP1.out]; simp only [List.length_append, List.length_cons, List.length_nil, sby_length, b16_len, b32_len]; omega
      go_loopw [1, 70] (fun v i wr => ∃ k : Nat, k ≤ m.length ∧ i = .int .i64 k ∧ Hid (Buf (Lt w.heap.size) w wr v (PRE1 ++ (m.take k).flatMap optB))) (fun _ i _ => m.length - (intOf i).toNat)
      case atStart => exact ⟨0, Nat.zero_le _, rfl, by simpa using HB'⟩
      case round =>
        clear HB'
        obtain ⟨k, hk1, rfl, HB⟩ := hrel
        clear hk
        have hk := HB.out.cellb hb
        by_cases hlt : k < m.length
        · have hfl := flat_take_len optB 304 k m HM_m.out
          obtain ⟨b1, o1, u, rfl, hcell0, hu⟩ := HR_m.out.at_ hlt
          have hcell := Ext.cell HB.out.bel hcell0
          clear hcell0
          have h1 := HG_m.out _ (List.getElem_mem hlt)
          obtain ⟨x, hx⟩ : ∃ x, x = m[k] := ⟨_, rfl⟩
          rw [← hx] at hu h1
          have HX := Lib.hid hx
          clear hx
          cases x with
          | none =>
            clear h1
            have hu' : u = .slice none 0 0 := hu
            subst hu'
            have hq := fun wx => Lib.run_eql_slice_nil (P := Tryz.prog) wx 26 5 none 0 0 0 0 Tryz.underlying26
            go_wp2_with (go_at_call 142; refine (appendI32 _ _ _ _ HB.out (by simp only [List.length_append, List.length_cons, List.length_nil, sby_length, b16_len, b32_len]; omega)).mono ?_; rintro e w1 ⟨v1, rfl, hn⟩; replace HB := Lib.hid hn; clear hn)
            go_roundw
            case rel =>
              refine ⟨k + 1, by omega, by go_num, ?_⟩
              rw [take_flat optB m k hlt, ← List.append_assoc, ← HX.out]
              exact HB
            case measure => simp [intOf]; omega
          | some d =>
            have h2 := h1 d rfl
            clear h1
            obtain ⟨a1, c1, hu', hd⟩ := hu
            subst hu'
            have HD := Lib.hid hd
            clear hd
            have hq := fun wx => Lib.run_eql_slice_nil (P := Tryz.prog) wx 26 5 (some a1) d.length c1 0 0 Tryz.underlying26
            go_wp2_with (first | (go_at_call 142; refine (appendI32 _ _ _ _ HB.out (by simp only [List.length_append, List.length_cons, List.length_nil, sby_length, b16_len, b32_len]; omega)).mono ?_; rintro e w1 ⟨v1, rfl, hn⟩; replace HB := Lib.hid hn; clear hn) | (at_builtin; refine ap_row (ys := d) rfl _ _ 26 26 rfl Tryz.underlying26 Tryz.underlying26 rfl HB.out rfl (HD.out.ext HB.out.bel) (by simp only [List.length_append, List.length_cons, List.length_nil, sby_length, b16_len, b32_len]; omega) ?_; intro v4 w4 hn; replace HB := Lib.hid hn; clear hn))
            go_roundw
            case rel =>
              refine ⟨k + 1, by omega, by go_num, ?_⟩
              rw [take_flat optB m k hlt, ← List.append_assoc, ← HX.out]
              exact (by simpa only [optB, List.append_assoc] using HB)
            case measure => simp [intOf]; omega
        · obtain rfl : k = m.length := by omega
          have hfl1 := flat_len optB 304 m HM_m.out
          rw [List.take_length] at HB
          go_wp2_with (first | (go_at_call 143; refine (finish1 _ 70 _ (b32 f ++ b16 l.length ++ l.flatMap b16 ++ b16 m.length ++ m.flatMap optB ++ b16 r) _ HB.out (by rw [HP1.out, HP0.out]; simp only [txt, List.append_assoc, List.cons_append, List.nil_append]) (by first | omega | (simp only [txt, List.length_append, List.length_cons, List.length_nil, sby_length, b16_len, b32_len]; omega))).mono ?_; rintro e w1 ⟨v1, rfl, hn⟩; clear HB; have HB := Lib.hid hn; clear hn) | (go_at_call 139; refine (begin_any _ _ _ _ HB.out (by simp)).mono ?_; rintro e w1 ⟨v1, rfl, hn⟩; clear hk; have hk := hn.cellb hb; replace HB := Lib.hid hn; clear hn) | (go_at_call 140; refine (appendU16 _ _ _ _ (by omega) (by omega) HB.out (by simp only [List.length_append, List.length_cons, List.length_nil, sby_length, b16_len, b32_len]; omega)).mono ?_; rintro e w1 ⟨v1, rfl, hn⟩; clear hk; have hk := hn.cellb hb; replace HB := Lib.hid hn; clear hn) | (go_at_call 145; refine (appendU32 _ _ _ _ (by omega) (by omega) HB.out (by simp only [List.length_append, List.length_cons, List.length_nil, sby_length, b16_len, b32_len]; omega)).mono ?_; rintro e w1 ⟨v1, rfl, hn⟩; clear hk; have hk := hn.cellb hb; replace HB := Lib.hid hn; clear hn) | (at_builtin; refine ap_lit1 rfl _ _ 26 26 rfl Tryz.underlying26 Tryz.underlying26 rfl rfl HB.out (by simp only [List.length_append, List.length_cons, List.length_nil, sby_length, b16_len, b32_len]; omega) ?_; intro v3 w3 hn; clear hk; have hk := hn.cellb hb; replace HB := Lib.hid hn; clear hn))
          go_ret2
          exact gives_of HB.out HR.out

end Go.Proofs.YtdenjanihikolaaGreatDoor

namespace Go.Proofs.YtdenjanihikolaaGreatDoor
open Go.RowKit
set_option linter.unusedVariables false
set_option linter.unusedSimpArgs false

set_option maxRecDepth 100000 in
theorem encFuncResNil (b : Nat) (w : World) (hc0 : w.cell? ⟨b, 0, none⟩ = some (.slice none 0 0)) (R : List Int) (HR : Hid (R = msgB 86 (b32 (-1)))) :
    Calls Tryz.prog 318 #[.pointer (some ⟨b, 0, none⟩), .slice none 0 0] w (Gives w R) := by
  have hb : b < w.heap.size := lt_of_cell hc0
  have hk : True := trivial
  have HB := Lib.hid (Buf.nil w)
  have hq := fun wx => Lib.run_eql_slice_nil (P := Tryz.prog) wx 26 5 none 0 0 0 0 Tryz.underlying26
  go_enter Tryz.func318, Tryz.ntmps318
  go_wp2_with (first | (go_at_call 139; refine (begin_any _ _ _ _ HB.out (by simp)).mono ?_; rintro e w1 ⟨v1, rfl, hn⟩; clear hk; have hk := hn.cellb hb; replace HB := Lib.hid hn; clear hn) | (go_at_call 142; refine (appendI32 _ _ _ _ HB.out (by simp only [List.length_append, List.length_cons, List.length_nil, sby_length, b16_len, b32_len]; omega)).mono ?_; rintro e w1 ⟨v1, rfl, hn⟩; clear hk; have hk := hn.cellb hb; replace HB := Lib.hid hn; clear hn) | (go_at_call 143; refine (finish1 _ 86 _ (b32 (-1)) _ HB.out (by simp only [List.append_assoc, List.cons_append, List.nil_append]) (by rw [b32_len]; omega)).mono ?_; rintro e w1 ⟨v1, rfl, hn⟩; clear HB; have HB := Lib.hid hn; clear hn))
  go_ret2
  exact gives_of HB.out HR.out

set_option maxRecDepth 100000 in
theorem encFuncRes (b : Nat) (a : Addr) (c : Nat) (d : List Int) (w : World) (hc0 : w.cell? ⟨b, 0, none⟩ = some (.slice (some a) d.length c)) (hd : RdB w (.slice (some a) d.length c) d) (hl : d.length ≤ 1000) (R : List Int) (HR : Hid (R = msgB 86 (b32 d.length ++ d))) :
    Calls Tryz.prog 318 #[.pointer (some ⟨b, 0, none⟩), .slice none 0 0] w (Gives w R) := by
  have hb : b < w.heap.size := lt_of_cell hc0
  have hk : True := trivial
  have HD := Lib.hid hd
  clear hd
  have HB := Lib.hid (Buf.nil w)
  have hq := fun wx => Lib.run_eql_slice_nil (P := Tryz.prog) wx 26 5 (some a) d.length c 0 0 Tryz.underlying26
  go_enter Tryz.func318, Tryz.ntmps318
  go_wp2_with (first | (go_at_call 139; refine (begin_any _ _ _ _ HB.out (by simp)).mono ?_; rintro e w1 ⟨v1, rfl, hn⟩; clear hk; have hk := hn.cellb hb; replace HB := Lib.hid hn; clear hn) | (go_at_call 142; refine (appendI32 _ _ _ _ HB.out (by simp only [List.length_append, List.length_cons, List.length_nil, sby_length, b16_len, b32_len]; omega)).mono ?_; rintro e w1 ⟨v1, rfl, hn⟩; clear hk; have hk := hn.cellb hb; replace HB := Lib.hid hn; clear hn) | (at_builtin; refine ap_row (ys := d) rfl _ _ 26 26 rfl Tryz.underlying26 Tryz.underlying26 rfl HB.out rfl (HD.out.ext HB.out.bel) (by simp only [List.length_append, List.length_cons, List.length_nil, sby_length, b16_len, b32_len]; omega) ?_; intro v4 w4 hn; clear hk; have hk := hn.cellb hb; replace HB := Lib.hid hn; clear hn) | (go_at_call 143; refine (finish1 _ 86 _ (b32 d.length ++ d) _ HB.out (by simp only [List.append_assoc, List.cons_append, List.nil_append]) (by simp only [List.length_append, b32_len]; omega)).mono ?_; rintro e w1 ⟨v1, rfl, hn⟩; clear HB; have HB := Lib.hid hn; clear hn))
  go_ret2
  exact gives_of HB.out HR.out

set_option maxRecDepth 100000 in
set_option maxHeartbeats 1000000 in
theorem encRowDescription (b : Nat) (A_l : Option Addr) (c_l : Nat) (l : List Fd) (w : World) (hc0 : w.cell? ⟨b, 0, none⟩ = some (.slice A_l l.length c_l)) (hr_l : RdM 7 isFd w (.slice A_l l.length c_l) l) (hl_l : l.length ≤ 100)
    (hg_l : ∀ y ∈ l, y.name.length ≤ 300 ∧ (0 ≤ y.tab ∧ y.tab < 4294967296) ∧ (0 ≤ y.col ∧ y.col < 65536) ∧ (0 ≤ y.typ ∧ y.typ < 4294967296)) (R : List Int) (HR : Hid (R = msgB 84 (b16 l.length ++ l.flatMap fdB))) :
    Calls Tryz.prog 333 #[.pointer (some ⟨b, 0, none⟩), .slice none 0 0] w (Gives w R) := by
  have hb : b < w.heap.size := lt_of_cell hc0
  have hk : True := trivial
  have HR_l := Lib.hid hr_l
  clear hr_l
  have HG_l := Lib.hid hg_l
  clear hg_l
  have hm_l : ∀ y ∈ l, (fdB y).length ≤ 321 := fun y hy => by have := (HG_l.out _ hy).1; simp only [fdB, List.length_append, List.length_cons, List.length_nil, b32_len, b16_len]; omega
  have HM_l := Lib.hid hm_l
  clear hm_l
  have HB := Lib.hid (Buf.nil w)
  go_enter Tryz.func333, Tryz.ntmps333
  go_wp2_with (first | (go_at_call 139; refine (begin_any _ _ _ _ HB.out (by simp)).mono ?_; rintro e w1 ⟨v1, rfl, hn⟩; clear hk; have hk := hn.cellb hb; replace HB := Lib.hid hn; clear hn) | (go_at_call 140; refine (appendU16 _ _ _ _ (by omega) (by omega) HB.out (by simp only [List.length_append, List.length_cons, List.length_nil, sby_length, b16_len, b32_len]; omega)).mono ?_; rintro e w1 ⟨v1, rfl, hn⟩; clear hk; have hk := hn.cellb hb; replace HB := Lib.hid hn; clear hn))
  obtain ⟨PRE0, HB', HP0⟩ : ∃ P, Hid (Buf (Lt w.heap.size) w _ _ P) ∧ Hid (P = _) := ⟨_, HB, Lib.hid rfl⟩
  clear HB
  have hpl0 : PRE0.length ≤ 3000 := by rw [HP0.out]; simp only [List.length_append, List.length_cons, List.length_nil, sby_length, b16_len, b32_len]; omega
  go_loopw [1, 34] (fun v i wr => ∃ k : Nat, k ≤ l.length ∧ i = .int .i64 k ∧ Hid (Buf (Lt w.heap.size) w wr v (PRE0 ++ (l.take k).flatMap fdB))) (fun _ i _ => l.length - (intOf i).toNat)
  case atStart => exact ⟨0, Nat.zero_le _, rfl, by simpa using HB'⟩
  case round =>
    clear HB'
    obtain ⟨k, hk1, rfl, HB⟩ := hrel
    clear hk
    by_cases hlt : k < l.length
    · have hfl := flat_take_len fdB 321 k l HM_l.out
      obtain ⟨b1, o1, f, rfl, hcell0, hu⟩ := HR_l.out.at_ hlt
      obtain ⟨h1, h2, h3, h4⟩ := HG_l.out _ (List.getElem_mem hlt)
      obtain ⟨x, hx⟩ : ∃ x, x = l[k] := ⟨_, rfl⟩
      rw [← hx] at hu h1 h2 h3 h4
      have HX := Lib.hid hx
      clear hx
      obtain ⟨⟨An, cn, f0, hd⟩, f1, f2, f3, f4, f5, f6⟩ := hu
      have HD := Lib.hid hd
      clear hd
      have e0 := Ext.cell HB.out.bel (hcell0 0 (by omega))
      have e1 := Ext.cell HB.out.bel (hcell0 1 (by omega))
      have e2 := Ext.cell HB.out.bel (hcell0 2 (by omega))
      have e3 := Ext.cell HB.out.bel (hcell0 3 (by omega))
      have e4 := Ext.cell HB.out.bel (hcell0 4 (by omega))
      have e5 := Ext.cell HB.out.bel (hcell0 5 (by omega))
      have e6 := Ext.cell HB.out.bel (hcell0 6 (by omega))
      rw [f0, Nat.add_zero] at e0
      rw [f1] at e1
      rw [f2] at e2
      rw [f3] at e3
      rw [f4] at e4
      rw [f5] at e5
      rw [f6] at e6
      clear hcell0 f0 f1 f2 f3 f4 f5 f6
      have HF := Lib.hid (fun o => Buf.box HB.out o)
      have hcs : True := trivial
      go_wp2_with (first | (at_builtin; refine ap_row (ys := x.name) rfl _ _ 26 26 rfl Tryz.underlying26 Tryz.underlying26 rfl (HF.out _) rfl (HD.out.ext ((HB.out.unbox (HF.out _)).bel)) (by simp only [List.length_append]; omega) ?_; clear e0 e1 e2 e3 e4 e5 e6; intro v4 w4 hn; clear hcs; have hcs := hn.boxed; have HN := Lib.hid hn; clear hn) | (at_builtin; refine ap_lit1 rfl _ _ 26 26 rfl Tryz.underlying26 Tryz.underlying26 rfl rfl HN.out (by simp only [List.length_append]; omega) ?_; intro v3 w3 hn; clear hcs; have hcs := hn.boxed; replace HN := Lib.hid hn; clear hn) | (go_at_call 145; refine (appendU32 _ _ _ _ (by omega) (by omega) HN.out (by simp only [List.length_append, List.length_cons, List.length_nil, b16_len, b32_len]; omega)).mono ?_; rintro e w1 ⟨v1, rfl, hn⟩; clear hcs; have hcs := hn.boxed; replace HN := Lib.hid hn; clear hn) | (go_at_call 140; refine (appendU16 _ _ _ _ (by omega) (by omega) HN.out (by simp only [List.length_append, List.length_cons, List.length_nil, b16_len, b32_len]; omega)).mono ?_; rintro e w1 ⟨v1, rfl, hn⟩; clear hcs; have hcs := hn.boxed; replace HN := Lib.hid hn; clear hn) | (go_at_call 141; refine (appendI16 _ _ _ _ HN.out (by simp only [List.length_append, List.length_cons, List.length_nil, b16_len, b32_len]; omega)).mono ?_; rintro e w1 ⟨v1, rfl, hn⟩; clear hcs; have hcs := hn.boxed; replace HN := Lib.hid hn; clear hn) | (go_at_call 142; refine (appendI32 _ _ _ _ HN.out (by simp only [List.length_append, List.length_cons, List.length_nil, b16_len, b32_len]; omega)).mono ?_; rintro e w1 ⟨v1, rfl, hn⟩; clear hcs; have hcs := hn.boxed; replace HN := Lib.hid hn; clear hn))
      go_roundw
      case rel =>
        refine ⟨k + 1, by omega, by go_num, ?_⟩
        rw [take_flat fdB l k hlt, ← List.append_assoc, ← HX.out]
        have hz := HB.out.unbox HN.out
        exact Lib.hid (by simpa only [fdB, List.append_assoc] using hz)
      case measure => simp [intOf]; omega
    · have hk := HB.out.cellb hb
      obtain rfl : k = l.length := by omega
      have hfl0 := flat_len fdB 321 l HM_l.out
      rw [List.take_length] at HB
      go_wp2_with (go_at_call 143; refine (finish1 _ 84 _ (b16 l.length ++ l.flatMap fdB) _ HB.out (by rw [HP0.out]; simp only [txt, List.append_assoc, List.cons_append, List.nil_append]) (by first | omega | (simp only [txt, List.length_append, List.length_cons, List.length_nil, sby_length, b16_len, b32_len]; omega))).mono ?_; rintro e w1 ⟨v1, rfl, hn⟩; clear HB; have HB := Lib.hid hn; clear hn)
      go_ret2
      exact gives_of HB.out HR.out

end Go.Proofs.YtdenjanihikolaaGreatDoor

