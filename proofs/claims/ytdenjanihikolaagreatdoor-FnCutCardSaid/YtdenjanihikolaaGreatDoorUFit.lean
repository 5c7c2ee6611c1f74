/- The measure of the argument, by contract. -/
import Derived.Test.YtdenjanihikolaaGreatDoorUBdz
namespace Go.Proofs.YtdenjanihikolaaGreatDoor
open Go.RowKit
set_option linter.unusedVariables false
set_option linter.unusedSimpArgs false

/-- A yes or no that says something if it is yes. -/
def Said (w : World) (P : Prop) : Ending → World → Prop := fun e w' => ∃ x : Bool, e = .returned (.bool x) ∧ (x = true → P) ∧ Ext w w'

theorem all_take {α : Type} {P : α → Prop} (l : List α) (k : Nat) (h : k < l.length) (h1 : ∀ y ∈ l.take k, P y) (h2 : P l[k]) : ∀ y ∈ l.take (k + 1), P y := by
  intro y hy
  rw [List.take_succ_eq_append_getElem h, List.mem_append] at hy
  rcases hy with hy | hy
  · exact h1 y hy
  · rw [List.mem_singleton] at hy
    rw [hy]; exact h2

theorem fit3 (nul : Bool) (A : Option Addr) (n c : Nat) (w : World) : Calls Tryz.prog 49 #[.agg #[.bool nul, .slice A n c]] w (Said w (n ≤ 2147483647)) := by
  go_enter Tryz.func49, Tryz.ntmps49
  go_wp2
  all_goals (go_ret; refine ⟨_, rfl, ?_, ext_alloc _ _⟩; first | (intro h; cases h; done) | (intro _; omega))
theorem fit6 (a b : ByteArray) (w : World) : Calls Tryz.prog 50 #[.agg #[.string a, .string b]] w (Said w (a.size ≤ 2147483647 ∧ b.size ≤ 2147483647)) := by
  go_enter Tryz.func50, Tryz.ntmps50
  go_wp2
  all_goals (go_ret; refine ⟨_, rfl, ?_, ext_alloc _ _⟩; first | (intro h; cases h; done) | (intro _; omega))
theorem fit8 (a : ByteArray) (v1 v2 v3 v4 v5 v6 : Value) (w : World) : Calls Tryz.prog 51 #[.agg #[.string a, v1, v2, v3, v4, v5, v6]] w (Said w (a.size ≤ 2147483647)) := by
  go_enter Tryz.func51, Tryz.ntmps51
  go_wp2
  all_goals (go_ret; refine ⟨_, rfl, ?_, ext_alloc _ _⟩; first | (intro h; cases h; done) | (intro _; omega))

set_option maxRecDepth 100000 in
set_option maxHeartbeats 400000 in
theorem fit4 (l : List ByteArray) (A_l : Option Addr) (c_l : Nat) (w : World) (hr : Rd1 isStr w (.slice A_l l.length c_l) l) : Calls Tryz.prog 23 #[.slice A_l l.length c_l] w (Said w (l.length ≤ 2147483647 ∧ ∀ y ∈ l, y.size ≤ 2147483647)) := by
  have HR := Lib.hid hr
  clear hr
  by_cases hbig : l.length ≤ 2147483647
  · go_enter Tryz.func23, Tryz.ntmps23
    go_wp2
    go_loopw [10] (fun i wr => ∃ k : Nat, k ≤ l.length ∧ i = .int .i64 k ∧ Hid (Ext w wr) ∧ Hid (∀ y ∈ l.take k, y.size ≤ 2147483647)) (fun i _ => l.length - (intOf i).toNat)
    case atStart => exact ⟨0, Nat.zero_le _, rfl, Lib.hid (Ext.refl _), Lib.hid (by simp)⟩
    case round =>
      obtain ⟨k, hk1, rfl, HE, HY⟩ := hrel
      by_cases hlt : k < l.length
      · obtain ⟨b1, o1, u, rfl, hcell, hu⟩ := HR.out.at_ hlt
        replace hcell := HE.out.cell hcell
        obtain ⟨x, hx⟩ : ∃ x, x = l[k] := ⟨_, rfl⟩
        rw [← hx] at hu
        rw [show u = .string x from hu] at hcell
        have HX := Lib.hid hx
        clear hx hu
        go_wp2
        · go_ret
          exact ⟨_, rfl, fun h => by (cases h; done), HE.out⟩
        · go_roundw
          case rel =>
            refine ⟨k + 1, by omega, by go_num, HE, Lib.hid (all_take l k hlt HY.out ?_)⟩
            rw [← HX.out]
            omega
          case measure => simp [intOf]; omega
      · obtain rfl : k = l.length := by omega
        go_wp2
        go_ret
        exact ⟨_, rfl, fun _ => ⟨hbig, by have := HY.out; rwa [List.take_length] at this⟩, HE.out⟩
  · go_enter Tryz.func23, Tryz.ntmps23
    go_wp2
    go_ret
    exact ⟨_, rfl, fun h => by (cases h; done), Ext.refl _⟩

set_option maxRecDepth 100000 in
set_option maxHeartbeats 400000 in
theorem fit2 (l : List (Bool × List Int)) (A_l : Option Addr) (c_l : Nat) (w : World) (hr : RdM 2 isVal w (.slice A_l l.length c_l) l) : Calls Tryz.prog 22 #[.slice A_l l.length c_l] w (Said w (l.length ≤ 2147483647 ∧ ∀ y ∈ l, y.2.length ≤ 2147483647)) := by
  have HR := Lib.hid hr
  clear hr
  by_cases hbig : l.length ≤ 2147483647
  · go_enter Tryz.func22, Tryz.ntmps22
    go_wp2
    go_loopw [10] (fun i wr => ∃ k : Nat, k ≤ l.length ∧ i = .int .i64 k ∧ Hid (Ext w wr) ∧ Hid (∀ y ∈ l.take k, y.2.length ≤ 2147483647)) (fun i _ => l.length - (intOf i).toNat)
    case atStart => exact ⟨0, Nat.zero_le _, rfl, Lib.hid (Ext.refl _), Lib.hid (by simp)⟩
    case round =>
      obtain ⟨k, hk1, rfl, HE, HY⟩ := hrel
      by_cases hlt : k < l.length
      · obtain ⟨b1, o1, f, rfl, hcell, hv⟩ := HR.out.at_ hlt
        obtain ⟨x, hx⟩ : ∃ x, x = l[k] := ⟨_, rfl⟩
        rw [← hx] at hv
        obtain ⟨hf0, A1, c1, hf1, hrd⟩ := hv
        have hd0 := HE.out.cell (hcell 0 (by omega))
        rw [hf0, Nat.add_zero] at hd0
        have hd1 := HE.out.cell (hcell 1 (by omega))
        rw [hf1] at hd1
        have HX := Lib.hid hx
        clear hx hcell hf0 hf1
        go_wp2_with (go_at_call 49; refine (fit3 x.1 A1 x.2.length c1 _).mono ?_; rintro e w1 ⟨bo, rfl, hbo, hbx⟩; replace HE := Lib.hid ((HE.out.alloc _).trans hbx); have HBO := Lib.hid hbo; clear hbo hbx; cases bo)
        · go_ret
          exact ⟨_, rfl, fun h => by (cases h; done), HE.out⟩
        · go_roundw
          case rel =>
            refine ⟨k + 1, by omega, by go_num, HE, Lib.hid (all_take l k hlt HY.out ?_)⟩
            rw [← HX.out]
            exact HBO.out (by first | trivial | rfl)
          case measure => simp [intOf]; omega
      · obtain rfl : k = l.length := by omega
        go_wp2
        go_ret
        exact ⟨_, rfl, fun _ => ⟨hbig, by have := HY.out; rwa [List.take_length] at this⟩, HE.out⟩
  · go_enter Tryz.func22, Tryz.ntmps22
    go_wp2
    go_ret
    exact ⟨_, rfl, fun h => by (cases h; done), Ext.refl _⟩

set_option maxRecDepth 100000 in
set_option maxHeartbeats 400000 in
theorem fit5 (l : List (ByteArray × ByteArray)) (A_l : Option Addr) (c_l : Nat) (w : World) (hr : RdM 2 isPr w (.slice A_l l.length c_l) l) : Calls Tryz.prog 24 #[.slice A_l l.length c_l] w (Said w (l.length ≤ 2147483647 ∧ ∀ y ∈ l, y.1.size ≤ 2147483647 ∧ y.2.size ≤ 2147483647)) := by
  have HR := Lib.hid hr
  clear hr
  by_cases hbig : l.length ≤ 2147483647
  · go_enter Tryz.func24, Tryz.ntmps24
    go_wp2
    go_loopw [10] (fun i wr => ∃ k : Nat, k ≤ l.length ∧ i = .int .i64 k ∧ Hid (Ext w wr) ∧ Hid (∀ y ∈ l.take k, y.1.size ≤ 2147483647 ∧ y.2.size ≤ 2147483647)) (fun i _ => l.length - (intOf i).toNat)
    case atStart => exact ⟨0, Nat.zero_le _, rfl, Lib.hid (Ext.refl _), Lib.hid (by simp)⟩
    case round =>
      obtain ⟨k, hk1, rfl, HE, HY⟩ := hrel
      by_cases hlt : k < l.length
      · obtain ⟨b1, o1, f, rfl, hcell, hv⟩ := HR.out.at_ hlt
        obtain ⟨x, hx⟩ : ∃ x, x = l[k] := ⟨_, rfl⟩
        rw [← hx] at hv
        obtain ⟨hf0, hf1⟩ := hv
        have hd0 := HE.out.cell (hcell 0 (by omega))
        rw [hf0, Nat.add_zero] at hd0
        have hd1 := HE.out.cell (hcell 1 (by omega))
        rw [hf1] at hd1
        have HX := Lib.hid hx
        clear hx hcell hf0 hf1
        go_wp2_with (go_at_call 50; refine (fit6 x.1 x.2 _).mono ?_; rintro e w1 ⟨bo, rfl, hbo, hbx⟩; replace HE := Lib.hid ((HE.out.alloc _).trans hbx); have HBO := Lib.hid hbo; clear hbo hbx; cases bo)
        · go_ret
          exact ⟨_, rfl, fun h => by (cases h; done), HE.out⟩
        · go_roundw
          case rel =>
            refine ⟨k + 1, by omega, by go_num, HE, Lib.hid (all_take l k hlt HY.out ?_)⟩
            rw [← HX.out]
            exact HBO.out (by first | trivial | rfl)
          case measure => simp [intOf]; omega
      · obtain rfl : k = l.length := by omega
        go_wp2
        go_ret
        exact ⟨_, rfl, fun _ => ⟨hbig, by have := HY.out; rwa [List.take_length] at this⟩, HE.out⟩
  · go_enter Tryz.func24, Tryz.ntmps24
    go_wp2
    go_ret
    exact ⟨_, rfl, fun h => by (cases h; done), Ext.refl _⟩

set_option maxRecDepth 100000 in
set_option maxHeartbeats 400000 in
theorem fit7 (l : List Sf) (A_l : Option Addr) (c_l : Nat) (w : World) (hr : RdM 7 isSf w (.slice A_l l.length c_l) l) : Calls Tryz.prog 25 #[.slice A_l l.length c_l] w (Said w (l.length ≤ 2147483647 ∧ ∀ y ∈ l, y.name.size ≤ 2147483647)) := by
  have HR := Lib.hid hr
  clear hr
  by_cases hbig : l.length ≤ 2147483647
  · go_enter Tryz.func25, Tryz.ntmps25
    go_wp2
    go_loopw [10] (fun i wr => ∃ k : Nat, k ≤ l.length ∧ i = .int .i64 k ∧ Hid (Ext w wr) ∧ Hid (∀ y ∈ l.take k, y.name.size ≤ 2147483647)) (fun i _ => l.length - (intOf i).toNat)
    case atStart => exact ⟨0, Nat.zero_le _, rfl, Lib.hid (Ext.refl _), Lib.hid (by simp)⟩
    case round =>
      obtain ⟨k, hk1, rfl, HE, HY⟩ := hrel
      by_cases hlt : k < l.length
      · obtain ⟨b1, o1, f, rfl, hcell, hv⟩ := HR.out.at_ hlt
        obtain ⟨x, hx⟩ : ∃ x, x = l[k] := ⟨_, rfl⟩
        rw [← hx] at hv
        obtain ⟨hf0, hf1, hf2, hf3, hf4, hf5, hf6⟩ := hv
        have hd0 := HE.out.cell (hcell 0 (by omega))
        rw [hf0, Nat.add_zero] at hd0
        have hd1 := HE.out.cell (hcell 1 (by omega))
        rw [hf1] at hd1
        have hd2 := HE.out.cell (hcell 2 (by omega))
        rw [hf2] at hd2
        have hd3 := HE.out.cell (hcell 3 (by omega))
        rw [hf3] at hd3
        have hd4 := HE.out.cell (hcell 4 (by omega))
        rw [hf4] at hd4
        have hd5 := HE.out.cell (hcell 5 (by omega))
        rw [hf5] at hd5
        have hd6 := HE.out.cell (hcell 6 (by omega))
        rw [hf6] at hd6
        have HX := Lib.hid hx
        clear hx hcell hf0 hf1 hf2 hf3 hf4 hf5 hf6
        go_wp2_with (go_at_call 51; refine (fit8 x.name _ _ _ _ _ _ _).mono ?_; rintro e w1 ⟨bo, rfl, hbo, hbx⟩; replace HE := Lib.hid ((HE.out.alloc _).trans hbx); have HBO := Lib.hid hbo; clear hbo hbx; cases bo)
        · go_ret
          exact ⟨_, rfl, fun h => by (cases h; done), HE.out⟩
        · go_roundw
          case rel =>
            refine ⟨k + 1, by omega, by go_num, HE, Lib.hid (all_take l k hlt HY.out ?_)⟩
            rw [← HX.out]
            exact HBO.out (by first | trivial | rfl)
          case measure => simp [intOf]; omega
      · obtain rfl : k = l.length := by omega
        go_wp2
        go_ret
        exact ⟨_, rfl, fun _ => ⟨hbig, by have := HY.out; rwa [List.take_length] at this⟩, HE.out⟩
  · go_enter Tryz.func25, Tryz.ntmps25
    go_wp2
    go_ret
    exact ⟨_, rfl, fun h => by (cases h; done), Ext.refl _⟩

end Go.Proofs.YtdenjanihikolaaGreatDoor

namespace Go.Proofs.YtdenjanihikolaaGreatDoor
open Go.RowKit
set_option linter.unusedVariables false
set_option linter.unusedSimpArgs false

set_option maxRecDepth 100000 in
set_option maxHeartbeats 1000000 in
theorem fit1 (a b : ByteArray) (vk v3 v4 : Value) (A5 A6 A7 A8 A9 A10 A11 A12 : Option Addr) (c5 c6 c7 c8 c9 c10 c11 c12 : Nat) (lf lr ty d : List Int) (vls : List (Bool × List Int)) (ws : List ByteArray) (ps : List (ByteArray × ByteArray)) (fs : List Sf) (w : World)
    (h8 : RdM 2 isVal w (.slice A8 vls.length c8) vls) (h10 : Rd1 isStr w (.slice A10 ws.length c10) ws) (h11 : RdM 2 isPr w (.slice A11 ps.length c11) ps) (h12 : RdM 7 isSf w (.slice A12 fs.length c12) fs) :
    Calls Tryz.prog 9 #[.agg #[vk, .string a, .string b, v3, v4, .slice A5 lf.length c5, .slice A6 lr.length c6, .slice A7 ty.length c7, .slice A8 vls.length c8, .slice A9 d.length c9, .slice A10 ws.length c10, .slice A11 ps.length c11, .slice A12 fs.length c12]] w (Said w (a.size ≤ 2147483647 ∧ b.size ≤ 2147483647 ∧ lf.length ≤ 2147483647 ∧ lr.length ≤ 2147483647 ∧ ty.length ≤ 2147483647 ∧ d.length ≤ 2147483647 ∧ (vls.length ≤ 2147483647 ∧ ∀ y ∈ vls, y.2.length ≤ 2147483647) ∧ (ws.length ≤ 2147483647 ∧ ∀ y ∈ ws, y.size ≤ 2147483647) ∧ (ps.length ≤ 2147483647 ∧ ∀ y ∈ ps, y.1.size ≤ 2147483647 ∧ y.2.size ≤ 2147483647) ∧ (fs.length ≤ 2147483647 ∧ ∀ y ∈ fs, y.name.size ≤ 2147483647))) := by
  have H8 := Lib.hid (h8.ext (ext_alloc w (.cells #[vk, .string a, .string b, v3, v4, .slice A5 lf.length c5, .slice A6 lr.length c6, .slice A7 ty.length c7, .slice A8 vls.length c8, .slice A9 d.length c9, .slice A10 ws.length c10, .slice A11 ps.length c11, .slice A12 fs.length c12] 31)) (isVal.ext (ext_alloc w (.cells #[vk, .string a, .string b, v3, v4, .slice A5 lf.length c5, .slice A6 lr.length c6, .slice A7 ty.length c7, .slice A8 vls.length c8, .slice A9 d.length c9, .slice A10 ws.length c10, .slice A11 ps.length c11, .slice A12 fs.length c12] 31))))
  have H10 := Lib.hid (h10.ext (ext_alloc w (.cells #[vk, .string a, .string b, v3, v4, .slice A5 lf.length c5, .slice A6 lr.length c6, .slice A7 ty.length c7, .slice A8 vls.length c8, .slice A9 d.length c9, .slice A10 ws.length c10, .slice A11 ps.length c11, .slice A12 fs.length c12] 31)) (fun _ _ h => h))
  have H11 := Lib.hid (h11.ext (ext_alloc w (.cells #[vk, .string a, .string b, v3, v4, .slice A5 lf.length c5, .slice A6 lr.length c6, .slice A7 ty.length c7, .slice A8 vls.length c8, .slice A9 d.length c9, .slice A10 ws.length c10, .slice A11 ps.length c11, .slice A12 fs.length c12] 31)) (fun _ _ h => h))
  have H12 := Lib.hid (h12.ext (ext_alloc w (.cells #[vk, .string a, .string b, v3, v4, .slice A5 lf.length c5, .slice A6 lr.length c6, .slice A7 ty.length c7, .slice A8 vls.length c8, .slice A9 d.length c9, .slice A10 ws.length c10, .slice A11 ps.length c11, .slice A12 fs.length c12] 31)) (fun _ _ h => h))
  clear h8 h10 h11 h12
  have HE := Lib.hid (Ext.refl (w.alloc (.cells #[vk, .string a, .string b, v3, v4, .slice A5 lf.length c5, .slice A6 lr.length c6, .slice A7 ty.length c7, .slice A8 vls.length c8, .slice A9 d.length c9, .slice A10 ws.length c10, .slice A11 ps.length c11, .slice A12 fs.length c12] 31)))
  have hx8 : True := trivial
  have hx9 : True := trivial
  have hx10 : True := trivial
  have hx11 : True := trivial
  have hx12 : True := trivial
  go_enter Tryz.func9, Tryz.ntmps9
  go_wp2_with (first | (go_at_call 22; refine (fit2 vls A8 c8 _ (H8.out.ext HE.out (isVal.ext HE.out))).mono ?_; rintro e w1 ⟨bo, rfl, hbo, hbx⟩; have HE2 := HE; replace HE := Lib.hid (HE2.out.trans hbx); clear HE2; have HBO8 := Lib.hid hbo; clear hbo hbx; clear hx8; have hx8 := box_at HE.out 8 (.slice A8 vls.length c8) rfl; clear hx9; have hx9 := box_at HE.out 9 (.slice A9 d.length c9) rfl; clear hx10; have hx10 := box_at HE.out 10 (.slice A10 ws.length c10) rfl; clear hx11; have hx11 := box_at HE.out 11 (.slice A11 ps.length c11) rfl; clear hx12; have hx12 := box_at HE.out 12 (.slice A12 fs.length c12) rfl; cases bo) | (go_at_call 23; refine (fit4 ws A10 c10 _ (H10.out.ext HE.out (fun _ _ h => h))).mono ?_; rintro e w1 ⟨bo, rfl, hbo, hbx⟩; have HE2 := HE; replace HE := Lib.hid (HE2.out.trans hbx); clear HE2; have HBO10 := Lib.hid hbo; clear hbo hbx; clear hx8; have hx8 := box_at HE.out 8 (.slice A8 vls.length c8) rfl; clear hx9; have hx9 := box_at HE.out 9 (.slice A9 d.length c9) rfl; clear hx10; have hx10 := box_at HE.out 10 (.slice A10 ws.length c10) rfl; clear hx11; have hx11 := box_at HE.out 11 (.slice A11 ps.length c11) rfl; clear hx12; have hx12 := box_at HE.out 12 (.slice A12 fs.length c12) rfl; cases bo) | (go_at_call 24; refine (fit5 ps A11 c11 _ (H11.out.ext HE.out (fun _ _ h => h))).mono ?_; rintro e w1 ⟨bo, rfl, hbo, hbx⟩; have HE2 := HE; replace HE := Lib.hid (HE2.out.trans hbx); clear HE2; have HBO11 := Lib.hid hbo; clear hbo hbx; clear hx8; have hx8 := box_at HE.out 8 (.slice A8 vls.length c8) rfl; clear hx9; have hx9 := box_at HE.out 9 (.slice A9 d.length c9) rfl; clear hx10; have hx10 := box_at HE.out 10 (.slice A10 ws.length c10) rfl; clear hx11; have hx11 := box_at HE.out 11 (.slice A11 ps.length c11) rfl; clear hx12; have hx12 := box_at HE.out 12 (.slice A12 fs.length c12) rfl; cases bo) | (go_at_call 25; refine (fit7 fs A12 c12 _ (H12.out.ext HE.out (fun _ _ h => h))).mono ?_; rintro e w1 ⟨bo, rfl, hbo, hbx⟩; have HE2 := HE; replace HE := Lib.hid (HE2.out.trans hbx); clear HE2; have HBO12 := Lib.hid hbo; clear hbo hbx; clear hx8; have hx8 := box_at HE.out 8 (.slice A8 vls.length c8) rfl; clear hx9; have hx9 := box_at HE.out 9 (.slice A9 d.length c9) rfl; clear hx10; have hx10 := box_at HE.out 10 (.slice A10 ws.length c10) rfl; clear hx11; have hx11 := box_at HE.out 11 (.slice A11 ps.length c11) rfl; clear hx12; have hx12 := box_at HE.out 12 (.slice A12 fs.length c12) rfl; cases bo))
  all_goals go_ret
  all_goals refine ⟨_, rfl, ?_, (ext_alloc w _).trans HE.out⟩
  all_goals first | (intro h; cases h; done) | skip
  intro _
  exact ⟨by omega, by omega, by omega, by omega, by omega, by omega, HBO8.out trivial, HBO10.out trivial, HBO11.out trivial, HBO12.out trivial⟩
end Go.Proofs.YtdenjanihikolaaGreatDoor

