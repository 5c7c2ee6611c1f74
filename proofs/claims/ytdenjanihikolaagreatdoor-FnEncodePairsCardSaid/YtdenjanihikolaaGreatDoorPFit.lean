/- Whether a message is proper: the fields of errors, by contract. -/
import Derived.Test.YtdenjanihikolaaGreatDoorPWrb
import Derived.WalkLawsBesides
import Derived.Deep.QuietTactic
import Derived.BigQuiet
import Derived.Deep.RegionWith
namespace Go.Proofs.YtdenjanihikolaaGreatDoor
set_option linter.unusedVariables false
set_option linter.unusedSimpArgs false
open Go.RowKit
set_option linter.unusedVariables false
set_option linter.unusedSimpArgs false
/-- A yes or no that says something if it is yes. -/
def Said (w : World) (P : Prop) : Ending → World → Prop := fun e w' => ∃ x : Bool, e = .returned (.bool x) ∧ (x = true → P) ∧ Ext w w'
theorem all_take {α : Type} {P : α → Prop} (l : List α) (k : Nat) (h : k < l.length) (h1 : ∀ y ∈ l.take k, P y) (h2 : P l[k]) : ∀ y ∈ l.take (k + 1), P y := by
  intro y hy
  rw [List.take_succ_eq_append_getElem h, List.mem_append] at hy
  rcases hy with hy | hy
  · exact h1 y hy
  · rw [List.mem_singleton] at hy
    rw [hy]; exact h2
theorem fit3 (nul : Bool) (A : Option Addr) (n c : Nat) (w : World) : Calls Tryz.prog 49 #[.agg #[.bool nul, .slice A n c]] w (Said w (n ≤ 2147483647)) := by
  go_enter Tryz.func49, Tryz.ntmps49
  go_wp2
  all_goals (go_ret; refine ⟨_, rfl, ?_, ext_alloc _ _⟩; first | (intro h; cases h; done) | (intro _; omega))
theorem fit6 (a b : ByteArray) (w : World) : Calls Tryz.prog 50 #[.agg #[.string a, .string b]] w (Said w (a.size ≤ 2147483647 ∧ b.size ≤ 2147483647)) := by
  go_enter Tryz.func50, Tryz.ntmps50
  go_wp2
  all_goals (go_ret; refine ⟨_, rfl, ?_, ext_alloc _ _⟩; first | (intro h; cases h; done) | (intro _; omega))
theorem fit8 (a : ByteArray) (v1 v2 v3 v4 v5 v6 : Value) (w : World) : Calls Tryz.prog 51 #[.agg #[.string a, v1, v2, v3, v4, v5, v6]] w (Said w (a.size ≤ 2147483647)) := by
  go_enter Tryz.func51, Tryz.ntmps51
  go_wp2
  all_goals (go_ret; refine ⟨_, rfl, ?_, ext_alloc _ _⟩; first | (intro h; cases h; done) | (intro _; omega))
set_option maxRecDepth 100000 in
set_option maxHeartbeats 400000 in
theorem fit4 (l : List ByteArray) (A_l : Option Addr) (c_l : Nat) (w : World) (hr : Rd1 isStr w (.slice A_l l.length c_l) l) : Calls Tryz.prog 23 #[.slice A_l l.length c_l] w (Said w (l.length ≤ 2147483647 ∧ ∀ y ∈ l, y.size ≤ 2147483647)) := by
  have HR := Lib.hid hr
  clear hr
  by_cases hbig : l.length ≤ 2147483647
  · go_enter Tryz.func23, Tryz.ntmps23
    go_wp2
    go_loopw [10] (fun i wr => ∃ k : Nat, k ≤ l.length ∧ i = .int .i64 k ∧ Hid (Ext w wr) ∧ Hid (∀ y ∈ l.take k, y.size ≤ 2147483647)) (fun i _ => l.length - (intOf i).toNat)
    case atStart => exact ⟨0, Nat.zero_le _, rfl, Lib.hid (Ext.refl _), Lib.hid (by simp)⟩
    case round =>
      obtain ⟨k, hk1, rfl, HE, HY⟩ := hrel
      by_cases hlt : k < l.length
      · obtain ⟨b1, o1, u, rfl, hcell, hu⟩ := HR.out.at_ hlt
        replace hcell := HE.out.cell hcell
        obtain ⟨x, hx⟩ : ∃ x, x = l[k] := ⟨_, rfl⟩
        rw [← hx] at hu
        rw [show u = .string x from hu] at hcell
        have HX := Lib.hid hx
        clear hx hu
        go_wp2
        · go_ret
          exact ⟨_, rfl, fun h => by (cases h; done), HE.out⟩
        · go_roundw
          case rel =>
            refine ⟨k + 1, by omega, by go_num, HE, Lib.hid (all_take l k hlt HY.out ?_)⟩
            rw [← HX.out]
            omega
          case measure => simp [intOf]; omega
      · obtain rfl : k = l.length := by omega
        go_wp2
        go_ret
        exact ⟨_, rfl, fun _ => ⟨hbig, by have := HY.out; rwa [List.take_length] at this⟩, HE.out⟩
  · go_enter Tryz.func23, Tryz.ntmps23
    go_wp2
    go_ret
    exact ⟨_, rfl, fun h => by (cases h; done), Ext.refl _⟩
set_option maxRecDepth 100000 in
set_option maxHeartbeats 400000 in
theorem fit2 (l : List (Bool × List Int)) (A_l : Option Addr) (c_l : Nat) (w : World) (hr : RdM 2 isVal w (.slice A_l l.length c_l) l) : Calls Tryz.prog 22 #[.slice A_l l.length c_l] w (Said w (l.length ≤ 2147483647 ∧ ∀ y ∈ l, y.2.length ≤ 2147483647)) := by
  have HR := Lib.hid hr
  clear hr
  by_cases hbig : l.length ≤ 2147483647
  · go_enter Tryz.func22, Tryz.ntmps22
    go_wp2
    go_loopw [10] (fun i wr => ∃ k : Nat, k ≤ l.length ∧ i = .int .i64 k ∧ Hid (Ext w wr) ∧ Hid (∀ y ∈ l.take k, y.2.length ≤ 2147483647)) (fun i _ => l.length - (intOf i).toNat)
    case atStart => exact ⟨0, Nat.zero_le _, rfl, Lib.hid (Ext.refl _), Lib.hid (by simp)⟩
    case round =>
      obtain ⟨k, hk1, rfl, HE, HY⟩ := hrel
      by_cases hlt : k < l.length
      · obtain ⟨b1, o1, f, rfl, hcell, hv⟩ := HR.out.at_ hlt
        obtain ⟨x, hx⟩ : ∃ x, x = l[k] := ⟨_, rfl⟩
        rw [← hx] at hv
        obtain ⟨hf0, A1, c1, hf1, hrd⟩ := hv
        have hd0 := HE.out.cell (hcell 0 (by omega))
        rw [hf0, Nat.add_zero] at hd0
        have hd1 := HE.out.cell (hcell 1 (by omega))
        rw [hf1] at hd1
        have HX := Lib.hid hx
        clear hx hcell hf0 hf1
        go_wp2_with (go_at_call 49; refine (fit3 x.1 A1 x.2.length c1 _).mono ?_; rintro e w1 ⟨bo, rfl, hbo, hbx⟩; replace HE := Lib.hid ((HE.out.alloc _).trans hbx); have HBO := Lib.hid hbo; clear hbo hbx; cases bo)
        · go_ret
          exact ⟨_, rfl, fun h => by (cases h; done), HE.out⟩
        · go_roundw
          case rel =>
            refine ⟨k + 1, by omega, by go_num, HE, Lib.hid (all_take l k hlt HY.out ?_)⟩
            rw [← HX.out]
            exact HBO.out (by first | trivial | rfl)
          case measure => simp [intOf]; omega
      · obtain rfl : k = l.length := by omega
        go_wp2
        go_ret
        exact ⟨_, rfl, fun _ => ⟨hbig, by have := HY.out; rwa [List.take_length] at this⟩, HE.out⟩
  · go_enter Tryz.func22, Tryz.ntmps22
    go_wp2
    go_ret
    exact ⟨_, rfl, fun h => by (cases h; done), Ext.refl _⟩
set_option maxRecDepth 100000 in
set_option maxHeartbeats 400000 in
theorem fit5 (l : List (ByteArray × ByteArray)) (A_l : Option Addr) (c_l : Nat) (w : World) (hr : RdM 2 isPr w (.slice A_l l.length c_l) l) : Calls Tryz.prog 24 #[.slice A_l l.length c_l] w (Said w (l.length ≤ 2147483647 ∧ ∀ y ∈ l, y.1.size ≤ 2147483647 ∧ y.2.size ≤ 2147483647)) := by
  have HR := Lib.hid hr
  clear hr
  by_cases hbig : l.length ≤ 2147483647
  · go_enter Tryz.func24, Tryz.ntmps24
    go_wp2
    go_loopw [10] (fun i wr => ∃ k : Nat, k ≤ l.length ∧ i = .int .i64 k ∧ Hid (Ext w wr) ∧ Hid (∀ y ∈ l.take k, y.1.size ≤ 2147483647 ∧ y.2.size ≤ 2147483647)) (fun i _ => l.length - (intOf i).toNat)
    case atStart => exact ⟨0, Nat.zero_le _, rfl, Lib.hid (Ext.refl _), Lib.hid (by simp)⟩
    case round =>
      obtain ⟨k, hk1, rfl, HE, HY⟩ := hrel
      by_cases hlt : k < l.length
      · obtain ⟨b1, o1, f, rfl, hcell, hv⟩ := HR.out.at_ hlt
        obtain ⟨x, hx⟩ : ∃ x, x = l[k] := ⟨_, rfl⟩
        rw [← hx] at hv
        obtain ⟨hf0, hf1⟩ := hv
        have hd0 := HE.out.cell (hcell 0 (by omega))
        rw [hf0, Nat.add_zero] at hd0
        have hd1 := HE.out.cell (hcell 1 (by omega))
        rw [hf1] at hd1
        have HX := Lib.hid hx
        clear hx hcell hf0 hf1
        go_wp2_with (go_at_call 50; refine (fit6 x.1 x.2 _).mono ?_; rintro e w1 ⟨bo, rfl, hbo, hbx⟩; replace HE := Lib.hid ((HE.out.alloc _).trans hbx); have HBO := Lib.hid hbo; clear hbo hbx; cases bo)
        · go_ret
          exact ⟨_, rfl, fun h => by (cases h; done), HE.out⟩
        · go_roundw
          case rel =>
            refine ⟨k + 1, by omega, by go_num, HE, Lib.hid (all_take l k hlt HY.out ?_)⟩
            rw [← HX.out]
            exact HBO.out (by first | trivial | rfl)
          case measure => simp [intOf]; omega
      · obtain rfl : k = l.length := by omega
        go_wp2
        go_ret
        exact ⟨_, rfl, fun _ => ⟨hbig, by have := HY.out; rwa [List.take_length] at this⟩, HE.out⟩
  · go_enter Tryz.func24, Tryz.ntmps24
    go_wp2
    go_ret
    exact ⟨_, rfl, fun h => by (cases h; done), Ext.refl _⟩
set_option maxRecDepth 100000 in
set_option maxHeartbeats 400000 in
theorem fit7 (l : List Sf) (A_l : Option Addr) (c_l : Nat) (w : World) (hr : RdM 7 isSf w (.slice A_l l.length c_l) l) : Calls Tryz.prog 25 #[.slice A_l l.length c_l] w (Said w (l.length ≤ 2147483647 ∧ ∀ y ∈ l, y.name.size ≤ 2147483647)) := by
  have HR := Lib.hid hr
  clear hr
  by_cases hbig : l.length ≤ 2147483647
  · go_enter Tryz.func25, Tryz.ntmps25
    go_wp2
    go_loopw [10] (fun i wr => ∃ k : Nat, k ≤ l.length ∧ i = .int .i64 k ∧ Hid (Ext w wr) ∧ Hid (∀ y ∈ l.take k, y.name.size ≤ 2147483647)) (fun i _ => l.length - (intOf i).toNat)
    case atStart => exact ⟨0, Nat.zero_le _, rfl, Lib.hid (Ext.refl _), Lib.hid (by simp)⟩
    case round =>
      obtain ⟨k, hk1, rfl, HE, HY⟩ := hrel
      by_cases hlt : k < l.length
      · obtain ⟨b1, o1, f, rfl, hcell, hv⟩ := HR.out.at_ hlt
        obtain ⟨x, hx⟩ : ∃ x, x = l[k] := ⟨_, rfl⟩
        rw [← hx] at hv
        obtain ⟨hf0, hf1, hf2, hf3, hf4, hf5, hf6⟩ := hv
        have hd0 := HE.out.cell (hcell 0 (by omega))
        rw [hf0, Nat.add_zero] at hd0
        have hd1 := HE.out.cell (hcell 1 (by omega))
        rw [hf1] at hd1
        have hd2 := HE.out.cell (hcell 2 (by omega))
        rw [hf2] at hd2
        have hd3 := HE.out.cell (hcell 3 (by omega))
        rw [hf3] at hd3
        have hd4 := HE.out.cell (hcell 4 (by omega))
        rw [hf4] at hd4
        have hd5 := HE.out.cell (hcell 5 (by omega))
        rw [hf5] at hd5
        have hd6 := HE.out.cell (hcell 6 (by omega))
        rw [hf6] at hd6
        have HX := Lib.hid hx
        clear hx hcell hf0 hf1 hf2 hf3 hf4 hf5 hf6
        go_wp2_with (go_at_call 51; refine (fit8 x.name _ _ _ _ _ _ _).mono ?_; rintro e w1 ⟨bo, rfl, hbo, hbx⟩; replace HE := Lib.hid ((HE.out.alloc _).trans hbx); have HBO := Lib.hid hbo; clear hbo hbx; cases bo)
        · go_ret
          exact ⟨_, rfl, fun h => by (cases h; done), HE.out⟩
        · go_roundw
          case rel =>
            refine ⟨k + 1, by omega, by go_num, HE, Lib.hid (all_take l k hlt HY.out ?_)⟩
            rw [← HX.out]
            exact HBO.out (by first | trivial | rfl)
          case measure => simp [intOf]; omega
      · obtain rfl : k = l.length := by omega
        go_wp2
        go_ret
        exact ⟨_, rfl, fun _ => ⟨hbig, by have := HY.out; rwa [List.take_length] at this⟩, HE.out⟩
  · go_enter Tryz.func25, Tryz.ntmps25
    go_wp2
    go_ret
    exact ⟨_, rfl, fun h => by (cases h; done), Ext.refl _⟩
end Go.Proofs.YtdenjanihikolaaGreatDoor

namespace Go.Proofs.YtdenjanihikolaaGreatDoor
open Go.RowKit
set_option linter.unusedVariables false
set_option linter.unusedSimpArgs false
/-- A text without noughts, of at most 200 bytes. -/
def plainP (s : ByteArray) : Prop := s.size ≤ 200 ∧ ∀ k (h : k < s.size), (s[k].toNat : Int) ≠ 0
instance (s : ByteArray) : Decidable (plainP s) := by unfold plainP; infer_instance
def plainQ (s : ByteArray) : Bool := decide (plainP s)
theorem plainQ_of {s : ByteArray} (h : plainQ s = true) : plainP s := of_decide_eq_true h
theorem nz_step {s : ByteArray} {k : Nat} (hk : k < s.size) (h : ∀ j (hj : j < s.size), j < k → (s[j].toNat : Int) ≠ 0) (h0 : (s[k].toNat : Int) ≠ 0) : ∀ j (hj : j < s.size), j < k + 1 → (s[j].toNat : Int) ≠ 0 := by
  intro j hj hjk
  by_cases e : j = k
  · subst e; exact h0
  · exact h j hj (by omega)
theorem plain27 (s : ByteArray) (hs : s.size ≤ 2147483647) (w : World) : Calls Tryz.prog 27 #[.string s] w (fun e w' => e = .returned (.bool (plainQ s)) ∧ w' = w) := by
  go_enter Tryz.func27, Tryz.ntmps27
  go_wp2
  go_loopw [6] (fun i wr => ∃ k : Nat, k ≤ s.size ∧ i = .int .i64 k ∧ wr = w ∧ Hid (∀ j (hj : j < s.size), j < k → (s[j].toNat : Int) ≠ 0)) (fun i _ => s.size - (intOf i).toNat)
  case atStart => exact ⟨0, Nat.zero_le _, rfl, rfl, Lib.hid (fun _ _ h => absurd h (Nat.not_lt_zero _))⟩
  case round =>
    obtain ⟨k, hk1, rfl, rfl, HY⟩ := hrel
    by_cases hlt : k < s.size
    · by_cases hz : (s[k].toNat : Int) = 0
      · have hb : ((s[k].toNat : Int) == 0) = true := by simp [hz]
        go_wp2
        go_ret
        refine ⟨?_, rfl⟩
        have : plainQ s = false := by
          unfold plainQ
          exact decide_eq_false fun h => h.2 k hlt hz
        rw [this]; rfl
      · have hb : ((s[k].toNat : Int) == 0) = false := beq_eq_false_iff_ne.2 hz
        go_wp2
        go_roundw
        case rel => exact ⟨k + 1, by omega, by go_num, by first | rfl | trivial, Lib.hid (nz_step hlt HY.out hz)⟩
        case measure => simp [intOf]; omega
    · obtain rfl : k = s.size := by omega
      go_wp2
      go_ret
      refine ⟨?_, rfl⟩
      have hq : plainQ s = decide ((s.size : Int) ≤ 200) := by
        unfold plainQ
        have h1 : plainP s ↔ (s.size : Int) ≤ 200 := ⟨fun h => by have := h.1; omega, fun h => ⟨by omega, fun j hj => HY.out j hj hj⟩⟩
        by_cases h2 : (s.size : Int) ≤ 200
        · rw [decide_eq_true h2]; exact decide_eq_true (h1.2 h2)
        · rw [decide_eq_false h2]; exact decide_eq_false fun h => h2 (h1.1 h)
      rw [hq]; rfl
/-- A kind that is known. -/
def knownK (k : Int) : Prop := (0 ≤ k ∧ k ≤ 20) ∨ (30 ≤ k ∧ k ≤ 57)
theorem known26 (kd : Int) (w : World) : Calls Tryz.prog 26 #[.int .i64 kd] w (Said w (knownK kd)) := by
  go_enter Tryz.func26, Tryz.ntmps26
  go_wp2
  all_goals (go_ret; refine ⟨_, rfl, ?_, Ext.refl _⟩; unfold knownK; first | (intro h; cases h; done) | (intro h; simp at h; omega) | (intro h; omega))
set_option maxRecDepth 100000 in
set_option maxHeartbeats 400000 in
theorem shorts52 (l : List Int) (A_l : Option Addr) (c_l : Nat) (most : Int) (w : World) (hr : RdI .i64 w (.slice A_l l.length c_l) l) (hl : l.length ≤ 2147483647) : Calls Tryz.prog 52 #[.slice A_l l.length c_l, .int .i64 most] w (Said w (l.length ≤ most ∧ ∀ y ∈ l, -32768 ≤ y ∧ y ≤ 32767)) := by
  have HR := Lib.hid hr
  clear hr
  go_enter Tryz.func52, Tryz.ntmps52
  go_wp2
  go_loopw [9] (fun i wr => ∃ k : Nat, k ≤ l.length ∧ i = .int .i64 k ∧ Hid (Ext w wr) ∧ Hid (∀ y ∈ l.take k, -32768 ≤ y ∧ y ≤ 32767)) (fun i _ => l.length - (intOf i).toNat)
  case atStart => exact ⟨0, Nat.zero_le _, rfl, Lib.hid (Ext.refl _), Lib.hid (by simp)⟩
  case round =>
    obtain ⟨k, hk1, rfl, HE, HY⟩ := hrel
    by_cases hlt : k < l.length
    · obtain ⟨b1, o1, rfl, hcell⟩ := HR.out.at_ hlt
      replace hcell := HE.out.cell hcell
      rw [getD_at hlt] at hcell
      obtain ⟨x, hx⟩ : ∃ x, x = l[k] := ⟨_, rfl⟩
      rw [← hx] at hcell
      have HX := Lib.hid hx
      clear hx
      go_wp2
      all_goals first
        | (go_ret; exact ⟨_, rfl, fun h => by (cases h; done), HE.out⟩)
        | (go_roundw
           case rel =>
             refine ⟨k + 1, by omega, by go_num, HE, Lib.hid (all_take l k hlt HY.out ?_)⟩
             rw [← HX.out]
             omega
           case measure => simp [intOf]; omega)
    · obtain rfl : k = l.length := by omega
      go_wp2
      go_ret
      exact ⟨_, rfl, fun h => ⟨by simp at h; omega, by have := HY.out; rwa [List.take_length] at this⟩, HE.out⟩
set_option maxRecDepth 100000 in
set_option maxHeartbeats 400000 in
theorem formats30 (l : List Int) (A_l : Option Addr) (c_l : Nat) (w : World) (hr : RdI .i64 w (.slice A_l l.length c_l) l) (hl : l.length ≤ 2147483647) : Calls Tryz.prog 30 #[.slice A_l l.length c_l] w (Said w (l.length ≤ 20 ∧ ∀ y ∈ l, (y = 0 ∨ y = 1))) := by
  have HR := Lib.hid hr
  clear hr
  go_enter Tryz.func30, Tryz.ntmps30
  go_wp2
  go_loopw [7] (fun i wr => ∃ k : Nat, k ≤ l.length ∧ i = .int .i64 k ∧ Hid (Ext w wr) ∧ Hid (∀ y ∈ l.take k, (y = 0 ∨ y = 1))) (fun i _ => l.length - (intOf i).toNat)
  case atStart => exact ⟨0, Nat.zero_le _, rfl, Lib.hid (Ext.refl _), Lib.hid (by simp)⟩
  case round =>
    obtain ⟨k, hk1, rfl, HE, HY⟩ := hrel
    by_cases hlt : k < l.length
    · obtain ⟨b1, o1, rfl, hcell⟩ := HR.out.at_ hlt
      replace hcell := HE.out.cell hcell
      rw [getD_at hlt] at hcell
      obtain ⟨x, hx⟩ : ∃ x, x = l[k] := ⟨_, rfl⟩
      rw [← hx] at hcell
      have HX := Lib.hid hx
      clear hx
      go_wp2
      all_goals first
        | (go_ret; exact ⟨_, rfl, fun h => by (cases h; done), HE.out⟩)
        | (go_roundw
           case rel =>
             refine ⟨k + 1, by omega, by go_num, HE, Lib.hid (all_take l k hlt HY.out ?_)⟩
             rw [← HX.out]
             (by_cases e0 : x = 0 <;> by_cases e1 : x = 1 <;> first | exact .inl e0 | exact .inr e1 | (exfalso; simp_all))
           case measure => simp [intOf]; omega)
    · obtain rfl : k = l.length := by omega
      go_wp2_with (go_at_call 52; refine (shorts52 l _ _ 20 _ (RdI.ext HR.out HE.out) hl).mono ?_; rintro e w1 ⟨bo, rfl, hbo, hbx⟩; have HBO := Lib.hid hbo; have HE2 := HE; replace HE := Lib.hid (HE2.out.trans hbx); clear hbo hbx)
      go_ret
      exact ⟨_, rfl, fun h => ⟨by have := (HBO.out h).1; omega, by have := HY.out; rwa [List.take_length] at this⟩, HE.out⟩
set_option maxRecDepth 100000 in
set_option maxHeartbeats 400000 in
theorem values28 (l : List (Bool × List Int)) (A_l : Option Addr) (c_l : Nat) (most : Int) (w : World) (hr : RdM 2 isVal w (.slice A_l l.length c_l) l) (hl : l.length ≤ 2147483647) : Calls Tryz.prog 28 #[.slice A_l l.length c_l, .int .i64 most] w (Said w (l.length ≤ most ∧ ∀ y ∈ l, y.2.length ≤ 200 ∧ (y.1 = true → y.2.length = 0))) := by
  have HR := Lib.hid hr
  clear hr
  go_enter Tryz.func28, Tryz.ntmps28
  go_wp2
  go_loopw [9] (fun i wr => ∃ k : Nat, k ≤ l.length ∧ i = .int .i64 k ∧ Hid (Ext w wr) ∧ Hid (∀ y ∈ l.take k, y.2.length ≤ 200 ∧ (y.1 = true → y.2.length = 0))) (fun i _ => l.length - (intOf i).toNat)
  case atStart => exact ⟨0, Nat.zero_le _, rfl, Lib.hid (Ext.refl _), Lib.hid (by simp)⟩
  case round =>
    obtain ⟨k, hk1, rfl, HE, HY⟩ := hrel
    by_cases hlt : k < l.length
    · obtain ⟨b1, o1, f, rfl, hcell, hv⟩ := HR.out.at_ hlt
      obtain ⟨x, hx⟩ : ∃ x, x = l[k] := ⟨_, rfl⟩
      rw [← hx] at hv
      obtain ⟨hf0, A1, c1, hf1, hrd⟩ := hv
      have hd0 := HE.out.cell (hcell 0 (by omega))
      rw [hf0, Nat.add_zero] at hd0
      have hd1 := HE.out.cell (hcell 1 (by omega))
      rw [hf1] at hd1
      obtain ⟨x1, x2⟩ := x
      have HX := Lib.hid hx
      clear hx hcell hf0 hf1 hrd
      have HE0 := HE
      replace HE := Lib.hid (HE0.out.alloc (.cells #[.bool x1, .slice A1 x2.length c1] 59))
      cases x1 <;> go_wp2
      all_goals first
        | (go_ret; exact ⟨_, rfl, fun h => by (cases h; done), HE.out⟩)
        | (go_roundw
           case rel =>
             refine ⟨k + 1, by omega, by go_num, HE, Lib.hid (all_take l k hlt HY.out ?_)⟩
             rw [← HX.out]
             exact ⟨by simp only []; omega, fun h => by first | (cases h; done) | (simp only []; omega)⟩
           case measure => simp [intOf]; omega)
    · obtain rfl : k = l.length := by omega
      go_wp2
      go_ret
      exact ⟨_, rfl, fun h => ⟨by simp at h; omega, by have := HY.out; rwa [List.take_length] at this⟩, HE.out⟩
set_option maxRecDepth 100000 in
set_option maxHeartbeats 400000 in
theorem columns29 (l : List Sf) (A_l : Option Addr) (c_l : Nat) (w : World) (hr : RdM 7 isSf w (.slice A_l l.length c_l) l) (hl : l.length ≤ 2147483647) (hnm : ∀ y ∈ l, y.name.size ≤ 2147483647) : Calls Tryz.prog 29 #[.slice A_l l.length c_l] w (Said w (l.length ≤ 20 ∧ ∀ y ∈ l, plainP y.name ∧ 0 ≤ y.col ∧ y.col ≤ 32767 ∧ -32768 ≤ y.siz ∧ y.siz ≤ 32767 ∧ -2147483648 ≤ y.mdf ∧ y.mdf < 2147483648 ∧ 0 ≤ y.fmt ∧ y.fmt ≤ 1)) := by
  have HR := Lib.hid hr
  clear hr
  go_enter Tryz.func29, Tryz.ntmps29
  go_wp2
  go_loopw [7] (fun i wr => ∃ k : Nat, k ≤ l.length ∧ i = .int .i64 k ∧ Hid (Ext w wr) ∧ Hid (∀ y ∈ l.take k, plainP y.name ∧ 0 ≤ y.col ∧ y.col ≤ 32767 ∧ -32768 ≤ y.siz ∧ y.siz ≤ 32767 ∧ -2147483648 ≤ y.mdf ∧ y.mdf < 2147483648 ∧ 0 ≤ y.fmt ∧ y.fmt ≤ 1)) (fun i _ => l.length - (intOf i).toNat)
  case atStart => exact ⟨0, Nat.zero_le _, rfl, Lib.hid (Ext.refl _), Lib.hid (by simp)⟩
  case round =>
    obtain ⟨k, hk1, rfl, HE, HY⟩ := hrel
    by_cases hlt : k < l.length
    · obtain ⟨b1, o1, f, rfl, hcell, hv⟩ := HR.out.at_ hlt
      have hsz := hnm _ (List.getElem_mem hlt)
      obtain ⟨x, hx⟩ : ∃ x, x = l[k] := ⟨_, rfl⟩
      rw [← hx] at hv hsz
      obtain ⟨hf0, hf1, hf2, hf3, hf4, hf5, hf6⟩ := hv
      have hd0 := HE.out.cell (hcell 0 (by omega))
      rw [hf0, Nat.add_zero] at hd0
      have hd1 := HE.out.cell (hcell 1 (by omega))
      rw [hf1] at hd1
      have hd2 := HE.out.cell (hcell 2 (by omega))
      rw [hf2] at hd2
      have hd3 := HE.out.cell (hcell 3 (by omega))
      rw [hf3] at hd3
      have hd4 := HE.out.cell (hcell 4 (by omega))
      rw [hf4] at hd4
      have hd5 := HE.out.cell (hcell 5 (by omega))
      rw [hf5] at hd5
      have hd6 := HE.out.cell (hcell 6 (by omega))
      rw [hf6] at hd6
      have HX := Lib.hid hx
      clear hx hcell hf0 hf1 hf2 hf3 hf4 hf5 hf6
      have HE0 := HE
      replace HE := Lib.hid (HE0.out.alloc (.cells #[.string x.name, .int .u32 x.tab, .int .i64 x.col, .int .u32 x.typ, .int .i64 x.siz, .int .i64 x.mdf, .int .i64 x.fmt] 63))
      cases hq : plainQ x.name
      all_goals go_wp2_with (go_at_call 27; refine (plain27 x.name hsz _).mono ?_; rintro e w1 ⟨rfl, rfl⟩; rw [hq])
      all_goals first
        | (go_ret; exact ⟨_, rfl, fun h => by (cases h; done), HE.out⟩)
        | (go_roundw
           case rel =>
             refine ⟨k + 1, by omega, by go_num, HE, Lib.hid (all_take l k hlt HY.out ?_)⟩
             rw [← HX.out]
             exact ⟨plainQ_of hq, by omega, by omega, by omega, by omega, by omega, by omega, by omega, by omega⟩
           case measure => simp [intOf]; omega)
    · obtain rfl : k = l.length := by omega
      go_wp2
      go_ret
      exact ⟨_, rfl, fun h => ⟨by simp at h; omega, by have := HY.out; rwa [List.take_length] at this⟩, HE.out⟩
end Go.Proofs.YtdenjanihikolaaGreatDoor

namespace Go.Proofs.YtdenjanihikolaaGreatDoor
open Go.RowKit
set_option linter.unusedVariables false
set_option linter.unusedSimpArgs false
theorem Ext.drewN {w w' : World} (h : Ext w w') (n : Nat) : Ext w (w'.drewN n) := ⟨h.os, h.tape, h.output, h.size, h.block⟩
/-- One pair that is proper. -/
def prO (single empty : Bool) (y : ByteArray × ByteArray) : Prop := plainP y.1 ∧ plainP y.2 ∧ y.1.size ≠ 0 ∧ (single = true → y.1.size = 1) ∧ (empty = false → y.2.size ≠ 0)
/-- Pairs that are proper. -/
def pairsP (single empty : Bool) (l : List (ByteArray × ByteArray)) : Prop := l.length ≤ 20 ∧ (∀ y ∈ l, prO single empty y) ∧ ∀ j (h : j + 1 < l.length), Op.bytesLess l[j].1.toList l[j + 1].1.toList = true
theorem size_ne {x : ByteArray} (h : x.toList.isEmpty = false) : x.size ≠ 0 := by
  intro h0
  have : x = ⟨#[]⟩ := by
    cases x with
    | mk d =>
      have : d.size = 0 := h0
      rw [Array.eq_empty_of_size_eq_zero this]
  subst this
  rw [ByteArray.toList_eq] at h
  exact absurd h (by decide)
theorem prO_of {single empty : Bool} {x1 x2 : ByteArray} (hsz : x1.size ≤ 2147483647 ∧ x2.size ≤ 2147483647) (hp1 : plainQ x1 = true) (hp2 : plainQ x2 = true) (e3 : x1.toList.isEmpty = false) (e4 : if single then ((x1.size : Int) != 1) = false else True) (e5 : if empty then True else x2.toList.isEmpty = false) : prO single empty (x1, x2) := by
  refine ⟨plainQ_of hp1, plainQ_of hp2, size_ne e3, ?_, ?_⟩
  · intro hs
    subst hs
    simp at e4
    show x1.size = 1
    omega
  · intro hs
    subst hs
    simp only [Bool.false_eq_true, if_false] at e5
    exact size_ne e5
/-- A number of at most nine digits. -/
def digP (s : ByteArray) : Prop := s.size ≠ 0 ∧ s.size ≤ 9 ∧ (∀ k (h : k < s.size), 48 ≤ (s[k].toNat : Int) ∧ (s[k].toNat : Int) ≤ 57) ∧ ∀ h : 0 < s.size, (s[0].toNat : Int) ≠ 48
theorem dg_step {s : ByteArray} {k : Nat} (hk : k < s.size) (h : ∀ j (hj : j < s.size), j < k → 48 ≤ (s[j].toNat : Int) ∧ (s[j].toNat : Int) ≤ 57) (h0 : 48 ≤ (s[k].toNat : Int) ∧ (s[k].toNat : Int) ≤ 57) : ∀ j (hj : j < s.size), j < k + 1 → 48 ≤ (s[j].toNat : Int) ∧ (s[j].toNat : Int) ≤ 57 := by
  intro j hj hjk
  by_cases e : j = k
  · subst e; exact h0
  · exact h j hj (by omega)
set_option maxRecDepth 100000 in
theorem digits53 (s : ByteArray) (hs : s.size ≤ 2147483647) (w : World) : Calls Tryz.prog 53 #[.string s] w (Said w (digP s)) := by
  go_enter Tryz.func53, Tryz.ntmps53
  go_wp2
  go_loopw [6] (fun i wr => ∃ k : Nat, k ≤ s.size ∧ i = .int .i64 k ∧ wr = w ∧ Hid (∀ j (hj : j < s.size), j < k → 48 ≤ (s[j].toNat : Int) ∧ (s[j].toNat : Int) ≤ 57)) (fun i _ => s.size - (intOf i).toNat)
  case atStart => exact ⟨0, Nat.zero_le _, rfl, rfl, Lib.hid (fun _ _ h => absurd h (Nat.not_lt_zero _))⟩
  case round =>
    obtain ⟨k, hk1, rfl, rfl, HY⟩ := hrel
    by_cases hlt : k < s.size
    · go_wp2
      all_goals first
        | (go_ret; exact ⟨_, rfl, fun h => by (cases h; done), Ext.refl _⟩)
        | (go_roundw
           case rel => exact ⟨k + 1, by omega, by go_num, by first | rfl | trivial, Lib.hid (dg_step hlt HY.out (by constructor <;> omega))⟩
           case measure => simp [intOf]; omega)
    · obtain rfl : k = s.size := by omega
      cases e3 : s.toList.isEmpty
      · have hne : s.size ≠ 0 := size_ne e3
        have hpos : (0 : Int) < (s.size : Int) := by omega
        have hpos' : 0 < s.size := by omega
        by_cases h9 : (s.size : Int) ≤ 9
        · have h9' : decide ((s.size : Int) ≤ 9) = true := decide_eq_true h9
          cases e4 : ((s[0].toNat : Int) != 48)
          all_goals go_wp2
          all_goals go_ret
          · exact ⟨_, rfl, fun h => by (cases h; done), Ext.refl _⟩
          · exact ⟨_, rfl, fun h => ⟨hne, by omega, fun j hj => HY.out j hj hj, fun _ => by simpa using e4⟩, Ext.refl _⟩
        · have h9' : decide ((s.size : Int) ≤ 9) = false := decide_eq_false h9
          go_wp2
          all_goals (go_ret; exact ⟨_, rfl, fun h => by (cases h; done), Ext.refl _⟩)
      · go_wp2
        all_goals (go_ret; exact ⟨_, rfl, fun h => by (cases h; done), Ext.refl _⟩)
set_option maxRecDepth 100000 in
set_option maxHeartbeats 1000000 in
theorem pairsM (l : List (ByteArray × ByteArray)) (A_l : Option Addr) (c_l : Nat) (w : World) (hr : RdM 2 isPr w (.slice A_l l.length c_l) l) (hl : l.length ≤ 2147483647) (hs : ∀ y ∈ l, y.1.size ≤ 2147483647 ∧ y.2.size ≤ 2147483647) : Calls Tryz.prog 31 #[.slice A_l l.length c_l, .bool false, .bool true] w (Said w (pairsP false true l)) := by
  have HR := Lib.hid hr
  clear hr
  go_enter Tryz.func31, Tryz.ntmps31
  go_wp2
  go_loopw [11] (fun i wr => ∃ k : Nat, k ≤ l.length ∧ i = .int .i64 k ∧ Hid (Ext w wr) ∧ Hid ((∀ y ∈ l.take k, prO false true y) ∧ (∀ j (h : j + 1 < l.length), j + 1 < k → Op.bytesLess l[j].1.toList l[j + 1].1.toList = true))) (fun i _ => l.length - (intOf i).toNat)
  case atStart => exact ⟨0, Nat.zero_le _, rfl, Lib.hid (Ext.refl _), Lib.hid ⟨by simp, fun _ _ h => absurd h (Nat.not_lt_zero _)⟩⟩
  case round =>
    obtain ⟨k, hk1, rfl, HE, HY⟩ := hrel
    by_cases hlt : k < l.length
    · obtain ⟨b1, o1, f, rfl, hcell, hv⟩ := HR.out.at_ hlt
      have hsz := hs _ (List.getElem_mem hlt)
      obtain ⟨⟨x1, x2⟩, hx⟩ : ∃ x, x = l[k] := ⟨_, rfl⟩
      rw [← hx] at hv hsz
      have hf0 : f 0 = .string x1 := hv.1
      have hf1 : f 1 = .string x2 := hv.2
      replace hsz : x1.size ≤ 2147483647 ∧ x2.size ≤ 2147483647 := hsz
      have hd0 := HE.out.cell (hcell 0 (by omega))
      rw [hf0, Nat.add_zero] at hd0
      have hd1 := HE.out.cell (hcell 1 (by omega))
      rw [hf1] at hd1
      have HX := Lib.hid hx
      clear hx hcell hf0 hf1 hv
      have HE0 := HE
      replace HE := Lib.hid (HE0.out.alloc (.cells #[.string x1, .string x2] 48))
      have Hp1 : ∀ (q : Bool), plainQ x1 = q → ∀ w, Calls Tryz.prog 27 #[.string x1] w (fun e w' => e = .returned (.bool q) ∧ w' = w) := fun q hq w => by rw [← hq]; exact plain27 x1 hsz.1 w
      have Hp2 : ∀ (q : Bool), plainQ x2 = q → ∀ w, Calls Tryz.prog 27 #[.string x2] w (fun e w' => e = .returned (.bool q) ∧ w' = w) := fun q hq w => by rw [← hq]; exact plain27 x2 hsz.2 w
      cases hp1 : plainQ x1
      · go_wp2
        go_quiet (first | (go_at_call_of 27 x1; exact Calls.quiet_of_same (Hp1 _ hp1 _)) | (go_at_call_of 27 x2; exact Calls.quiet_of_same (Hp2 _ hp2 _)))
        go_wp2
        go_ret
        exact ⟨_, rfl, fun h => by (cases h; done), (HE.out.drewN nq)⟩
      cases hp2 : plainQ x2
      · go_wp2
        go_quiet (first | (go_at_call_of 27 x1; exact Calls.quiet_of_same (Hp1 _ hp1 _)) | (go_at_call_of 27 x2; exact Calls.quiet_of_same (Hp2 _ hp2 _)))
        go_wp2
        go_ret
        exact ⟨_, rfl, fun h => by (cases h; done), (HE.out.drewN nq)⟩
      cases e3 : x1.toList.isEmpty
      case true =>
        go_wp2
        go_quiet (first | (go_at_call_of 27 x1; exact Calls.quiet_of_same (Hp1 _ hp1 _)) | (go_at_call_of 27 x2; exact Calls.quiet_of_same (Hp2 _ hp2 _)))
        go_wp2
        go_ret
        exact ⟨_, rfl, fun h => by (cases h; done), (HE.out.drewN nq)⟩
      by_cases h6 : k = 0
      · have h6' : decide ((0 : Int) < (k : Int)) = false := decide_eq_false (by omega)
        have h6'' : decide (0 < k) = false := decide_eq_false (by omega)
        have hk0 : Hid (k = 0) := Lib.hid h6
        clear h6
        go_wp2
        go_quiet (first | (go_at_call_of 27 x1; exact Calls.quiet_of_same (Hp1 _ hp1 _)) | (go_at_call_of 27 x2; exact Calls.quiet_of_same (Hp2 _ hp2 _)))
        go_wp2
        go_roundw
        case rel =>
          refine ⟨k + 1, by omega, by go_num, Lib.hid (HE.out.drewN nq), Lib.hid ⟨all_take l k hlt HY.out.1 ?_, ?_⟩⟩
          · rw [← HX.out]
            exact prO_of hsz hp1 hp2 e3 trivial trivial
          · intro j hj hjk
            have := hk0.out
            omega
        case measure => simp only [intOf]; omega
      · obtain ⟨m, rfl⟩ : ∃ m, k = m + 1 := ⟨k - 1, by omega⟩
        obtain ⟨b2, o2, g, hbo, hcell2, hv2⟩ := HR.out.at_ (show m < l.length by omega)
        obtain ⟨rfl, rfl⟩ : b1 = b2 ∧ o1 = o2 := by simpa using hbo
        obtain ⟨⟨y1, y2⟩, hy⟩ : ∃ y, y = l[m] := ⟨_, rfl⟩
        rw [← hy] at hv2
        have hg0 : g 0 = .string y1 := hv2.1
        have hd2 := HE.out.cell (hcell2 0 (by omega))
        rw [hg0, Nat.add_zero] at hd2
        have HYY := Lib.hid hy
        clear hy hcell2 hv2 hg0 hbo
        have h6' : (0 : Int) < ((m + 1 : Nat) : Int) := by omega
        cases e7 : Op.bytesLess y1.toList x1.toList
        · go_wp2
          go_quiet (first | (go_at_call_of 27 x1; exact Calls.quiet_of_same (Hp1 _ hp1 _)) | (go_at_call_of 27 x2; exact Calls.quiet_of_same (Hp2 _ hp2 _)))
          go_wp2
          go_ret
          exact ⟨_, rfl, fun h => by (cases h; done), (HE.out.drewN nq)⟩
        go_wp2
        go_quiet (first | (go_at_call_of 27 x1; exact Calls.quiet_of_same (Hp1 _ hp1 _)) | (go_at_call_of 27 x2; exact Calls.quiet_of_same (Hp2 _ hp2 _)))
        go_wp2
        go_roundw
        case rel =>
          refine ⟨m + 1 + 1, by omega, by go_num, Lib.hid (HE.out.drewN nq), Lib.hid ⟨all_take l (m + 1) hlt HY.out.1 ?_, ?_⟩⟩
          · rw [← HX.out]
            exact prO_of hsz hp1 hp2 e3 trivial trivial
          · intro j hj hjk
            by_cases hjm : j = m
            · subst hjm
              have h1 := HX.out
              have h2 := HYY.out
              rw [← h1, ← h2]
              exact e7
            · exact HY.out.2 j hj (by omega)
        case measure => simp only [intOf]; omega
    · obtain rfl : k = l.length := by omega
      go_wp2
      go_ret
      exact ⟨_, rfl, fun h => ⟨by simp at h; omega, by have := HY.out.1; rwa [List.take_length] at this, fun j h => HY.out.2 j h h⟩, HE.out⟩
set_option maxRecDepth 100000 in
set_option maxHeartbeats 1000000 in
theorem pairsS (l : List (ByteArray × ByteArray)) (A_l : Option Addr) (c_l : Nat) (w : World) (hr : RdM 2 isPr w (.slice A_l l.length c_l) l) (hl : l.length ≤ 2147483647) (hs : ∀ y ∈ l, y.1.size ≤ 2147483647 ∧ y.2.size ≤ 2147483647) : Calls Tryz.prog 31 #[.slice A_l l.length c_l, .bool true, .bool false] w (Said w (pairsP true false l)) := by
  have HR := Lib.hid hr
  clear hr
  go_enter Tryz.func31, Tryz.ntmps31
  go_wp2
  go_loopw [11] (fun i wr => ∃ k : Nat, k ≤ l.length ∧ i = .int .i64 k ∧ Hid (Ext w wr) ∧ Hid ((∀ y ∈ l.take k, prO true false y) ∧ (∀ j (h : j + 1 < l.length), j + 1 < k → Op.bytesLess l[j].1.toList l[j + 1].1.toList = true))) (fun i _ => l.length - (intOf i).toNat)
  case atStart => exact ⟨0, Nat.zero_le _, rfl, Lib.hid (Ext.refl _), Lib.hid ⟨by simp, fun _ _ h => absurd h (Nat.not_lt_zero _)⟩⟩
  case round =>
    obtain ⟨k, hk1, rfl, HE, HY⟩ := hrel
    by_cases hlt : k < l.length
    · obtain ⟨b1, o1, f, rfl, hcell, hv⟩ := HR.out.at_ hlt
      have hsz := hs _ (List.getElem_mem hlt)
      obtain ⟨⟨x1, x2⟩, hx⟩ : ∃ x, x = l[k] := ⟨_, rfl⟩
      rw [← hx] at hv hsz
      have hf0 : f 0 = .string x1 := hv.1
      have hf1 : f 1 = .string x2 := hv.2
      replace hsz : x1.size ≤ 2147483647 ∧ x2.size ≤ 2147483647 := hsz
      have hd0 := HE.out.cell (hcell 0 (by omega))
      rw [hf0, Nat.add_zero] at hd0
      have hd1 := HE.out.cell (hcell 1 (by omega))
      rw [hf1] at hd1
      have HX := Lib.hid hx
      clear hx hcell hf0 hf1 hv
      have HE0 := HE
      replace HE := Lib.hid (HE0.out.alloc (.cells #[.string x1, .string x2] 48))
      have Hp1 : ∀ (q : Bool), plainQ x1 = q → ∀ w, Calls Tryz.prog 27 #[.string x1] w (fun e w' => e = .returned (.bool q) ∧ w' = w) := fun q hq w => by rw [← hq]; exact plain27 x1 hsz.1 w
      have Hp2 : ∀ (q : Bool), plainQ x2 = q → ∀ w, Calls Tryz.prog 27 #[.string x2] w (fun e w' => e = .returned (.bool q) ∧ w' = w) := fun q hq w => by rw [← hq]; exact plain27 x2 hsz.2 w
      cases hp1 : plainQ x1
      · go_wp2
        go_quiet (first | (go_at_call_of 27 x1; exact Calls.quiet_of_same (Hp1 _ hp1 _)) | (go_at_call_of 27 x2; exact Calls.quiet_of_same (Hp2 _ hp2 _)))
        go_wp2
        go_ret
        exact ⟨_, rfl, fun h => by (cases h; done), (HE.out.drewN nq)⟩
      cases hp2 : plainQ x2
      · go_wp2
        go_quiet (first | (go_at_call_of 27 x1; exact Calls.quiet_of_same (Hp1 _ hp1 _)) | (go_at_call_of 27 x2; exact Calls.quiet_of_same (Hp2 _ hp2 _)))
        go_wp2
        go_ret
        exact ⟨_, rfl, fun h => by (cases h; done), (HE.out.drewN nq)⟩
      cases e3 : x1.toList.isEmpty
      case true =>
        go_wp2
        go_quiet (first | (go_at_call_of 27 x1; exact Calls.quiet_of_same (Hp1 _ hp1 _)) | (go_at_call_of 27 x2; exact Calls.quiet_of_same (Hp2 _ hp2 _)))
        go_wp2
        go_ret
        exact ⟨_, rfl, fun h => by (cases h; done), (HE.out.drewN nq)⟩
      cases e4 : ((x1.size : Int) != 1)
      case true =>
        go_wp2
        go_quiet (first | (go_at_call_of 27 x1; exact Calls.quiet_of_same (Hp1 _ hp1 _)) | (go_at_call_of 27 x2; exact Calls.quiet_of_same (Hp2 _ hp2 _)))
        go_wp2
        go_ret
        exact ⟨_, rfl, fun h => by (cases h; done), (HE.out.drewN nq)⟩
      cases e5 : x2.toList.isEmpty
      case true =>
        go_wp2
        go_quiet (first | (go_at_call_of 27 x1; exact Calls.quiet_of_same (Hp1 _ hp1 _)) | (go_at_call_of 27 x2; exact Calls.quiet_of_same (Hp2 _ hp2 _)))
        go_wp2
        go_ret
        exact ⟨_, rfl, fun h => by (cases h; done), (HE.out.drewN nq)⟩
      by_cases h6 : k = 0
      · have h6' : decide ((0 : Int) < (k : Int)) = false := decide_eq_false (by omega)
        have h6'' : decide (0 < k) = false := decide_eq_false (by omega)
        have hk0 : Hid (k = 0) := Lib.hid h6
        clear h6
        go_wp2
        go_quiet (first | (go_at_call_of 27 x1; exact Calls.quiet_of_same (Hp1 _ hp1 _)) | (go_at_call_of 27 x2; exact Calls.quiet_of_same (Hp2 _ hp2 _)))
        go_wp2
        go_roundw
        case rel =>
          refine ⟨k + 1, by omega, by go_num, Lib.hid (HE.out.drewN nq), Lib.hid ⟨all_take l k hlt HY.out.1 ?_, ?_⟩⟩
          · rw [← HX.out]
            exact prO_of hsz hp1 hp2 e3 e4 e5
          · intro j hj hjk
            have := hk0.out
            omega
        case measure => simp only [intOf]; omega
      · obtain ⟨m, rfl⟩ : ∃ m, k = m + 1 := ⟨k - 1, by omega⟩
        obtain ⟨b2, o2, g, hbo, hcell2, hv2⟩ := HR.out.at_ (show m < l.length by omega)
        obtain ⟨rfl, rfl⟩ : b1 = b2 ∧ o1 = o2 := by simpa using hbo
        obtain ⟨⟨y1, y2⟩, hy⟩ : ∃ y, y = l[m] := ⟨_, rfl⟩
        rw [← hy] at hv2
        have hg0 : g 0 = .string y1 := hv2.1
        have hd2 := HE.out.cell (hcell2 0 (by omega))
        rw [hg0, Nat.add_zero] at hd2
        have HYY := Lib.hid hy
        clear hy hcell2 hv2 hg0 hbo
        have h6' : (0 : Int) < ((m + 1 : Nat) : Int) := by omega
        cases e7 : Op.bytesLess y1.toList x1.toList
        · go_wp2
          go_quiet (first | (go_at_call_of 27 x1; exact Calls.quiet_of_same (Hp1 _ hp1 _)) | (go_at_call_of 27 x2; exact Calls.quiet_of_same (Hp2 _ hp2 _)))
          go_wp2
          go_ret
          exact ⟨_, rfl, fun h => by (cases h; done), (HE.out.drewN nq)⟩
        go_wp2
        go_quiet (first | (go_at_call_of 27 x1; exact Calls.quiet_of_same (Hp1 _ hp1 _)) | (go_at_call_of 27 x2; exact Calls.quiet_of_same (Hp2 _ hp2 _)))
        go_wp2
        go_roundw
        case rel =>
          refine ⟨m + 1 + 1, by omega, by go_num, Lib.hid (HE.out.drewN nq), Lib.hid ⟨all_take l (m + 1) hlt HY.out.1 ?_, ?_⟩⟩
          · rw [← HX.out]
            exact prO_of hsz hp1 hp2 e3 e4 e5
          · intro j hj hjk
            by_cases hjm : j = m
            · subst hjm
              have h1 := HX.out
              have h2 := HYY.out
              rw [← h1, ← h2]
              exact e7
            · exact HY.out.2 j hj (by omega)
        case measure => simp only [intOf]; omega
    · obtain rfl : k = l.length := by omega
      go_wp2
      go_ret
      exact ⟨_, rfl, fun h => ⟨by simp at h; omega, by have := HY.out.1; rwa [List.take_length] at this, fun j h => HY.out.2 j h h⟩, HE.out⟩
end Go.Proofs.YtdenjanihikolaaGreatDoor

namespace Go.Proofs.YtdenjanihikolaaGreatDoor
open Go.RowKit
set_option linter.unusedVariables false
set_option linter.unusedSimpArgs false
/-- One letter of a field of an error. -/
def letP (x : ByteArray) : Prop := ∃ j, j < 18 ∧ x.toList = ((⟨#[83, 86, 67, 77, 68, 72, 80, 112, 113, 87, 115, 116, 99, 100, 110, 70, 76, 82]⟩ : ByteArray).extract j (j + 1)).toList
/-- One field of an error that is proper. -/
def fldP (y : ByteArray × ByteArray) : Prop := letP y.1 ∧ (y.1.toList = [80] ∨ y.1.toList = [112] ∨ y.1.toList = [76] → digP y.2)
set_option maxRecDepth 100000 in
set_option maxHeartbeats 1000000 in
theorem fields32 (l : List (ByteArray × ByteArray)) (A_l : Option Addr) (c_l : Nat) (w : World) (hr : RdM 2 isPr w (.slice A_l l.length c_l) l) (hl : l.length ≤ 2147483647) (hs : ∀ y ∈ l, y.1.size ≤ 2147483647 ∧ y.2.size ≤ 2147483647) : Calls Tryz.prog 32 #[.slice A_l l.length c_l] w (Said w ((∀ y ∈ l, fldP y) ∧ pairsP true false l)) := by
  have HR := Lib.hid hr
  clear hr
  go_enter Tryz.func32, Tryz.ntmps32
  go_wp2
  go_loopw [9] (fun i wr => ∃ k : Nat, k ≤ l.length ∧ i = .int .i64 k ∧ Hid (Ext w wr) ∧ Hid (∀ y ∈ l.take k, fldP y)) (fun i _ => l.length - (intOf i).toNat)
  case atStart => exact ⟨0, Nat.zero_le _, rfl, Lib.hid (Ext.refl _), Lib.hid (by simp)⟩
  case round =>
    obtain ⟨k, hk1, rfl, HE, HY⟩ := hrel
    by_cases hlt : k < l.length
    · obtain ⟨b1, o1, f, rfl, hcell, hv⟩ := HR.out.at_ hlt
      have hsz := hs _ (List.getElem_mem hlt)
      obtain ⟨⟨x1, x2⟩, hx⟩ : ∃ x, x = l[k] := ⟨_, rfl⟩
      rw [← hx] at hv hsz
      have hf0 : f 0 = .string x1 := hv.1
      have hf1 : f 1 = .string x2 := hv.2
      replace hsz : x1.size ≤ 2147483647 ∧ x2.size ≤ 2147483647 := hsz
      have hd0 := HE.out.cell (hcell 0 (by omega))
      rw [hf0, Nat.add_zero] at hd0
      have hd1 := HE.out.cell (hcell 1 (by omega))
      rw [hf1] at hd1
      have HX := Lib.hid hx
      clear hx hcell hf0 hf1 hv
      go_wp2
      go_loopw [5, 13] (fun b i wi => ∃ q : Bool, ∃ j : Nat, j ≤ 18 ∧ b = .bool q ∧ i = .int .i64 j ∧ Hid (Ext (wr.alloc (.cells #[.string x1, .string x2] 48)) wi) ∧ Hid (q = true → letP x1)) (fun _ i _ => 18 - (intOf i).toNat)
      case atStart => exact ⟨false, 0, by omega, rfl, rfl, Lib.hid (Ext.refl _), Lib.hid (fun h => by cases h)⟩
      case round =>
        obtain ⟨q, j, hj, rfl, rfl, HI, HQ⟩ := hrel
        have hc0 := box_at HI.out 0 (.string x1) rfl
        have hc1 := box_at HI.out 1 (.string x2) rfl
        by_cases hj18 : j < 18
        · cases q
          · go_wp2
            go_quiet (fail)
            go_wp2
            go_roundw
            case rel => exact ⟨_, j + 1, by omega, rfl, by go_num, Lib.hid (HI.out.drewN nq), Lib.hid (fun h => ⟨j, hj18, by simpa using h⟩)⟩
            case measure => simp only [intOf]; omega
          · go_wp2
            go_quiet (fail)
            go_wp2
            go_roundw
            case rel => exact ⟨true, j + 1, by omega, rfl, by go_num, Lib.hid (HI.out.drewN nq), Lib.hid (fun _ => HQ.out (by first | trivial | rfl))⟩
            case measure => simp only [intOf]; omega
        · obtain rfl : j = 18 := by omega
          replace HE := Lib.hid ((HE.out.alloc (.cells #[.string x1, .string x2] 48)).trans HI.out)
          cases q
          · go_wp2
            go_ret
            exact ⟨_, rfl, fun h => by (cases h; done), HE.out⟩
          · have HQ2 := Lib.hid (HQ.out (by first | trivial | rfl))
            by_cases hP : x1.toList = [80] ∨ x1.toList = [112] ∨ x1.toList = [76]
            · have HP := Lib.hid hP
              clear hP
              go_wp2_with (go_at_call 53; refine (digits53 x2 hsz.2 _).mono ?_; rintro e w1 ⟨bo, rfl, hbo, hbx⟩; have HE2 := HE; replace HE := Lib.hid (HE2.out.trans hbx); have HBO := Lib.hid hbo; clear hbo hbx; cases bo)
              all_goals first
                | (go_ret; exact ⟨_, rfl, fun h => by (cases h; done), HE.out⟩)
                | (go_roundw
                   case rel =>
                     refine ⟨k + 1, by omega, by go_num, HE, Lib.hid (all_take l k hlt HY.out ?_)⟩
                     rw [← HX.out]
                     first | exact ⟨HQ2.out, fun _ => HBO.out (by first | trivial | rfl)⟩ | (exfalso; have := HP.out; simp_all; done)
                   case measure => simp only [intOf]; omega)
            · have h1 : (x1.toList == [80]) = false := beq_eq_false_iff_ne.2 fun h => hP (.inl h)
              have h2 : (x1.toList == [112]) = false := beq_eq_false_iff_ne.2 fun h => hP (.inr (.inl h))
              have h3 : (x1.toList == [76]) = false := beq_eq_false_iff_ne.2 fun h => hP (.inr (.inr h))
              have HP := Lib.hid hP
              clear hP
              go_wp2
              go_roundw
              case rel =>
                refine ⟨k + 1, by omega, by go_num, HE, Lib.hid (all_take l k hlt HY.out ?_)⟩
                rw [← HX.out]
                exact ⟨HQ2.out, fun h => absurd h HP.out⟩
              case measure => simp only [intOf]; omega
    · obtain rfl : k = l.length := by omega
      go_wp2_with (go_at_call 31; refine (pairsS l _ _ _ (RdM.ext HR.out HE.out (fun _ _ h => h)) hl hs).mono ?_; rintro e w1 ⟨bo, rfl, hbo, hbx⟩; have HBO := Lib.hid hbo; have HE2 := HE; replace HE := Lib.hid (HE2.out.trans hbx); clear hbo hbx)
      go_ret
      exact ⟨_, rfl, fun h => ⟨by have := HY.out; rwa [List.take_length] at this, HBO.out h⟩, HE.out⟩
end Go.Proofs.YtdenjanihikolaaGreatDoor
