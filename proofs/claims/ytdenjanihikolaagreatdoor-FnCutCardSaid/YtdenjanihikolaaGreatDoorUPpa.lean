/- Whether a message is proper: the helpers, by contract. -/
import Derived.Test.YtdenjanihikolaaGreatDoorUFit
import Derived.WalkLawsBesides
namespace Go.Proofs.YtdenjanihikolaaGreatDoor
open Go.RowKit
set_option linter.unusedVariables false
set_option linter.unusedSimpArgs false

/-- A text without noughts, of at most 200 bytes. -/
def plainP (s : ByteArray) : Prop := s.size ≤ 200 ∧ ∀ k (h : k < s.size), (s[k].toNat : Int) ≠ 0
instance (s : ByteArray) : Decidable (plainP s) := by unfold plainP; infer_instance
def plainQ (s : ByteArray) : Bool := decide (plainP s)
theorem plainQ_of {s : ByteArray} (h : plainQ s = true) : plainP s := of_decide_eq_true h

theorem nz_step {s : ByteArray} {k : Nat} (hk : k < s.size) (h : ∀ j (hj : j < s.size), j < k → (s[j].toNat : Int) ≠ 0) (h0 : (s[k].toNat : Int) ≠ 0) : ∀ j (hj : j < s.size), j < k + 1 → (s[j].toNat : Int) ≠ 0 := by
  intro j hj hjk
  by_cases e : j = k
  · subst e; exact h0
  · exact h j hj (by omega)

theorem plain27 (s : ByteArray) (hs : s.size ≤ 2147483647) (w : World) : Calls Tryz.prog 27 #[.string s] w (fun e w' => e = .returned (.bool (plainQ s)) ∧ w' = w) := by
  go_enter Tryz.func27, Tryz.ntmps27
  go_wp2
  go_loopw [6] (fun i wr => ∃ k : Nat, k ≤ s.size ∧ i = .int .i64 k ∧ wr = w ∧ Hid (∀ j (hj : j < s.size), j < k → (s[j].toNat : Int) ≠ 0)) (fun i _ => s.size - (intOf i).toNat)
  case atStart => exact ⟨0, Nat.zero_le _, rfl, rfl, Lib.hid (fun _ _ h => absurd h (Nat.not_lt_zero _))⟩
  case round =>
    obtain ⟨k, hk1, rfl, rfl, HY⟩ := hrel
    by_cases hlt : k < s.size
    · by_cases hz : (s[k].toNat : Int) = 0
      · have hb : ((s[k].toNat : Int) == 0) = true := by simp [hz]
        go_wp2
        go_ret
        refine ⟨?_, rfl⟩
        have : plainQ s = false := by
          unfold plainQ
          exact decide_eq_false fun h => h.2 k hlt hz
        rw [this]; rfl
      · have hb : ((s[k].toNat : Int) == 0) = false := beq_eq_false_iff_ne.2 hz
        go_wp2
        go_roundw
        case rel => exact ⟨k + 1, by omega, by go_num, by first | rfl | trivial, Lib.hid (nz_step hlt HY.out hz)⟩
        case measure => simp [intOf]; omega
    · obtain rfl : k = s.size := by omega
      go_wp2
      go_ret
      refine ⟨?_, rfl⟩
      have hq : plainQ s = decide ((s.size : Int) ≤ 200) := by
        unfold plainQ
        have h1 : plainP s ↔ (s.size : Int) ≤ 200 := ⟨fun h => by have := h.1; omega, fun h => ⟨by omega, fun j hj => HY.out j hj hj⟩⟩
        by_cases h2 : (s.size : Int) ≤ 200
        · rw [decide_eq_true h2]; exact decide_eq_true (h1.2 h2)
        · rw [decide_eq_false h2]; exact decide_eq_false fun h => h2 (h1.1 h)
      rw [hq]; rfl

/-- A kind that is known. -/
def knownK (k : Int) : Prop := (0 ≤ k ∧ k ≤ 20) ∨ (30 ≤ k ∧ k ≤ 57)
theorem known26 (kd : Int) (w : World) : Calls Tryz.prog 26 #[.int .i64 kd] w (Said w (knownK kd)) := by
  go_enter Tryz.func26, Tryz.ntmps26
  go_wp2
  all_goals (go_ret; refine ⟨_, rfl, ?_, Ext.refl _⟩; unfold knownK; first | (intro h; cases h; done) | (intro h; simp at h; omega) | (intro h; omega))

set_option maxRecDepth 100000 in
set_option maxHeartbeats 400000 in
theorem shorts52 (l : List Int) (A_l : Option Addr) (c_l : Nat) (most : Int) (w : World) (hr : RdI .i64 w (.slice A_l l.length c_l) l) (hl : l.length ≤ 2147483647) : Calls Tryz.prog 52 #[.slice A_l l.length c_l, .int .i64 most] w (Said w (l.length ≤ most ∧ ∀ y ∈ l, -32768 ≤ y ∧ y ≤ 32767)) := by
  have HR := Lib.hid hr
  clear hr
  go_enter Tryz.func52, Tryz.ntmps52
  go_wp2
  go_loopw [9] (fun i wr => ∃ k : Nat, k ≤ l.length ∧ i = .int .i64 k ∧ Hid (Ext w wr) ∧ Hid (∀ y ∈ l.take k, -32768 ≤ y ∧ y ≤ 32767)) (fun i _ => l.length - (intOf i).toNat)
  case atStart => exact ⟨0, Nat.zero_le _, rfl, Lib.hid (Ext.refl _), Lib.hid (by simp)⟩
  case round =>
    obtain ⟨k, hk1, rfl, HE, HY⟩ := hrel
    by_cases hlt : k < l.length
    · obtain ⟨b1, o1, rfl, hcell⟩ := HR.out.at_ hlt
      replace hcell := HE.out.cell hcell
      rw [getD_at hlt] at hcell
      obtain ⟨x, hx⟩ : ∃ x, x = l[k] := ⟨_, rfl⟩
      rw [← hx] at hcell
      have HX := Lib.hid hx
      clear hx
      go_wp2
      all_goals first
        | (go_ret; exact ⟨_, rfl, fun h => by (cases h; done), HE.out⟩)
        | (go_roundw
           case rel =>
             refine ⟨k + 1, by omega, by go_num, HE, Lib.hid (all_take l k hlt HY.out ?_)⟩
             rw [← HX.out]
             omega
           case measure => simp [intOf]; omega)
    · obtain rfl : k = l.length := by omega
      go_wp2
      go_ret
      exact ⟨_, rfl, fun h => ⟨by simp at h; omega, by have := HY.out; rwa [List.take_length] at this⟩, HE.out⟩

set_option maxRecDepth 100000 in
set_option maxHeartbeats 400000 in
theorem formats30 (l : List Int) (A_l : Option Addr) (c_l : Nat) (w : World) (hr : RdI .i64 w (.slice A_l l.length c_l) l) (hl : l.length ≤ 2147483647) : Calls Tryz.prog 30 #[.slice A_l l.length c_l] w (Said w (l.length ≤ 20 ∧ ∀ y ∈ l, (y = 0 ∨ y = 1))) := by
  have HR := Lib.hid hr
  clear hr
  go_enter Tryz.func30, Tryz.ntmps30
  go_wp2
  go_loopw [7] (fun i wr => ∃ k : Nat, k ≤ l.length ∧ i = .int .i64 k ∧ Hid (Ext w wr) ∧ Hid (∀ y ∈ l.take k, (y = 0 ∨ y = 1))) (fun i _ => l.length - (intOf i).toNat)
  case atStart => exact ⟨0, Nat.zero_le _, rfl, Lib.hid (Ext.refl _), Lib.hid (by simp)⟩
  case round =>
    obtain ⟨k, hk1, rfl, HE, HY⟩ := hrel
    by_cases hlt : k < l.length
    · obtain ⟨b1, o1, rfl, hcell⟩ := HR.out.at_ hlt
      replace hcell := HE.out.cell hcell
      rw [getD_at hlt] at hcell
      obtain ⟨x, hx⟩ : ∃ x, x = l[k] := ⟨_, rfl⟩
      rw [← hx] at hcell
      have HX := Lib.hid hx
      clear hx
      go_wp2
      all_goals first
        | (go_ret; exact ⟨_, rfl, fun h => by (cases h; done), HE.out⟩)
        | (go_roundw
           case rel =>
             refine ⟨k + 1, by omega, by go_num, HE, Lib.hid (all_take l k hlt HY.out ?_)⟩
             rw [← HX.out]
             (by_cases e0 : x = 0 <;> by_cases e1 : x = 1 <;> first | exact .inl e0 | exact .inr e1 | (exfalso; simp_all))
           case measure => simp [intOf]; omega)
    · obtain rfl : k = l.length := by omega
      go_wp2_with (go_at_call 52; refine (shorts52 l _ _ 20 _ (RdI.ext HR.out HE.out) hl).mono ?_; rintro e w1 ⟨bo, rfl, hbo, hbx⟩; have HBO := Lib.hid hbo; have HE2 := HE; replace HE := Lib.hid (HE2.out.trans hbx); clear hbo hbx)
      go_ret
      exact ⟨_, rfl, fun h => ⟨by have := (HBO.out h).1; omega, by have := HY.out; rwa [List.take_length] at this⟩, HE.out⟩

set_option maxRecDepth 100000 in
set_option maxHeartbeats 400000 in
theorem values28 (l : List (Bool × List Int)) (A_l : Option Addr) (c_l : Nat) (most : Int) (w : World) (hr : RdM 2 isVal w (.slice A_l l.length c_l) l) (hl : l.length ≤ 2147483647) : Calls Tryz.prog 28 #[.slice A_l l.length c_l, .int .i64 most] w (Said w (l.length ≤ most ∧ ∀ y ∈ l, y.2.length ≤ 200 ∧ (y.1 = true → y.2.length = 0))) := by
  have HR := Lib.hid hr
  clear hr
  go_enter Tryz.func28, Tryz.ntmps28
  go_wp2
  go_loopw [9] (fun i wr => ∃ k : Nat, k ≤ l.length ∧ i = .int .i64 k ∧ Hid (Ext w wr) ∧ Hid (∀ y ∈ l.take k, y.2.length ≤ 200 ∧ (y.1 = true → y.2.length = 0))) (fun i _ => l.length - (intOf i).toNat)
  case atStart => exact ⟨0, Nat.zero_le _, rfl, Lib.hid (Ext.refl _), Lib.hid (by simp)⟩
  case round =>
    obtain ⟨k, hk1, rfl, HE, HY⟩ := hrel
    by_cases hlt : k < l.length
    · obtain ⟨b1, o1, f, rfl, hcell, hv⟩ := HR.out.at_ hlt
      obtain ⟨x, hx⟩ : ∃ x, x = l[k] := ⟨_, rfl⟩
      rw [← hx] at hv
      obtain ⟨hf0, A1, c1, hf1, hrd⟩ := hv
      have hd0 := HE.out.cell (hcell 0 (by omega))
      rw [hf0, Nat.add_zero] at hd0
      have hd1 := HE.out.cell (hcell 1 (by omega))
      rw [hf1] at hd1
      obtain ⟨x1, x2⟩ := x
      have HX := Lib.hid hx
      clear hx hcell hf0 hf1 hrd
      have HE0 := HE
      replace HE := Lib.hid (HE0.out.alloc (.cells #[.bool x1, .slice A1 x2.length c1] 59))
      cases x1 <;> go_wp2
      all_goals first
        | (go_ret; exact ⟨_, rfl, fun h => by (cases h; done), HE.out⟩)
        | (go_roundw
           case rel =>
             refine ⟨k + 1, by omega, by go_num, HE, Lib.hid (all_take l k hlt HY.out ?_)⟩
             rw [← HX.out]
             exact ⟨by simp only []; omega, fun h => by first | (cases h; done) | (simp only []; omega)⟩
           case measure => simp [intOf]; omega)
    · obtain rfl : k = l.length := by omega
      go_wp2
      go_ret
      exact ⟨_, rfl, fun h => ⟨by simp at h; omega, by have := HY.out; rwa [List.take_length] at this⟩, HE.out⟩

set_option maxRecDepth 100000 in
set_option maxHeartbeats 400000 in
theorem columns29 (l : List Sf) (A_l : Option Addr) (c_l : Nat) (w : World) (hr : RdM 7 isSf w (.slice A_l l.length c_l) l) (hl : l.length ≤ 2147483647) (hnm : ∀ y ∈ l, y.name.size ≤ 2147483647) : Calls Tryz.prog 29 #[.slice A_l l.length c_l] w (Said w (l.length ≤ 20 ∧ ∀ y ∈ l, plainP y.name ∧ 0 ≤ y.col ∧ y.col ≤ 32767 ∧ -32768 ≤ y.siz ∧ y.siz ≤ 32767 ∧ -2147483648 ≤ y.mdf ∧ y.mdf < 2147483648 ∧ 0 ≤ y.fmt ∧ y.fmt ≤ 1)) := by
  have HR := Lib.hid hr
  clear hr
  go_enter Tryz.func29, Tryz.ntmps29
  go_wp2
  go_loopw [7] (fun i wr => ∃ k : Nat, k ≤ l.length ∧ i = .int .i64 k ∧ Hid (Ext w wr) ∧ Hid (∀ y ∈ l.take k, plainP y.name ∧ 0 ≤ y.col ∧ y.col ≤ 32767 ∧ -32768 ≤ y.siz ∧ y.siz ≤ 32767 ∧ -2147483648 ≤ y.mdf ∧ y.mdf < 2147483648 ∧ 0 ≤ y.fmt ∧ y.fmt ≤ 1)) (fun i _ => l.length - (intOf i).toNat)
  case atStart => exact ⟨0, Nat.zero_le _, rfl, Lib.hid (Ext.refl _), Lib.hid (by simp)⟩
  case round =>
    obtain ⟨k, hk1, rfl, HE, HY⟩ := hrel
    by_cases hlt : k < l.length
    · obtain ⟨b1, o1, f, rfl, hcell, hv⟩ := HR.out.at_ hlt
      have hsz := hnm _ (List.getElem_mem hlt)
      obtain ⟨x, hx⟩ : ∃ x, x = l[k] := ⟨_, rfl⟩
      rw [← hx] at hv hsz
      obtain ⟨hf0, hf1, hf2, hf3, hf4, hf5, hf6⟩ := hv
      have hd0 := HE.out.cell (hcell 0 (by omega))
      rw [hf0, Nat.add_zero] at hd0
      have hd1 := HE.out.cell (hcell 1 (by omega))
      rw [hf1] at hd1
      have hd2 := HE.out.cell (hcell 2 (by omega))
      rw [hf2] at hd2
      have hd3 := HE.out.cell (hcell 3 (by omega))
      rw [hf3] at hd3
      have hd4 := HE.out.cell (hcell 4 (by omega))
      rw [hf4] at hd4
      have hd5 := HE.out.cell (hcell 5 (by omega))
      rw [hf5] at hd5
      have hd6 := HE.out.cell (hcell 6 (by omega))
      rw [hf6] at hd6
      have HX := Lib.hid hx
      clear hx hcell hf0 hf1 hf2 hf3 hf4 hf5 hf6
      have HE0 := HE
      replace HE := Lib.hid (HE0.out.alloc (.cells #[.string x.name, .int .u32 x.tab, .int .i64 x.col, .int .u32 x.typ, .int .i64 x.siz, .int .i64 x.mdf, .int .i64 x.fmt] 63))
      cases hq : plainQ x.name
      all_goals go_wp2_with (go_at_call 27; refine (plain27 x.name hsz _).mono ?_; rintro e w1 ⟨rfl, rfl⟩; rw [hq])
      all_goals first
        | (go_ret; exact ⟨_, rfl, fun h => by (cases h; done), HE.out⟩)
        | (go_roundw
           case rel =>
             refine ⟨k + 1, by omega, by go_num, HE, Lib.hid (all_take l k hlt HY.out ?_)⟩
             rw [← HX.out]
             exact ⟨plainQ_of hq, by omega, by omega, by omega, by omega, by omega, by omega, by omega, by omega⟩
           case measure => simp [intOf]; omega)
    · obtain rfl : k = l.length := by omega
      go_wp2
      go_ret
      exact ⟨_, rfl, fun h => ⟨by simp at h; omega, by have := HY.out; rwa [List.take_length] at this⟩, HE.out⟩

end Go.Proofs.YtdenjanihikolaaGreatDoor

