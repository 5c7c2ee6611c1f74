/- Whether a message is proper: numbers and pairs, by contract. -/
import Derived.Test.YtdenjanihikolaaGreatDoorUPpa
import Derived.Deep.QuietTactic
import Derived.BigQuiet
import Derived.Deep.RegionWith
namespace Go.Proofs.YtdenjanihikolaaGreatDoor
open Go.RowKit
set_option linter.unusedVariables false
set_option linter.unusedSimpArgs false

theorem Ext.drewN {w w' : World} (h : Ext w w') (n : Nat) : Ext w (w'.drewN n) := ⟨h.os, h.tape, h.output, h.size, h.block⟩

/-- One pair that is proper. -/
def prO (single empty : Bool) (y : ByteArray × ByteArray) : Prop := plainP y.1 ∧ plainP y.2 ∧ y.1.size ≠ 0 ∧ (single = true → y.1.size = 1) ∧ (empty = false → y.2.size ≠ 0)
/-- Pairs that are proper. -/
def pairsP (single empty : Bool) (l : List (ByteArray × ByteArray)) : Prop := l.length ≤ 20 ∧ (∀ y ∈ l, prO single empty y) ∧ ∀ j (h : j + 1 < l.length), Op.bytesLess l[j].1.toList l[j + 1].1.toList = true
theorem size_ne {x : ByteArray} (h : x.toList.isEmpty = false) : x.size ≠ 0 := by
  intro h0
  have : x = ⟨#[]⟩ := by
    cases x with
    | mk d =>
      have : d.size = 0 := h0
      rw [Array.eq_empty_of_size_eq_zero this]
  subst this
  rw [ByteArray.toList_eq] at h
  exact absurd h (by decide)
theorem prO_of {single empty : Bool} {x1 x2 : ByteArray} (hsz : x1.size ≤ 2147483647 ∧ x2.size ≤ 2147483647) (hp1 : plainQ x1 = true) (hp2 : plainQ x2 = true) (e3 : x1.toList.isEmpty = false) (e4 : if single then ((x1.size : Int) != 1) = false else True) (e5 : if empty then True else x2.toList.isEmpty = false) : prO single empty (x1, x2) := by
  refine ⟨plainQ_of hp1, plainQ_of hp2, size_ne e3, ?_, ?_⟩
  · intro hs
    subst hs
    simp at e4
    show x1.size = 1
    omega
  · intro hs
    subst hs
    simp only [Bool.false_eq_true, if_false] at e5
    exact size_ne e5

/-- A number of at most nine digits. -/
def digP (s : ByteArray) : Prop := s.size ≠ 0 ∧ s.size ≤ 9 ∧ (∀ k (h : k < s.size), 48 ≤ (s[k].toNat : Int) ∧ (s[k].toNat : Int) ≤ 57) ∧ ∀ h : 0 < s.size, (s[0].toNat : Int) ≠ 48
theorem dg_step {s : ByteArray} {k : Nat} (hk : k < s.size) (h : ∀ j (hj : j < s.size), j < k → 48 ≤ (s[j].toNat : Int) ∧ (s[j].toNat : Int) ≤ 57) (h0 : 48 ≤ (s[k].toNat : Int) ∧ (s[k].toNat : Int) ≤ 57) : ∀ j (hj : j < s.size), j < k + 1 → 48 ≤ (s[j].toNat : Int) ∧ (s[j].toNat : Int) ≤ 57 := by
  intro j hj hjk
  by_cases e : j = k
  · subst e; exact h0
  · exact h j hj (by omega)
set_option maxRecDepth 100000 in
theorem digits53 (s : ByteArray) (hs : s.size ≤ 2147483647) (w : World) : Calls Tryz.prog 53 #[.string s] w (Said w (digP s)) := by
  go_enter Tryz.func53, Tryz.ntmps53
  go_wp2
  go_loopw [6] (fun i wr => ∃ k : Nat, k ≤ s.size ∧ i = .int .i64 k ∧ wr = w ∧ Hid (∀ j (hj : j < s.size), j < k → 48 ≤ (s[j].toNat : Int) ∧ (s[j].toNat : Int) ≤ 57)) (fun i _ => s.size - (intOf i).toNat)
  case atStart => exact ⟨0, Nat.zero_le _, rfl, rfl, Lib.hid (fun _ _ h => absurd h (Nat.not_lt_zero _))⟩
  case round =>
    obtain ⟨k, hk1, rfl, rfl, HY⟩ := hrel
    by_cases hlt : k < s.size
    · go_wp2
      all_goals first
        | (go_ret; exact ⟨_, rfl, fun h => by (cases h; done), Ext.refl _⟩)
        | (go_roundw
           case rel => exact ⟨k + 1, by omega, by go_num, by first | rfl | trivial, Lib.hid (dg_step hlt HY.out (by constructor <;> omega))⟩
           case measure => simp [intOf]; omega)
    · obtain rfl : k = s.size := by omega
      cases e3 : s.toList.isEmpty
      · have hne : s.size ≠ 0 := size_ne e3
        have hpos : (0 : Int) < (s.size : Int) := by omega
        have hpos' : 0 < s.size := by omega
        by_cases h9 : (s.size : Int) ≤ 9
        · have h9' : decide ((s.size : Int) ≤ 9) = true := decide_eq_true h9
          cases e4 : ((s[0].toNat : Int) != 48)
          all_goals go_wp2
          all_goals go_ret
          · exact ⟨_, rfl, fun h => by (cases h; done), Ext.refl _⟩
          · exact ⟨_, rfl, fun h => ⟨hne, by omega, fun j hj => HY.out j hj hj, fun _ => by simpa using e4⟩, Ext.refl _⟩
        · have h9' : decide ((s.size : Int) ≤ 9) = false := decide_eq_false h9
          go_wp2
          all_goals (go_ret; exact ⟨_, rfl, fun h => by (cases h; done), Ext.refl _⟩)
      · go_wp2
        all_goals (go_ret; exact ⟨_, rfl, fun h => by (cases h; done), Ext.refl _⟩)

set_option maxRecDepth 100000 in
set_option maxHeartbeats 1000000 in
theorem pairsM (l : List (ByteArray × ByteArray)) (A_l : Option Addr) (c_l : Nat) (w : World) (hr : RdM 2 isPr w (.slice A_l l.length c_l) l) (hl : l.length ≤ 2147483647) (hs : ∀ y ∈ l, y.1.size ≤ 2147483647 ∧ y.2.size ≤ 2147483647) : Calls Tryz.prog 31 #[.slice A_l l.length c_l, .bool false, .bool true] w (Said w (pairsP false true l)) := by
  have HR := Lib.hid hr
  clear hr
  go_enter Tryz.func31, Tryz.ntmps31
  go_wp2
  go_loopw [11] (fun i wr => ∃ k : Nat, k ≤ l.length ∧ i = .int .i64 k ∧ Hid (Ext w wr) ∧ Hid ((∀ y ∈ l.take k, prO false true y) ∧ (∀ j (h : j + 1 < l.length), j + 1 < k → Op.bytesLess l[j].1.toList l[j + 1].1.toList = true))) (fun i _ => l.length - (intOf i).toNat)
  case atStart => exact ⟨0, Nat.zero_le _, rfl, Lib.hid (Ext.refl _), Lib.hid ⟨by simp, fun _ _ h => absurd h (Nat.not_lt_zero _)⟩⟩
  case round =>
    obtain ⟨k, hk1, rfl, HE, HY⟩ := hrel
    by_cases hlt : k < l.length
    · obtain ⟨b1, o1, f, rfl, hcell, hv⟩ := HR.out.at_ hlt
      have hsz := hs _ (List.getElem_mem hlt)
      obtain ⟨⟨x1, x2⟩, hx⟩ : ∃ x, x = l[k] := ⟨_, rfl⟩
      rw [← hx] at hv hsz
      have hf0 : f 0 = .string x1 := hv.1
      have hf1 : f 1 = .string x2 := hv.2
      replace hsz : x1.size ≤ 2147483647 ∧ x2.size ≤ 2147483647 := hsz
      have hd0 := HE.out.cell (hcell 0 (by omega))
      rw [hf0, Nat.add_zero] at hd0
      have hd1 := HE.out.cell (hcell 1 (by omega))
      rw [hf1] at hd1
      have HX := Lib.hid hx
      clear hx hcell hf0 hf1 hv
      have HE0 := HE
      replace HE := Lib.hid (HE0.out.alloc (.cells #[.string x1, .string x2] 48))
      have Hp1 : ∀ (q : Bool), plainQ x1 = q → ∀ w, Calls Tryz.prog 27 #[.string x1] w (fun e w' => e = .returned (.bool q) ∧ w' = w) := fun q hq w => by rw [← hq]; exact plain27 x1 hsz.1 w
      have Hp2 : ∀ (q : Bool), plainQ x2 = q → ∀ w, Calls Tryz.prog 27 #[.string x2] w (fun e w' => e = .returned (.bool q) ∧ w' = w) := fun q hq w => by rw [← hq]; exact plain27 x2 hsz.2 w
      cases hp1 : plainQ x1
      · go_wp2
        go_quiet (first | (go_at_call_of 27 x1; exact Calls.quiet_of_same (Hp1 _ hp1 _)) | (go_at_call_of 27 x2; exact Calls.quiet_of_same (Hp2 _ hp2 _)))
        go_wp2
        go_ret
        exact ⟨_, rfl, fun h => by (cases h; done), (HE.out.drewN nq)⟩
      cases hp2 : plainQ x2
      · go_wp2
        go_quiet (first | (go_at_call_of 27 x1; exact Calls.quiet_of_same (Hp1 _ hp1 _)) | (go_at_call_of 27 x2; exact Calls.quiet_of_same (Hp2 _ hp2 _)))
        go_wp2
        go_ret
        exact ⟨_, rfl, fun h => by (cases h; done), (HE.out.drewN nq)⟩
      cases e3 : x1.toList.isEmpty
      case true =>
        go_wp2
        go_quiet (first | (go_at_call_of 27 x1; exact Calls.quiet_of_same (Hp1 _ hp1 _)) | (go_at_call_of 27 x2; exact Calls.quiet_of_same (Hp2 _ hp2 _)))
        go_wp2
        go_ret
        exact ⟨_, rfl, fun h => by (cases h; done), (HE.out.drewN nq)⟩
      by_cases h6 : k = 0
      · have h6' : decide ((0 : Int) < (k : Int)) = false := decide_eq_false (by omega)
        have h6'' : decide (0 < k) = false := decide_eq_false (by omega)
        have hk0 : Hid (k = 0) := Lib.hid h6
        clear h6
        go_wp2
        go_quiet (first | (go_at_call_of 27 x1; exact Calls.quiet_of_same (Hp1 _ hp1 _)) | (go_at_call_of 27 x2; exact Calls.quiet_of_same (Hp2 _ hp2 _)))
        go_wp2
        go_roundw
        case rel =>
          refine ⟨k + 1, by omega, by go_num, Lib.hid (HE.out.drewN nq), Lib.hid ⟨all_take l k hlt HY.out.1 ?_, ?_⟩⟩
          · rw [← HX.out]
            exact prO_of hsz hp1 hp2 e3 trivial trivial
          · intro j hj hjk
            have := hk0.out
            omega
        case measure => simp only [intOf]; omega
      · obtain ⟨m, rfl⟩ : ∃ m, k = m + 1 := ⟨k - 1, by omega⟩
        obtain ⟨b2, o2, g, hbo, hcell2, hv2⟩ := HR.out.at_ (show m < l.length by omega)
        obtain ⟨rfl, rfl⟩ : b1 = b2 ∧ o1 = o2 := by simpa using hbo
        obtain ⟨⟨y1, y2⟩, hy⟩ : ∃ y, y = l[m] := ⟨_, rfl⟩
        rw [← hy] at hv2
        have hg0 : g 0 = .string y1 := hv2.1
        have hd2 := HE.out.cell (hcell2 0 (by omega))
        rw [hg0, Nat.add_zero] at hd2
        have HYY := Lib.hid hy
        clear hy hcell2 hv2 hg0 hbo
        have h6' : (0 : Int) < ((m + 1 : Nat) : Int) := by omega
        cases e7 : Op.bytesLess y1.toList x1.toList
        · go_wp2
          go_quiet (first | (go_at_call_of 27 x1; exact Calls.quiet_of_same (Hp1 _ hp1 _)) | (go_at_call_of 27 x2; exact Calls.quiet_of_same (Hp2 _ hp2 _)))
          go_wp2
          go_ret
          exact ⟨_, rfl, fun h => by (cases h; done), (HE.out.drewN nq)⟩
        go_wp2
        go_quiet (first | (go_at_call_of 27 x1; exact Calls.quiet_of_same (Hp1 _ hp1 _)) | (go_at_call_of 27 x2; exact Calls.quiet_of_same (Hp2 _ hp2 _)))
        go_wp2
        go_roundw
        case rel =>
          refine ⟨m + 1 + 1, by omega, by go_num, Lib.hid (HE.out.drewN nq), Lib.hid ⟨all_take l (m + 1) hlt HY.out.1 ?_, ?_⟩⟩
          · rw [← HX.out]
            exact prO_of hsz hp1 hp2 e3 trivial trivial
          · intro j hj hjk
            by_cases hjm : j = m
            · subst hjm
              have h1 := HX.out
              have h2 := HYY.out
              rw [← h1, ← h2]
              exact e7
            · exact HY.out.2 j hj (by omega)
        case measure => simp only [intOf]; omega
    · obtain rfl : k = l.length := by omega
      go_wp2
      go_ret
      exact ⟨_, rfl, fun h => ⟨by simp at h; omega, by have := HY.out.1; rwa [List.take_length] at this, fun j h => HY.out.2 j h h⟩, HE.out⟩

set_option maxRecDepth 100000 in
set_option maxHeartbeats 1000000 in
theorem pairsS (l : List (ByteArray × ByteArray)) (A_l : Option Addr) (c_l : Nat) (w : World) (hr : RdM 2 isPr w (.slice A_l l.length c_l) l) (hl : l.length ≤ 2147483647) (hs : ∀ y ∈ l, y.1.size ≤ 2147483647 ∧ y.2.size ≤ 2147483647) : Calls Tryz.prog 31 #[.slice A_l l.length c_l, .bool true, .bool false] w (Said w (pairsP true false l)) := by
  have HR := Lib.hid hr
  clear hr
  go_enter Tryz.func31, Tryz.ntmps31
  go_wp2
  go_loopw [11] (fun i wr => ∃ k : Nat, k ≤ l.length ∧ i = .int .i64 k ∧ Hid (Ext w wr) ∧ Hid ((∀ y ∈ l.take k, prO true false y) ∧ (∀ j (h : j + 1 < l.length), j + 1 < k → Op.bytesLess l[j].1.toList l[j + 1].1.toList = true))) (fun i _ => l.length - (intOf i).toNat)
  case atStart => exact ⟨0, Nat.zero_le _, rfl, Lib.hid (Ext.refl _), Lib.hid ⟨by simp, fun _ _ h => absurd h (Nat.not_lt_zero _)⟩⟩
  case round =>
    obtain ⟨k, hk1, rfl, HE, HY⟩ := hrel
    by_cases hlt : k < l.length
    · obtain ⟨b1, o1, f, rfl, hcell, hv⟩ := HR.out.at_ hlt
      have hsz := hs _ (List.getElem_mem hlt)
      obtain ⟨⟨x1, x2⟩, hx⟩ : ∃ x, x = l[k] := ⟨_, rfl⟩
      rw [← hx] at hv hsz
      have hf0 : f 0 = .string x1 := hv.1
      have hf1 : f 1 = .string x2 := hv.2
      replace hsz : x1.size ≤ 2147483647 ∧ x2.size ≤ 2147483647 := hsz
      have hd0 := HE.out.cell (hcell 0 (by omega))
      rw [hf0, Nat.add_zero] at hd0
      have hd1 := HE.out.cell (hcell 1 (by omega))
      rw [hf1] at hd1
      have HX := Lib.hid hx
      clear hx hcell hf0 hf1 hv
      have HE0 := HE
      replace HE := Lib.hid (HE0.out.alloc (.cells #[.string x1, .string x2] 48))
      have Hp1 : ∀ (q : Bool), plainQ x1 = q → ∀ w, Calls Tryz.prog 27 #[.string x1] w (fun e w' => e = .returned (.bool q) ∧ w' = w) := fun q hq w => by rw [← hq]; exact plain27 x1 hsz.1 w
      have Hp2 : ∀ (q : Bool), plainQ x2 = q → ∀ w, Calls Tryz.prog 27 #[.string x2] w (fun e w' => e = .returned (.bool q) ∧ w' = w) := fun q hq w => by rw [← hq]; exact plain27 x2 hsz.2 w
      cases hp1 : plainQ x1
      · go_wp2
        go_quiet (first | (go_at_call_of 27 x1; exact Calls.quiet_of_same (Hp1 _ hp1 _)) | (go_at_call_of 27 x2; exact Calls.quiet_of_same (Hp2 _ hp2 _)))
        go_wp2
        go_ret
        exact ⟨_, rfl, fun h => by (cases h; done), (HE.out.drewN nq)⟩
      cases hp2 : plainQ x2
      · go_wp2
        go_quiet (first | (go_at_call_of 27 x1; exact Calls.quiet_of_same (Hp1 _ hp1 _)) | (go_at_call_of 27 x2; exact Calls.quiet_of_same (Hp2 _ hp2 _)))
        go_wp2
        go_ret
        exact ⟨_, rfl, fun h => by (cases h; done), (HE.out.drewN nq)⟩
      cases e3 : x1.toList.isEmpty
      case true =>
        go_wp2
        go_quiet (first | (go_at_call_of 27 x1; exact Calls.quiet_of_same (Hp1 _ hp1 _)) | (go_at_call_of 27 x2; exact Calls.quiet_of_same (Hp2 _ hp2 _)))
        go_wp2
        go_ret
        exact ⟨_, rfl, fun h => by (cases h; done), (HE.out.drewN nq)⟩
      cases e4 : ((x1.size : Int) != 1)
      case true =>
        go_wp2
        go_quiet (first | (go_at_call_of 27 x1; exact Calls.quiet_of_same (Hp1 _ hp1 _)) | (go_at_call_of 27 x2; exact Calls.quiet_of_same (Hp2 _ hp2 _)))
        go_wp2
        go_ret
        exact ⟨_, rfl, fun h => by (cases h; done), (HE.out.drewN nq)⟩
      cases e5 : x2.toList.isEmpty
      case true =>
        go_wp2
        go_quiet (first | (go_at_call_of 27 x1; exact Calls.quiet_of_same (Hp1 _ hp1 _)) | (go_at_call_of 27 x2; exact Calls.quiet_of_same (Hp2 _ hp2 _)))
        go_wp2
        go_ret
        exact ⟨_, rfl, fun h => by (cases h; done), (HE.out.drewN nq)⟩
      by_cases h6 : k = 0
      · have h6' : decide ((0 : Int) < (k : Int)) = false := decide_eq_false (by omega)
        have h6'' : decide (0 < k) = false := decide_eq_false (by omega)
        have hk0 : Hid (k = 0) := Lib.hid h6
        clear h6
        go_wp2
        go_quiet (first | (go_at_call_of 27 x1; exact Calls.quiet_of_same (Hp1 _ hp1 _)) | (go_at_call_of 27 x2; exact Calls.quiet_of_same (Hp2 _ hp2 _)))
        go_wp2
        go_roundw
        case rel =>
          refine ⟨k + 1, by omega, by go_num, Lib.hid (HE.out.drewN nq), Lib.hid ⟨all_take l k hlt HY.out.1 ?_, ?_⟩⟩
          · rw [← HX.out]
            exact prO_of hsz hp1 hp2 e3 e4 e5
          · intro j hj hjk
            have := hk0.out
            omega
        case measure => simp only [intOf]; omega
      · obtain ⟨m, rfl⟩ : ∃ m, k = m + 1 := ⟨k - 1, by omega⟩
        obtain ⟨b2, o2, g, hbo, hcell2, hv2⟩ := HR.out.at_ (show m < l.length by omega)
        obtain ⟨rfl, rfl⟩ : b1 = b2 ∧ o1 = o2 := by simpa using hbo
        obtain ⟨⟨y1, y2⟩, hy⟩ : ∃ y, y = l[m] := ⟨_, rfl⟩
        rw [← hy] at hv2
        have hg0 : g 0 = .string y1 := hv2.1
        have hd2 := HE.out.cell (hcell2 0 (by omega))
        rw [hg0, Nat.add_zero] at hd2
        have HYY := Lib.hid hy
        clear hy hcell2 hv2 hg0 hbo
        have h6' : (0 : Int) < ((m + 1 : Nat) : Int) := by omega
        cases e7 : Op.bytesLess y1.toList x1.toList
        · go_wp2
          go_quiet (first | (go_at_call_of 27 x1; exact Calls.quiet_of_same (Hp1 _ hp1 _)) | (go_at_call_of 27 x2; exact Calls.quiet_of_same (Hp2 _ hp2 _)))
          go_wp2
          go_ret
          exact ⟨_, rfl, fun h => by (cases h; done), (HE.out.drewN nq)⟩
        go_wp2
        go_quiet (first | (go_at_call_of 27 x1; exact Calls.quiet_of_same (Hp1 _ hp1 _)) | (go_at_call_of 27 x2; exact Calls.quiet_of_same (Hp2 _ hp2 _)))
        go_wp2
        go_roundw
        case rel =>
          refine ⟨m + 1 + 1, by omega, by go_num, Lib.hid (HE.out.drewN nq), Lib.hid ⟨all_take l (m + 1) hlt HY.out.1 ?_, ?_⟩⟩
          · rw [← HX.out]
            exact prO_of hsz hp1 hp2 e3 e4 e5
          · intro j hj hjk
            by_cases hjm : j = m
            · subst hjm
              have h1 := HX.out
              have h2 := HYY.out
              rw [← h1, ← h2]
              exact e7
            · exact HY.out.2 j hj (by omega)
        case measure => simp only [intOf]; omega
    · obtain rfl : k = l.length := by omega
      go_wp2
      go_ret
      exact ⟨_, rfl, fun h => ⟨by simp at h; omega, by have := HY.out.1; rwa [List.take_length] at this, fun j h => HY.out.2 j h h⟩, HE.out⟩

end Go.Proofs.YtdenjanihikolaaGreatDoor

