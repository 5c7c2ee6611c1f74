/- Whether a message is proper: the fields of errors, by contract. -/
import Derived.Test.YtdenjanihikolaaGreatDoorUPpb
namespace Go.Proofs.YtdenjanihikolaaGreatDoor
open Go.RowKit
set_option linter.unusedVariables false
set_option linter.unusedSimpArgs false

/-- One letter of a field of an error. -/
def letP (x : ByteArray) : Prop := ∃ j, j < 18 ∧ x.toList = ((⟨#[83, 86, 67, 77, 68, 72, 80, 112, 113, 87, 115, 116, 99, 100, 110, 70, 76, 82]⟩ : ByteArray).extract j (j + 1)).toList
/-- One field of an error that is proper. -/
def fldP (y : ByteArray × ByteArray) : Prop := letP y.1 ∧ (y.1.toList = [80] ∨ y.1.toList = [112] ∨ y.1.toList = [76] → digP y.2)

set_option maxRecDepth 100000 in
set_option maxHeartbeats 1000000 in
theorem fields32 (l : List (ByteArray × ByteArray)) (A_l : Option Addr) (c_l : Nat) (w : World) (hr : RdM 2 isPr w (.slice A_l l.length c_l) l) (hl : l.length ≤ 2147483647) (hs : ∀ y ∈ l, y.1.size ≤ 2147483647 ∧ y.2.size ≤ 2147483647) : Calls Tryz.prog 32 #[.slice A_l l.length c_l] w (Said w ((∀ y ∈ l, fldP y) ∧ pairsP true false l)) := by
  have HR := Lib.hid hr
  clear hr
  go_enter Tryz.func32, Tryz.ntmps32
  go_wp2
  go_loopw [9] (fun i wr => ∃ k : Nat, k ≤ l.length ∧ i = .int .i64 k ∧ Hid (Ext w wr) ∧ Hid (∀ y ∈ l.take k, fldP y)) (fun i _ => l.length - (intOf i).toNat)
  case atStart => exact ⟨0, Nat.zero_le _, rfl, Lib.hid (Ext.refl _), Lib.hid (by simp)⟩
  case round =>
    obtain ⟨k, hk1, rfl, HE, HY⟩ := hrel
    by_cases hlt : k < l.length
    · obtain ⟨b1, o1, f, rfl, hcell, hv⟩ := HR.out.at_ hlt
      have hsz := hs _ (List.getElem_mem hlt)
      obtain ⟨⟨x1, x2⟩, hx⟩ : ∃ x, x = l[k] := ⟨_, rfl⟩
      rw [← hx] at hv hsz
      have hf0 : f 0 = .string x1 := hv.1
      have hf1 : f 1 = .string x2 := hv.2
      replace hsz : x1.size ≤ 2147483647 ∧ x2.size ≤ 2147483647 := hsz
      have hd0 := HE.out.cell (hcell 0 (by omega))
      rw [hf0, Nat.add_zero] at hd0
      have hd1 := HE.out.cell (hcell 1 (by omega))
      rw [hf1] at hd1
      have HX := Lib.hid hx
      clear hx hcell hf0 hf1 hv
      go_wp2
      go_loopw [5, 13] (fun b i wi => ∃ q : Bool, ∃ j : Nat, j ≤ 18 ∧ b = .bool q ∧ i = .int .i64 j ∧ Hid (Ext (wr.alloc (.cells #[.string x1, .string x2] 48)) wi) ∧ Hid (q = true → letP x1)) (fun _ i _ => 18 - (intOf i).toNat)
      case atStart => exact ⟨false, 0, by omega, rfl, rfl, Lib.hid (Ext.refl _), Lib.hid (fun h => by cases h)⟩
      case round =>
        obtain ⟨q, j, hj, rfl, rfl, HI, HQ⟩ := hrel
        have hc0 := box_at HI.out 0 (.string x1) rfl
        have hc1 := box_at HI.out 1 (.string x2) rfl
        by_cases hj18 : j < 18
        · cases q
          · go_wp2
            go_quiet (fail)
            go_wp2
            go_roundw
            case rel => exact ⟨_, j + 1, by omega, rfl, by go_num, Lib.hid (HI.out.drewN nq), Lib.hid (fun h => ⟨j, hj18, by simpa using h⟩)⟩
            case measure => simp only [intOf]; omega
          · go_wp2
            go_quiet (fail)
            go_wp2
            go_roundw
            case rel => exact ⟨true, j + 1, by omega, rfl, by go_num, Lib.hid (HI.out.drewN nq), Lib.hid (fun _ => HQ.out (by first | trivial | rfl))⟩
            case measure => simp only [intOf]; omega
        · obtain rfl : j = 18 := by omega
          replace HE := Lib.hid ((HE.out.alloc (.cells #[.string x1, .string x2] 48)).trans HI.out)
          cases q
          · go_wp2
            go_ret
            exact ⟨_, rfl, fun h => by (cases h; done), HE.out⟩
          · have HQ2 := Lib.hid (HQ.out (by first | trivial | rfl))
            by_cases hP : x1.toList = [80] ∨ x1.toList = [112] ∨ x1.toList = [76]
            · have HP := Lib.hid hP
              clear hP
              go_wp2_with (go_at_call 53; refine (digits53 x2 hsz.2 _).mono ?_; rintro e w1 ⟨bo, rfl, hbo, hbx⟩; have HE2 := HE; replace HE := Lib.hid (HE2.out.trans hbx); have HBO := Lib.hid hbo; clear hbo hbx; cases bo)
              all_goals first
                | (go_ret; exact ⟨_, rfl, fun h => by (cases h; done), HE.out⟩)
                | (go_roundw
                   case rel =>
                     refine ⟨k + 1, by omega, by go_num, HE, Lib.hid (all_take l k hlt HY.out ?_)⟩
                     rw [← HX.out]
                     first | exact ⟨HQ2.out, fun _ => HBO.out (by first | trivial | rfl)⟩ | (exfalso; have := HP.out; simp_all; done)
                   case measure => simp only [intOf]; omega)
            · have h1 : (x1.toList == [80]) = false := beq_eq_false_iff_ne.2 fun h => hP (.inl h)
              have h2 : (x1.toList == [112]) = false := beq_eq_false_iff_ne.2 fun h => hP (.inr (.inl h))
              have h3 : (x1.toList == [76]) = false := beq_eq_false_iff_ne.2 fun h => hP (.inr (.inr h))
              have HP := Lib.hid hP
              clear hP
              go_wp2
              go_roundw
              case rel =>
                refine ⟨k + 1, by omega, by go_num, HE, Lib.hid (all_take l k hlt HY.out ?_)⟩
                rw [← HX.out]
                exact ⟨HQ2.out, fun h => absurd h HP.out⟩
              case measure => simp only [intOf]; omega
    · obtain rfl : k = l.length := by omega
      go_wp2_with (go_at_call 31; refine (pairsS l _ _ _ (RdM.ext HR.out HE.out (fun _ _ h => h)) hl hs).mono ?_; rintro e w1 ⟨bo, rfl, hbo, hbx⟩; have HBO := Lib.hid hbo; have HE2 := HE; replace HE := Lib.hid (HE2.out.trans hbx); clear hbo hbx)
      go_ret
      exact ⟨_, rfl, fun h => ⟨by have := HY.out; rwa [List.take_length] at this, HBO.out h⟩, HE.out⟩
end Go.Proofs.YtdenjanihikolaaGreatDoor

