/- The writer of the reference: rows of numbers, by contract. -/
import Derived.Test.YtdenjanihikolaaGreatDoorWrb
namespace Go.Proofs.YtdenjanihikolaaGreatDoor
open Go.RowKit Og
set_option linter.unusedVariables false
set_option linter.unusedSimpArgs false

theorem numB_len (n : Int) : ∀ k, (numB n k).length = k
  | 0 => rfl
  | k + 1 => by simp only [numB, List.length_cons, numB_len n k]

set_option maxRecDepth 100000 in
set_option maxHeartbeats 1000000 in
theorem shorts_w (l : List Int) {w0 w : World} {pb : Nat} {v vl : Value} {xs : List Int} (h : Wr (Lt w0.heap.size) w0 w pb v xs) (hr : RdI .i64 w0 vl l) (hl : xs.length + 2 * l.length + 2 ≤ 1099511627776) :
    Calls Tryz.prog 39 #[.pointer (some ⟨pb, 0, none⟩), vl] w (Wrote (Lt w0.heap.size) w0 pb (xs ++ (numB l.length 2 ++ l.flatMap fun n => numB n 2))) := by
  obtain ⟨A_l, c_l, rfl, -⟩ := id hr
  have HR := Lib.hid hr
  clear hr
  have hc := h.cell
  have H := Lib.hid h
  clear h
  have hm : ∀ y ∈ l, (numB y 2).length ≤ 2 := fun y _ => Nat.le_of_eq (numB_len y 2)
  have HM := Lib.hid hm
  clear hm
  go_enter Tryz.func39, Tryz.ntmps39
  go_wp2_with (go_at_call 36; refine (number_w 2 (by omega) _ H.out (by omega)).mono ?_; rintro e w1 ⟨rfl, v1, hn⟩; clear hc; have hc := hn.cell; have HB := Lib.hid hn; clear hn)
  go_loopw [12] (fun i wr => ∃ k : Nat, k ≤ l.length ∧ i = .int .i64 k ∧ ∃ v', Hid (Wr (Lt w0.heap.size) w0 wr pb v' (xs ++ (numB l.length 2 ++ (l.take k).flatMap fun n => numB n 2)))) (fun i _ => l.length - (intOf i).toNat)
  case atStart => exact ⟨0, Nat.zero_le _, rfl, _, by simpa using HB⟩
  case round =>
    clear HB hc
    obtain ⟨k, hk1, rfl, v2, HB⟩ := hrel
    by_cases hlt : k < l.length
    · have hfl := flat_take_len (fun n => numB n 2) 2 k l HM.out
      obtain ⟨b1, o1, rfl, hcell⟩ := (HR.out.ext HB.out.buf.bel).at_ hlt
      rw [getD_at hlt] at hcell
      obtain ⟨x, hx⟩ : ∃ x, x = l[k] := ⟨_, rfl⟩
      rw [← hx] at hcell
      have HX := Lib.hid hx
      clear hx
      go_wp2_with (go_at_call 36; refine (number_w 2 (by omega) _ HB.out (by simp only [List.length_append, numB_len]; omega)).mono ?_; rintro e w1 ⟨rfl, v1, hn⟩; have HN := Lib.hid hn; clear hn HB)
      go_roundw
      case rel =>
        refine ⟨k + 1, by omega, by go_num, v1, ?_⟩
        rw [take_flat _ l k hlt, ← HX.out]
        have hz := HN.out
        simp only [List.append_assoc] at hz ⊢
        exact Lib.hid hz
      case measure => simp [intOf]; omega
    · obtain rfl : k = l.length := by omega
      rw [List.take_length] at HB
      go_wp2
      go_end0
      exact ⟨rfl, _, HB.out⟩

set_option maxRecDepth 100000 in
set_option maxHeartbeats 1000000 in
theorem types_w (l : List Int) {w0 w : World} {pb : Nat} {v vl : Value} {xs : List Int} (h : Wr (Lt w0.heap.size) w0 w pb v xs) (hr : RdI .u32 w0 vl l) (hl : xs.length + 4 * l.length + 2 ≤ 1099511627776) (hg : ∀ y ∈ l, 0 ≤ y ∧ y < 4294967296) :
    Calls Tryz.prog 41 #[.pointer (some ⟨pb, 0, none⟩), vl] w (Wrote (Lt w0.heap.size) w0 pb (xs ++ (numB l.length 2 ++ l.flatMap fun n => numB n 4))) := by
  obtain ⟨A_l, c_l, rfl, -⟩ := id hr
  have HR := Lib.hid hr
  clear hr
  have HG := Lib.hid hg
  clear hg
  have hc := h.cell
  have H := Lib.hid h
  clear h
  have hm : ∀ y ∈ l, (numB y 4).length ≤ 4 := fun y _ => Nat.le_of_eq (numB_len y 4)
  have HM := Lib.hid hm
  clear hm
  go_enter Tryz.func41, Tryz.ntmps41
  go_wp2_with (go_at_call 36; refine (number_w 2 (by omega) _ H.out (by omega)).mono ?_; rintro e w1 ⟨rfl, v1, hn⟩; clear hc; have hc := hn.cell; have HB := Lib.hid hn; clear hn)
  go_loopw [12] (fun i wr => ∃ k : Nat, k ≤ l.length ∧ i = .int .i64 k ∧ ∃ v', Hid (Wr (Lt w0.heap.size) w0 wr pb v' (xs ++ (numB l.length 2 ++ (l.take k).flatMap fun n => numB n 4)))) (fun i _ => l.length - (intOf i).toNat)
  case atStart => exact ⟨0, Nat.zero_le _, rfl, _, by simpa using HB⟩
  case round =>
    clear HB hc
    obtain ⟨k, hk1, rfl, v2, HB⟩ := hrel
    by_cases hlt : k < l.length
    · have hfl := flat_take_len (fun n => numB n 4) 4 k l HM.out
      obtain ⟨b1, o1, rfl, hcell⟩ := (HR.out.ext HB.out.buf.bel).at_ hlt
      rw [getD_at hlt] at hcell
      have h1 := HG.out _ (List.getElem_mem hlt)
      obtain ⟨x, hx⟩ : ∃ x, x = l[k] := ⟨_, rfl⟩
      rw [← hx] at hcell h1
      have HX := Lib.hid hx
      clear hx
      go_wp2_with (go_at_call 36; refine (number_w 4 (by omega) _ HB.out (by simp only [List.length_append, numB_len]; omega)).mono ?_; rintro e w1 ⟨rfl, v1, hn⟩; have HN := Lib.hid hn; clear hn HB)
      go_roundw
      case rel =>
        refine ⟨k + 1, by omega, by go_num, v1, ?_⟩
        rw [take_flat _ l k hlt, ← HX.out]
        have hz := HN.out
        simp only [List.append_assoc] at hz ⊢
        exact Lib.hid hz
      case measure => simp [intOf]; omega
    · obtain rfl : k = l.length := by omega
      rw [List.take_length] at HB
      go_wp2
      go_end0
      exact ⟨rfl, _, HB.out⟩

end Go.Proofs.YtdenjanihikolaaGreatDoor
