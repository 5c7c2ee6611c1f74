/- The writer of the reference: values, by contract. -/
import Derived.Test.YtdenjanihikolaaGreatDoorWrd
namespace Go.Proofs.YtdenjanihikolaaGreatDoor
open Go.RowKit Og
set_option linter.unusedVariables false
set_option linter.unusedSimpArgs false

/-- A value of the reference in its two cells. -/
def isVal (w : World) (x : Bool × List Int) (f : Nat → Value) : Prop := f 0 = .bool x.1 ∧ ∃ A c, f 1 = .slice A x.2.length c ∧ RdB w (.slice A x.2.length c) x.2
theorem isVal.ext {w w' : World} (hx : Ext w w') : ∀ x f, isVal w x f → isVal w' x f := fun _ _ ⟨h0, A, c, h1, h2⟩ => ⟨h0, A, c, h1, h2.ext hx⟩
theorem valB_len (x : Bool × List Int) : (valB x.1 x.2).length ≤ 4 + x.2.length := by
  unfold valB
  split <;> simp only [List.length_append, numB_len] <;> omega

set_option maxRecDepth 100000 in
set_option maxHeartbeats 1000000 in
theorem values_w (l : List (Bool × List Int)) {w0 w : World} {pb : Nat} {v vl : Value} {xs : List Int} (h : Wr (Lt w0.heap.size) w0 w pb v xs) (hr : RdM 2 isVal w0 vl l) (hm : ∀ y ∈ l, y.2.length ≤ 2000) (hl : xs.length + 2004 * l.length + 5000 ≤ 1099511627776) :
    Calls Tryz.prog 40 #[.pointer (some ⟨pb, 0, none⟩), vl] w (Wrote (Lt w0.heap.size) w0 pb (xs ++ (numB l.length 2 ++ l.flatMap fun x => valB x.1 x.2))) := by
  obtain ⟨A_l, c_l, rfl, -⟩ := id hr
  have HR := Lib.hid hr
  clear hr
  have hc := h.cell
  have H := Lib.hid h
  clear h
  have HM := Lib.hid hm
  clear hm
  go_enter Tryz.func40, Tryz.ntmps40
  go_wp2_with (go_at_call 36; refine (number_w 2 (by omega) _ H.out (by omega)).mono ?_; rintro e w1 ⟨rfl, v1, hn⟩; clear hc; have hc := hn.cell; have HB := Lib.hid hn; clear hn)
  go_loopw [12] (fun i wr => ∃ k : Nat, k ≤ l.length ∧ i = .int .i64 k ∧ ∃ v', Hid (Wr (Lt w0.heap.size) w0 wr pb v' (xs ++ (numB l.length 2 ++ (l.take k).flatMap fun x => valB x.1 x.2)))) (fun i _ => l.length - (intOf i).toNat)
  case atStart => exact ⟨0, Nat.zero_le _, rfl, _, by simpa using HB⟩
  case round =>
    clear HB hc
    obtain ⟨k, hk1, rfl, v2, HB⟩ := hrel
    by_cases hlt : k < l.length
    · have hfl := flat_take_len (fun x : Bool × List Int => valB x.1 x.2) 2004 k l (fun y hy => Nat.le_trans (valB_len y) (by have := HM.out y hy; omega))
      obtain ⟨b1, o1, f, rfl, hcell, hv⟩ := HR.out.at_ hlt
      have hxl := HM.out _ (List.getElem_mem hlt)
      obtain ⟨x, hx⟩ : ∃ x, x = l[k] := ⟨_, rfl⟩
      rw [← hx] at hv hxl
      obtain ⟨hf0, A1, c1, hf1, hrd⟩ := hv
      have hd0 := HB.out.buf.bel.cell (hcell 0 (by omega))
      have hd1 := HB.out.buf.bel.cell (hcell 1 (by omega))
      rw [hf0, Nat.add_zero] at hd0
      rw [hf1] at hd1
      have HX := Lib.hid hx
      have HD := Lib.hid hrd
      clear hx hrd hf0 hf1 hcell
      go_wp2_with (go_at_call 42; refine (value_w x.1 A1 c1 x.2 (HB.out.ext (ext_alloc _ _)) HD.out (by simp only [List.length_append, numB_len]; omega)).mono ?_; rintro e w1 ⟨rfl, v1, hn⟩; have HN := Lib.hid hn; clear hn HB)
      go_roundw
      case rel =>
        refine ⟨k + 1, by omega, by go_num, v1, ?_⟩
        rw [take_flat _ l k hlt, ← HX.out]
        have hz := HN.out
        simp only [List.append_assoc] at hz ⊢
        exact Lib.hid hz
      case measure => simp [intOf]; omega
    · obtain rfl : k = l.length := by omega
      rw [List.take_length] at HB
      go_wp2
      go_end0
      exact ⟨rfl, _, HB.out⟩
end Go.Proofs.YtdenjanihikolaaGreatDoor
