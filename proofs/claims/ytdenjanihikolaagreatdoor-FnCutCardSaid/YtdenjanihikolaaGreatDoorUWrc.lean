/- What the body of a message of the reference starts and ends with. -/
import Derived.Test.YtdenjanihikolaaGreatDoorUWra
namespace Go.Proofs.YtdenjanihikolaaGreatDoor
open Go.RowKit Og
set_option linter.unusedVariables false
set_option linter.unusedSimpArgs false

theorem numB_len (n : Int) : ∀ k, (numB n k).length = k
  | 0 => rfl
  | k + 1 => by simp only [numB, List.length_cons, numB_len n k]

set_option maxRecDepth 100000 in
set_option maxHeartbeats 1000000 in
theorem shorts_w (l : List Int) {w0 w : World} {pb : Nat} {v vl : Value} {xs : List Int} (h : Wr (Lt w0.heap.size) w0 w pb v xs) (hr : RdI .i64 w0 vl l) (hl : xs.length + 2 * l.length + 2 ≤ 1099511627776) :
    Calls Tryz.prog 39 #[.pointer (some ⟨pb, 0, none⟩), vl] w (Wrote (Lt w0.heap.size) w0 pb (xs ++ (numB l.length 2 ++ l.flatMap fun n => numB n 2))) := by
  obtain ⟨A_l, c_l, rfl, -⟩ := id hr
  have HR := Lib.hid hr
  clear hr
  have hc := h.cell
  have H := Lib.hid h
  clear h
  have hm : ∀ y ∈ l, (numB y 2).length ≤ 2 := fun y _ => Nat.le_of_eq (numB_len y 2)
  have HM := Lib.hid hm
  clear hm
  go_enter Tryz.func39, Tryz.ntmps39
  go_wp2_with (go_at_call 36; refine (number_w 2 (by omega) _ H.out (by omega)).mono ?_; rintro e w1 ⟨rfl, v1, hn⟩; clear hc; have hc := hn.cell; have HB := Lib.hid hn; clear hn)
  go_loopw [12] (fun i wr => ∃ k : Nat, k ≤ l.length ∧ i = .int .i64 k ∧ ∃ v', Hid (Wr (Lt w0.heap.size) w0 wr pb v' (xs ++ (numB l.length 2 ++ (l.take k).flatMap fun n => numB n 2)))) (fun i _ => l.length - (intOf i).toNat)
  case atStart => exact ⟨0, Nat.zero_le _, rfl, _, by simpa using HB⟩
  case round =>
    clear HB hc
    obtain ⟨k, hk1, rfl, v2, HB⟩ := hrel
    by_cases hlt : k < l.length
    · have hfl := flat_take_len (fun n => numB n 2) 2 k l HM.out
      obtain ⟨b1, o1, rfl, hcell⟩ := (HR.out.ext HB.out.buf.bel).at_ hlt
      rw [getD_at hlt] at hcell
      obtain ⟨x, hx⟩ : ∃ x, x = l[k] := ⟨_, rfl⟩
      rw [← hx] at hcell
      have HX := Lib.hid hx
      clear hx
      go_wp2_with (go_at_call 36; refine (number_w 2 (by omega) _ HB.out (by simp only [List.length_append, numB_len]; omega)).mono ?_; rintro e w1 ⟨rfl, v1, hn⟩; have HN := Lib.hid hn; clear hn HB)
      go_roundw
      case rel =>
        refine ⟨k + 1, by omega, by go_num, v1, ?_⟩
        rw [take_flat _ l k hlt, ← HX.out]
        have hz := HN.out
        simp only [List.append_assoc] at hz ⊢
        exact Lib.hid hz
      case measure => simp [intOf]; omega
    · obtain rfl : k = l.length := by omega
      rw [List.take_length] at HB
      go_wp2
      go_end0
      exact ⟨rfl, _, HB.out⟩

set_option maxRecDepth 100000 in
set_option maxHeartbeats 1000000 in
theorem types_w (l : List Int) {w0 w : World} {pb : Nat} {v vl : Value} {xs : List Int} (h : Wr (Lt w0.heap.size) w0 w pb v xs) (hr : RdI .u32 w0 vl l) (hl : xs.length + 4 * l.length + 2 ≤ 1099511627776) (hg : ∀ y ∈ l, 0 ≤ y ∧ y < 4294967296) :
    Calls Tryz.prog 41 #[.pointer (some ⟨pb, 0, none⟩), vl] w (Wrote (Lt w0.heap.size) w0 pb (xs ++ (numB l.length 2 ++ l.flatMap fun n => numB n 4))) := by
  obtain ⟨A_l, c_l, rfl, -⟩ := id hr
  have HR := Lib.hid hr
  clear hr
  have HG := Lib.hid hg
  clear hg
  have hc := h.cell
  have H := Lib.hid h
  clear h
  have hm : ∀ y ∈ l, (numB y 4).length ≤ 4 := fun y _ => Nat.le_of_eq (numB_len y 4)
  have HM := Lib.hid hm
  clear hm
  go_enter Tryz.func41, Tryz.ntmps41
  go_wp2_with (go_at_call 36; refine (number_w 2 (by omega) _ H.out (by omega)).mono ?_; rintro e w1 ⟨rfl, v1, hn⟩; clear hc; have hc := hn.cell; have HB := Lib.hid hn; clear hn)
  go_loopw [12] (fun i wr => ∃ k : Nat, k ≤ l.length ∧ i = .int .i64 k ∧ ∃ v', Hid (Wr (Lt w0.heap.size) w0 wr pb v' (xs ++ (numB l.length 2 ++ (l.take k).flatMap fun n => numB n 4)))) (fun i _ => l.length - (intOf i).toNat)
  case atStart => exact ⟨0, Nat.zero_le _, rfl, _, by simpa using HB⟩
  case round =>
    clear HB hc
    obtain ⟨k, hk1, rfl, v2, HB⟩ := hrel
    by_cases hlt : k < l.length
    · have hfl := flat_take_len (fun n => numB n 4) 4 k l HM.out
      obtain ⟨b1, o1, rfl, hcell⟩ := (HR.out.ext HB.out.buf.bel).at_ hlt
      rw [getD_at hlt] at hcell
      have h1 := HG.out _ (List.getElem_mem hlt)
      obtain ⟨x, hx⟩ : ∃ x, x = l[k] := ⟨_, rfl⟩
      rw [← hx] at hcell h1
      have HX := Lib.hid hx
      clear hx
      go_wp2_with (go_at_call 36; refine (number_w 4 (by omega) _ HB.out (by simp only [List.length_append, numB_len]; omega)).mono ?_; rintro e w1 ⟨rfl, v1, hn⟩; have HN := Lib.hid hn; clear hn HB)
      go_roundw
      case rel =>
        refine ⟨k + 1, by omega, by go_num, v1, ?_⟩
        rw [take_flat _ l k hlt, ← HX.out]
        have hz := HN.out
        simp only [List.append_assoc] at hz ⊢
        exact Lib.hid hz
      case measure => simp [intOf]; omega
    · obtain rfl : k = l.length := by omega
      rw [List.take_length] at HB
      go_wp2
      go_end0
      exact ⟨rfl, _, HB.out⟩

end Go.Proofs.YtdenjanihikolaaGreatDoor

namespace Go.Proofs.YtdenjanihikolaaGreatDoor
open Go.RowKit Og
set_option linter.unusedVariables false
set_option linter.unusedSimpArgs false

/-- What a region keeps that appends to the writer and stores. -/
def AppJ (K : Nat → Prop) (w0 W : World) (pb : Nat) (ys : List Int) (s a : Nat) (L : Nat → Bool) (vs : Nat → Value) (w : World) : Prop :=
  if L s = true then ∃ v', Wr K w0 w pb v' ys else if L a = true then Buf (fun k => K k ∨ k = pb) W w (vs a) ys else w = W
theorem AppJ.keep {K : Nat → Prop} {w0 W : World} {pb : Nat} {ys : List Int} {s a : Nat} {L : Nat → Bool} {vs : Nat → Value} {w : World} (h : AppJ K w0 W pb ys s a L vs w) (i : Nat) (u : Value) (h1 : a ≠ i) (h2 : s ≠ i) : AppJ K w0 W pb ys s a (updB L i) (upd vs i u) w := by
  unfold AppJ at *
  simpa [updB, upd, h1, h2] using h

/-- the bytes of a value of the reference -/
def valB (nul : Bool) (d : List Int) : List Int := if nul then numB (-1) 4 else numB d.length 4 ++ d

theorem Wr.box {K : Nat → Prop} {w0 w : World} {pb : Nat} {v : Value} {xs : List Int} (h : Wr K w0 w pb v xs) (o : Obj) : Wr (fun k => K k ∨ k = w.heap.size) (w.alloc o) (w.alloc o) pb v xs :=
  ⟨fun hk => hk.elim h.out fun e => Nat.lt_irrefl _ (e ▸ lt_of_block h.blk), (h.ext (ext_alloc w o)).blk, h.buf.box o, h.off⟩
theorem Wr.unbox {K : Nat → Prop} {w0 w w' : World} {pb : Nat} {v v' : Value} {xs ys : List Int} {o : Obj} (h : Wr K w0 w pb v xs) (h' : Wr (fun k => K k ∨ k = w.heap.size) (w.alloc o) w' pb v' ys) : Wr K w0 w' pb v' ys :=
  ⟨h.out, h'.blk, h.buf.unbox h'.buf, h'.off⟩

set_option maxRecDepth 100000 in
set_option maxHeartbeats 1000000 in
theorem value_w (nul : Bool) (A : Option Addr) (c : Nat) (d : List Int) {w0 w : World} {pb : Nat} {v : Value} {xs : List Int} (h : Wr (Lt w0.heap.size) w0 w pb v xs) (hr : RdB w0 (.slice A d.length c) d) (hl : xs.length + d.length + 4 ≤ 1099511627776) :
    Calls Tryz.prog 42 #[.pointer (some ⟨pb, 0, none⟩), .agg #[.bool nul, .slice A d.length c]] w (Wrote (Lt w0.heap.size) w0 pb (xs ++ valB nul d)) := by
  have H0 := Lib.hid h
  have H := Lib.hid (h.box (.cells #[.bool nul, .slice A d.length c] 59))
  clear h
  have HR := Lib.hid hr
  clear hr
  cases nul
  · go_enter Tryz.func42, Tryz.ntmps42
    go_wp2_with (go_at_call 36; refine (number_w 4 (by omega) _ H.out (by omega)).mono ?_; rintro e w1 ⟨rfl, v1, hn⟩; have hb1 := (hn.buf.boxed 1); simp only [List.getElem?_toArray, List.getElem?_cons_succ, List.getElem?_cons_zero] at hb1; have HN := Lib.hid (H0.out.unbox hn); clear hn H)
    have HR1 := Lib.hid (HR.out.ext HN.out.drew.buf.bel)
    have hcW := HN.out.drew.cell
    have HX := Lib.hid HN.out.drew
    have hbW : w1.drew.cell? ⟨w.heap.size, 1, none⟩ = some (.slice A d.length c) := hb1
    clear hb1 HN HR H0
    refine wp_region_ogL (J := AppJ (Lt w0.heap.size) w0 w1.drew pb (xs ++ numB (d.length : Int) 4 ++ d) 8 6) (R := fun _ _ => True) [Sp.eq _ (.pointer (some ⟨pb, 0, none⟩)), Sp.eq _ (.pointer (some ⟨pb, 0, none⟩)), Sp.eq _ (.pointer (some ⟨pb, 0, none⟩)), Sp.eq _ (v1), Sp.eq _ (.pointer (some ⟨w.heap.size, 1, none⟩)), Sp.eq _ (.slice A d.length c), Sp.any _, Sp.eq _ (.pointer (some ⟨pb, 0, none⟩)), Sp.any _] (by kernel_rfl) (by kernel_rfl) ?_ ?_ ?_
    · rfl
    · refine ⟨?_, ?_, ?_, ?_, ?_, ?_, ?_, ?_, ?_, trivial⟩
      · intro vs w1 L hLi hd hdt hJ hp
        have HJ := Lib.hid hJ
        clear hp hd hdt hLi hJ
        simp only [putAll, Nat.reduceAdd]
        go_wp2
        exact ⟨rfl, HJ.out.keep 0 _ (by decide) (by decide), trivial, rfl⟩
      · intro vs w1 L hLi hd hdt hJ hp
        have HJ := Lib.hid hJ
        clear hp hd hdt hLi hJ
        simp only [putAll, Nat.reduceAdd]
        go_wp2
        exact ⟨rfl, HJ.out.keep 1 _ (by decide) (by decide), trivial, rfl⟩
      · intro vs w1 L hLi hd hdt hJ hp
        have q1 : vs 1 = .pointer (some ⟨pb, 0, none⟩) := hp 1 (by decide)
        have HJ := Lib.hid hJ
        clear hp hd hdt hLi hJ
        simp only [putAll, Nat.reduceAdd]
        go_wp2
        exact ⟨rfl, HJ.out.keep 2 _ (by decide) (by decide), trivial, rfl⟩
      · intro vs w1 L hLi hd hdt hJ hp
        have q2 : vs 2 = .pointer (some ⟨pb, 0, none⟩) := hp 2 (by decide)
        have HJ := Lib.hid hJ
        have hL6 : L 6 = false := hdt 6 (by decide)
        have hL8 : L 8 = false := hdt 8 (by decide)
        unfold AppJ at hJ
        rw [hL8, hL6] at hJ
        simp only [Bool.false_eq_true, if_false] at hJ
        subst hJ
        clear hp hd hdt hLi hL6 hL8
        simp only [putAll, Nat.reduceAdd]
        go_wp2
        exact ⟨rfl, HJ.out.keep 3 _ (by decide) (by decide), trivial, rfl⟩
      · intro vs w1 L hLi hd hdt hJ hp
        have HJ := Lib.hid hJ
        clear hp hd hdt hLi hJ
        simp only [putAll, Nat.reduceAdd]
        go_wp2
        exact ⟨rfl, HJ.out.keep 4 _ (by decide) (by decide), trivial, rfl⟩
      · intro vs w1 L hLi hd hdt hJ hp
        have q4 : vs 4 = .pointer (some ⟨w.heap.size, 1, none⟩) := hp 4 (by decide)
        have HJ := Lib.hid hJ
        have hL6 : L 6 = false := hdt 6 (by decide)
        have hL8 : L 8 = false := hdt 8 (by decide)
        unfold AppJ at hJ
        rw [hL8, hL6] at hJ
        simp only [Bool.false_eq_true, if_false] at hJ
        subst hJ
        clear hp hd hdt hLi hL6 hL8
        simp only [putAll, Nat.reduceAdd]
        go_wp2
        exact ⟨rfl, HJ.out.keep 5 _ (by decide) (by decide), trivial, rfl⟩
      · intro vs w1 L hLi hd hdt hJ hp
        have q3 : vs 3 = v1 := hp 3 (by decide)
        have q5 : vs 5 = .slice A d.length c := hp 5 (by decide)
        have hL8 : L 8 = false := hdt 8 (by decide)
        unfold AppJ at hJ
        rw [hL8, hLi] at hJ
        simp only [Bool.false_eq_true, if_false] at hJ
        subst hJ
        have HL8 := Lib.hid hL8
        clear hp hd hdt hLi hL8
        simp only [putAll, Nat.reduceAdd]
        refine ap_row (v := v1) (vx := .slice A d.length c) (ys := d) rfl (.tmp 16) (.tmp 18) 79 26 rfl Tryz.underlying79 Tryz.underlying26 (by simp only [evp_none, ne_eq, Nat.reduceEqDiff, not_false_eq_true, evp_ne]; rw [evp_same _ _ _ (by simp [evp_size])]; exact q3) HX.out.open (by simp only [evp_none, ne_eq, Nat.reduceEqDiff, not_false_eq_true, evp_ne]; rw [evp_same _ _ _ (by simp [evp_size])]; exact q5) HR1.out (by simp only [List.length_append, numB_len]; omega) ?_
        intro v2 w2 hn
        refine ⟨rfl, ?_, trivial, trivial⟩
        unfold AppJ
        simp only [updB, upd, HL8.out, Bool.false_or, Nat.reduceBEq, Bool.false_eq_true, if_false, beq_self_eq_true, Bool.or_true, if_true]
        rw [slot_put _ _ _ (by simp [evp_size])]
        exact hn
      · intro vs w1 L hLi hd hdt hJ hp
        have q0 : vs 0 = .pointer (some ⟨pb, 0, none⟩) := hp 0 (by decide)
        have q1 : vs 1 = .pointer (some ⟨pb, 0, none⟩) := hp 1 (by decide)
        have q2 : vs 2 = .pointer (some ⟨pb, 0, none⟩) := hp 2 (by decide)
        have q3 : vs 3 = v1 := hp 3 (by decide)
        have q4 : vs 4 = .pointer (some ⟨w.heap.size, 1, none⟩) := hp 4 (by decide)
        have q5 : vs 5 = .slice A d.length c := hp 5 (by decide)
        have HJ := Lib.hid hJ
        clear hp hd hdt hLi hJ
        simp only [putAll, Nat.reduceAdd]
        go_wp2
        exact ⟨rfl, HJ.out.keep 7 _ (by decide) (by decide), trivial, rfl⟩
      · intro vs w1 L hLi hd hdt hJ hp
        have q0 : vs 0 = .pointer (some ⟨pb, 0, none⟩) := hp 0 (by decide)
        have q1 : vs 1 = .pointer (some ⟨pb, 0, none⟩) := hp 1 (by decide)
        have q2 : vs 2 = .pointer (some ⟨pb, 0, none⟩) := hp 2 (by decide)
        have q3 : vs 3 = v1 := hp 3 (by decide)
        have q4 : vs 4 = .pointer (some ⟨w.heap.size, 1, none⟩) := hp 4 (by decide)
        have q5 : vs 5 = .slice A d.length c := hp 5 (by decide)
        have q7 : vs 7 = .pointer (some ⟨pb, 0, none⟩) := hp 7 (by decide)
        have hL6 : L 6 = true := hd 6 (by decide)
        unfold AppJ at hJ
        rw [hLi, hL6] at hJ
        simp only [Bool.false_eq_true, if_false, if_true] at hJ
        have HJ := Lib.hid hJ
        have hc1 := cell_of_one (HX.out.in_ hJ)
        have hf1 := free_of_one (HX.out.in_ hJ)
        obtain ⟨A2, n2, c2, hv2⟩ := hJ.sl
        have HV := Lib.hid hv2
        clear hp hd hdt hLi hJ hL6 hv2
        simp only [putAll, Nat.reduceAdd]
        rw [HV.out]
        go_wp2
        refine ⟨rfl, ?_, trivial, trivial⟩
        unfold AppJ
        simp only [updB, Nat.reduceAdd, beq_self_eq_true, Bool.or_true, if_true]
        have hz := HX.out.close HJ.out
        rw [HV.out] at hz
        exact ⟨_, hz⟩
    · intro vs w1 L hall hJ hp
      have q0 : vs 0 = .pointer (some ⟨pb, 0, none⟩) := hp 0 (by decide)
      have q1 : vs 1 = .pointer (some ⟨pb, 0, none⟩) := hp 1 (by decide)
      have q2 : vs 2 = .pointer (some ⟨pb, 0, none⟩) := hp 2 (by decide)
      have q3 : vs 3 = v1 := hp 3 (by decide)
      have q4 : vs 4 = .pointer (some ⟨w.heap.size, 1, none⟩) := hp 4 (by decide)
      have q5 : vs 5 = .slice A d.length c := hp 5 (by decide)
      have q7 : vs 7 = .pointer (some ⟨pb, 0, none⟩) := hp 7 (by decide)
      have hL8 := hall 8 (by decide)
      unfold AppJ at hJ
      rw [hL8] at hJ
      simp only [if_true] at hJ
      obtain ⟨v2, hw2⟩ := hJ
      have HN := Lib.hid hw2
      clear hw2 hp hall hL8
      simp only [putAll]
      go_wp2
      go_end0
      refine ⟨rfl, v2, ?_⟩
      have hz := HN.out
      rw [List.append_assoc] at hz
      exact hz
  · go_enter Tryz.func42, Tryz.ntmps42
    go_wp2_with (go_at_call 36; refine (number_w 4 (by omega) _ H.out (by omega)).mono ?_; rintro e w1 ⟨rfl, v1, hn⟩; have HN := Lib.hid (H0.out.unbox hn); clear hn)
    go_end0
    exact ⟨rfl, _, HN.out⟩
end Go.Proofs.YtdenjanihikolaaGreatDoor

namespace Go.Proofs.YtdenjanihikolaaGreatDoor
open Go.RowKit Og
set_option linter.unusedVariables false
set_option linter.unusedSimpArgs false

/-- A value of the reference in its two cells. -/
def isVal (w : World) (x : Bool × List Int) (f : Nat → Value) : Prop := f 0 = .bool x.1 ∧ ∃ A c, f 1 = .slice A x.2.length c ∧ RdB w (.slice A x.2.length c) x.2
theorem isVal.ext {w w' : World} (hx : Ext w w') : ∀ x f, isVal w x f → isVal w' x f := fun _ _ ⟨h0, A, c, h1, h2⟩ => ⟨h0, A, c, h1, h2.ext hx⟩
theorem valB_len (x : Bool × List Int) : (valB x.1 x.2).length ≤ 4 + x.2.length := by
  unfold valB
  split <;> simp only [List.length_append, numB_len] <;> omega

set_option maxRecDepth 100000 in
set_option maxHeartbeats 1000000 in
theorem values_w (l : List (Bool × List Int)) {w0 w : World} {pb : Nat} {v vl : Value} {xs : List Int} (h : Wr (Lt w0.heap.size) w0 w pb v xs) (hr : RdM 2 isVal w0 vl l) (hm : ∀ y ∈ l, y.2.length ≤ 2000) (hl : xs.length + 2004 * l.length + 5000 ≤ 1099511627776) :
    Calls Tryz.prog 40 #[.pointer (some ⟨pb, 0, none⟩), vl] w (Wrote (Lt w0.heap.size) w0 pb (xs ++ (numB l.length 2 ++ l.flatMap fun x => valB x.1 x.2))) := by
  obtain ⟨A_l, c_l, rfl, -⟩ := id hr
  have HR := Lib.hid hr
  clear hr
  have hc := h.cell
  have H := Lib.hid h
  clear h
  have HM := Lib.hid hm
  clear hm
  go_enter Tryz.func40, Tryz.ntmps40
  go_wp2_with (go_at_call 36; refine (number_w 2 (by omega) _ H.out (by omega)).mono ?_; rintro e w1 ⟨rfl, v1, hn⟩; clear hc; have hc := hn.cell; have HB := Lib.hid hn; clear hn)
  go_loopw [12] (fun i wr => ∃ k : Nat, k ≤ l.length ∧ i = .int .i64 k ∧ ∃ v', Hid (Wr (Lt w0.heap.size) w0 wr pb v' (xs ++ (numB l.length 2 ++ (l.take k).flatMap fun x => valB x.1 x.2)))) (fun i _ => l.length - (intOf i).toNat)
  case atStart => exact ⟨0, Nat.zero_le _, rfl, _, by simpa using HB⟩
  case round =>
    clear HB hc
    obtain ⟨k, hk1, rfl, v2, HB⟩ := hrel
    by_cases hlt : k < l.length
    · have hfl := flat_take_len (fun x : Bool × List Int => valB x.1 x.2) 2004 k l (fun y hy => Nat.le_trans (valB_len y) (by have := HM.out y hy; omega))
      obtain ⟨b1, o1, f, rfl, hcell, hv⟩ := HR.out.at_ hlt
      have hxl := HM.out _ (List.getElem_mem hlt)
      obtain ⟨x, hx⟩ : ∃ x, x = l[k] := ⟨_, rfl⟩
      rw [← hx] at hv hxl
      obtain ⟨hf0, A1, c1, hf1, hrd⟩ := hv
      have hd0 := HB.out.buf.bel.cell (hcell 0 (by omega))
      have hd1 := HB.out.buf.bel.cell (hcell 1 (by omega))
      rw [hf0, Nat.add_zero] at hd0
      rw [hf1] at hd1
      have HX := Lib.hid hx
      have HD := Lib.hid hrd
      clear hx hrd hf0 hf1 hcell
      go_wp2_with (go_at_call 42; refine (value_w x.1 A1 c1 x.2 (HB.out.ext (ext_alloc _ _)) HD.out (by simp only [List.length_append, numB_len]; omega)).mono ?_; rintro e w1 ⟨rfl, v1, hn⟩; have HN := Lib.hid hn; clear hn HB)
      go_roundw
      case rel =>
        refine ⟨k + 1, by omega, by go_num, v1, ?_⟩
        rw [take_flat _ l k hlt, ← HX.out]
        have hz := HN.out
        simp only [List.append_assoc] at hz ⊢
        exact Lib.hid hz
      case measure => simp [intOf]; omega
    · obtain rfl : k = l.length := by omega
      rw [List.take_length] at HB
      go_wp2
      go_end0
      exact ⟨rfl, _, HB.out⟩
end Go.Proofs.YtdenjanihikolaaGreatDoor

namespace Go.Proofs.YtdenjanihikolaaGreatDoor
open Go.RowKit Og
set_option linter.unusedVariables false
set_option linter.unusedSimpArgs false

/-- A row of bytes that the call gives. -/
def Gave (w : World) (xs : List Int) : Ending → World → Prop := fun e w' => ∃ v, e = .returned v ∧ Buf (Lt w.heap.size) w w' v xs

theorem Wr.start (W : World) : Wr (Lt W.heap.size) W ((W.alloc (.cells #[] 5)).alloc (.cells #[.slice (some ⟨W.heap.size, 0, none⟩) 0 0] 79)) (W.heap.size + 1) (.slice (some ⟨W.heap.size, 0, none⟩) 0 0) [] := by
  have hs : (W.alloc (.cells #[] 5)).heap.size = W.heap.size + 1 := by simp
  have e1 : Ext W ((W.alloc (.cells #[] 5)).alloc (.cells #[.slice (some ⟨W.heap.size, 0, none⟩) 0 0] 79)) := (ext_alloc W _).alloc _
  refine ⟨fun h => Nat.lt_irrefl _ (Nat.lt_trans (Nat.lt_succ_self _) h), ?_, ⟨?_, ?_, fun k hk => e1.block k hk, fun k hk => Nat.lt_of_lt_of_le hk e1.size, e1.os, e1.tape, e1.output⟩, ?_⟩
  · rw [← hs]; exact heap_alloc_new _ _
  · refine ⟨by simp [bys], .inr ⟨W.heap.size, 0, #[], rfl, Nat.zero_le _, ?_, Nat.le_refl _, by unfold maxLen; omega, rfl, rfl⟩⟩
    exact ((ext_alloc (W.alloc (.cells #[] 5)) (.cells #[.slice (some ⟨W.heap.size, 0, none⟩) 0 0] 79)).block W.heap.size (by omega)).trans (heap_alloc_new _ _)
  · intro g hg hk
    have : W.heap.size = g := by simpa [Value.ownBlock] using hg
    exact Nat.lt_irrefl _ (this ▸ hk)
  · intro g hg e
    have : W.heap.size = g := by simpa [Value.ownBlock] using hg
    omega

theorem Wr.start_at (W : World) (m : Nat) (hm : W.heap.size = m) : Wr (Lt W.heap.size) W ((W.alloc (.cells #[] 5)).alloc (.cells #[.slice (some ⟨m, 0, none⟩) 0 0] 79)) (m + 1) (.slice (some ⟨m, 0, none⟩) 0 0) [] := by
  subst hm
  exact Wr.start W
theorem Wr.start1 (w : World) (o : Obj) : Wr (Lt (w.alloc o).heap.size) (w.alloc o) (((w.alloc o).alloc (.cells #[] 5)).alloc (.cells #[.slice (some ⟨w.heap.size + 1, 0, none⟩) 0 0] 79)) (w.heap.size + 1 + 1) (.slice (some ⟨w.heap.size + 1, 0, none⟩) 0 0) [] :=
  Wr.start_at _ _ (by simp)

theorem box_at {w w1 : World} {cs : Array Value} {t : TypeId} (e : Ext (w.alloc (.cells cs t)) w1) (j : Nat) (v : Value) (h : cs[j]? = some v) : w1.cell? ⟨w.heap.size, j, none⟩ = some v := by
  have h1 := e.block w.heap.size (by simp)
  rw [heap_alloc_new] at h1
  exact (cell_of_row _ _ _ _ _ _ h1).trans h

theorem gave_of {w w' : World} {o : Obj} {pb : Nat} {v : Value} {xs ys : List Int} (h : Wr (Lt (w.alloc o).heap.size) (w.alloc o) w' pb v xs) (he : xs = ys) : Gave w ys (.returned v) w' := by
  subst he
  refine ⟨v, rfl, ?_⟩
  have hs : (w.alloc o).heap.size = w.heap.size + 1 := by simp
  have e := (ext_alloc w o).trans h.buf.bel
  exact ⟨h.buf.own, fun g hg hk => h.buf.off g hg (by show g < _; have : g < w.heap.size := hk; omega), fun k hk => e.block k hk, fun k hk => Nat.lt_of_lt_of_le hk e.size, e.os, e.tape, e.output⟩
end Go.Proofs.YtdenjanihikolaaGreatDoor

