/- The writer of the reference: a value, by contract. -/
import Derived.Test.YtdenjanihikolaaGreatDoorWrc
namespace Go.Proofs.YtdenjanihikolaaGreatDoor
open Go.RowKit Og
set_option linter.unusedVariables false
set_option linter.unusedSimpArgs false

/-- What a region keeps that appends to the writer and stores. -/
def AppJ (K : Nat → Prop) (w0 W : World) (pb : Nat) (ys : List Int) (s a : Nat) (L : Nat → Bool) (vs : Nat → Value) (w : World) : Prop :=
  if L s = true then ∃ v', Wr K w0 w pb v' ys else if L a = true then Buf (fun k => K k ∨ k = pb) W w (vs a) ys else w = W
theorem AppJ.keep {K : Nat → Prop} {w0 W : World} {pb : Nat} {ys : List Int} {s a : Nat} {L : Nat → Bool} {vs : Nat → Value} {w : World} (h : AppJ K w0 W pb ys s a L vs w) (i : Nat) (u : Value) (h1 : a ≠ i) (h2 : s ≠ i) : AppJ K w0 W pb ys s a (updB L i) (upd vs i u) w := by
  unfold AppJ at *
  simpa [updB, upd, h1, h2] using h

/-- the bytes of a value of the reference -/
def valB (nul : Bool) (d : List Int) : List Int := if nul then numB (-1) 4 else numB d.length 4 ++ d

theorem Wr.box {K : Nat → Prop} {w0 w : World} {pb : Nat} {v : Value} {xs : List Int} (h : Wr K w0 w pb v xs) (o : Obj) : Wr (fun k => K k ∨ k = w.heap.size) (w.alloc o) (w.alloc o) pb v xs :=
  ⟨fun hk => hk.elim h.out fun e => Nat.lt_irrefl _ (e ▸ lt_of_block h.blk), (h.ext (ext_alloc w o)).blk, h.buf.box o, h.off⟩
theorem Wr.unbox {K : Nat → Prop} {w0 w w' : World} {pb : Nat} {v v' : Value} {xs ys : List Int} {o : Obj} (h : Wr K w0 w pb v xs) (h' : Wr (fun k => K k ∨ k = w.heap.size) (w.alloc o) w' pb v' ys) : Wr K w0 w' pb v' ys :=
  ⟨h.out, h'.blk, h.buf.unbox h'.buf, h'.off⟩

set_option maxRecDepth 100000 in
set_option maxHeartbeats 1000000 in
theorem value_w (nul : Bool) (A : Option Addr) (c : Nat) (d : List Int) {w0 w : World} {pb : Nat} {v : Value} {xs : List Int} (h : Wr (Lt w0.heap.size) w0 w pb v xs) (hr : RdB w0 (.slice A d.length c) d) (hl : xs.length + d.length + 4 ≤ 1099511627776) :
    Calls Tryz.prog 42 #[.pointer (some ⟨pb, 0, none⟩), .agg #[.bool nul, .slice A d.length c]] w (Wrote (Lt w0.heap.size) w0 pb (xs ++ valB nul d)) := by
  have H0 := Lib.hid h
  have H := Lib.hid (h.box (.cells #[.bool nul, .slice A d.length c] 59))
  clear h
  have HR := Lib.hid hr
  clear hr
  cases nul
  · go_enter Tryz.func42, Tryz.ntmps42
    go_wp2_with (go_at_call 36; refine (number_w 4 (by omega) _ H.out (by omega)).mono ?_; rintro e w1 ⟨rfl, v1, hn⟩; have hb1 := (hn.buf.boxed 1); simp only [List.getElem?_toArray, List.getElem?_cons_succ, List.getElem?_cons_zero] at hb1; have HN := Lib.hid (H0.out.unbox hn); clear hn H)
    have HR1 := Lib.hid (HR.out.ext HN.out.drew.buf.bel)
    have hcW := HN.out.drew.cell
    have HX := Lib.hid HN.out.drew
    have hbW : w1.drew.cell? ⟨w.heap.size, 1, none⟩ = some (.slice A d.length c) := hb1
    clear hb1 HN HR H0
    refine wp_region_ogL (J := AppJ (Lt w0.heap.size) w0 w1.drew pb (xs ++ numB (d.length : Int) 4 ++ d) 8 6) (R := fun _ _ => True) [Sp.eq _ (.pointer (some ⟨pb, 0, none⟩)), Sp.eq _ (.pointer (some ⟨pb, 0, none⟩)), Sp.eq _ (.pointer (some ⟨pb, 0, none⟩)), Sp.eq _ (v1), Sp.eq _ (.pointer (some ⟨w.heap.size, 1, none⟩)), Sp.eq _ (.slice A d.length c), Sp.any _, Sp.eq _ (.pointer (some ⟨pb, 0, none⟩)), Sp.any _] (by kernel_rfl) (by kernel_rfl) ?_ ?_ ?_
    · rfl
    · refine ⟨?_, ?_, ?_, ?_, ?_, ?_, ?_, ?_, ?_, trivial⟩
      · intro vs w1 L hLi hd hdt hJ hp
        have HJ := Lib.hid hJ
        clear hp hd hdt hLi hJ
        simp only [putAll, Nat.reduceAdd]
        go_wp2
        exact ⟨rfl, HJ.out.keep 0 _ (by decide) (by decide), trivial, rfl⟩
      · intro vs w1 L hLi hd hdt hJ hp
        have HJ := Lib.hid hJ
        clear hp hd hdt hLi hJ
        simp only [putAll, Nat.reduceAdd]
        go_wp2
        exact ⟨rfl, HJ.out.keep 1 _ (by decide) (by decide), trivial, rfl⟩
      · intro vs w1 L hLi hd hdt hJ hp
        have q1 : vs 1 = .pointer (some ⟨pb, 0, none⟩) := hp 1 (by decide)
        have HJ := Lib.hid hJ
        clear hp hd hdt hLi hJ
        simp only [putAll, Nat.reduceAdd]
        go_wp2
        exact ⟨rfl, HJ.out.keep 2 _ (by decide) (by decide), trivial, rfl⟩
      · intro vs w1 L hLi hd hdt hJ hp
        have q2 : vs 2 = .pointer (some ⟨pb, 0, none⟩) := hp 2 (by decide)
        have HJ := Lib.hid hJ
        have hL6 : L 6 = false := hdt 6 (by decide)
        have hL8 : L 8 = false := hdt 8 (by decide)
        unfold AppJ at hJ
        rw [hL8, hL6] at hJ
        simp only [Bool.false_eq_true, if_false] at hJ
        subst hJ
        clear hp hd hdt hLi hL6 hL8
        simp only [putAll, Nat.reduceAdd]
        go_wp2
        exact ⟨rfl, HJ.out.keep 3 _ (by decide) (by decide), trivial, rfl⟩
      · intro vs w1 L hLi hd hdt hJ hp
        have HJ := Lib.hid hJ
        clear hp hd hdt hLi hJ
        simp only [putAll, Nat.reduceAdd]
        go_wp2
        exact ⟨rfl, HJ.out.keep 4 _ (by decide) (by decide), trivial, rfl⟩
      · intro vs w1 L hLi hd hdt hJ hp
        have q4 : vs 4 = .pointer (some ⟨w.heap.size, 1, none⟩) := hp 4 (by decide)
        have HJ := Lib.hid hJ
        have hL6 : L 6 = false := hdt 6 (by decide)
        have hL8 : L 8 = false := hdt 8 (by decide)
        unfold AppJ at hJ
        rw [hL8, hL6] at hJ
        simp only [Bool.false_eq_true, if_false] at hJ
        subst hJ
        clear hp hd hdt hLi hL6 hL8
        simp only [putAll, Nat.reduceAdd]
        go_wp2
        exact ⟨rfl, HJ.out.keep 5 _ (by decide) (by decide), trivial, rfl⟩
      · intro vs w1 L hLi hd hdt hJ hp
        have q3 : vs 3 = v1 := hp 3 (by decide)
        have q5 : vs 5 = .slice A d.length c := hp 5 (by decide)
        have hL8 : L 8 = false := hdt 8 (by decide)
        unfold AppJ at hJ
        rw [hL8, hLi] at hJ
        simp only [Bool.false_eq_true, if_false] at hJ
        subst hJ
        have HL8 := Lib.hid hL8
        clear hp hd hdt hLi hL8
        simp only [putAll, Nat.reduceAdd]
        refine ap_row (v := v1) (vx := .slice A d.length c) (ys := d) rfl (.tmp 16) (.tmp 18) 79 26 rfl Tryz.underlying79 Tryz.underlying26 (by simp only [evp_none, ne_eq, Nat.reduceEqDiff, not_false_eq_true, evp_ne]; rw [evp_same _ _ _ (by simp [evp_size])]; exact q3) HX.out.open (by simp only [evp_none, ne_eq, Nat.reduceEqDiff, not_false_eq_true, evp_ne]; rw [evp_same _ _ _ (by simp [evp_size])]; exact q5) HR1.out (by simp only [List.length_append, numB_len]; omega) ?_
        intro v2 w2 hn
        refine ⟨rfl, ?_, trivial, trivial⟩
        unfold AppJ
        simp only [updB, upd, HL8.out, Bool.false_or, Nat.reduceBEq, Bool.false_eq_true, if_false, beq_self_eq_true, Bool.or_true, if_true]
        rw [slot_put _ _ _ (by simp [evp_size])]
        exact hn
      · intro vs w1 L hLi hd hdt hJ hp
        have q0 : vs 0 = .pointer (some ⟨pb, 0, none⟩) := hp 0 (by decide)
        have q1 : vs 1 = .pointer (some ⟨pb, 0, none⟩) := hp 1 (by decide)
        have q2 : vs 2 = .pointer (some ⟨pb, 0, none⟩) := hp 2 (by decide)
        have q3 : vs 3 = v1 := hp 3 (by decide)
        have q4 : vs 4 = .pointer (some ⟨w.heap.size, 1, none⟩) := hp 4 (by decide)
        have q5 : vs 5 = .slice A d.length c := hp 5 (by decide)
        have HJ := Lib.hid hJ
        clear hp hd hdt hLi hJ
        simp only [putAll, Nat.reduceAdd]
        go_wp2
        exact ⟨rfl, HJ.out.keep 7 _ (by decide) (by decide), trivial, rfl⟩
      · intro vs w1 L hLi hd hdt hJ hp
        have q0 : vs 0 = .pointer (some ⟨pb, 0, none⟩) := hp 0 (by decide)
        have q1 : vs 1 = .pointer (some ⟨pb, 0, none⟩) := hp 1 (by decide)
        have q2 : vs 2 = .pointer (some ⟨pb, 0, none⟩) := hp 2 (by decide)
        have q3 : vs 3 = v1 := hp 3 (by decide)
        have q4 : vs 4 = .pointer (some ⟨w.heap.size, 1, none⟩) := hp 4 (by decide)
        have q5 : vs 5 = .slice A d.length c := hp 5 (by decide)
        have q7 : vs 7 = .pointer (some ⟨pb, 0, none⟩) := hp 7 (by decide)
        have hL6 : L 6 = true := hd 6 (by decide)
        unfold AppJ at hJ
        rw [hLi, hL6] at hJ
        simp only [Bool.false_eq_true, if_false, if_true] at hJ
        have HJ := Lib.hid hJ
        have hc1 := cell_of_one (HX.out.in_ hJ)
        have hf1 := free_of_one (HX.out.in_ hJ)
        obtain ⟨A2, n2, c2, hv2⟩ := hJ.sl
        have HV := Lib.hid hv2
        clear hp hd hdt hLi hJ hL6 hv2
        simp only [putAll, Nat.reduceAdd]
        rw [HV.out]
        go_wp2
        refine ⟨rfl, ?_, trivial, trivial⟩
        unfold AppJ
        simp only [updB, Nat.reduceAdd, beq_self_eq_true, Bool.or_true, if_true]
        have hz := HX.out.close HJ.out
        rw [HV.out] at hz
        exact ⟨_, hz⟩
    · intro vs w1 L hall hJ hp
      have q0 : vs 0 = .pointer (some ⟨pb, 0, none⟩) := hp 0 (by decide)
      have q1 : vs 1 = .pointer (some ⟨pb, 0, none⟩) := hp 1 (by decide)
      have q2 : vs 2 = .pointer (some ⟨pb, 0, none⟩) := hp 2 (by decide)
      have q3 : vs 3 = v1 := hp 3 (by decide)
      have q4 : vs 4 = .pointer (some ⟨w.heap.size, 1, none⟩) := hp 4 (by decide)
      have q5 : vs 5 = .slice A d.length c := hp 5 (by decide)
      have q7 : vs 7 = .pointer (some ⟨pb, 0, none⟩) := hp 7 (by decide)
      have hL8 := hall 8 (by decide)
      unfold AppJ at hJ
      rw [hL8] at hJ
      simp only [if_true] at hJ
      obtain ⟨v2, hw2⟩ := hJ
      have HN := Lib.hid hw2
      clear hw2 hp hall hL8
      simp only [putAll]
      go_wp2
      go_end0
      refine ⟨rfl, v2, ?_⟩
      have hz := HN.out
      rw [List.append_assoc] at hz
      exact hz
  · go_enter Tryz.func42, Tryz.ntmps42
    go_wp2_with (go_at_call 36; refine (number_w 4 (by omega) _ H.out (by omega)).mono ?_; rintro e w1 ⟨rfl, v1, hn⟩; have HN := Lib.hid (H0.out.unbox hn); clear hn)
    go_end0
    exact ⟨rfl, _, HN.out⟩
end Go.Proofs.YtdenjanihikolaaGreatDoor
