/- Decode on a strict prefix of a body: kinds without a loop. -/
import Derived.Test.YtdenjanihikolaaGreatDoorUBdz
import Derived.Test.YtdenjanihikolaaGreatDoorUPpd
import Derived.Test.YtdenjanihikolaaGreatDoorUDcz
namespace Go.Proofs.YtdenjanihikolaaGreatDoor
open Go.RowKit
set_option linter.unusedVariables false

/-- R is a strict prefix of T -/
def SPre (R T : List Int) : Prop := ∃ z, T = R ++ z ∧ z ≠ []
theorem SPre.take {T : List Int} {n : Nat} (h : n < T.length) : SPre (T.take n) T :=
  ⟨T.drop n, (List.take_append_drop n T).symm, fun e => by have := congrArg List.length e; simp at this; omega⟩
theorem SPre.nil {R : List Int} : ¬ SPre R [] := by
  rintro ⟨z, h, hz⟩
  cases z with
  | nil => exact hz rfl
  | cons a l => simp at h
theorem SPre.len {R T : List Int} (h : SPre R T) : R.length < T.length := by
  obtain ⟨z, rfl, hz⟩ := h
  have : 0 < z.length := List.length_pos_iff.2 hz
  simp; omega
theorem SPre.mem {R T : List Int} (h : SPre R T) : ∀ y ∈ R, y ∈ T := by
  obtain ⟨z, rfl, _⟩ := h
  exact fun y hy => List.mem_append_left _ hy
/-- a piece of a known length -/
theorem SPre.fixed {R B T : List Int} (h : SPre R (B ++ T)) : R.length < B.length ∨ ∃ R', R = B ++ R' ∧ SPre R' T := by
  obtain ⟨z, he, hz⟩ := h
  rcases Nat.lt_or_ge R.length B.length with hl | hl
  · exact .inl hl
  · refine .inr ⟨R.drop B.length, ?_, z, ?_, hz⟩
    · have h1 := congrArg (List.take B.length) he
      rw [List.take_left, List.take_append_of_le_length hl] at h1
      conv => lhs; rw [← List.take_append_drop B.length R, ← h1]
    · have h1 := congrArg (List.drop B.length) he
      rw [List.drop_left, List.drop_append_of_le_length hl] at h1
      exact h1
/-- a text with its end -/
theorem SPre.text {R s T : List Int} (h : SPre R (s ++ 0 :: T)) (hs : ∀ y ∈ s, y ≠ 0) : (∀ y ∈ R, y ≠ 0) ∨ ∃ R', R = s ++ 0 :: R' ∧ SPre R' T := by
  have h' : SPre R ((s ++ [0]) ++ T) := by simpa using h
  rcases h'.fixed with hl | ⟨R', rfl, h2⟩
  · left
    obtain ⟨z, he, hz⟩ := h
    have hle : R.length ≤ s.length := by simp at hl; omega
    have h1 := congrArg (List.take R.length) he
    rw [List.take_left, List.take_append_of_le_length hle] at h1
    intro y hy
    rw [← h1] at hy
    exact hs y (List.mem_of_mem_take hy)
  · right
    exact ⟨R', by simp, h2⟩

theorem sby_mem {s : ByteArray} {y : Int} (h : y ∈ sby s) : ∃ k, ∃ hk : k < s.size, y = (s[k].toNat : Int) := by
  unfold sby at h
  obtain ⟨b, hb, rfl⟩ := List.mem_map.1 h
  obtain ⟨k, hk, he⟩ := List.mem_iff_getElem.1 hb
  have hk' : k < s.size := by
    have : s.data.toList.length = s.size := by rw [Array.length_toList]; rfl
    omega
  refine ⟨k, hk', ?_⟩
  rw [← he]
  rfl
/-- plain texts have no end inside -/
theorem plain_ne {s : ByteArray} (h : plainP s) : ∀ y ∈ sby s, y ≠ 0 := by
  intro y hy
  obtain ⟨k, hk, rfl⟩ := sby_mem hy
  exact h.2 k hk
def Byte (y : Int) : Prop := 0 ≤ y ∧ y < 256
theorem sby_byte (s : ByteArray) : ∀ y ∈ sby s, Byte y := by
  intro y hy
  obtain ⟨k, hk, rfl⟩ := sby_mem hy
  have := s[k].toNat_lt
  exact ⟨by omega, by omega⟩
theorem numB_byte (n : Int) : ∀ (k : Nat), ∀ y ∈ numB n k, Byte y
  | 0, y, hy => by simp [numB] at hy
  | k + 1, y, hy => by
    simp only [numB, List.mem_cons] at hy
    rcases hy with rfl | hy
    · exact ⟨Int.emod_nonneg _ (by decide), Int.emod_lt_of_pos _ (by decide)⟩
    · exact numB_byte n k y hy
end Go.Proofs.YtdenjanihikolaaGreatDoor

namespace Go.Proofs.YtdenjanihikolaaGreatDoor
open Go.RowKit Og
set_option linter.unusedVariables false
set_option linter.unusedSimpArgs false

theorem RdB.head {w : World} {A : Option Addr} {n c : Nat} {x : Int} {r : List Int} (h : RdB w (.slice A n c) (x :: r)) : ∃ b o, A = some ⟨b, o, none⟩ ∧ w.cell? ⟨b, o, none⟩ = some (.int .u8 x) := by
  obtain ⟨A', c', hv, _, _, h3⟩ := h
  obtain ⟨rfl, _, _⟩ : A = A' ∧ _ := by simpa using hv
  obtain ⟨b, o, hA, hc⟩ := h3 (by simp)
  exact ⟨b, o, hA, by simpa using hc 0 (by simp)⟩
/-- What Next hands back, by pieces. -/
def GaveP (bk : Nat) (w1 : World) (bb : Nat) (w : World) (B R : List Int) (k : Int) : Ending → World → Prop := fun e w' => ∃ A c, e = .returned (.slice A k.toNat c) ∧ RdN bk w1 (.slice A k.toNat c) B ∧ Cur bk w1 bb w' R ∧ ExtBut bb w w'
theorem cur_piece {bk bb : Nat} {w1 w : World} {B R : List Int} (h : Cur bk w1 bb w (B ++ R)) (k : Int) (hk : (B.length : Int) = k) :
    Calls Tryz.prog 168 #[.pointer (some ⟨bb, 0, none⟩), .int .i64 k] w (GaveP bk w1 bb w B R k) := by
  subst hk
  refine (cur_next h B.length (by simp)).mono ?_
  rintro e w' ⟨A, c, rfl, h1, h2, h3⟩
  rw [List.take_left] at h1
  rw [List.drop_left] at h2
  exact ⟨A, c, rfl, h1, h2, h3⟩
theorem rd16n (n : Int) (hn : 0 ≤ n ∧ n < 65536) (A : Option Addr) (m c : Nat) (r : List Int) (w : World) (h : RdB w (.slice A m c) (numB n 2 ++ r)) :
    Calls Tryz.prog 137 #[.slice A m c] w (fun e w' => e = .returned (.int .u16 n) ∧ Ext w w') := by
  have e : numB n 2 ++ r = n / 256 % 256 :: n % 256 :: r := by simp [numB]
  rw [e] at h
  refine (rd16 A m c _ _ r w h ⟨by omega, by omega⟩ ⟨by omega, by omega⟩).mono ?_
  rintro e w' ⟨rfl, hx⟩
  exact ⟨by congr 2; omega, hx⟩
theorem rd32n (n : Int) (hn : 0 ≤ n ∧ n < 4294967296) (A : Option Addr) (m c : Nat) (r : List Int) (w : World) (h : RdB w (.slice A m c) (numB n 4 ++ r)) :
    Calls Tryz.prog 138 #[.slice A m c] w (fun e w' => e = .returned (.int .u32 n) ∧ Ext w w') := by
  have e : numB n 4 ++ r = n / 16777216 % 256 :: n / 65536 % 256 :: n / 256 % 256 :: n % 256 :: r := by simp [numB]
  rw [e] at h
  refine (rd32 A m c _ _ _ _ r w h ⟨by omega, by omega⟩ ⟨by omega, by omega⟩ ⟨by omega, by omega⟩ ⟨by omega, by omega⟩).mono ?_
  rintro e w' ⟨rfl, hx⟩
  exact ⟨by congr 2; omega, hx⟩
/-- the bits of a number that may be negative, read as unsigned -/
theorem numB_mod4 (n : Int) : numB n 4 = numB (n % 4294967296) 4 := by
  simp only [numB]
  simp only [List.cons.injEq, and_true]
  refine ⟨by omega, by omega, by omega, by omega⟩
theorem numB_mod2 (n : Int) : numB n 2 = numB (n % 65536) 2 := by
  simp only [numB]
  simp only [List.cons.injEq, and_true]
  refine ⟨by omega, by omega⟩
end Go.Proofs.YtdenjanihikolaaGreatDoor

namespace Go.Proofs.YtdenjanihikolaaGreatDoor
open Go.RowKit Og
set_option linter.unusedVariables false
set_option linter.unusedSimpArgs false

/-- What a method of decoding hands back where it can't. -/
def NotD (b : Nat) (w1 : World) : Ending → World → Prop := fun e w2 => ∃ Te ve, e = .returned (.iface Te ve) ∧ ExtBut b w1 w2
theorem nums_len2 : ∀ l : List Int, (l.flatMap fun n => numB n 2).length = l.length * 2
  | [] => rfl
  | x :: l => by rw [List.flatMap_cons, List.length_append, numB_len, nums_len2 l, List.length_cons]; omega
set_option maxRecDepth 100000 in
set_option maxHeartbeats 1000000 in
theorem cut42 (n : Int) (l : List Int) (hn : 0 ≤ n ∧ n ≤ 255) (hll : l.length ≤ 20) (xs : List Int) (hx : SPre xs (numB n 1 ++ (numB (l.length : Int) 2 ++ l.flatMap fun n => numB n 2))) (hl : xs.length ≤ 100000) (w1 : World) (b : Nat) (v : Value) (hb : w1.heap[b]? = some (.cells #[.int .u8 0, .slice none 0 0] 205 (0, 0))) (hv : RdB w1 v xs) (hof : v.ownBlock ≠ some b) :
    Calls Tryz.prog 280 #[.pointer (some ⟨b, 0, none⟩), v] w1 (NotD b w1) := by
  have HV := Lib.hid (And.intro hv hof)
  have HLT := Lib.hid (lt_of_block hb)
  have HBK := Lib.hid hb
  clear hv hof hb
  by_cases h3 : xs.length < 3
  · go_enter Tryz.func280, Tryz.ntmps280
    go_wp2_with (first | (go_at_call 165; refine (cur_new (bk := b) (w1 := w1) ⟨HV.out.1, fun _ => HV.out.2⟩ HLT.out (Ext.refl w1).but).mono ?_; rintro e w2 ⟨rfl, hcu, hx⟩; have HC := Lib.hid hcu; have HX := Lib.hid hx; clear hcu hx) | (go_at_call 167; refine (cur_len (by first | exact HC.out | exact HC.out.but ((Ext.refl _).but.set _ _))).mono ?_; rintro e w4 ⟨rfl, hw4⟩; subst hw4))
    (go_ret; exact ⟨_, _, rfl, by first | exact HC.out.bel | exact HC.out.bel.trans (ext_alloc _ _).but | exact (HC.out.bel.set _ _).trans (ext_alloc _ _).but⟩)
  · rcases hx.fixed with h1 | ⟨R, rfl, hR⟩
    · exact absurd h1 (by rw [numB_len]; omega)
    · rcases hR.fixed with h1 | ⟨R2, rfl, hR2⟩
      · exact absurd h1 (by rw [List.length_append, numB_len] at h3; rw [numB_len]; omega)
      · have hr2 : R2.length ≠ l.length * 2 := by
          have h1 := hR2.len
          have h2 := nums_len2 l
          omega
        have HNL : Hid (0 ≤ (l.length : Int) ∧ (l.length : Int) < 65536) := Lib.hid (by omega)
        have hln : (numB n 1 ++ (numB (l.length : Int) 2 ++ R2)).length = 3 + R2.length := by simp only [List.length_append, numB_len]; omega
        have hne : ((R2.length : Int) == (l.length : Int) * 2) = false := by simp; omega
        have hne2 : ¬ ((R2.length : Int) = (l.length : Int) * 2) := by omega
        clear hx hR hR2
        go_enter Tryz.func280, Tryz.ntmps280
        go_wp2_with (first | (go_at_call 165; refine (cur_new (bk := b) (w1 := w1) ⟨HV.out.1, fun _ => HV.out.2⟩ HLT.out (Ext.refl w1).but).mono ?_; rintro e w2 ⟨rfl, hcu, hx⟩; have HC := Lib.hid hcu; have HX := Lib.hid hx; clear hcu hx) | (go_at_call 167; refine (cur_len (by first | exact HC.out | exact HC.out.but ((Ext.refl _).but.set _ _))).mono ?_; rintro e w4 ⟨rfl, hw4⟩; subst hw4) | (go_at_call 168; refine (cur_piece (by first | exact HC.out | exact HC.out.but ((Ext.refl _).but.set _ _)) _ (by first | (rw [numB_len]; rfl) | rfl)).mono ?_; rintro e w5 ⟨A5, c5, rfl, hrn, hcu, hx5⟩; (try clear HN); clear HC; have HC := Lib.hid hcu; have HN := Lib.hid hrn; simp only [Int.reduceToNat]; clear hcu hrn hx5; try (have h9 := (HN.out.at_ HC.out.bel).1; rw [show numB n 1 = [n % 256] from by simp [numB]] at h9; obtain ⟨b5, o5, hA5, hd5⟩ := h9.head; subst hA5; clear h9)) | (go_at_call 137; refine (rd16n (l.length : Int) HNL.out _ _ _ [] _ (by rw [List.append_nil]; exact (HN.out.at_ HC.out.bel).1)).mono ?_; rintro e w6 ⟨rfl, hx6⟩; have HC6 := Lib.hid (HC.out.ext hx6); clear HC; have HC := HC6; clear HC6 hx6))
        (go_ret; exact ⟨_, _, rfl, by first | exact HC.out.bel | exact HC.out.bel.trans (ext_alloc _ _).but | exact (HC.out.bel.set _ _).trans (ext_alloc _ _).but⟩)
set_option maxRecDepth 100000 in
set_option maxHeartbeats 1000000 in
theorem cut43 (n : Int) (l : List Int) (hn : 0 ≤ n ∧ n ≤ 255) (hll : l.length ≤ 20) (xs : List Int) (hx : SPre xs (numB n 1 ++ (numB (l.length : Int) 2 ++ l.flatMap fun n => numB n 2))) (hl : xs.length ≤ 100000) (w1 : World) (b : Nat) (v : Value) (hb : w1.heap[b]? = some (.cells #[.int .u8 0, .slice none 0 0] 207 (0, 0))) (hv : RdB w1 v xs) (hof : v.ownBlock ≠ some b) :
    Calls Tryz.prog 283 #[.pointer (some ⟨b, 0, none⟩), v] w1 (NotD b w1) := by
  have HV := Lib.hid (And.intro hv hof)
  have HLT := Lib.hid (lt_of_block hb)
  have HBK := Lib.hid hb
  clear hv hof hb
  by_cases h3 : xs.length < 3
  · go_enter Tryz.func283, Tryz.ntmps283
    go_wp2_with (first | (go_at_call 165; refine (cur_new (bk := b) (w1 := w1) ⟨HV.out.1, fun _ => HV.out.2⟩ HLT.out (Ext.refl w1).but).mono ?_; rintro e w2 ⟨rfl, hcu, hx⟩; have HC := Lib.hid hcu; have HX := Lib.hid hx; clear hcu hx) | (go_at_call 167; refine (cur_len (by first | exact HC.out | exact HC.out.but ((Ext.refl _).but.set _ _))).mono ?_; rintro e w4 ⟨rfl, hw4⟩; subst hw4))
    (go_ret; exact ⟨_, _, rfl, by first | exact HC.out.bel | exact HC.out.bel.trans (ext_alloc _ _).but | exact (HC.out.bel.set _ _).trans (ext_alloc _ _).but⟩)
  · rcases hx.fixed with h1 | ⟨R, rfl, hR⟩
    · exact absurd h1 (by rw [numB_len]; omega)
    · rcases hR.fixed with h1 | ⟨R2, rfl, hR2⟩
      · exact absurd h1 (by rw [List.length_append, numB_len] at h3; rw [numB_len]; omega)
      · have hr2 : R2.length ≠ l.length * 2 := by
          have h1 := hR2.len
          have h2 := nums_len2 l
          omega
        have HNL : Hid (0 ≤ (l.length : Int) ∧ (l.length : Int) < 65536) := Lib.hid (by omega)
        have hln : (numB n 1 ++ (numB (l.length : Int) 2 ++ R2)).length = 3 + R2.length := by simp only [List.length_append, numB_len]; omega
        have hne : ((R2.length : Int) == (l.length : Int) * 2) = false := by simp; omega
        have hne2 : ¬ ((R2.length : Int) = (l.length : Int) * 2) := by omega
        clear hx hR hR2
        go_enter Tryz.func283, Tryz.ntmps283
        go_wp2_with (first | (go_at_call 165; refine (cur_new (bk := b) (w1 := w1) ⟨HV.out.1, fun _ => HV.out.2⟩ HLT.out (Ext.refl w1).but).mono ?_; rintro e w2 ⟨rfl, hcu, hx⟩; have HC := Lib.hid hcu; have HX := Lib.hid hx; clear hcu hx) | (go_at_call 167; refine (cur_len (by first | exact HC.out | exact HC.out.but ((Ext.refl _).but.set _ _))).mono ?_; rintro e w4 ⟨rfl, hw4⟩; subst hw4) | (go_at_call 168; refine (cur_piece (by first | exact HC.out | exact HC.out.but ((Ext.refl _).but.set _ _)) _ (by first | (rw [numB_len]; rfl) | rfl)).mono ?_; rintro e w5 ⟨A5, c5, rfl, hrn, hcu, hx5⟩; (try clear HN); clear HC; have HC := Lib.hid hcu; have HN := Lib.hid hrn; simp only [Int.reduceToNat]; clear hcu hrn hx5; try (have h9 := (HN.out.at_ HC.out.bel).1; rw [show numB n 1 = [n % 256] from by simp [numB]] at h9; obtain ⟨b5, o5, hA5, hd5⟩ := h9.head; subst hA5; clear h9)) | (go_at_call 137; refine (rd16n (l.length : Int) HNL.out _ _ _ [] _ (by rw [List.append_nil]; exact (HN.out.at_ HC.out.bel).1)).mono ?_; rintro e w6 ⟨rfl, hx6⟩; have HC6 := Lib.hid (HC.out.ext hx6); clear HC; have HC := HC6; clear HC6 hx6))
        (go_ret; exact ⟨_, _, rfl, by first | exact HC.out.bel | exact HC.out.bel.trans (ext_alloc _ _).but | exact (HC.out.bel.set _ _).trans (ext_alloc _ _).but⟩)
set_option maxRecDepth 100000 in
set_option maxHeartbeats 1000000 in
theorem cut44 (n : Int) (l : List Int) (hn : 0 ≤ n ∧ n ≤ 255) (hll : l.length ≤ 20) (xs : List Int) (hx : SPre xs (numB n 1 ++ (numB (l.length : Int) 2 ++ l.flatMap fun n => numB n 2))) (hl : xs.length ≤ 100000) (w1 : World) (b : Nat) (v : Value) (hb : w1.heap[b]? = some (.cells #[.int .u8 0, .slice none 0 0] 209 (0, 0))) (hv : RdB w1 v xs) (hof : v.ownBlock ≠ some b) :
    Calls Tryz.prog 286 #[.pointer (some ⟨b, 0, none⟩), v] w1 (NotD b w1) := by
  have HV := Lib.hid (And.intro hv hof)
  have HLT := Lib.hid (lt_of_block hb)
  have HBK := Lib.hid hb
  clear hv hof hb
  by_cases h3 : xs.length < 3
  · go_enter Tryz.func286, Tryz.ntmps286
    go_wp2_with (first | (go_at_call 165; refine (cur_new (bk := b) (w1 := w1) ⟨HV.out.1, fun _ => HV.out.2⟩ HLT.out (Ext.refl w1).but).mono ?_; rintro e w2 ⟨rfl, hcu, hx⟩; have HC := Lib.hid hcu; have HX := Lib.hid hx; clear hcu hx) | (go_at_call 167; refine (cur_len (by first | exact HC.out | exact HC.out.but ((Ext.refl _).but.set _ _))).mono ?_; rintro e w4 ⟨rfl, hw4⟩; subst hw4))
    (go_ret; exact ⟨_, _, rfl, by first | exact HC.out.bel | exact HC.out.bel.trans (ext_alloc _ _).but | exact (HC.out.bel.set _ _).trans (ext_alloc _ _).but⟩)
  · rcases hx.fixed with h1 | ⟨R, rfl, hR⟩
    · exact absurd h1 (by rw [numB_len]; omega)
    · rcases hR.fixed with h1 | ⟨R2, rfl, hR2⟩
      · exact absurd h1 (by rw [List.length_append, numB_len] at h3; rw [numB_len]; omega)
      · have hr2 : R2.length ≠ l.length * 2 := by
          have h1 := hR2.len
          have h2 := nums_len2 l
          omega
        have HNL : Hid (0 ≤ (l.length : Int) ∧ (l.length : Int) < 65536) := Lib.hid (by omega)
        have hln : (numB n 1 ++ (numB (l.length : Int) 2 ++ R2)).length = 3 + R2.length := by simp only [List.length_append, numB_len]; omega
        have hne : ((R2.length : Int) == (l.length : Int) * 2) = false := by simp; omega
        have hne2 : ¬ ((R2.length : Int) = (l.length : Int) * 2) := by omega
        clear hx hR hR2
        go_enter Tryz.func286, Tryz.ntmps286
        go_wp2_with (first | (go_at_call 165; refine (cur_new (bk := b) (w1 := w1) ⟨HV.out.1, fun _ => HV.out.2⟩ HLT.out (Ext.refl w1).but).mono ?_; rintro e w2 ⟨rfl, hcu, hx⟩; have HC := Lib.hid hcu; have HX := Lib.hid hx; clear hcu hx) | (go_at_call 167; refine (cur_len (by first | exact HC.out | exact HC.out.but ((Ext.refl _).but.set _ _))).mono ?_; rintro e w4 ⟨rfl, hw4⟩; subst hw4) | (go_at_call 168; refine (cur_piece (by first | exact HC.out | exact HC.out.but ((Ext.refl _).but.set _ _)) _ (by first | (rw [numB_len]; rfl) | rfl)).mono ?_; rintro e w5 ⟨A5, c5, rfl, hrn, hcu, hx5⟩; (try clear HN); clear HC; have HC := Lib.hid hcu; have HN := Lib.hid hrn; simp only [Int.reduceToNat]; clear hcu hrn hx5; try (have h9 := (HN.out.at_ HC.out.bel).1; rw [show numB n 1 = [n % 256] from by simp [numB]] at h9; obtain ⟨b5, o5, hA5, hd5⟩ := h9.head; subst hA5; clear h9)) | (go_at_call 137; refine (rd16n (l.length : Int) HNL.out _ _ _ [] _ (by rw [List.append_nil]; exact (HN.out.at_ HC.out.bel).1)).mono ?_; rintro e w6 ⟨rfl, hx6⟩; have HC6 := Lib.hid (HC.out.ext hx6); clear HC; have HC := HC6; clear HC6 hx6))
        (go_ret; exact ⟨_, _, rfl, by first | exact HC.out.bel | exact HC.out.bel.trans (ext_alloc _ _).but | exact (HC.out.bel.set _ _).trans (ext_alloc _ _).but⟩)
set_option maxRecDepth 100000 in
set_option maxHeartbeats 1000000 in
theorem cut53 (a c : ByteArray) (ha : plainP a) (hc : plainP c) (xs : List Int) (hx : SPre xs (sby a ++ 0 :: (sby c ++ 0 :: []))) (hl : xs.length ≤ 100000) (w1 : World) (b : Nat) (v : Value) (hb : w1.heap[b]? = some (.cells #[.string ⟨#[]⟩, .string ⟨#[]⟩] 229 (0, 0))) (hv : RdB w1 v xs) (hof : v.ownBlock ≠ some b) :
    Calls Tryz.prog 326 #[.pointer (some ⟨b, 0, none⟩), v] w1 (NotD b w1) := by
  have HV := Lib.hid (And.intro hv hof)
  have HLT := Lib.hid (lt_of_block hb)
  have HBK := Lib.hid hb
  clear hv hof hb
  rcases hx.text (plain_ne ha) with h0 | ⟨R, rfl, hR⟩
  · have HE := Lib.hid h0
    have HEL : Hid (xs.length ≤ 1000000) := Lib.hid (by omega)
    clear h0 hx hl
    go_enter Tryz.func326, Tryz.ntmps326
    go_wp2_with (first | (go_at_call 165; refine (cur_new (bk := b) (w1 := w1) ⟨HV.out.1, fun _ => HV.out.2⟩ HLT.out (Ext.refl w1).but).mono ?_; rintro e w2 ⟨rfl, hcu, hx⟩; have HC := Lib.hid hcu; have HX := Lib.hid hx; clear hcu hx) | (go_at_call 166; refine (cur_eof (by first | exact HC.out | exact HC.out.but ((Ext.refl _).but.set _ _)) HE.out HEL.out).mono ?_; rintro e w3 ⟨v3, rfl, hcu, hx3⟩; clear HC; have HC := Lib.hid hcu; clear hcu hx3))
    (go_ret; exact ⟨_, _, rfl, by first | exact HC.out.bel | exact HC.out.bel.trans (ext_alloc _ _).but | exact (HC.out.bel.set _ _).trans (ext_alloc _ _).but⟩)
  · rcases hR.text (plain_ne hc) with h0 | ⟨R2, rfl, hR2⟩
    · have HE := Lib.hid h0
      have HEL : Hid (R.length ≤ 1000000) := Lib.hid (by simp at hl; omega)
      have HSa := Lib.hid (plain_ne ha)
      have hla : (sby a).length ≤ 200 := by rw [sby_length]; exact ha.1
      have HLa : Hid ((sby a ++ 0 :: R).length ≤ 1000000) := Lib.hid (by omega)
      clear h0 hx hl hR
      go_enter Tryz.func326, Tryz.ntmps326
      go_wp2_with (first | (go_at_call 165; refine (cur_new (bk := b) (w1 := w1) ⟨HV.out.1, fun _ => HV.out.2⟩ HLT.out (Ext.refl w1).but).mono ?_; rintro e w2 ⟨rfl, hcu, hx⟩; have HC := Lib.hid hcu; have HX := Lib.hid hx; clear hcu hx) | (go_at_call 166; refine (cur_text (s := sby a) (by first | exact HC.out | exact HC.out.but ((Ext.refl _).but.set _ _)) HSa.out HLa.out).mono ?_; rintro e w3 ⟨A3, c3, rfl, hrd, hcu, hx3⟩; clear HC; have HC := Lib.hid hcu; have hcv := conv_rd (show RdB w3 (.slice A3 (sby a).length c3) (sby a) from by (have h9 := hrd.take (sby a).length (by omega); rwa [List.take_left] at h9)); have hc3 : (sby a).length + 1 ≤ c3 := (by have h9 := hrd.parts.2.1; simpa using h9); clear hcu hx3 hrd) | (go_at_call 166; refine (cur_eof (by first | exact HC.out | exact HC.out.but ((Ext.refl _).but.set _ _)) HE.out HEL.out).mono ?_; rintro e w3 ⟨v3, rfl, hcu, hx3⟩; clear HC; have HC := Lib.hid hcu; clear hcu hx3))
      (go_ret; exact ⟨_, _, rfl, by first | exact HC.out.bel | exact HC.out.bel.trans (ext_alloc _ _).but | exact (HC.out.bel.set _ _).trans (ext_alloc _ _).but⟩)
    · exact absurd hR2 SPre.nil
set_option maxRecDepth 100000 in
set_option maxHeartbeats 1000000 in
theorem cut51 (n : Int) (a c : ByteArray) (hn : 0 ≤ n ∧ n < 4294967296) (ha : plainP a) (hc : plainP c) (xs : List Int) (hx : SPre xs (numB n 4 ++ (sby a ++ 0 :: (sby c ++ 0 :: [])))) (hl : xs.length ≤ 100000) (w1 : World) (b : Nat) (v : Value) (hb : w1.heap[b]? = some (.cells #[.int .u32 0, .string ⟨#[]⟩, .string ⟨#[]⟩] 224 (0, 0))) (hv : RdB w1 v xs) (hof : v.ownBlock ≠ some b) :
    Calls Tryz.prog 320 #[.pointer (some ⟨b, 0, none⟩), v] w1 (NotD b w1) := by
  have HV := Lib.hid (And.intro hv hof)
  have HLT := Lib.hid (lt_of_block hb)
  have HBK := Lib.hid hb
  clear hv hof hb
  have HN4 := Lib.hid hn
  rcases hx.fixed with h0 | ⟨R, rfl, hR⟩
  · rw [numB_len] at h0
    go_enter Tryz.func320, Tryz.ntmps320
    go_wp2_with (first | (go_at_call 165; refine (cur_new (bk := b) (w1 := w1) ⟨HV.out.1, fun _ => HV.out.2⟩ HLT.out (Ext.refl w1).but).mono ?_; rintro e w2 ⟨rfl, hcu, hx⟩; have HC := Lib.hid hcu; have HX := Lib.hid hx; clear hcu hx) | (go_at_call 167; refine (cur_len (by first | exact HC.out | exact HC.out.but ((Ext.refl _).but.set _ _))).mono ?_; rintro e w4 ⟨rfl, hw4⟩; subst hw4))
    (go_ret; exact ⟨_, _, rfl, by first | exact HC.out.bel | exact HC.out.bel.trans (ext_alloc _ _).but | exact (HC.out.bel.set _ _).trans (ext_alloc _ _).but⟩)
  · have hln : (numB n 4 ++ R).length = 4 + R.length := by simp only [List.length_append, numB_len]
    rcases hR.text (plain_ne ha) with h0 | ⟨R1, rfl, hR1⟩
    · have HE := Lib.hid h0
      have HEL : Hid (R.length ≤ 1000000) := Lib.hid (by omega)
      clear h0 hx hR hl
      go_enter Tryz.func320, Tryz.ntmps320
      go_wp2_with (first | (go_at_call 165; refine (cur_new (bk := b) (w1 := w1) ⟨HV.out.1, fun _ => HV.out.2⟩ HLT.out (Ext.refl w1).but).mono ?_; rintro e w2 ⟨rfl, hcu, hx⟩; have HC := Lib.hid hcu; have HX := Lib.hid hx; clear hcu hx) | (go_at_call 167; refine (cur_len (by first | exact HC.out | exact HC.out.but ((Ext.refl _).but.set _ _))).mono ?_; rintro e w4 ⟨rfl, hw4⟩; subst hw4) | (go_at_call 168; refine (cur_piece (by first | exact HC.out | exact HC.out.but ((Ext.refl _).but.set _ _)) _ (by first | (rw [numB_len]; rfl) | rfl)).mono ?_; rintro e w5 ⟨A5, c5, rfl, hrn, hcu, hx5⟩; (try clear HN); clear HC; have HC := Lib.hid hcu; have HN := Lib.hid hrn; simp only [Int.reduceToNat]; clear hcu hrn hx5) | (go_at_call 138; refine (rd32n n HN4.out _ _ _ [] _ (by rw [List.append_nil]; exact (HN.out.at_ HC.out.bel).1)).mono ?_; rintro e w6 ⟨rfl, hx6⟩; have HC6 := Lib.hid (HC.out.ext hx6); clear HC; have HC := HC6; clear HC6 hx6) | (go_at_call 166; refine (cur_eof (by first | exact HC.out | exact HC.out.but ((Ext.refl _).but.set _ _)) HE.out HEL.out).mono ?_; rintro e w3 ⟨v3, rfl, hcu, hx3⟩; clear HC; have HC := Lib.hid hcu; clear hcu hx3))
      (go_ret; exact ⟨_, _, rfl, by first | exact HC.out.bel | exact HC.out.bel.trans (ext_alloc _ _).but | exact (HC.out.bel.set _ _).trans (ext_alloc _ _).but⟩)
    · rcases hR1.text (plain_ne hc) with h0 | ⟨R2, rfl, hR2⟩
      · have HE := Lib.hid h0
        have HEL : Hid (R1.length ≤ 1000000) := Lib.hid (by simp only [List.length_append, List.length_cons] at hl; omega)
        have HSa := Lib.hid (plain_ne ha)
        have hla : (sby a).length ≤ 200 := by rw [sby_length]; exact ha.1
        have HLa : Hid ((sby a ++ 0 :: R1).length ≤ 1000000) := Lib.hid (by omega)
        clear h0 hx hl hR hR1
        go_enter Tryz.func320, Tryz.ntmps320
        go_wp2_with (first | (go_at_call 165; refine (cur_new (bk := b) (w1 := w1) ⟨HV.out.1, fun _ => HV.out.2⟩ HLT.out (Ext.refl w1).but).mono ?_; rintro e w2 ⟨rfl, hcu, hx⟩; have HC := Lib.hid hcu; have HX := Lib.hid hx; clear hcu hx) | (go_at_call 167; refine (cur_len (by first | exact HC.out | exact HC.out.but ((Ext.refl _).but.set _ _))).mono ?_; rintro e w4 ⟨rfl, hw4⟩; subst hw4) | (go_at_call 168; refine (cur_piece (by first | exact HC.out | exact HC.out.but ((Ext.refl _).but.set _ _)) _ (by first | (rw [numB_len]; rfl) | rfl)).mono ?_; rintro e w5 ⟨A5, c5, rfl, hrn, hcu, hx5⟩; (try clear HN); clear HC; have HC := Lib.hid hcu; have HN := Lib.hid hrn; simp only [Int.reduceToNat]; clear hcu hrn hx5) | (go_at_call 138; refine (rd32n n HN4.out _ _ _ [] _ (by rw [List.append_nil]; exact (HN.out.at_ HC.out.bel).1)).mono ?_; rintro e w6 ⟨rfl, hx6⟩; have HC6 := Lib.hid (HC.out.ext hx6); clear HC; have HC := HC6; clear HC6 hx6) | (go_at_call 166; refine (cur_text (s := sby a) (by first | exact HC.out | exact HC.out.but ((Ext.refl _).but.set _ _)) HSa.out HLa.out).mono ?_; rintro e w3 ⟨A3, c3, rfl, hrd, hcu, hx3⟩; clear HC; have HC := Lib.hid hcu; have hcv := conv_rd (show RdB w3 (.slice A3 (sby a).length c3) (sby a) from by (have h9 := hrd.take (sby a).length (by omega); rwa [List.take_left] at h9)); have hc3 : (sby a).length + 1 ≤ c3 := (by have h9 := hrd.parts.2.1; simpa using h9); clear hcu hx3 hrd) | (go_at_call 166; refine (cur_eof (by first | exact HC.out | exact HC.out.but ((Ext.refl _).but.set _ _)) HE.out HEL.out).mono ?_; rintro e w3 ⟨v3, rfl, hcu, hx3⟩; clear HC; have HC := Lib.hid hcu; clear hcu hx3))
        (go_ret; exact ⟨_, _, rfl, by first | exact HC.out.bel | exact HC.out.bel.trans (ext_alloc _ _).but | exact (HC.out.bel.set _ _).trans (ext_alloc _ _).but⟩)
      · exact absurd hR2 SPre.nil
set_option maxRecDepth 100000 in
set_option maxHeartbeats 1000000 in
theorem cut7 (a : ByteArray) (n : Int) (ha : plainP a) (xs : List Int) (hx : SPre xs (sby a ++ 0 :: (numB n 4 ++ []))) (hl : xs.length ≤ 100000) (w1 : World) (b : Nat) (v : Value) (hb : w1.heap[b]? = some (.cells #[.string ⟨#[]⟩, .int .u32 0] 124 (0, 0))) (hv : RdB w1 v xs) (hof : v.ownBlock ≠ some b) :
    Calls Tryz.prog 162 #[.pointer (some ⟨b, 0, none⟩), v] w1 (NotD b w1) := by
  have HV := Lib.hid (And.intro hv hof)
  have HLT := Lib.hid (lt_of_block hb)
  have HBK := Lib.hid hb
  clear hv hof hb
  rcases hx.text (plain_ne ha) with h0 | ⟨R, rfl, hR⟩
  · have HE := Lib.hid h0
    have HEL : Hid (xs.length ≤ 1000000) := Lib.hid (by omega)
    clear h0 hx hl
    go_enter Tryz.func162, Tryz.ntmps162
    go_wp2_with (first | (go_at_call 165; refine (cur_new (bk := b) (w1 := w1) ⟨HV.out.1, fun _ => HV.out.2⟩ HLT.out (Ext.refl w1).but).mono ?_; rintro e w2 ⟨rfl, hcu, hx⟩; have HC := Lib.hid hcu; have HX := Lib.hid hx; clear hcu hx) | (go_at_call 166; refine (cur_eof (by first | exact HC.out | exact HC.out.but ((Ext.refl _).but.set _ _)) HE.out HEL.out).mono ?_; rintro e w3 ⟨v3, rfl, hcu, hx3⟩; clear HC; have HC := Lib.hid hcu; clear hcu hx3))
    (go_ret; exact ⟨_, _, rfl, by first | exact HC.out.bel | exact HC.out.bel.trans (ext_alloc _ _).but | exact (HC.out.bel.set _ _).trans (ext_alloc _ _).but⟩)
  · rcases hR.fixed with h0 | ⟨R2, rfl, hR2⟩
    · rw [numB_len] at h0
      have HSa := Lib.hid (plain_ne ha)
      have hla : (sby a).length ≤ 200 := by rw [sby_length]; exact ha.1
      have HLa : Hid ((sby a ++ 0 :: R).length ≤ 1000000) := Lib.hid (by omega)
      clear hx hl hR
      go_enter Tryz.func162, Tryz.ntmps162
      go_wp2_with (first | (go_at_call 165; refine (cur_new (bk := b) (w1 := w1) ⟨HV.out.1, fun _ => HV.out.2⟩ HLT.out (Ext.refl w1).but).mono ?_; rintro e w2 ⟨rfl, hcu, hx⟩; have HC := Lib.hid hcu; have HX := Lib.hid hx; clear hcu hx) | (go_at_call 167; refine (cur_len (by first | exact HC.out | exact HC.out.but ((Ext.refl _).but.set _ _))).mono ?_; rintro e w4 ⟨rfl, hw4⟩; subst hw4) | (go_at_call 166; refine (cur_text (s := sby a) (by first | exact HC.out | exact HC.out.but ((Ext.refl _).but.set _ _)) HSa.out HLa.out).mono ?_; rintro e w3 ⟨A3, c3, rfl, hrd, hcu, hx3⟩; clear HC; have HC := Lib.hid hcu; have hcv := conv_rd (show RdB w3 (.slice A3 (sby a).length c3) (sby a) from by (have h9 := hrd.take (sby a).length (by omega); rwa [List.take_left] at h9)); have hc3 : (sby a).length + 1 ≤ c3 := (by have h9 := hrd.parts.2.1; simpa using h9); have hbk3 := (hx3.block b (Nat.lt_of_lt_of_le HLT.out HX.out.size) (Nat.ne_of_lt HLT.out)).trans ((HX.out.block b HLT.out).trans HBK.out); have hck := cell_slot hbk3 0 _ rfl; have hfk := free_slot hbk3 0; clear hcu hx3 hrd hbk3))
      (go_ret; exact ⟨_, _, rfl, by first | exact HC.out.bel | exact HC.out.bel.trans (ext_alloc _ _).but | exact (HC.out.bel.set _ _).trans (ext_alloc _ _).but⟩)
    · exact absurd hR2 SPre.nil
end Go.Proofs.YtdenjanihikolaaGreatDoor

