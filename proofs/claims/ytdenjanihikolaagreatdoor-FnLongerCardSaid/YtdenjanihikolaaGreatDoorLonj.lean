/- Where the drawn region of FnLonger stands. -/
import Derived.Test.YtdenjanihikolaaGreatDoorSd
namespace Go.Proofs.YtdenjanihikolaaGreatDoor
open Go.RowKit Og
set_option linter.unusedVariables false
set_option linter.unusedSimpArgs false

def ptrB : Value → Nat
  | .pointer (some a) => a.block
  | _ => 0
/-- The blocks that the body's row must not be. -/
def LK (W0 : World) (L : Nat → Bool) (vs : Nat → Value) (k : Nat) : Prop := k < W0.heap.size ∨ (L 10 = true ∧ k = ptrB (vs 10))
def LonP (W0 : World) (v : Value) (w : World) : Prop := v = .pointer (some ⟨ptrB v, 0, none⟩) ∧ W0.heap.size ≤ ptrB v ∧ w.heap[ptrB v]? = some (.cells #[.int .i64 0, .string ⟨#[]⟩, .string ⟨#[]⟩, .int .u32 0, .int .u32 0, .slice none 0 0, .slice none 0 0, .slice none 0 0, .slice none 0 0, .slice none 0 0, .slice none 0 0, .slice none 0 0, .slice none 0 0] 31 (0, 0))
/-- 3: the body, 5: the append, 6: the decoder, 10: the variable, 11: its store. -/
def LonJ (W0 : World) (R bh : List Int) (L : Nat → Bool) (vs : Nat → Value) (w : World) : Prop :=
  Ext W0 w ∧ (L 11 = false → (L 10 = true → LonP W0 (vs 10) w) ∧ (L 5 = true → L 6 = false → RdB w (vs 5) (R ++ bh)) ∧ (L 3 = true → L 5 = false → Buf (LK W0 L vs) w w (vs 3) R))
theorem LonJ.keep {W0 : World} {R bh : List Int} {L : Nat → Bool} {vs : Nat → Value} {w : World} (h : LonJ W0 R bh L vs w) (i : Nat) (u : Value) (h3 : 3 ≠ i) (h5 : 5 ≠ i) (h6 : 6 ≠ i) (h10 : 10 ≠ i) (h11 : 11 ≠ i) : LonJ W0 R bh (updB L i) (upd vs i u) w := by
  have hk : LK W0 (updB L i) (upd vs i u) = LK W0 L vs := by
    funext k; simp [LK, updB, upd, h10]
  unfold LonJ at *
  rw [hk]
  simpa [updB, upd, h3, h5, h6, h10, h11] using h
theorem LonJ.start (W0 : World) (R bh : List Int) : LonJ W0 R bh (fun _ => false) (fun _ => undef) W0.drew :=
  ⟨(Ext.refl W0).drew, fun _ => ⟨fun h => (by cases h), fun h _ => (by cases h), fun h _ => (by cases h)⟩⟩
theorem LonP.ext {W0 w w2 : World} {v : Value} (h : LonP W0 v w) (hx : Ext w w2) : LonP W0 v w2 := ⟨h.1, h.2.1, (hx.block _ (lt_of_block h.2.2)).trans h.2.2⟩
theorem upd_same (vs : Nat → Value) (i : Nat) (u : Value) : upd vs i u i = u := by simp [upd]
theorem LonJ.step3 {W0 : World} {R bh : List Int} {L : Nat → Bool} {vs : Nat → Value} {w w2 : World} {v : Value} (h : LonJ W0 R bh L vs w) (h5 : L 5 = false) (h11 : L 11 = false) (hb : Buf (Lt w.heap.size) w w2 v R) : LonJ W0 R bh (updB L 3) (upd vs 3 v) w2 := by
  have hx := hb.bel
  have hk : LK W0 (updB L 3) (upd vs 3 v) = LK W0 L vs := by funext k; simp [LK, updB, upd]
  obtain ⟨h1, h2⟩ := h
  obtain ⟨hp, hr, _⟩ := h2 h11
  refine ⟨h1.trans hx, fun _ => ⟨fun h10 => ?_, fun h5' => ?_, fun _ _ => ?_⟩⟩
  · have : L 10 = true := by simpa [updB] using h10
    simpa [upd] using (hp this).ext hx
  · exact absurd h5' (by simp [updB, h5])
  · rw [hk, upd_same]
    have hlt : ∀ k, LK W0 L vs k → k < w.heap.size := by
      rintro k (hk | ⟨h10, rfl⟩)
      · exact Nat.lt_of_lt_of_le hk h1.size
      · exact lt_of_block (hp h10).2.2
    exact hb.rebase (fun k hk => Nat.lt_of_lt_of_le (hlt k hk) hx.size) fun g hg hk => hb.off g hg (hlt g hk)
theorem LonJ.ext_of {W0 : World} {L : Nat → Bool} {vs : Nat → Value} {w w2 : World} {v : Value} {xs : List Int} (h : Ext W0 w) (hb : Buf (LK W0 L vs) w w2 v xs) : Ext W0 w2 :=
  ⟨hb.os.trans h.os, hb.tape.trans h.tape, hb.output.trans h.output, Nat.le_of_not_lt fun hl => Nat.lt_irrefl _ (hb.lt _ (.inl hl)), fun k hk => (hb.kept k (.inl hk)).trans (h.block k hk)⟩
theorem LonJ.step5 {W0 : World} {R bh : List Int} {L : Nat → Bool} {vs : Nat → Value} {w w2 : World} {v : Value} (h : LonJ W0 R bh L vs w) (h11 : L 11 = false) (hb : Buf (LK W0 L vs) w w2 v (R ++ bh)) : LonJ W0 R bh (updB L 5) (upd vs 5 v) w2 := by
  obtain ⟨h1, h2⟩ := h
  obtain ⟨hp, _, _⟩ := h2 h11
  refine ⟨LonJ.ext_of h1 hb, fun _ => ⟨fun h10 => ?_, fun _ _ => ?_, fun _ h5' => ?_⟩⟩
  · have h10' : L 10 = true := by simpa [updB] using h10
    have hq := hp h10'
    have : upd vs 5 v 10 = vs 10 := by simp [upd]
    rw [this]
    exact ⟨hq.1, hq.2.1, (hb.kept _ (.inr ⟨h10', rfl⟩)).trans hq.2.2⟩
  · rw [upd_same]; exact hb.rd
  · exact absurd h5' (by simp [updB])
theorem LonJ.step6 {W0 : World} {R bh : List Int} {L : Nat → Bool} {vs : Nat → Value} {w w2 : World} {u : Value} (h : LonJ W0 R bh L vs w) (h5 : L 5 = true) (h11 : L 11 = false) (hx : Ext w w2) : LonJ W0 R bh (updB L 6) (upd vs 6 u) w2 := by
  obtain ⟨h1, h2⟩ := h
  obtain ⟨hp, _, _⟩ := h2 h11
  refine ⟨h1.trans hx, fun _ => ⟨fun h10 => ?_, fun _ h6 => ?_, fun _ h5' => ?_⟩⟩
  · have h10' : L 10 = true := by simpa [updB] using h10
    simpa [upd] using (hp h10').ext hx
  · exact absurd h6 (by simp [updB])
  · exact absurd h5' (by simp [updB, h5])
theorem LonJ.step10 {W0 : World} {R bh : List Int} {L : Nat → Bool} {vs : Nat → Value} {w : World} (h : LonJ W0 R bh L vs w) (h10 : L 10 = false) (h11 : L 11 = false) : LonJ W0 R bh (updB L 10) (upd vs 10 (.pointer (some ⟨w.heap.size, 0, none⟩))) (w.alloc (.cells #[.int .i64 0, .string ⟨#[]⟩, .string ⟨#[]⟩, .int .u32 0, .int .u32 0, .slice none 0 0, .slice none 0 0, .slice none 0 0, .slice none 0 0, .slice none 0 0, .slice none 0 0, .slice none 0 0, .slice none 0 0] 31)) := by
  obtain ⟨h1, h2⟩ := h
  obtain ⟨_, hr, hb⟩ := h2 h11
  have hx := ext_alloc w (.cells #[.int .i64 0, .string ⟨#[]⟩, .string ⟨#[]⟩, .int .u32 0, .int .u32 0, .slice none 0 0, .slice none 0 0, .slice none 0 0, .slice none 0 0, .slice none 0 0, .slice none 0 0, .slice none 0 0, .slice none 0 0] 31)
  refine ⟨h1.trans hx, fun _ => ⟨fun _ => ?_, fun h5 h6 => ?_, fun h3 h5 => ?_⟩⟩
  · rw [upd_same]
    exact ⟨rfl, h1.size, heap_alloc_new _ _⟩
  · have h5' : L 5 = true := by simpa [updB] using h5
    have h6' : L 6 = false := by simpa [updB] using h6
    have : upd vs 10 (.pointer (some ⟨w.heap.size, 0, none⟩)) 5 = vs 5 := by simp [upd]
    rw [this]
    exact (hr h5' h6').ext hx
  · have h3' : L 3 = true := by simpa [updB] using h3
    have h5' : L 5 = false := by simpa [updB] using h5
    have : upd vs 10 (.pointer (some ⟨w.heap.size, 0, none⟩)) 3 = vs 3 := by simp [upd]
    rw [this]
    have hbb := (hb h3' h5')
    refine (hbb.ext hx).rebase ?_ ?_
    · rintro k (hk | ⟨_, hk⟩)
      · exact Nat.lt_of_lt_of_le hk (Nat.le_trans h1.size hx.size)
      · rw [upd_same] at hk
        have : k = w.heap.size := hk
        simp; omega
    · rintro g hg (hk | ⟨_, hk⟩)
      · exact hbb.off g hg (.inl hk)
      · rw [upd_same] at hk
        have hk' : g = w.heap.size := hk
        have := hbb.own_lt g hg
        omega
theorem LonJ.step11 {W0 : World} {R bh : List Int} {L : Nat → Bool} {vs : Nat → Value} {w : World} (h : Ext W0 w) (u : Value) : LonJ W0 R bh (updB L 11) (upd vs 11 u) w :=
  ⟨h, fun h11 => absurd h11 (by simp [updB])⟩
end Go.Proofs.YtdenjanihikolaaGreatDoor
