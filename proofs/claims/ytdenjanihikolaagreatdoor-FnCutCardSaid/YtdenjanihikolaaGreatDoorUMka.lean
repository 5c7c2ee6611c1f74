/- Helpers of made, by contract. -/
import Derived.Test.YtdenjanihikolaaGreatDoorUWk
import Derived.Test.YtdenjanihikolaaGreatDoorUDec
namespace Go.Proofs.YtdenjanihikolaaGreatDoor
open Go.RowKit
set_option linter.unusedVariables false
set_option linter.unusedSimpArgs false

/-- What stays true while the blocks between two worlds stand. -/
def Keeps (w w' : World) (R : World → Prop) : Prop := ∀ w3 : World, (∀ k, w.heap.size ≤ k → k < w'.heap.size → w3.heap[k]? = w'.heap[k]?) → R w3
theorem Keeps.at_ {w w' : World} {R : World → Prop} (h : Keeps w w' R) (b : Nat) (w3 : World) (hb : b < w.heap.size) (hx : ExtBut b w' w3) : R w3 :=
  h w3 fun k h1 h2 => hx.block k h2 (by omega)
theorem own_stay {w w' w3 : World} {e size n : Nat} {v : Value} {xs : List Value} (h : w'.ownsRow 0 e size v n xs) (hoff : ∀ g, v.ownBlock = some g → ¬ g < w.heap.size) (hx : ∀ k, w.heap.size ≤ k → k < w'.heap.size → w3.heap[k]? = w'.heap[k]?) : w3.ownsRow 0 e size v n xs :=
  own_keep h fun g hg => hx g (Nat.le_of_not_lt (hoff g hg)) (h.lt g hg).2
theorem own_but {w w' w3 : World} {b e size n : Nat} {v : Value} {xs : List Value} (h : w'.ownsRow 0 e size v n xs) (hoff : ∀ g, v.ownBlock = some g → ¬ g < w.heap.size) (hb : b < w.heap.size) (hx : ExtBut b w' w3) : w3.ownsRow 0 e size v n xs :=
  own_keep h fun g hg => hx.block g (h.lt g hg).2 fun e => hoff g hg (e ▸ hb)
theorem Buf.keeps {w w' : World} {v : Value} {xs : List Int} (h : Buf (Lt w.heap.size) w w' v xs) : Keeps w w' (fun w3 => RdB w3 v xs) :=
  fun w3 hx => RdB.of_own (own_stay h.own h.off hx)
/-- A row that is handed back and read. -/
def GaveR (R : Value → World → Prop) (n : Nat) (w : World) : Ending → World → Prop := fun e w' => ∃ A c, e = .returned (.slice A n c) ∧ Ext w w' ∧ Keeps w w' (R (.slice A n c))
theorem copiedK (v : Value) (xs : List Int) (w : World) (h : RdB w v xs) (hl : xs.length ≤ 1000000) : Calls Tryz.prog 47 #[v] w (GaveR (fun v w => RdB w v xs) xs.length w) := by
  refine (copied47 v xs w h hl).mono ?_
  rintro e w' ⟨v', rfl, hb⟩
  obtain ⟨A, c, rfl⟩ := hb.len
  exact ⟨A, c, rfl, hb.bel, hb.keeps⟩
theorem str_keeps (w : World) (s : ByteArray) (hs : s.size ≤ maxLen) : Keeps w (Lib.bytesWorld w 5 s) (fun w3 => RdB w3 (.slice (some ⟨w.heap.size, 0, none⟩) s.size (grownCap w s.size 0 5)) (sby s)) := by
  intro w3 hx
  obtain ⟨A, c, hv, h1, h2, h3⟩ := RdB.str w s hs
  refine ⟨A, c, hv, h1, h2, fun hp => ?_⟩
  obtain ⟨b', off, hA, hc⟩ := h3 hp
  refine ⟨b', off, hA, fun j hj => ?_⟩
  have hAv : A = some ⟨w.heap.size, 0, none⟩ := by
    have := hv
    simp only [Value.slice.injEq] at this
    exact this.1.symm
  have hb' : b' = w.heap.size := by
    rw [hA] at hAv
    simp at hAv
    exact hAv.1
  subst hb'
  rw [cell_of_heap (hx w.heap.size (Nat.le_refl _) (by rw [Lib.bytesWorld_size]; omega))]
  exact hc j hj
end Go.Proofs.YtdenjanihikolaaGreatDoor

