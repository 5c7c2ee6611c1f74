/- Values that are known by their parts, for regions whose order is open. -/
import Derived.Test.YtdenjanihikolaaGreatDoorUMkd
namespace Go.Proofs.YtdenjanihikolaaGreatDoor
open Go.RowKit
set_option linter.unusedVariables false
set_option linter.unusedSimpArgs false

theorem Rd1.of_ownS {w : World} {B e : Nat} {v : Value} {xs : List ByteArray} (h : w.ownsRow B e 1 v xs.length (xs.map Value.string)) : Rd1 isStr w v xs := by
  rcases h.2 with ⟨rfl, hn⟩ | ⟨g, cap, cur, rfl, hbg, hg, hnc, hcm, hcs, htake⟩
  · exact ⟨none, 0, by rw [hn], by omega, by unfold maxLen; omega, fun h => by omega⟩
  · refine ⟨_, cap, rfl, hnc, hcm, fun _ => ⟨g, 0, rfl, fun j hj => ?_⟩⟩
    have := h.cells (g := g) rfl j (.string xs[j]) (by
      rw [List.getElem?_map, List.getElem?_eq_getElem hj]; rfl)
    rw [add_lit0] at this
    exact ⟨_, this, rfl⟩
theorem one_strs (xs : List ByteArray) : ∀ u ∈ xs.map Value.string, u.oneCell' = true := by
  intro u hu
  obtain ⟨_, _, rfl⟩ := List.mem_map.1 hu
  rfl
theorem one_ints (k : IntKind) (xs : List Int) : ∀ u ∈ xs.map (Value.int k), u.oneCell' = true := by
  intro u hu
  obtain ⟨_, _, rfl⟩ := List.mem_map.1 hu
  rfl

set_option maxRecDepth 100000 in
theorem cloneI (l : List Int) (A : Option Addr) (c : Nat) (w : World) (h : RdI .u32 w (.slice A l.length c) l) (hl : l.length ≤ 1000) : Calls Tryz.prog 59 #[.slice A l.length c] w (GaveR (fun v w => RdI .u32 w v l) l.length w) := by
  have HR := Lib.hid h
  obtain ⟨A', c', hv, h1, h2, h3⟩ := h
  obtain ⟨rfl, rfl⟩ : A = A' ∧ c = c' := by simpa using hv
  have H3 := Lib.hid h3
  clear h3 hv
  cases A with
  | none =>
    have hd : l = [] := by
      rcases Nat.eq_zero_or_pos l.length with h | h
      · exact List.eq_nil_of_length_eq_zero h
      · obtain ⟨_, _, hA, _⟩ := H3.out h; cases hA
    subst hd
    have hq := fun wx => Lib.run_eql_slice_nil (P := Tryz.prog) wx 24 22 none 0 c 0 0 Tryz.underlying24
    go_enter Tryz.func59, Tryz.ntmps59
    go_wp2
    go_ret
    exact ⟨none, 0, rfl, Ext.refl _, fun w3 _ => ⟨none, 0, rfl, Nat.le_refl _, by unfold maxLen; omega, fun h => absurd h (Nat.lt_irrefl 0)⟩⟩
  | some p =>
    have hcell : ∀ j u, (l.map (Value.int .u32))[j]? = some u → (w.alloc (.cells #[] 22)).cell? (p.add j) = some u := by
      intro j u hj
      have hjl : j < l.length := by
        rcases Nat.lt_or_ge j l.length with h | h
        · exact h
        · simp [List.getElem?_eq_none h] at hj
      obtain ⟨b1, o1, hA, hc⟩ := H3.out (by omega)
      have hp : p = ⟨b1, o1, none⟩ := by simpa using hA
      have hpj : p.add j = ⟨b1, o1 + j, none⟩ := by rw [hp, add_lit0]
      rw [hpj]
      refine Ext.cell (w := w) (ext_alloc _ _) ?_
      rw [hc j hjl]
      rw [List.getElem?_map, List.getElem?_eq_getElem hjl] at hj
      simp at hj
      subst hj
      simp [List.getD, List.getElem?_eq_getElem hjl]
    have HC := Lib.hid hcell
    have HF := Lib.hid (Row.fresh 22 w 1)
    clear hcell
    have hq := fun wx => Lib.run_eql_slice_nil (P := Tryz.prog) wx 24 22 (some p) l.length c 0 0 Tryz.underlying24
    go_enter Tryz.func59, Tryz.ntmps59
    go_wp2_with (at_builtin; refine ap_many (p := p) (m := l.length) (c := c) (ys := l.map (Value.int .u32)) rfl (.tmp 5) (.tmp 6) 24 22 4 _ rfl Tryz.underlying24 info22 rfl (by first | rfl | (simp; rfl)) HF.out rfl (by simp) HC.out (one_ints _ l) (by omega) (by decide) ?_; intro a1 c1 w2 hn; have HN := Lib.hid hn; clear hn)
    go_ret
    have hn := HN.out
    rw [Nat.zero_add, List.nil_append] at hn
    refine ⟨some a1, c1, by simp, hn.bel, fun w3 h3 => RdI.of_own (own_stay hn.own hn.off h3)⟩

set_option maxRecDepth 100000 in
theorem cloneS (l : List ByteArray) (A : Option Addr) (c : Nat) (w : World) (h : Rd1 isStr w (.slice A l.length c) l) (hl : l.length ≤ 1000) : Calls Tryz.prog 67 #[.slice A l.length c] w (GaveR (fun v w => Rd1 isStr w v l) l.length w) := by
  have HR := Lib.hid h
  obtain ⟨A', c', hv, h1, h2, h3⟩ := h
  obtain ⟨rfl, rfl⟩ : A = A' ∧ c = c' := by simpa using hv
  have H3 := Lib.hid h3
  clear h3 hv
  cases A with
  | none =>
    have hd : l = [] := by
      rcases Nat.eq_zero_or_pos l.length with h | h
      · exact List.eq_nil_of_length_eq_zero h
      · obtain ⟨_, _, hA, _⟩ := H3.out h; cases hA
    subst hd
    have hq := fun wx => Lib.run_eql_slice_nil (P := Tryz.prog) wx 27 9 none 0 c 0 0 Tryz.underlying27
    go_enter Tryz.func67, Tryz.ntmps67
    go_wp2
    go_ret
    exact ⟨none, 0, rfl, Ext.refl _, fun w3 _ => ⟨none, 0, rfl, Nat.le_refl _, by unfold maxLen; omega, fun h => absurd h (Nat.lt_irrefl 0)⟩⟩
  | some p =>
    have hcell : ∀ j u, (l.map Value.string)[j]? = some u → (w.alloc (.cells #[] 9)).cell? (p.add j) = some u := by
      intro j u hj
      have hjl : j < l.length := by
        rcases Nat.lt_or_ge j l.length with h | h
        · exact h
        · simp [List.getElem?_eq_none h] at hj
      obtain ⟨b1, o1, hA, hc⟩ := H3.out (by omega)
      have hp : p = ⟨b1, o1, none⟩ := by simpa using hA
      have hpj : p.add j = ⟨b1, o1 + j, none⟩ := by rw [hp, add_lit0]
      rw [hpj]
      refine Ext.cell (w := w) (ext_alloc _ _) ?_
      obtain ⟨u', hu, hs⟩ := hc j hjl
      rw [hu, show u' = Value.string l[j] from hs]
      rw [List.getElem?_map, List.getElem?_eq_getElem hjl] at hj
      simpa using hj
    have HC := Lib.hid hcell
    have HF := Lib.hid (Row.fresh 9 w 1)
    clear hcell
    have hq := fun wx => Lib.run_eql_slice_nil (P := Tryz.prog) wx 27 9 (some p) l.length c 0 0 Tryz.underlying27
    go_enter Tryz.func67, Tryz.ntmps67
    go_wp2_with (at_builtin; refine ap_many (p := p) (m := l.length) (c := c) (ys := l.map Value.string) rfl (.tmp 5) (.tmp 6) 27 9 16 _ rfl Tryz.underlying27 info9 rfl (by first | rfl | (simp; rfl)) HF.out rfl (by simp) HC.out (one_strs l) (by omega) (by decide) ?_; intro a1 c1 w2 hn; have HN := Lib.hid hn; clear hn)
    go_ret
    have hn := HN.out
    rw [Nat.zero_add, List.nil_append] at hn
    refine ⟨some a1, c1, by simp, hn.bel, fun w3 h3 => Rd1.of_ownS (own_stay hn.own hn.off h3)⟩
end Go.Proofs.YtdenjanihikolaaGreatDoor

namespace Go.Proofs.YtdenjanihikolaaGreatDoor
open Go.RowKit Og
set_option linter.unusedVariables false
set_option linter.unusedSimpArgs false

def slA : Value → Option Addr
  | .slice a _ _ => a
  | _ => none
def slC : Value → Nat
  | .slice _ _ c => c
  | _ => 0
def agAt (i : Nat) : Value → Value
  | .agg cs => cs.getD i undef
  | v => v
/-- a slice that stays readable -/
def PR (R : Value → World → Prop) (n : Nat) (W1 : World) (u : Value) (x : World) : Prop :=
  u = .slice (slA u) n (slC u) ∧ ∀ w3 : World, (∀ k, W1.heap.size ≤ k → k < x.heap.size → w3.heap[k]? = x.heap[k]?) → R (.slice (slA u) n (slC u)) w3
theorem PR.ext {R : Value → World → Prop} {n : Nat} {W1 x y : World} {u : Value} (h : PR R n W1 u x) (hx : Ext x y) : PR R n W1 u y :=
  ⟨h.1, fun w3 h3 => h.2 w3 fun k h1 h2 => (h3 k h1 (Nat.lt_of_lt_of_le h2 hx.size)).trans (hx.block k h2)⟩
theorem PR.of {R : Value → World → Prop} {n : Nat} {W1 x y : World} {A : Option Addr} {c : Nat} (h : Keeps x y (R (.slice A n c))) (hx : Ext W1 x) : PR R n W1 (.slice A n c) y :=
  ⟨rfl, fun w3 h3 => h w3 fun k h1 h2 => h3 k (Nat.le_trans hx.size h1) h2⟩
theorem PR.at_ {R : Value → World → Prop} {n : Nat} {W1 x : World} {u : Value} (h : PR R n W1 u x) (b : Nat) (w3 : World) (hb : b < W1.heap.size) (hx : ExtBut b x w3) : R (.slice (slA u) n (slC u)) w3 :=
  h.2 w3 fun k h1 h2 => hx.block k h2 (by omega)
def spR (R : Value → World → Prop) (n : Nat) (W1 : World) : Sp Ext := ⟨PR R n W1, fun _ _ _ h k => PR.ext k h⟩
end Go.Proofs.YtdenjanihikolaaGreatDoor

