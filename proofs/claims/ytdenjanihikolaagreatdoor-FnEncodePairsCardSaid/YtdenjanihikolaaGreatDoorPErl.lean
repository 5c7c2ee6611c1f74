/- Bind's Decode on a strict prefix of a body: what its loops keep. -/
import Derived.Test.YtdenjanihikolaaGreatDoorPErk
import Derived.Test.YtdenjanihikolaaGreatDoorPDcp
import Derived.Test.YtdenjanihikolaaGreatDoorPMda
namespace Go.Proofs.YtdenjanihikolaaGreatDoor
set_option linter.unusedVariables false
set_option linter.unusedSimpArgs false
open Go.RowKit Og
set_option linter.unusedVariables false
set_option linter.unusedSimpArgs false
theorem push_all : ∀ (l : List UInt8) (r : ByteArray), (l.map fun b => (b.toNat : Int)).foldl (fun r n => r.push (UInt8.ofNat n.toNat)) r = ⟨r.data ++ l.toArray⟩
  | [], r => by simp
  | b :: l, r => by
    rw [List.map_cons, List.foldl_cons, push_all l]
    have e : UInt8.ofNat ((b.toNat : Int).toNat) = b := by simp
    rw [e]
    cases r with
    | mk d => simp [ByteArray.push]
theorem str_sby (s : ByteArray) : strOf (sby s) = s := by
  unfold strOf sby
  rw [push_all]
  cases s with
  | mk d =>
    show (⟨#[] ++ d.toList.toArray⟩ : ByteArray) = ⟨d⟩
    simp
/-- The rest that is still to be read, in the block tb made since W0. -/
structure Rst (W0 : World) (tb : Nat) (w : World) (xs : List Int) : Prop where
  bel : Ext W0 w
  lo : W0.heap.size ≤ tb
  blk : ∃ A c, w.heap[tb]? = some (.cells #[.slice A xs.length c] 26 (0, 0)) ∧ RdB W0 (.slice A xs.length c) xs
theorem Rst.ext {tb : Nat} {W0 w w' : World} {xs : List Int} (h : Rst W0 tb w xs) (hx : Ext w w') : Rst W0 tb w' xs := by
  obtain ⟨A, c, hb, hr⟩ := h.blk
  exact ⟨h.bel.trans hx, h.lo, A, c, (hx.block tb (lt_of_block hb)).trans hb, hr⟩
theorem Rst.set {tb : Nat} {W0 w : World} {xs ys : List Int} (h : Rst W0 tb w xs) {A : Option Addr} {n c : Nat} (hr : RdB W0 (.slice A n c) ys) : Rst W0 tb (w.setCell ⟨tb, 0, none⟩ (.slice A n c)) ys ∧ ExtBut tb w (w.setCell ⟨tb, 0, none⟩ (.slice A n c)) := by
  obtain ⟨A0, c0, hb, _⟩ := h.blk
  obtain ⟨rfl, _, _⟩ := hr.parts
  have hE : ExtBut tb w (w.setCell ⟨tb, 0, none⟩ (.slice A ys.length c)) := (Ext.refl w).but.set 0 _
  exact ⟨⟨hE.ext h.bel h.lo, h.lo, A, c, slot_setCell hb, hr⟩, hE⟩
theorem Rst.row {tb e size n m : Nat} {W0 w w' : World} {R : List Int} {v v' : Value} {xs ys : List Value} (hc : Rst W0 tb w R) (ho : Own tb W0 w e size v n xs) (hr : Row e size (But w v) w w' v' m ys) : Rst W0 tb w' R := by
  obtain ⟨A, c, hb, hrd⟩ := hc.blk
  have hlt := lt_of_block hb
  have hbb : But w v tb := ⟨hlt, fun e => (ho.off tb e).2 rfl⟩
  have h2 := hr.lt tb hbb
  have hs : W0.heap.size ≤ w'.heap.size := by have := hc.lo; omega
  refine ⟨⟨hr.os.trans hc.bel.os, hr.tape.trans hc.bel.tape, hr.output.trans hc.bel.output, hs, fun k hk => ?_⟩, hc.lo, A, c, (hr.kept tb hbb).trans hb, hrd⟩
  have hk' : But w v k := ⟨Nat.lt_of_lt_of_le hk hc.bel.size, fun e => by have := (ho.off k e).1; omega⟩
  exact (hr.kept k hk').trans (hc.bel.block k hk)
/-- One block alone turns, and what stands there once it is filled stays. -/
def RP (b : Nat) (C : Obj) (w w' : World) : Prop := ExtBut b w w' ∧ (w.heap[b]? = some C → w'.heap[b]? = some C)
theorem RP.refl (b : Nat) (C : Obj) (w : World) : RP b C w w := ⟨(Ext.refl w).but, id⟩
def JP (b : Nat) (C0 C1 : Obj) (W x : World) : Prop := ExtBut b W x ∧ (x.heap[b]? = some C0 ∨ x.heap[b]? = some C1)
theorem JP.cell {b : Nat} {u0 u1 v0 v1 : Value} {t : TypeId} {W x : World} (h : JP b (.cells #[u0, u1] t (0, 0)) (.cells #[v0, v1] t (0, 0)) W x) : ∃ y, x.cell? ⟨b, 0, none⟩ = some y := by
  rcases h.2 with h | h
  · exact ⟨_, cell_slot h 0 u0 rfl⟩
  · exact ⟨_, cell_slot h 0 v0 rfl⟩
theorem JP.free {b : Nat} {u0 u1 v0 v1 : Value} {t : TypeId} {W x : World} (h : JP b (.cells #[u0, u1] t (0, 0)) (.cells #[v0, v1] t (0, 0)) W x) : x.frozen? ⟨b, 0, none⟩ = false := by
  rcases h.2 with h | h
  · exact free_slot h 0
  · exact free_slot h 0
theorem JP.set {b : Nat} {u0 u1 v0 : Value} {t : TypeId} {W x : World} (h : JP b (.cells #[u0, u1] t (0, 0)) (.cells #[v0, u1] t (0, 0)) W x) : JP b (.cells #[u0, u1] t (0, 0)) (.cells #[v0, u1] t (0, 0)) W (x.setCell ⟨b, 0, none⟩ v0) ∧ RP b (.cells #[v0, u1] t (0, 0)) x (x.setCell ⟨b, 0, none⟩ v0) ∧ (x.setCell ⟨b, 0, none⟩ v0).heap[b]? = some (.cells #[v0, u1] t (0, 0)) := by
  have h1 : (x.setCell ⟨b, 0, none⟩ v0).heap[b]? = some (.cells #[v0, u1] t (0, 0)) := by
    rcases h.2 with h | h
    · exact slot_setCell (j := 0) (u := v0) h
    · exact slot_setCell (j := 0) (u := v0) h
  exact ⟨⟨h.1.set 0 v0, .inr h1⟩, ⟨(Ext.refl x).but.set 0 v0, fun _ => h1⟩, h1⟩
theorem Ext.trans2 {b : Nat} {W w w' : World} (h : Ext W w) (h2 : ExtBut b w w') (hb : W.heap.size ≤ b) : Ext W w' := h2.ext h hb
theorem Rst.butO {tb b : Nat} {W0 w w' : World} {xs : List Int} (h : Rst W0 tb w xs) (hx : ExtBut b w w') (hlt : tb < b) : Rst W0 tb w' xs := by
  obtain ⟨A, c, hb, hr⟩ := h.blk
  have := h.lo
  exact ⟨hx.ext h.bel (by omega), h.lo, A, c, (hx.block tb (lt_of_block hb) (by omega)).trans hb, hr⟩
theorem ExtBut.low {tb b : Nat} {w0 w w' : World} (h : ExtBut tb w0 w) (hx : ExtBut b w w') (hb : w0.heap.size ≤ b) : ExtBut tb w0 w' :=
  ⟨hx.os.trans h.os, hx.tape.trans h.tape, hx.output.trans h.output, Nat.le_trans h.size hx.size, fun k hk hne => (hx.block k (Nat.lt_of_lt_of_le hk h.size) (by omega)).trans (h.block k hk hne)⟩
theorem ExtBut.other {bb b j : Nat} {v : Value} {w0 w : World} (h : ExtBut bb w0 w) (hb : w0.heap.size ≤ b) : ExtBut bb w0 (w.setCell ⟨b, j, none⟩ v) :=
  ⟨h.os, h.tape, h.output, by simpa [World.setCell] using h.size, fun k hk hne => (heap_setCell_other w ⟨b, j, none⟩ k v (by simp only []; omega)).trans (h.block k hk hne)⟩
theorem Rst.other {tb b j : Nat} {v : Value} {W0 w : World} {xs : List Int} (h : Rst W0 tb w xs) (hlt : tb < b) : Rst W0 tb (w.setCell ⟨b, j, none⟩ v) xs := by
  obtain ⟨A, c, hb, hr⟩ := h.blk
  have := h.lo
  refine ⟨⟨h.bel.os, h.bel.tape, h.bel.output, by simpa [World.setCell] using h.bel.size, fun k hk => (heap_setCell_other w ⟨b, j, none⟩ k v (by simp only []; omega)).trans (h.bel.block k hk)⟩, h.lo, A, c, (heap_setCell_other w ⟨b, j, none⟩ tb v (by simp only []; omega)).trans hb, hr⟩
/-- What the closure hands back: a text. -/
def GaveX (W0 : World) (tb : Nat) (w : World) (s : ByteArray) (r : List Int) : Ending → World → Prop := fun e w' => e = .returned (.tuple #[.string s, .bool true]) ∧ Rst W0 tb w' r ∧ ExtBut tb w w'
theorem Rst.lt {tb : Nat} {W0 w : World} {xs : List Int} (h : Rst W0 tb w xs) : tb < w.heap.size := by
  obtain ⟨A, c, hb, _⟩ := h.blk
  exact lt_of_block hb
theorem RdB.tail {w : World} {A : Option Addr} {n c : Nat} {xs : List Int} (h : RdB w (.slice A n c) xs) {A' : Option Addr} {c' k : Nat} (hs : ∀ (b : Nat) (w : World) (xs : List Int), RdN b w (.slice A n c) xs → RdN b w (.slice A' (n - k) c') (xs.drop k)) : RdB w (.slice A' (n - k) c') (xs.drop k) := by
  by_cases hb : ∃ b, A = some b
  · obtain ⟨⟨b, o, p⟩, rfl⟩ := hb
    exact (hs (b + 1) w xs ⟨h, fun _ e => by simp [Value.ownBlock] at e⟩).1
  · have hA : A = none := by
      cases A with
      | none => rfl
      | some a => exact absurd ⟨a, rfl⟩ hb
    subst hA
    exact (hs 0 w xs ⟨h, fun _ e => by simp [Value.ownBlock] at e⟩).1
set_option maxRecDepth 100000 in
set_option maxHeartbeats 1000000 in
theorem text43 {tb : Nat} {W0 w : World} {s : ByteArray} {r : List Int} (h : Rst W0 tb w (sby s ++ 0 :: r)) (hs : ∀ y ∈ sby s, y ≠ 0) (hl : (sby s ++ 0 :: r).length ≤ 1000000) :
    Calls Tryz.prog 43 #[.pointer (some ⟨tb, 0, none⟩)] w (GaveX W0 tb w s r) := by
  obtain ⟨A, c, hb, hr⟩ := h.blk
  have hc := cell_slot hb 0 _ rfl
  have hf := free_slot hb 0
  have HR := Lib.hid (hr.ext h.bel)
  have HR1 := Lib.hid hr
  have H := Lib.hid h
  have HS := Lib.hid hs
  obtain ⟨hn, hcm, hcx⟩ := hr.parts
  have HL : Hid ((sby s ++ 0 :: r).length = (sby s).length + 1 + r.length) := Lib.hid (by simp; omega)
  have HT : Hid (RdB w (.slice A (sby s).length c) (sby s)) := Lib.hid (by
    have h1 := HR.out.take (sby s).length (by rw [HL.out]; omega)
    rwa [List.take_left] at h1)
  have hcv : (convert 26 9 (.slice A (sby s).length c)).run Tryz.prog w = .ok (.string s) w := by rw [conv_rd HT.out, str_sby]
  obtain ⟨b1, o1, hA, hcell⟩ : ∃ b1 o1, A = some ⟨b1, o1, none⟩ ∧ ∀ j, j < (sby s ++ 0 :: r).length → w.cell? ⟨b1, o1 + j, none⟩ = some (.int .u8 ((sby s ++ 0 :: r).getD j 0)) := by
    obtain ⟨A', c', hv, _, _, h3⟩ := HR.out
    obtain ⟨rfl, _⟩ : A = A' ∧ c = c' := by simpa using hv
    exact h3 (by rw [HL.out]; omega)
  subst hA
  have HCE := Lib.hid hcell
  obtain ⟨N, hN⟩ : ∃ N, N = (sby s ++ 0 :: r).length := ⟨_, rfl⟩
  have HN := Lib.hid hN
  obtain ⟨A2, c2, hsl, hdr⟩ := sl_at (some ⟨b1, o1, none⟩) N c ((sby s).length + 1) (by rw [HN.out, HL.out]; omega) (by rw [HN.out]; exact hcm) hcx
  have HDR : Hid (RdB W0 (.slice A2 (N - ((sby s).length + 1)) c2) r) := Lib.hid (by
    have h1 := RdB.tail (by rw [HN.out]; exact HR1.out) hdr
    have h2 : (sby s ++ 0 :: r).drop ((sby s).length + 1) = r := by simp [List.drop_append]
    rwa [h2] at h1)
  rw [← hN] at hc
  obtain ⟨M, hM⟩ : ∃ M, M = (sby s).length := ⟨_, rfl⟩
  have HM := Lib.hid hM
  have HML : Hid (M + 1 ≤ N) := Lib.hid (by rw [HM.out, HN.out, HL.out]; omega)
  have hNl := HML.out
  have hNc : N ≤ c := by rw [HN.out]; exact hcm
  have hNs : N ≤ 1000000 := by rw [HN.out]; exact hl
  rw [← hM] at hcv hsl HDR
  clear hr h hb hs hcell hN hM hdr hn hl hcm
  go_enter Tryz.func43, Tryz.ntmps43
  go_wp2
  go_loopw [8] (fun i wr => ∃ k : Nat, k ≤ M ∧ i = .int .i64 k ∧ wr = w) (fun i _ => M - (intOf i).toNat)
  case atStart => exact ⟨0, Nat.zero_le _, rfl, rfl⟩
  case round =>
    obtain ⟨k, hk, rfl, rfl⟩ := hrel
    by_cases hlt : k < M
    · have hlt2 : k < (sby s).length := by rw [← HM.out]; exact hlt
      have hd := HCE.out k (by rw [HL.out]; omega)
      rw [show (sby s ++ 0 :: r).getD k 0 = (sby s)[k] by simp [List.getD, List.getElem?_append_left hlt2, List.getElem?_eq_getElem hlt2]] at hd
      have hne := HS.out _ (List.getElem_mem hlt2)
      obtain ⟨y, hy⟩ : ∃ y, y = (sby s)[k] := ⟨_, rfl⟩
      rw [← hy] at hd hne
      have hnb : (y == 0) = false := by simpa using hne
      clear hy hlt2
      go_wp2
      go_roundw
      case rel => exact ⟨k + 1, by omega, by go_num, by first | trivial | rfl⟩
      case measure => simp only [intOf]; omega
    · obtain rfl : k = M := by omega
      have hd := HCE.out k (by rw [HL.out, ← HM.out]; omega)
      rw [show (sby s ++ 0 :: r).getD k 0 = 0 by rw [HM.out]; simp [List.getD]] at hd
      go_wp2
      go_ret2
      obtain ⟨h1, h2⟩ := H.out.set HDR.out
      exact ⟨rfl, h1, h2⟩
def GaveQ (ps : List Pr) (w : World) : Ending → World → Prop := fun e w' => ∃ A c, e = .returned (.tuple #[.slice A ps.length c, .bool true]) ∧ Ext w w' ∧ RdM 2 isPr w' (.slice A ps.length c) ps
/-- pairs that are read -/
def spPrs (ps : List Pr) : Sp Ext := ⟨fun v x => v = .slice (slA v) ps.length (slC v) ∧ RdM 2 isPr x v ps, fun _ _ _ h k => ⟨k.1, k.2.ext h fun _ _ h => h⟩⟩
theorem flat_drop1 {α β : Type} (f : α → List β) (l : List α) (k : Nat) (h : k < l.length) : (l.drop k).flatMap f = f l[k] ++ (l.drop (k + 1)).flatMap f := by
  rw [List.drop_eq_getElem_cons h, List.flatMap_cons]
theorem srt_lt {ps : List Pr} (h : Srt ps) : ps.Pairwise ltP := h
set_option maxRecDepth 100000 in
set_option maxHeartbeats 4000000 in
theorem readS (qs ps : List Pr) (hq : ∀ y ∈ qs, plainP y.1 ∧ plainP y.2 ∧ y.1.size = 1) (hl : qs.length ≤ 100) (hpm : qs.Perm ps) (hs : Srt ps) (A : Option Addr) (n c : Nat) (w : World) (hr : RdB w (.slice A n c) (qs.flatMap erB ++ [0])) :
    Calls Tryz.prog 17 #[.slice A n c, .bool true] w (GaveQ ps w) := by
  have hmf : ∀ (fn : Fn) (first cap : Array Value) (w : World), (Instr.makeFunc fn first cap).run Tryz.prog w = .ok (.func fn first cap) w := fun _ _ _ _ => rfl
  obtain ⟨hn, _, _⟩ := hr.parts
  have HQ := Lib.hid hq
  have HPS := Lib.hid (And.intro hpm hs)
  have HFL : Hid (∀ y ∈ qs, (erB y).length ≤ 402) := Lib.hid (fun y hy => by
    have h1 := (hq y hy).1.1
    have h2 := (hq y hy).2.1.1
    simp only [erB, txt, List.length_append, List.length_cons, List.length_nil, sby_length]
    omega)
  have HST : Hid (Rst w w.heap.size (w.alloc (.cells #[.slice A n c] 26)) (qs.flatMap erB ++ [0])) := Lib.hid ⟨ext_alloc w _, Nat.le_refl _, A, c, by rw [← hn]; exact heap_alloc_new _ _, by rw [← hn]; exact hr⟩
  clear hq hpm hs hr hn
  go_enter Tryz.func17, Tryz.ntmps17
  go_wp2
  go_loopw [6] (fun v wr => ∃ k : Nat, k ≤ qs.length ∧ slN v = k ∧ Hid (Rst w w.heap.size wr ((qs.drop k).flatMap erB ++ [0])) ∧ Hid (Own w.heap.size w wr 48 2 v k ((qs.take k).flatMap prV))) (fun v _ => qs.length - slN v)
  case atStart => exact ⟨0, Nat.zero_le _, rfl, HST, Lib.hid ⟨World.ownsRow_nil _ _ _ _, fun g hg => by simp [Value.ownBlock] at hg⟩⟩
  case round =>
    clear HST
    obtain ⟨k, hk1, hsn, HST, HO⟩ := hrel
    obtain ⟨Av, cv, hv⟩ := own_slice HO.out.own
    subst hv
    obtain ⟨A1, c1, hb1, hr1⟩ := HST.out.blk
    have hc := cell_slot hb1 0 _ rfl
    have HB1 := Lib.hid hb1
    have HR1 := Lib.hid hr1
    clear hb1 hsn
    by_cases hlt : k < qs.length
    · have hpl := HQ.out _ (List.getElem_mem hlt)
      have hfd := flat_drop1 erB qs k hlt
      have HTT := Lib.hid (take_succ2 qs k hlt)
      have hflr := flat_len erB 402 (qs.drop (k + 1)) fun y hy => HFL.out y (List.mem_of_mem_drop hy)
      have hdl : (qs.drop (k + 1)).length ≤ 100 := by rw [List.length_drop]; omega
      obtain ⟨⟨x1, x2⟩, hx⟩ : ∃ x, x = qs[k] := ⟨_, rfl⟩
      rw [← hx] at hpl hfd HTT
      obtain ⟨REST, hRS⟩ : ∃ R, R = (qs.drop (k + 1)).flatMap erB ++ [0] := ⟨_, rfl⟩
      have HRS := Lib.hid hRS
      have hrl : REST.length ≤ 50000 := by rw [hRS, List.length_append]; simp only [List.length_cons, List.length_nil]; omega
      have heq : (qs.drop k).flatMap erB ++ [0] = sby x1 ++ sby x2 ++ 0 :: REST := by
        rw [hfd, hRS]
        simp only [erB, txt, List.append_assoc, List.cons_append, List.nil_append]
      rw [heq] at hc hr1 HST HB1 HR1
      clear hx hfd heq hRS hflr hdl
      have hp1 : plainP x1 := hpl.1
      have hp2 : plainP x2 := hpl.2.1
      have hsz : x1.size = 1 := hpl.2.2
      have HN1 := Lib.hid (plain_pos hp1)
      have HN2 := Lib.hid (plain_pos hp2)
      have HP12 := Lib.hid (And.intro hp1 hp2)
      have hs1 := hp1.1
      have hs2 := hp2.1
      obtain ⟨y0, ys0, hy0⟩ : ∃ y ys, sby x1 = y :: ys := List.exists_cons_of_ne_nil (fun e => by have h9 := sby_length x1; rw [e] at h9; simp at h9; omega)
      have hy0n : 0 < y0 ∧ y0 < 256 := HN1.out y0 (by rw [hy0]; simp)
      have hyb : (y0 == 0) = false := by simp; omega
      have hyb2 : (y0 != 0) = true := by simp; omega
      obtain ⟨b1, o1, hA1, hd0⟩ : ∃ b o, A1 = some ⟨b, o, none⟩ ∧ wr.cell? ⟨b, o, none⟩ = some (.int .u8 y0) := by
        have h9 := hr1.ext HST.out.bel
        rw [hy0] at h9
        exact h9.head
      subst hA1
      have HY0 := Lib.hid hy0
      have HHP := Lib.hid (And.intro hy0n hpl)
      clear hr1 hp1 hp2 hpl hy0 hy0n
      have hpos : (0 : Int) < ((sby x1 ++ sby x2 ++ 0 :: REST).length : Int) := by simp only [List.length_append, List.length_cons]; omega
      obtain ⟨N1, hN1⟩ : ∃ N, N = (sby x1 ++ sby x2 ++ 0 :: REST).length := ⟨_, rfl⟩
      rw [← hN1] at hc hpos HB1 HR1
      have HNN := Lib.hid hN1
      clear hN1
      have hdec : decide ((0 : Int) < (N1 : Int)) = true := decide_eq_true hpos
      have HLT : Hid (w.heap.size < wr.heap.size) := Lib.hid (lt_of_block HB1.out)
      have HPA : Hid ((wr.alloc (.cells #[.string ⟨#[]⟩, .string ⟨#[]⟩] 48)).heap[wr.heap.size]? = some (.cells #[.string ⟨#[]⟩, .string ⟨#[]⟩] 48 (0, 0))) := Lib.hid (heap_alloc_new _ _)
      have HSTA := Lib.hid (HST.out.ext (ext_alloc wr (.cells #[.string ⟨#[]⟩, .string ⟨#[]⟩] 48)))
      have HEA : Hid (ExtBut w.heap.size wr (wr.alloc (.cells #[.string ⟨#[]⟩, .string ⟨#[]⟩] 48))) := Lib.hid (ext_alloc wr _).but
      obtain ⟨A4, c4, hsl4, hdr4⟩ := sl_at (some ⟨b1, o1, none⟩) N1 c1 1 (by omega) (by rw [HNN.out]; exact HR1.out.parts.2.1) HR1.out.parts.2.2
      have HTL1 : Hid ((sby x1).length = 1) := Lib.hid (by rw [sby_length]; exact hsz)
      have HT1 : Hid (RdB w (.slice (some ⟨b1, o1, none⟩) 1 c1) (sby x1)) := Lib.hid (by
        have h9 := HR1.out.take 1 (by omega)
        rw [show (sby x1 ++ sby x2 ++ 0 :: REST).take 1 = sby x1 by rw [List.append_assoc, ← HTL1.out, List.take_left]] at h9
        exact h9)
      have HREST : Hid (RdB w (.slice A4 (N1 - 1) c4) (sby x2 ++ 0 :: REST)) := Lib.hid (by
        have h9 := RdB.tail (k := 1) HR1.out hdr4
        rw [show (sby x1 ++ sby x2 ++ 0 :: REST).drop 1 = sby x2 ++ 0 :: REST by rw [List.append_assoc, ← HTL1.out, List.drop_left]] at h9
        exact h9)
      have HCT := Lib.hid ((ext_alloc wr (.cells #[.string ⟨#[]⟩, .string ⟨#[]⟩] 48)).cell hc)
      have hone : 1 ≤ N1 := by omega
      have hNc1 : N1 ≤ c1 := by rw [HNN.out]; exact HR1.out.parts.2.1
      clear hdr4
      go_wp2
      refine wp_region_cut (J := JP wr.heap.size (.cells #[.string ⟨#[]⟩, .string ⟨#[]⟩] 48 (0, 0)) (.cells #[.string x1, .string ⟨#[]⟩] 48 (0, 0)) (wr.alloc (.cells #[.string ⟨#[]⟩, .string ⟨#[]⟩] 48))) (R := RP wr.heap.size (.cells #[.string x1, .string ⟨#[]⟩] 48 (0, 0))) 7 [Sp.eq _ (.slice (some ⟨b1, o1, none⟩) N1 c1), Sp.eq _ (.slice (some ⟨b1, o1, none⟩) 1 c1), Sp.eq _ (.string x1), Sp.eq _ (.slice (some ⟨b1, o1, none⟩) N1 c1), Sp.eq _ (.slice A4 (N1 - 1) c4), Sp.eq _ (.pointer (some ⟨wr.heap.size, 0, none⟩)), ⟨fun _ x => x.heap[wr.heap.size]? = some (.cells #[.string x1, .string ⟨#[]⟩] 48 (0, 0)), fun _ _ _ h k => h.2 k⟩] (by kernel_rfl) (by kernel_rfl) ?_ ?_ ?_
      · exact ⟨((Ext.refl _).drew).but, .inl HPA.out⟩
      · refine ⟨?_, ?_, ?_, ?_, ?_, ?_, ?_, trivial⟩
        · intro vs w1 hJ hp
          have HJ := Lib.hid hJ
          have hq := hJ.1.cell HCT.out (by have := HLT.out; omega)
          clear hp hJ
          simp only [List.take_succ_cons, List.take_zero, putAll, Nat.reduceAdd]
          go_wp2
          exact ⟨rfl, HJ.out, RP.refl _ _ _, rfl⟩
        · intro vs w1 hJ hp
          have q0 : vs 0 = .slice (some ⟨b1, o1, none⟩) N1 c1 := hp 0 (by decide)
          have HJ := Lib.hid hJ
          clear hp hJ
          simp only [List.take_succ_cons, List.take_zero, putAll, Nat.reduceAdd]
          go_wp2
          exact ⟨rfl, HJ.out, RP.refl _ _ _, rfl⟩
        · intro vs w1 hJ hp
          have q1 : vs 1 = .slice (some ⟨b1, o1, none⟩) 1 c1 := hp 1 (by decide)
          have q1 : vs 1 = .slice (some ⟨b1, o1, none⟩) 1 c1 := hp 1 (by decide)
          have HJ := Lib.hid hJ
          have hcv : (convert 26 9 (.slice (some ⟨b1, o1, none⟩) 1 c1)).run Tryz.prog w1 = .ok (.string x1) w1 := by rw [conv_rd (HT1.out.ext ((HST.out.bel.trans (ext_alloc wr _)).trans2 hJ.1 (Nat.le_trans HST.out.bel.size (Nat.le_refl _)))), str_sby]
          clear hp hJ
          simp only [List.take_succ_cons, List.take_zero, putAll, Nat.reduceAdd]
          go_wp2
          exact ⟨rfl, HJ.out, RP.refl _ _ _, rfl⟩
        · intro vs w1 hJ hp
          have HJ := Lib.hid hJ
          have hq := hJ.1.cell HCT.out (by have := HLT.out; omega)
          clear hp hJ
          simp only [List.take_succ_cons, List.take_zero, putAll, Nat.reduceAdd]
          go_wp2
          exact ⟨rfl, HJ.out, RP.refl _ _ _, rfl⟩
        · intro vs w1 hJ hp
          have q3 : vs 3 = .slice (some ⟨b1, o1, none⟩) N1 c1 := hp 3 (by decide)
          have HJ := Lib.hid hJ
          clear hp hJ
          simp only [List.take_succ_cons, List.take_zero, putAll, Nat.reduceAdd]
          go_wp2
          exact ⟨rfl, HJ.out, RP.refl _ _ _, rfl⟩
        · intro vs w1 hJ hp
          have q0 : vs 0 = .slice (some ⟨b1, o1, none⟩) N1 c1 := hp 0 (by decide)
          have q1 : vs 1 = .slice (some ⟨b1, o1, none⟩) 1 c1 := hp 1 (by decide)
          have q2 : vs 2 = .string x1 := hp 2 (by decide)
          have HJ := Lib.hid hJ
          clear hp hJ
          simp only [List.take_succ_cons, List.take_zero, putAll, Nat.reduceAdd]
          go_wp2
          exact ⟨rfl, HJ.out, RP.refl _ _ _, rfl⟩
        · intro vs w1 hJ hp
          have q0 : vs 0 = .slice (some ⟨b1, o1, none⟩) N1 c1 := hp 0 (by decide)
          have q1 : vs 1 = .slice (some ⟨b1, o1, none⟩) 1 c1 := hp 1 (by decide)
          have q2 : vs 2 = .string x1 := hp 2 (by decide)
          have q5 : vs 5 = .pointer (some ⟨wr.heap.size, 0, none⟩) := hp 5 (by decide)
          have HJ := Lib.hid hJ
          obtain ⟨y, hz⟩ := hJ.cell
          have hy := hJ.free
          clear hp hJ
          simp only [List.take_succ_cons, List.take_zero, putAll, Nat.reduceAdd]
          go_wp2
          exact ⟨rfl, HJ.out.set.1, HJ.out.set.2.1, HJ.out.set.2.2⟩
      · intro vs w1 hJ hp
        have q0 : vs 0 = .slice (some ⟨b1, o1, none⟩) N1 c1 := hp 0 (by decide)
        have q1 : vs 1 = .slice (some ⟨b1, o1, none⟩) 1 c1 := hp 1 (by decide)
        have q2 : vs 2 = .string x1 := hp 2 (by decide)
        have q3 : vs 3 = .slice (some ⟨b1, o1, none⟩) N1 c1 := hp 3 (by decide)
        have q4 : vs 4 = .slice A4 (N1 - 1) c4 := hp 4 (by decide)
        have q5 : vs 5 = .pointer (some ⟨wr.heap.size, 0, none⟩) := hp 5 (by decide)
        have HJ := Lib.hid hJ
        have HPC : Hid (w1.heap[wr.heap.size]? = some (.cells #[.string x1, .string ⟨#[]⟩] 48 (0, 0))) := Lib.hid (hp 6 (by decide))
        clear hp hJ
        have HTB : Hid (w1.heap[w.heap.size]? = some (.cells #[.slice (some ⟨b1, o1, none⟩) N1 c1] 26 (0, 0))) := Lib.hid ((HJ.out.1.block _ (by have := HLT.out; simp; omega) (by have := HLT.out; omega)).trans (((ext_alloc wr (.cells #[.string ⟨#[]⟩, .string ⟨#[]⟩] 48)).block _ (lt_of_block HB1.out)).trans HB1.out))
        have htc0 := cell_slot HTB.out 0 (.slice (some ⟨b1, o1, none⟩) N1 c1) rfl
        have htf0 := free_slot HTB.out 0
        have HST1 := Lib.hid (HSTA.out.butO HJ.out.1 HLT.out)
        have HSTB := Lib.hid (HST1.out.set HREST.out).1
        have HEB := Lib.hid ((HEA.out.low HJ.out.1 (Nat.le_refl wr.heap.size)).trans (HST1.out.set HREST.out).2)
        have HPB := Lib.hid (((HST1.out.set HREST.out).2.block _ (lt_of_block HPC.out) (by have := HLT.out; omega)).trans HPC.out)
        clear HSTA HPA HEA
        simp only [List.take_succ_cons, List.take_zero, List.drop_succ_cons, List.drop_zero, putAll, Nat.reduceAdd, Act.put, q0, q1, q2, q3, q4, q5, List.setIfInBounds_toArray, List.set_cons_zero, List.set_cons_succ]
        go_wp2_with (first | (go_at_call 43; refine (text43 HSTB.out (fun y hy => by have := HN2.out y hy; omega) (by simp only [List.length_append, List.length_cons, sby_length]; omega)).mono ?_; rintro e w6 ⟨rfl, hst6, hx6⟩; have HP6 := Lib.hid ((hx6.block _ (lt_of_block HPB.out) (by have := HLT.out; omega)).trans HPB.out); have hzd0 := cell_slot HP6.out 0 (.string x1) rfl; have hzd1 := cell_slot HP6.out 1 (.string ⟨#[]⟩) rfl; have hyd1 := free_slot HP6.out 1; have HED := Lib.hid ((HEB.out.trans hx6).other (j := 1) (v := .string x2) (Nat.le_refl wr.heap.size)); have HST3 := Lib.hid (hst6.other (b := wr.heap.size) (j := 1) (v := .string x2) HLT.out); have HPD := Lib.hid (slot_setCell (j := 1) (u := .string x2) HP6.out); have HO3 := Lib.hid (HO.out.keep fun g _ hne hg => HED.out.block g hg hne); clear hst6 hx6 HSTB HPB HEB) | (at_builtin; refine ap_built rfl _ _ 34 48 2 32 _ _ #[.string x1, .string x2] rfl Tryz.underlying34 info48 rfl (by decide) (by first | rfl | simp [World.setCell]) rfl HO3.out.row rfl rfl (List.all_eq_true.1 rfl) (by omega) (by decide) ?_; intro v9 w9 hn; have HR9 := Lib.hid hn; obtain ⟨A9, c9, hv9⟩ := own_slice hn.own; subst hv9; clear hn))
        go_roundw
        case rel =>
          refine ⟨k + 1, by omega, rfl, ?_, ?_⟩
          · rw [← HRS.out]; exact Lib.hid (HST3.out.row HO3.out HR9.out)
          · rw [HTT.out, List.flatMap_append]
            exact Lib.hid (by simpa [prV] using HO3.out.step HR9.out HST3.out.lt HST3.out.bel.size)
        case measure => simp only [slN]; omega
    · obtain rfl : k = qs.length := by omega
      rw [List.drop_length] at HST HR1 HB1 hc hr1
      rw [List.take_length] at HO
      simp only [List.flatMap_nil, List.nil_append, List.length_cons, List.length_nil, Nat.zero_add] at HST HR1 HB1 hc hr1
      obtain ⟨b1, o1, hA1, hd0⟩ : ∃ b o, A1 = some ⟨b, o, none⟩ ∧ wr.cell? ⟨b, o, none⟩ = some (.int .u8 0) := (hr1.ext HST.out.bel).head
      subst hA1
      clear hr1
      go_wp2
      have HRQ : Hid (RdM 2 isPr wr (.slice Av qs.length cv) qs) := Lib.hid (rdm_of HO.out.own (rws_flat wr qs))
      have HC := Lib.hid hc
      clear hc hd0
      have HWE : Hid (Ext wr wr) := Lib.hid (Ext.refl wr)
      refine wp_region_og (J := fun x => Ext wr x) (R := Ext) [Sp.eq _ (.slice Av qs.length cv), spPrs ps, Sp.eq _ (.slice (some ⟨b1, o1, none⟩) 1 c1), Sp.eq _ (.int .i64 1), Sp.eq _ (.bool true), spPrs ps, Sp.eq _ (.bool true)] (by kernel_rfl) (by kernel_rfl) (by kernel_rfl) (by kernel_rfl) ?_ ?_ ?_
      · exact (Ext.refl wr).drew
      · refine ⟨?_, ?_, ?_, ?_, ?_, ?_, ?_, trivial⟩
        · intro vs w1 hJ hp
          have HJ := Lib.hid hJ
          clear hp hJ
          simp only [putAll, Nat.reduceAdd]
          go_wp2
          exact ⟨rfl, HJ.out, Ext.refl _, rfl⟩
        · intro vs w1 hJ hp
          have q0 : vs 0 = .slice Av qs.length cv := hp 0 (by decide)
          have HJ := Lib.hid hJ
          clear hp hJ
          simp only [putAll, Nat.reduceAdd]
          go_wp2_with (go_at_call 44; refine (sorted44 qs Av cv _ (HRQ.out.ext HJ.out (fun _ _ h => h)) (by omega)).mono ?_; rintro e w2 ⟨out, A2, c2, rfl, hx2, hr2, hp2, hs2⟩; have HX2 := Lib.hid hx2; have HR2 := Lib.hid hr2; have HPP := Lib.hid (sort_unique out ps (hp2.trans HPS.out.1) hs2 (srt_lt HPS.out.2)); clear hx2 hr2 hp2 hs2)
          exact ⟨rfl, HJ.out.trans HX2.out, HX2.out, by have h9 := HR2.out; have h8 := HPP.out; subst h8; exact ⟨rfl, h9⟩⟩
        · intro vs w1 hJ hp
          have HJ := Lib.hid hJ
          have hq := hJ.cell HC.out
          clear hp hJ
          simp only [putAll, Nat.reduceAdd]
          go_wp2
          exact ⟨rfl, HJ.out, Ext.refl _, rfl⟩
        · intro vs w1 hJ hp
          have q2 : vs 2 = .slice (some ⟨b1, o1, none⟩) 1 c1 := hp 2 (by decide)
          have HJ := Lib.hid hJ
          clear hp hJ
          simp only [putAll, Nat.reduceAdd]
          go_wp2
          exact ⟨rfl, HJ.out, Ext.refl _, rfl⟩
        · intro vs w1 hJ hp
          have q3 : vs 3 = .int .i64 1 := hp 3 (by decide)
          have HJ := Lib.hid hJ
          clear hp hJ
          simp only [putAll, Nat.reduceAdd]
          go_wp2
          exact ⟨rfl, HJ.out, Ext.refl _, rfl⟩
        · intro vs w1 hJ hp
          have q0 : vs 0 = .slice Av qs.length cv := hp 0 (by decide)
          have q1 : (spPrs ps).p (vs 1) w1 := hp 1 (by decide)
          have HJ := Lib.hid hJ
          have HQ1 := Lib.hid q1
          clear hp hJ q1
          simp only [putAll, Nat.reduceAdd]
          rw [HQ1.out.1]
          go_wp2
          exact ⟨rfl, HJ.out, Ext.refl _, by have h9 := HQ1.out; rw [h9.1] at h9; exact ⟨rfl, h9.2⟩⟩
        · intro vs w1 hJ hp
          have q0 : vs 0 = .slice Av qs.length cv := hp 0 (by decide)
          have q1 : (spPrs ps).p (vs 1) w1 := hp 1 (by decide)
          have q2 : vs 2 = .slice (some ⟨b1, o1, none⟩) 1 c1 := hp 2 (by decide)
          have q3 : vs 3 = .int .i64 1 := hp 3 (by decide)
          have q4 : vs 4 = .bool true := hp 4 (by decide)
          have q5 : (spPrs ps).p (vs 5) w1 := hp 5 (by decide)
          have HJ := Lib.hid hJ
          clear hp hJ
          simp only [putAll, Nat.reduceAdd]
          go_wp2
          exact ⟨rfl, HJ.out, Ext.refl _, rfl⟩
      · intro vs w1 hJ hp
        have q5 : (spPrs ps).p (vs 5) w1 := hp 5 (by decide)
        have q6 : vs 6 = .bool true := hp 6 (by decide)
        have HJ := Lib.hid hJ
        have HQ5 := Lib.hid q5
        clear hp hJ q5
        simp only [putAll, Nat.reduceAdd]
        rw [HQ5.out.1]
        simp only [Exit.then, Exit.inBlock]
        go_at_K
        simp only [Act.put, q6, List.setIfInBounds_toArray, List.set_cons_zero, List.set_cons_succ]
        go_wp2
        go_ret2
        exact ⟨_, _, rfl, HST.out.bel.trans (HWE.out.trans HJ.out), by have h9 := HQ5.out; rw [h9.1] at h9; exact h9.2⟩
set_option maxRecDepth 100000 in
set_option maxHeartbeats 4000000 in
theorem readP (qs ps : List Pr) (hq : ∀ y ∈ qs, plainP y.1 ∧ plainP y.2 ∧ y.1.size ≠ 0) (hl : qs.length ≤ 100) (hpm : qs.Perm ps) (hs : Srt ps) (A : Option Addr) (n c : Nat) (w : World) (hr : RdB w (.slice A n c) (qs.flatMap prB ++ [0])) :
    Calls Tryz.prog 17 #[.slice A n c, .bool false] w (GaveQ ps w) := by
  have hmf : ∀ (fn : Fn) (first cap : Array Value) (w : World), (Instr.makeFunc fn first cap).run Tryz.prog w = .ok (.func fn first cap) w := fun _ _ _ _ => rfl
  obtain ⟨hn, _, _⟩ := hr.parts
  have HQ := Lib.hid hq
  have HPS := Lib.hid (And.intro hpm hs)
  have HFL : Hid (∀ y ∈ qs, (prB y).length ≤ 402) := Lib.hid (fun y hy => by
    have h1 := (hq y hy).1.1
    have h2 := (hq y hy).2.1.1
    simp only [prB, txt, List.length_append, List.length_cons, List.length_nil, sby_length]
    omega)
  have HST : Hid (Rst w w.heap.size (w.alloc (.cells #[.slice A n c] 26)) (qs.flatMap prB ++ [0])) := Lib.hid ⟨ext_alloc w _, Nat.le_refl _, A, c, by rw [← hn]; exact heap_alloc_new _ _, by rw [← hn]; exact hr⟩
  clear hq hpm hs hr hn
  go_enter Tryz.func17, Tryz.ntmps17
  go_wp2
  go_loopw [6] (fun v wr => ∃ k : Nat, k ≤ qs.length ∧ slN v = k ∧ Hid (Rst w w.heap.size wr ((qs.drop k).flatMap prB ++ [0])) ∧ Hid (Own w.heap.size w wr 48 2 v k ((qs.take k).flatMap prV))) (fun v _ => qs.length - slN v)
  case atStart => exact ⟨0, Nat.zero_le _, rfl, HST, Lib.hid ⟨World.ownsRow_nil _ _ _ _, fun g hg => by simp [Value.ownBlock] at hg⟩⟩
  case round =>
    clear HST
    obtain ⟨k, hk1, hsn, HST, HO⟩ := hrel
    obtain ⟨Av, cv, hv⟩ := own_slice HO.out.own
    subst hv
    obtain ⟨A1, c1, hb1, hr1⟩ := HST.out.blk
    have hc := cell_slot hb1 0 _ rfl
    have HB1 := Lib.hid hb1
    have HR1 := Lib.hid hr1
    clear hb1 hsn
    by_cases hlt : k < qs.length
    · have hpl := HQ.out _ (List.getElem_mem hlt)
      have hfd := flat_drop1 prB qs k hlt
      have HTT := Lib.hid (take_succ2 qs k hlt)
      have hflr := flat_len prB 402 (qs.drop (k + 1)) fun y hy => HFL.out y (List.mem_of_mem_drop hy)
      have hdl : (qs.drop (k + 1)).length ≤ 100 := by rw [List.length_drop]; omega
      obtain ⟨⟨x1, x2⟩, hx⟩ : ∃ x, x = qs[k] := ⟨_, rfl⟩
      rw [← hx] at hpl hfd HTT
      obtain ⟨REST, hRS⟩ : ∃ R, R = (qs.drop (k + 1)).flatMap prB ++ [0] := ⟨_, rfl⟩
      have HRS := Lib.hid hRS
      have hrl : REST.length ≤ 50000 := by rw [hRS, List.length_append]; simp only [List.length_cons, List.length_nil]; omega
      have heq : (qs.drop k).flatMap prB ++ [0] = sby x1 ++ 0 :: (sby x2 ++ 0 :: REST) := by
        rw [hfd, hRS]
        simp only [prB, txt, List.append_assoc, List.cons_append, List.nil_append]
      rw [heq] at hc hr1 HST HB1 HR1
      clear hx hfd heq hRS hflr hdl
      have hp1 : plainP x1 := hpl.1
      have hp2 : plainP x2 := hpl.2.1
      have hsz : x1.size ≠ 0 := hpl.2.2
      have HN1 := Lib.hid (plain_pos hp1)
      have HN2 := Lib.hid (plain_pos hp2)
      have HP12 := Lib.hid (And.intro hp1 hp2)
      have hs1 := hp1.1
      have hs2 := hp2.1
      obtain ⟨y0, ys0, hy0⟩ : ∃ y ys, sby x1 = y :: ys := List.exists_cons_of_ne_nil (fun e => by have h9 := sby_length x1; rw [e] at h9; simp at h9; omega)
      have hy0n : 0 < y0 ∧ y0 < 256 := HN1.out y0 (by rw [hy0]; simp)
      have hyb : (y0 == 0) = false := by simp; omega
      have hyb2 : (y0 != 0) = true := by simp; omega
      obtain ⟨b1, o1, hA1, hd0⟩ : ∃ b o, A1 = some ⟨b, o, none⟩ ∧ wr.cell? ⟨b, o, none⟩ = some (.int .u8 y0) := by
        have h9 := hr1.ext HST.out.bel
        rw [hy0] at h9
        exact h9.head
      subst hA1
      have HY0 := Lib.hid hy0
      have HHP := Lib.hid (And.intro hy0n hpl)
      clear hr1 hp1 hp2 hpl hy0 hy0n
      have hpos : (0 : Int) < ((sby x1 ++ 0 :: (sby x2 ++ 0 :: REST)).length : Int) := by simp only [List.length_append, List.length_cons]; omega
      obtain ⟨N1, hN1⟩ : ∃ N, N = (sby x1 ++ 0 :: (sby x2 ++ 0 :: REST)).length := ⟨_, rfl⟩
      rw [← hN1] at hc hpos HB1 HR1
      have HNN := Lib.hid hN1
      clear hN1
      have hdec : decide ((0 : Int) < (N1 : Int)) = true := decide_eq_true hpos
      have HLT : Hid (w.heap.size < wr.heap.size) := Lib.hid (lt_of_block HB1.out)
      have HPA : Hid ((wr.alloc (.cells #[.string ⟨#[]⟩, .string ⟨#[]⟩] 48)).heap[wr.heap.size]? = some (.cells #[.string ⟨#[]⟩, .string ⟨#[]⟩] 48 (0, 0))) := Lib.hid (heap_alloc_new _ _)
      have HSTA := Lib.hid (HST.out.ext (ext_alloc wr (.cells #[.string ⟨#[]⟩, .string ⟨#[]⟩] 48)))
      have HEA : Hid (ExtBut w.heap.size wr (wr.alloc (.cells #[.string ⟨#[]⟩, .string ⟨#[]⟩] 48))) := Lib.hid (ext_alloc wr _).but
      go_wp2_with (first | (go_at_call 43; refine (text43 HSTA.out (fun y hy => by have := HN1.out y hy; omega) (by simp only [List.length_append, List.length_cons, sby_length]; omega)).mono ?_; rintro e w3 ⟨rfl, hst3, hx3⟩; have HP3 := Lib.hid ((hx3.block _ (lt_of_block HPA.out) (by have := HLT.out; omega)).trans HPA.out); have hzc0 := cell_slot HP3.out 0 (.string ⟨#[]⟩) rfl; have hyc0 := free_slot HP3.out 0; have HEB := Lib.hid ((HEA.out.trans hx3).other (j := 0) (v := .string x1) (Nat.le_refl wr.heap.size)); have HSTB := Lib.hid (hst3.other (b := wr.heap.size) (j := 0) (v := .string x1) HLT.out); have HPB := Lib.hid (slot_setCell (j := 0) (u := .string x1) HP3.out); clear hst3 hx3 HSTA HPA HEA) | (go_at_call 43; refine (text43 HSTB.out (fun y hy => by have := HN2.out y hy; omega) (by simp only [List.length_append, List.length_cons, sby_length]; omega)).mono ?_; rintro e w6 ⟨rfl, hst6, hx6⟩; have HP6 := Lib.hid ((hx6.block _ (lt_of_block HPB.out) (by have := HLT.out; omega)).trans HPB.out); have hzd0 := cell_slot HP6.out 0 (.string x1) rfl; have hzd1 := cell_slot HP6.out 1 (.string ⟨#[]⟩) rfl; have hyd1 := free_slot HP6.out 1; have HED := Lib.hid ((HEB.out.trans hx6).other (j := 1) (v := .string x2) (Nat.le_refl wr.heap.size)); have HST3 := Lib.hid (hst6.other (b := wr.heap.size) (j := 1) (v := .string x2) HLT.out); have HPD := Lib.hid (slot_setCell (j := 1) (u := .string x2) HP6.out); have HO3 := Lib.hid (HO.out.keep fun g _ hne hg => HED.out.block g hg hne); clear hst6 hx6 HSTB HPB HEB) | (at_builtin; refine ap_built rfl _ _ 34 48 2 32 _ _ #[.string x1, .string x2] rfl Tryz.underlying34 info48 rfl (by decide) (by first | rfl | simp [World.setCell]) rfl HO3.out.row rfl rfl (List.all_eq_true.1 rfl) (by omega) (by decide) ?_; intro v9 w9 hn; have HR9 := Lib.hid hn; obtain ⟨A9, c9, hv9⟩ := own_slice hn.own; subst hv9; clear hn))
      go_roundw
      case rel =>
        refine ⟨k + 1, by omega, rfl, ?_, ?_⟩
        · rw [← HRS.out]; exact Lib.hid (HST3.out.row HO3.out HR9.out)
        · rw [HTT.out, List.flatMap_append]
          exact Lib.hid (by simpa [prV] using HO3.out.step HR9.out HST3.out.lt HST3.out.bel.size)
      case measure => simp only [slN]; omega
    · obtain rfl : k = qs.length := by omega
      rw [List.drop_length] at HST HR1 HB1 hc hr1
      rw [List.take_length] at HO
      simp only [List.flatMap_nil, List.nil_append, List.length_cons, List.length_nil, Nat.zero_add] at HST HR1 HB1 hc hr1
      obtain ⟨b1, o1, hA1, hd0⟩ : ∃ b o, A1 = some ⟨b, o, none⟩ ∧ wr.cell? ⟨b, o, none⟩ = some (.int .u8 0) := (hr1.ext HST.out.bel).head
      subst hA1
      clear hr1
      go_wp2
      have HRQ : Hid (RdM 2 isPr wr (.slice Av qs.length cv) qs) := Lib.hid (rdm_of HO.out.own (rws_flat wr qs))
      have HC := Lib.hid hc
      clear hc hd0
      have HWE : Hid (Ext wr wr) := Lib.hid (Ext.refl wr)
      refine wp_region_og (J := fun x => Ext wr x) (R := Ext) [Sp.eq _ (.slice Av qs.length cv), spPrs ps, Sp.eq _ (.slice (some ⟨b1, o1, none⟩) 1 c1), Sp.eq _ (.int .i64 1), Sp.eq _ (.bool true), spPrs ps, Sp.eq _ (.bool true)] (by kernel_rfl) (by kernel_rfl) (by kernel_rfl) (by kernel_rfl) ?_ ?_ ?_
      · exact (Ext.refl wr).drew
      · refine ⟨?_, ?_, ?_, ?_, ?_, ?_, ?_, trivial⟩
        · intro vs w1 hJ hp
          have HJ := Lib.hid hJ
          clear hp hJ
          simp only [putAll, Nat.reduceAdd]
          go_wp2
          exact ⟨rfl, HJ.out, Ext.refl _, rfl⟩
        · intro vs w1 hJ hp
          have q0 : vs 0 = .slice Av qs.length cv := hp 0 (by decide)
          have HJ := Lib.hid hJ
          clear hp hJ
          simp only [putAll, Nat.reduceAdd]
          go_wp2_with (go_at_call 44; refine (sorted44 qs Av cv _ (HRQ.out.ext HJ.out (fun _ _ h => h)) (by omega)).mono ?_; rintro e w2 ⟨out, A2, c2, rfl, hx2, hr2, hp2, hs2⟩; have HX2 := Lib.hid hx2; have HR2 := Lib.hid hr2; have HPP := Lib.hid (sort_unique out ps (hp2.trans HPS.out.1) hs2 (srt_lt HPS.out.2)); clear hx2 hr2 hp2 hs2)
          exact ⟨rfl, HJ.out.trans HX2.out, HX2.out, by have h9 := HR2.out; have h8 := HPP.out; subst h8; exact ⟨rfl, h9⟩⟩
        · intro vs w1 hJ hp
          have HJ := Lib.hid hJ
          have hq := hJ.cell HC.out
          clear hp hJ
          simp only [putAll, Nat.reduceAdd]
          go_wp2
          exact ⟨rfl, HJ.out, Ext.refl _, rfl⟩
        · intro vs w1 hJ hp
          have q2 : vs 2 = .slice (some ⟨b1, o1, none⟩) 1 c1 := hp 2 (by decide)
          have HJ := Lib.hid hJ
          clear hp hJ
          simp only [putAll, Nat.reduceAdd]
          go_wp2
          exact ⟨rfl, HJ.out, Ext.refl _, rfl⟩
        · intro vs w1 hJ hp
          have q3 : vs 3 = .int .i64 1 := hp 3 (by decide)
          have HJ := Lib.hid hJ
          clear hp hJ
          simp only [putAll, Nat.reduceAdd]
          go_wp2
          exact ⟨rfl, HJ.out, Ext.refl _, rfl⟩
        · intro vs w1 hJ hp
          have q0 : vs 0 = .slice Av qs.length cv := hp 0 (by decide)
          have q1 : (spPrs ps).p (vs 1) w1 := hp 1 (by decide)
          have HJ := Lib.hid hJ
          have HQ1 := Lib.hid q1
          clear hp hJ q1
          simp only [putAll, Nat.reduceAdd]
          rw [HQ1.out.1]
          go_wp2
          exact ⟨rfl, HJ.out, Ext.refl _, by have h9 := HQ1.out; rw [h9.1] at h9; exact ⟨rfl, h9.2⟩⟩
        · intro vs w1 hJ hp
          have q0 : vs 0 = .slice Av qs.length cv := hp 0 (by decide)
          have q1 : (spPrs ps).p (vs 1) w1 := hp 1 (by decide)
          have q2 : vs 2 = .slice (some ⟨b1, o1, none⟩) 1 c1 := hp 2 (by decide)
          have q3 : vs 3 = .int .i64 1 := hp 3 (by decide)
          have q4 : vs 4 = .bool true := hp 4 (by decide)
          have q5 : (spPrs ps).p (vs 5) w1 := hp 5 (by decide)
          have HJ := Lib.hid hJ
          clear hp hJ
          simp only [putAll, Nat.reduceAdd]
          go_wp2
          exact ⟨rfl, HJ.out, Ext.refl _, rfl⟩
      · intro vs w1 hJ hp
        have q5 : (spPrs ps).p (vs 5) w1 := hp 5 (by decide)
        have q6 : vs 6 = .bool true := hp 6 (by decide)
        have HJ := Lib.hid hJ
        have HQ5 := Lib.hid q5
        clear hp hJ q5
        simp only [putAll, Nat.reduceAdd]
        rw [HQ5.out.1]
        simp only [Exit.then, Exit.inBlock]
        go_at_K
        simp only [Act.put, q6, List.setIfInBounds_toArray, List.set_cons_zero, List.set_cons_succ]
        go_wp2
        go_ret2
        exact ⟨_, _, rfl, HST.out.bel.trans (HWE.out.trans HJ.out), by have h9 := HQ5.out; rw [h9.1] at h9; exact h9.2⟩
end Go.Proofs.YtdenjanihikolaaGreatDoor

namespace Go.Proofs.YtdenjanihikolaaGreatDoor
open Go.RowKit Og
set_option linter.unusedVariables false
set_option linter.unusedSimpArgs false
set_option maxRecDepth 100000
theorem sl_midr (A : Option Addr) (N c p n : Nat) (hp : p + n ≤ N) (hN : N ≤ c) (hc : c ≤ maxLen) : ∃ A' c', (∀ (i j : Int) (w : World), i = (p : Int) → j = (p : Int) + (n : Int) → (Instr.slice 26 (.slice A N c) (some (.int .i64 i)) (some (.int .i64 j)) none).run Tryz.prog w = .ok (.slice A' n c') w) ∧ ∀ (b : Nat) (w : World) (xs : List Int), RdN b w (.slice A N c) xs → RdN b w (.slice A' n c') ((xs.drop p).take n) := by
  obtain ⟨A1, c1, h1, h2⟩ := sl_at A N c p (by omega) hN hc
  have h3 : ∃ A' c', (∀ (i j : Int) (w : World), i = (p : Int) → j = (p : Int) + (n : Int) → (Instr.slice 26 (.slice A N c) (some (.int .i64 i)) (some (.int .i64 j)) none).run Tryz.prog w = .ok (.slice A' n c') w) ∧ ((c = p ∧ A' = A ∧ c' = c - p) ∨ (A' = A.map (·.add p) ∧ c' = c - p)) := by
    refine ⟨if c = p then A else A.map (·.add p), c - p, fun i j w hi hj => ?_, ?_⟩
    · subst hi; subst hj
      rw [run_slice_lh (P := Tryz.prog) w 26 A N c Tryz.underlying26 .i64 .i64 p ((p : Int) + (n : Int)) (by omega) (by omega) (by omega)]
      have hs : (sizeOf (Tryz.prog.elem 26)).run Tryz.prog w = .ok 1 w := by
        obtain ⟨i0, hi, hz0, hz1, hz2⟩ := info_parts info5
        simp [sizeOf, typeInfo, show Tryz.prog.elem 26 = 5 from by kernel_rfl, hi, hz1]
      rw [hs]
      have h9 : ((p : Int) + (n : Int)).toNat = p + n := by omega
      simp [Result.andThen, sliced, h9]
    · by_cases e : c = p
      · rw [if_pos e]; exact .inl ⟨e, rfl, rfl⟩
      · rw [if_neg e]; exact .inr ⟨rfl, rfl⟩
  obtain ⟨A', c', h4, h5⟩ := h3
  refine ⟨A', c', h4, fun b w xs h => ?_⟩
  obtain ⟨rfl, h6, h7⟩ := h.1.parts
  rcases h5 with ⟨e, rfl, rfl⟩ | ⟨rfl, rfl⟩
  · exact RdN.none A' n (c - p) _ (by rw [show n = 0 by omega]; rfl) (by omega) (by omega)
  · exact h.sub (l := p) (n := n) (by omega) (fun _ => rfl) (c - p) (by omega)
/-- Where Bind's Decode stands in a loop over a new array g: at p, R left of what T wants. -/
structure ArS (b g : Nat) (wd w : World) (cs0 : Array Value) (te : TypeId) (m N : Nat) (xs : List Int) (p : Nat) (R T : List Int) (cs : Array Value) : Prop where
  len : N = p + R.length
  rest : xs.drop p = R
  pre : SPre R T
  bel : ExtBut b wd w
  blk : w.heap[b]? = some (.cells cs0 107 (0, 0))
  arr : w.heap[g]? = some (.cells cs te (0, 0))
  size : cs.size = m
  lo : wd.heap.size ≤ g
section
variable {b g : Nat} {wd w w2 : World} {cs0 : Array Value} {te : TypeId} {m N : Nat} {xs : List Int} {p : Nat} {R R2 B T T2 : List Int} {cs : Array Value}
theorem ArS.at_ (h : ArS b g wd w cs0 te m N xs p R T cs) {k : Nat} (hk : k < m) : cs[k]? = some (cs.getD k undef) := by
  have := h.size
  have hk' : k < cs.size := by omega
  simp [Array.getD, hk']
theorem ArS.skip (h : ArS b g wd w cs0 te m N xs p R T cs) (hx : Ext w w2) (hR : R = B ++ R2) (hS : SPre R2 T2) {q : Nat} (hq : B.length = q) : ArS b g wd w2 cs0 te m N xs (p + q) R2 T2 cs := by
  subst hq
  exact ⟨by rw [h.len, hR, List.length_append]; omega, by rw [← List.drop_drop, h.rest, hR, List.drop_left], hS, h.bel.trans hx.but, (hx.block b (lt_of_block h.blk)).trans h.blk, (hx.block g (lt_of_block h.arr)).trans h.arr, h.size, h.lo⟩
theorem ArS.next (h : ArS b g wd w cs0 te m N xs p R T cs) (hx : Ext w w2) (hR : R = B ++ R2) (hS : SPre R2 T2) {q : Nat} (hq : B.length = q) (k : Nat) (u : Value) (hb : b < wd.heap.size) : ArS b g wd (w2.setCell ⟨g, k, none⟩ u) cs0 te m N xs (p + q) R2 T2 (cs.setIfInBounds k u) := by
  have h1 := h.skip hx hR hS hq
  have hlo := h.lo
  have hoth : ∀ q, q ≠ g → (w2.setCell ⟨g, k, none⟩ u).heap[q]? = w2.heap[q]? := fun q hq => heap_setCell_other w2 ⟨g, k, none⟩ q _ hq
  exact ⟨h1.len, h1.rest, hS, ⟨h1.bel.os, h1.bel.tape, h1.bel.output, by simpa [World.setCell] using h1.bel.size, fun q hq hqb => (hoth q (by omega)).trans (h1.bel.block q hq hqb)⟩, (hoth b (by omega)).trans h1.blk, slot_setCell h1.arr, by simp [h.size], hlo⟩
end
end Go.Proofs.YtdenjanihikolaaGreatDoor
