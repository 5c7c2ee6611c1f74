/- A message of the thin package that came in, opened. -/
import Derived.Test.YtdenjanihikolaaGreatDoorPErd
import Derived.Test.YtdenjanihikolaaGreatDoorPWrb
import Derived.Test.YtdenjanihikolaaGreatDoorPMda
import Derived.Test.YtdenjanihikolaaGreatDoorPPpd
import Derived.ProofKit
import Derived.Deep.Slices
import Derived.Test.YtdenjanihikolaaGreatDoorPFit
namespace Go.Proofs.YtdenjanihikolaaGreatDoor
set_option linter.unusedVariables false
set_option linter.unusedSimpArgs false
open Go.RowKit Go.Maps Og
set_option linter.unusedVariables false
set_option linter.unusedSimpArgs false
theorem info258 : (Tryz.prog.info? 258).map (fun i => (i.zero, i.size, i.bytes)) = some (some (.pointer none), 1, 8) := by kernel_rfl
theorem info259 : (Tryz.prog.info? 259).map (fun i => (i.zero, i.size, i.bytes)) = some (some (.pointer none), 1, 8) := by kernel_rfl
theorem zero258 (w : World) : (zeroValue 258).run Tryz.prog w = .ok (.pointer none) w := by
  obtain ⟨i0, hi, hz0, hz1, hz2⟩ := info_parts info258
  simp [zeroValue, typeInfo, hi, hz0]
theorem zero259 (w : World) : (zeroValue 259).run Tryz.prog w = .ok (.pointer none) w := by
  obtain ⟨i0, hi, hz0, hz1, hz2⟩ := info_parts info259
  simp [zeroValue, typeInfo, hi, hz0]
theorem take_succ1 {α : Type} (l : List α) (k : Nat) (h : k < l.length) : l.take (k + 1) = l.take k ++ [l[k]] := List.take_succ_eq_append_getElem h
theorem size216 : (Tryz.prog.info? 216).map (·.size) = some 19 := by kernel_rfl
theorem size218 : (Tryz.prog.info? 218).map (·.size) = some 19 := by kernel_rfl
theorem err_one (T : Nat → ByteArray) : (errCells T).all (·.oneCell') = true := by simp [errCells, Value.oneCell']
theorem ExtBut.row {b : Nat} {w w1 : World} (h : ExtBut b w w1) (cs : Array Value) : ExtBut b w (w1.setRow b cs) :=
  ⟨h.os, h.tape, h.output, by simpa [World.setRow] using h.size, fun k hk hne => (setRow_other w1 b k cs hne).trans (h.block k hk hne)⟩
theorem results_cell_tmp {P : Program} {fn : Func} {p q : Tmp} {ty : TypeId} (h : fn.results = #[.cell p ty, .tmp q]) (tmps : Array Value) (w : World) (g : Nat) (t : TypeId) (cs : Array Value) (fr : Nat × Nat) (d : TypeDesc)
    (hp : tmps.getD p undef = .pointer (some ⟨g, 0, none⟩)) (hg : w.heap[g]? = some (.cells cs t fr))
    (hu : P.underlying ty = some d) (hd : (match d with | .struct _ | .array _ _ => true | _ => false) = true) (hi : (P.info? ty).map (·.size) = some cs.size) :
    (results fn tmps).run P w = .ok (.tuple #[.agg cs, tmps.getD q undef]) w := by
  have hp' : tmps[p]?.getD undef = .pointer (some ⟨g, 0, none⟩) := by simpa using hp
  simp [results, h, hp', asAddr, run_loadVar_row w g t ty cs fr d hg hu hd hi]
/-- What errorOf hands back. -/
def ErrOf (T : Nat → ByteArray) (w : World) : Ending → World → Prop := fun e w' => e = .returned (.tuple #[.agg (errCells T), .bool true]) ∧ Ext w w'
theorem byte0 {x : ByteArray} (h : 0 < x.size) : (x[0].toNat : Int) = cOf x := by
  unfold cOf
  have h1 : x.data.toList ≠ [] := by
    intro e
    have := len_of x
    rw [e] at this
    simp at this
    omega
  obtain ⟨c, r, hc⟩ := List.exists_cons_of_ne_nil h1
  have e : x[0] = x.data.toList[0]'(by rw [hc]; simp) := by simp [ByteArray.getElem_eq_getElem_data]
  rw [e]
  simp [hc]
/-- Numbers are of digits. -/
theorem dig_at {y : ByteArray × ByteArray} (h : fldP y) {j : Nat} (hj : cOf y.1 = ls18.getD j 0) (hn : numJ j) : digP y.2 := by
  refine h.2 ?_
  obtain ⟨i, hi, he⟩ := h.1
  have e2 : y.1.data.toList = [UInt8.ofNat (ls18.getD i 0).toNat] := by
    rw [← ByteArray.toList_eq, he, ByteArray.toList_eq]
    rcases cases18 hi with rfl | rfl | rfl | rfl | rfl | rfl | rfl | rfl | rfl | rfl | rfl | rfl | rfl | rfl | rfl | rfl | rfl | rfl <;> rfl
  have e3 : cOf y.1 = ls18.getD i 0 := by
    unfold cOf
    rw [e2]
    rcases cases18 hi with rfl | rfl | rfl | rfl | rfl | rfl | rfl | rfl | rfl | rfl | rfl | rfl | rfl | rfl | rfl | rfl | rfl | rfl <;> rfl
  rw [e3] at hj
  have hij : i = j := by
    have hj18 : j < 18 := by rcases hn with rfl | rfl | rfl <;> decide
    rw [← slot_at hi, hj, slot_at hj18]
  subst hij
  rw [ByteArray.toList_eq, e2]
  rcases hn with rfl | rfl | rfl
  · exact .inl rfl
  · exact .inr (.inl rfl)
  · exact .inr (.inr rfl)
set_option maxRecDepth 100000 in
set_option maxHeartbeats 4000000 in
theorem errorOf68 (ps : List (ByteArray × ByteArray)) (A : Option Addr) (c : Nat) (w : World) (hp : RdM 2 isPr w (.slice A ps.length c) ps) (hl : ps.length ≤ 20) (hf : ∀ y ∈ ps, fldP y) :
    Calls Tryz.prog 68 #[.slice A ps.length c] w (ErrOf (tOf ps) w) := by
  have HP := Lib.hid hp
  have HF := Lib.hid hf
  clear hp hf
  obtain ⟨W1, hW1⟩ : ∃ W1, W1 = (w.alloc (.cells #[.string ⟨#[]⟩, .string ⟨#[]⟩, .string ⟨#[]⟩, .string ⟨#[]⟩, .string ⟨#[]⟩, .string ⟨#[]⟩, .int .i32 0, .int .i32 0, .string ⟨#[]⟩, .string ⟨#[]⟩, .string ⟨#[]⟩, .string ⟨#[]⟩, .string ⟨#[]⟩, .string ⟨#[]⟩, .string ⟨#[]⟩, .string ⟨#[]⟩, .int .i32 0, .string ⟨#[]⟩, .map none] 216)).alloc (.cells #[.string ⟨#[]⟩, .string ⟨#[]⟩, .string ⟨#[]⟩, .string ⟨#[]⟩, .string ⟨#[]⟩, .string ⟨#[]⟩, .int .i32 0, .int .i32 0, .string ⟨#[]⟩, .string ⟨#[]⟩, .string ⟨#[]⟩, .string ⟨#[]⟩, .string ⟨#[]⟩, .string ⟨#[]⟩, .string ⟨#[]⟩, .string ⟨#[]⟩, .int .i32 0, .string ⟨#[]⟩, .map none] 216) := ⟨_, rfl⟩
  have X1 : Hid (Ext w W1) := Lib.hid (by rw [hW1]; exact (ext_alloc w _).alloc _)
  have BR : Hid (W1.heap[w.heap.size]? = some (.cells (errCells fun _ => ⟨#[]⟩) 216 (0, 0))) := Lib.hid (by
    rw [hW1, (ext_alloc (w.alloc (.cells #[.string ⟨#[]⟩, .string ⟨#[]⟩, .string ⟨#[]⟩, .string ⟨#[]⟩, .string ⟨#[]⟩, .string ⟨#[]⟩, .int .i32 0, .int .i32 0, .string ⟨#[]⟩, .string ⟨#[]⟩, .string ⟨#[]⟩, .string ⟨#[]⟩, .string ⟨#[]⟩, .string ⟨#[]⟩, .string ⟨#[]⟩, .string ⟨#[]⟩, .int .i32 0, .string ⟨#[]⟩, .map none] 216)) (.cells #[.string ⟨#[]⟩, .string ⟨#[]⟩, .string ⟨#[]⟩, .string ⟨#[]⟩, .string ⟨#[]⟩, .string ⟨#[]⟩, .int .i32 0, .int .i32 0, .string ⟨#[]⟩, .string ⟨#[]⟩, .string ⟨#[]⟩, .string ⟨#[]⟩, .string ⟨#[]⟩, .string ⟨#[]⟩, .string ⟨#[]⟩, .string ⟨#[]⟩, .int .i32 0, .string ⟨#[]⟩, .map none] 216)).block w.heap.size (by simp)]
    exact heap_alloc_new _ _)
  have BE : Hid (W1.heap[w.heap.size + 1]? = some (.cells (errCells fun _ => ⟨#[]⟩) 216 (0, 0))) := Lib.hid (by
    have e : (w.alloc (.cells #[.string ⟨#[]⟩, .string ⟨#[]⟩, .string ⟨#[]⟩, .string ⟨#[]⟩, .string ⟨#[]⟩, .string ⟨#[]⟩, .int .i32 0, .int .i32 0, .string ⟨#[]⟩, .string ⟨#[]⟩, .string ⟨#[]⟩, .string ⟨#[]⟩, .string ⟨#[]⟩, .string ⟨#[]⟩, .string ⟨#[]⟩, .string ⟨#[]⟩, .int .i32 0, .string ⟨#[]⟩, .map none] 216)).heap.size = w.heap.size + 1 := by simp
    rw [hW1, ← e]
    exact heap_alloc_new _ _)
  have HS1 : Hid (W1.heap.size = w.heap.size + 2) := Lib.hid (by rw [hW1]; simp)
  go_enter Tryz.func68, Tryz.ntmps68
  go_wp2_with (first | (go_at_call 73; rw [← hW1]; clear hW1; refine (map73 _ _).mono ?_; rintro e w2 ⟨m1, rfl, hx2, hlo2, L1, hL1, hm1⟩; have HX2 := Lib.hid hx2; have HM1 := Lib.hid (And.intro hlo2 (And.intro hL1 hm1)); clear hx2 hlo2 hL1 hm1) | (go_at_call 74; refine (map74 _ _).mono ?_; rintro e w3 ⟨m2, rfl, hx3, hlo3, L2, hL2, hm2⟩; have HX3 := Lib.hid hx3; have HM2 := Lib.hid (And.intro hlo3 (And.intro hL2 hm2)); clear hx3 hlo3 hL2 hm2))
  have HM1' : Hid (MapOwn (w.heap.size + 1) tab73 L1 m1 w3) := Lib.hid (HM1.out.2.2.kept (HX3.out.block _ HM1.out.2.2.lt))
  have X3 : Hid (Ext W1 w3) := Lib.hid (HX2.out.trans HX3.out)
  have BR3 := Lib.hid ((X3.out.block _ (lt_of_block BR.out)).trans BR.out)
  have BE3 := Lib.hid ((X3.out.block _ (lt_of_block BE.out)).trans BE.out)
  have HN1 : Hid (m1 ≠ w.heap.size + 1) := Lib.hid (by have := HM1.out.1; have := HS1.out; omega)
  have HN2 : Hid (m2 ≠ w.heap.size + 1) := Lib.hid (by have := HM2.out.1; have := HX2.out.size; have := HS1.out; omega)
  go_loopw [16] (fun i wr => ∃ k : Nat, k ≤ ps.length ∧ i = .int .i64 k ∧ Hid (wr.heap[w.heap.size + 1]? = some (.cells (errCells (tOf (ps.take k))) 216 (0, 0))) ∧ Hid (ExtBut (w.heap.size + 1) w3 wr)) (fun i _ => ps.length - (intOf i).toNat)
  case atStart => exact ⟨0, Nat.zero_le _, rfl, by simpa [tOf] using BE3, Lib.hid (Ext.refl w3).but⟩
  case round =>
    obtain ⟨k, hk1, rfl, HB, HE⟩ := hrel
    by_cases hlt : k < ps.length
    · obtain ⟨b1, o1, f, rfl, hcell, hv⟩ := HP.out.at_ hlt
      have HFL := Lib.hid (HF.out _ (List.getElem_mem hlt))
      have HLET := Lib.hid (let_of HFL.out.1)
      have HTT := Lib.hid (take_succ1 ps k hlt)
      have HBN : Hid (b1 ≠ w.heap.size + 1) := Lib.hid (by have := lt_of_cell (hcell 0 (by omega)); omega)
      have hd0 := (HE.out.cell (X3.out.cell (X1.out.cell (hcell 0 (by omega)))) HBN.out)
      have hd1 := (HE.out.cell (X3.out.cell (X1.out.cell (hcell 1 (by omega)))) HBN.out)
      obtain ⟨⟨x1, x2⟩, hx⟩ : ∃ x, x = ps[k] := ⟨_, rfl⟩
      rw [← hx] at hv HFL HLET HTT
      have hf0 : f 0 = .string x1 := hv.1
      have hf1 : f 1 = .string x2 := hv.2
      rw [hf0, Nat.add_zero] at hd0
      rw [hf1] at hd1
      clear hx hcell hf0 hf1 hv
      obtain ⟨j, hj, hcj, hsz⟩ := HLET.out
      replace hcj : cOf x1 = ls18.getD j 0 := hcj
      replace hsz : x1.size = 1 := hsz
      have hpos : 0 < x1.size := by omega
      have hcb : (x1[0].toNat : Int) = ls18.getD j 0 := (byte0 hpos).trans hcj
      have HCJ := Lib.hid hcj
      have hc256 : 0 ≤ (x1[0].toNat : Int) ∧ (x1[0].toNat : Int) < 256 := ⟨by omega, by have := x1[0].toNat_lt; omega⟩
      have HXB : Hid (ExtBut (w.heap.size + 1) w3 (wr.alloc (.cells #[.string x1, .string x2] 60))) := Lib.hid (HE.out.trans (ext_alloc wr _).but)
      have HB4 : Hid ((wr.alloc (.cells #[.string x1, .string x2] 60)).heap[w.heap.size + 1]? = some (.cells (errCells (tOf (ps.take k))) 216 (0, 0))) := Lib.hid (((ext_alloc wr _).block _ (lt_of_block HB.out)).trans HB.out)
      have HM1r : Hid (MapOwn (w.heap.size + 1) tab73 L1 m1 (wr.alloc (.cells #[.string x1, .string x2] 60))) := Lib.hid (HM1'.out.kept (HXB.out.block _ HM1'.out.lt HN1.out))
      have HM2r : Hid (MapOwn (w.heap.size + 1) tab74 L2 m2 (wr.alloc (.cells #[.string x1, .string x2] 60))) := Lib.hid (HM2.out.2.2.kept (HXB.out.block _ HM2.out.2.2.lt HN2.out))
      have hlk1 := HM1r.out.look Tryz.underlying254 (zero258 _) hc256
      have hlk2 := HM2r.out.look Tryz.underlying256 (zero259 _) hc256
      have hsne : ((x1.size : Int) != 1) = false := by rw [hsz]; rfl
      by_cases hn : numJ j
      · have hk1 := hlk1.2 (fun z => by rw [hcb]; exact pick_num73 hn z)
        have hk2 := hlk2.1 j (fun z => by rw [hcb]; exact pick_num HM2.out.2.1 hn z)
        have hdig : Hid (digP x2) := Lib.hid (dig_at HFL.out HCJ.out hn)
        have hnum := num_facts hdig.out
        have hw32 : IntKind.i32.wrap (numS x2) = numS x2 := by rw [IntKind.wrap_i32]; omega
        have hy := free_slot HB4.out j
        have HNJ := Lib.hid hn
        have hz := cell_slot HB4.out j _ (cell_num _ hn)
        clear hlk1 hlk2 hcb hn hnum hcj
        go_wp2_with (go_at_call 75; refine (parse75 x2 hdig.out _).mono ?_; rintro e w5 ⟨rfl, hx5⟩; have HX5 := Lib.hid hx5; have hk3 := ((HM2r.out.kept (HX5.out.block _ HM2r.out.lt)).look Tryz.underlying256 (zero259 _) hc256).1 j (fun z => by rw [(byte0 hpos).trans HCJ.out]; exact pick_num HM2.out.2.1 HNJ.out z); have HB5 := Lib.hid ((HX5.out.block _ (lt_of_block HB4.out)).trans HB4.out); clear hy hz; have hy := free_slot HB5.out j; have hz := cell_slot HB5.out j _ (cell_num _ HNJ.out); clear hx5)
        go_roundw
        case rel =>
          refine ⟨k + 1, by omega, by go_num, Lib.hid ?_, Lib.hid ?_⟩
          · rw [HTT.out, tOf_snoc, HCJ.out, slot_at hj, ← set_num _ _ HNJ.out]
            exact slot_setCell HB5.out
          · exact (HXB.out.trans HX5.out.but).set _ _
        case measure => simp only [intOf]; omega
      · have hk1 := hlk1.1 j (fun z => by rw [hcb]; exact pick_txt HM1.out.2.1 hj hn z)
        have hy := free_slot HB4.out j
        have hz := cell_slot HB4.out j _ (cell_txt _ hj hn)
        have HNJ := Lib.hid hn
        clear hlk1 hlk2 hcb hn hcj
        go_wp2
        go_roundw
        case rel =>
          refine ⟨k + 1, by omega, by go_num, Lib.hid ?_, Lib.hid ?_⟩
          · rw [HTT.out, tOf_snoc, HCJ.out, slot_at hj, ← set_txt _ _ hj HNJ.out]
            exact slot_setCell HB4.out
          · exact HXB.out.set _ _
        case measure => simp only [intOf]; omega
    · obtain rfl : k = ps.length := by omega
      rw [List.take_length] at HB
      have E0 : Ext w wr := HE.out.ext (X1.out.trans X3.out) (by omega)
      have BR4 := Lib.hid ((HE.out.block _ (lt_of_block BR3.out) (by omega)).trans BR3.out)
      have HE0 := Lib.hid E0
      clear E0
      go_wp2_with (first | (refine wpList_load_row rfl 216 (.tmp 4) rfl (w.heap.size + 1) rfl 216 (errCells (tOf ps)) (0, 0) _ HB.out Tryz.underlying216 rfl size216 ?_) | (refine wpList_store_row rfl 216 (.tmp 2) (.tmp 70) rfl w.heap.size (errCells (tOf ps)) rfl rfl 216 _ BR4.out size216 rfl (err_one _) ?_))
      (try simp only [Exit.inBlock, Exit.then])
      refine bodyPost_ret (results_cell_tmp (P := Tryz.prog) rfl _ _ w.heap.size 216 (errCells (tOf ps)) (0, 0) _ rfl (setRow_heap _ _ _ _ _ _ BR4.out) Tryz.underlying216 rfl size216) rfl ?_
      exact ⟨rfl, ((Ext.refl wr).but.row _).ext HE0.out (Nat.le_refl _)⟩
end Go.Proofs.YtdenjanihikolaaGreatDoor

namespace Go.Proofs.YtdenjanihikolaaGreatDoor
open Go.RowKit
set_option linter.unusedVariables false
set_option linter.unusedSimpArgs false
abbrev Pr : Type := ByteArray × ByteArray
/-- The name of a slot. -/
def nmJ (i : Nat) : ByteArray := ⟨#[UInt8.ofNat (ls18.getD i 0).toNat]⟩
/-- The fields that are there, by slot. -/
def qsOf (T : Nat → ByteArray) : List Pr := (List.range 18).flatMap fun i => if (T i).size = 0 then [] else [(nmJ i, T i)]
theorem sby_nm {i : Nat} (h : i < 18) : sby (nmJ i) = [ls18.getD i 0] := by
  rcases cases18 h with rfl | rfl | rfl | rfl | rfl | rfl | rfl | rfl | rfl | rfl | rfl | rfl | rfl | rfl | rfl | rfl | rfl | rfl <;> rfl
theorem flT_qs (T : Nat → ByteArray) : flT T = (qsOf T).flatMap erB := by
  unfold flT qsOf
  rw [List.flatMap_assoc]
  have h : ∀ l : List Nat, (∀ i ∈ l, i < 18) → (l.flatMap fun i => flB (ls18.getD i 0) (T i)) = l.flatMap fun i => (if (T i).size = 0 then [] else [(nmJ i, T i)]).flatMap erB := by
    intro l
    induction l with
    | nil => intro _; rfl
    | cons a r ih =>
      intro hl
      simp only [List.flatMap_cons]
      rw [ih fun i hi => hl i (by simp [hi])]
      congr 1
      by_cases e : (T a).size = 0
      · rw [if_pos e]; unfold flB; rw [if_pos e]; rfl
      · rw [if_neg e, flB_some _ _ e]
        simp only [List.flatMap_cons, List.flatMap_nil, List.append_nil, erB, txt]
        rw [sby_nm (hl a (by simp)), List.append_assoc]
  exact h _ fun i hi => List.mem_range.1 hi
theorem name_of {x : ByteArray} (h : letP x) {j : Nat} (hj : slotC (cOf x) = j) : x = nmJ j := by
  obtain ⟨i, hi, he⟩ := h
  have e2 : x.data.toList = [UInt8.ofNat (ls18.getD i 0).toNat] := by
    rw [← ByteArray.toList_eq, he, ByteArray.toList_eq]
    rcases cases18 hi with rfl | rfl | rfl | rfl | rfl | rfl | rfl | rfl | rfl | rfl | rfl | rfl | rfl | rfl | rfl | rfl | rfl | rfl <;> rfl
  have e3 : cOf x = ls18.getD i 0 := by
    unfold cOf
    rw [e2]
    rcases cases18 hi with rfl | rfl | rfl | rfl | rfl | rfl | rfl | rfl | rfl | rfl | rfl | rfl | rfl | rfl | rfl | rfl | rfl | rfl <;> rfl
  rw [e3, slot_at hi] at hj
  subst hj
  cases x with
  | mk d =>
    unfold nmJ
    simp only [] at e2
    rw [← Array.toList_inj.1 (show d.toList = (#[UInt8.ofNat (ls18.getD i 0).toNat]).toList from e2)]
def tFrom (T : Nat → ByteArray) (ps : List Pr) : Nat → ByteArray := ps.foldl (fun T p => updT T (slotC (cOf p.1)) p.2) T
theorem qs_upd (T : Nat → ByteArray) {j : Nat} (hj : j < 18) (v : ByteArray) (hT : (T j).size = 0) (hv : v.size ≠ 0) : (qsOf (updT T j v)).Perm ((nmJ j, v) :: qsOf T) := by
  unfold qsOf
  have h : ∀ l : List Nat, l.Nodup → j ∈ l → (l.flatMap fun i => if (updT T j v i).size = 0 then [] else [(nmJ i, updT T j v i)]).Perm ((nmJ j, v) :: l.flatMap fun i => if (T i).size = 0 then [] else [(nmJ i, T i)]) := by
    intro l
    induction l with
    | nil => intro _ h; cases h
    | cons a r ih =>
      intro hn hm
      obtain ⟨hn1, hn2⟩ := List.nodup_cons.1 hn
      simp only [List.flatMap_cons]
      by_cases e : a = j
      · subst e
        have h1 : updT T a v a = v := by simp [updT]
        rw [h1, if_neg hv, if_pos hT, List.nil_append, List.singleton_append]
        have h2 : ∀ s : List Nat, a ∉ s → (s.flatMap fun i => if (updT T a v i).size = 0 then [] else [(nmJ i, updT T a v i)]) = s.flatMap fun i => if (T i).size = 0 then [] else [(nmJ i, T i)] := by
          intro s
          induction s with
          | nil => intro _; rfl
          | cons b t iht =>
            intro hs
            have hb : b ≠ a := fun e => hs (by simp [e])
            have h3 : updT T a v b = T b := by simp [updT, hb]
            simp only [List.flatMap_cons, h3]
            rw [iht fun h => hs (by simp [h])]
        rw [h2 r hn1]
      · have hm2 : j ∈ r := by
          rcases List.mem_cons.1 hm with h | h
          · exact absurd h.symm e
          · exact h
        have h1 : updT T j v a = T a := by simp [updT, e]
        rw [h1]
        exact ((ih hn2 hm2).append_left _).trans List.perm_middle
  exact h _ List.nodup_range (List.mem_range.2 hj)
theorem qs_from : ∀ (ps : List Pr) (T : Nat → ByteArray), (∀ y ∈ ps, letP y.1 ∧ y.2.size ≠ 0) → ps.Pairwise (fun p q => p.1 ≠ q.1) → (∀ y ∈ ps, (T (slotC (cOf y.1))).size = 0) → (qsOf (tFrom T ps)).Perm (ps ++ qsOf T)
  | [], T, _, _, _ => List.Perm.refl _
  | p :: r, T, h, hd, hT => by
    obtain ⟨h1, h2⟩ := List.pairwise_cons.1 hd
    obtain ⟨j, hj, hc, _⟩ := let_of (h p (by simp)).1
    have hs : slotC (cOf p.1) = j := by rw [hc, slot_at hj]
    have hnm := name_of (h p (by simp)).1 hs
    have h3 := qs_from r (updT T (slotC (cOf p.1)) p.2) (fun y hy => h y (by simp [hy])) h2 (fun y hy => by
      have h4 : slotC (cOf y.1) ≠ slotC (cOf p.1) := by
        intro e
        refine h1 y hy ?_
        rw [hs] at e
        rw [hnm, name_of (h y (by simp [hy])).1 e]
      simp only [updT, if_neg h4]
      exact hT y (by simp [hy]))
    refine h3.trans ?_
    have h5 := qs_upd T hj p.2 (by rw [← hs]; exact hT p (by simp)) (h p (by simp)).2
    rw [hs]
    refine (h5.append_left r).trans ?_
    have e : p = (nmJ j, p.2) := by rw [← hnm]
    rw [List.cons_append]
    conv => rhs; rw [e]
    exact List.perm_middle
theorem Srt.names {ps : List Pr} (h : Srt ps) : ps.Pairwise (fun p q => p.1 ≠ q.1) := h.ne.imp fun h e => h (by rw [e])
theorem qs_perm {ps : List Pr} (h : ∀ y ∈ ps, letP y.1 ∧ y.2.size ≠ 0) (hs : Srt ps) : (qsOf (tOf ps)).Perm ps := by
  have h1 := qs_from ps (fun _ => ⟨#[]⟩) h hs.names (fun _ _ => rfl)
  have h2 : qsOf (fun _ => ⟨#[]⟩) = [] := rfl
  rw [h2, List.append_nil] at h1
  exact h1
/-- what the slots hold -/
theorem tFrom_at {Q : Nat → ByteArray → Prop} : ∀ (ps : List Pr) (T : Nat → ByteArray), (∀ i, Q i (T i)) → (∀ y ∈ ps, Q (slotC (cOf y.1)) y.2) → ∀ i, Q i (tFrom T ps i)
  | [], T, hT, _, i => hT i
  | p :: r, T, hT, hp, i => by
    refine tFrom_at r _ (fun k => ?_) (fun y hy => hp y (by simp [hy])) i
    by_cases e : k = slotC (cOf p.1)
    · have h1 : updT T (slotC (cOf p.1)) p.2 k = p.2 := by simp [updT, e]
      show Q k (updT T (slotC (cOf p.1)) p.2 k)
      rw [h1, e]; exact hp p (by simp)
    · have h1 : updT T (slotC (cOf p.1)) p.2 k = T k := by simp [updT, e]
      show Q k (updT T (slotC (cOf p.1)) p.2 k)
      rw [h1]; exact hT k
theorem tOf_at {Q : Nat → ByteArray → Prop} (ps : List Pr) (h0 : ∀ i, Q i ⟨#[]⟩) (hp : ∀ y ∈ ps, Q (slotC (cOf y.1)) y.2) : ∀ i, Q i (tOf ps i) := tFrom_at ps _ h0 hp
/-- by growing names -/
def ltP (p q : Pr) : Prop := kb p.1 < kb q.1
def leP (p q : Pr) : Prop := ¬ ltP q p
instance (p q : Pr) : Decidable (ltP p q) := by unfold ltP; infer_instance
theorem ltP_asymm {p q : Pr} (h : ltP p q) : leP p q := fun h2 => List.lt_irrefl _ (List.lt_trans h h2)
theorem leP_trans {p q r : Pr} (h : leP p q) (h2 : leP q r) : leP p r := by
  have h3 : kb p.1 ≤ kb q.1 := h
  have h4 : kb q.1 ≤ kb r.1 := h2
  exact List.le_trans h3 h4
theorem ins_sorted {out : List Pr} {p : Pr} {k : Nat} (hk0 : k ≤ out.length) (hs : out.Pairwise leP) (hgt : ∀ j (h : j < out.length), k ≤ j → ltP p out[j]) (hle : ∀ (h : 0 < k) (hk : k - 1 < out.length), ¬ ltP p out[k - 1]) : (out.take k ++ p :: out.drop k).Pairwise leP := by
  have hdrop : ∀ y ∈ out.drop k, ltP p y := by
    intro y hy
    obtain ⟨i, hi, rfl⟩ := List.mem_iff_getElem.1 hy
    rw [List.getElem_drop]
    exact hgt _ _ (by omega)
  have htake : ∀ x ∈ out.take k, leP x p := by
    intro x hx
    obtain ⟨i, hi, rfl⟩ := List.mem_iff_getElem.1 hx
    have hi2 := hi
    rw [List.length_take] at hi2
    rw [List.getElem_take]
    have hk1 : k - 1 < out.length ∨ out.length ≤ k - 1 := by omega
    have h0 : 0 < k := by omega
    rcases hk1 with hk1 | hk1
    · have h1 := hle h0 hk1
      by_cases e : i = k - 1
      · subst e; exact h1
      · exact leP_trans (List.pairwise_iff_getElem.1 hs i (k - 1) (by omega) hk1 (by omega)) h1
    · exact absurd hk1 (by omega)
  rw [List.pairwise_append]
  refine ⟨hs.sublist (List.take_sublist k out), List.pairwise_cons.2 ⟨fun y hy => ltP_asymm (hdrop y hy), hs.sublist (List.drop_sublist k out)⟩, fun x hx y hy => ?_⟩
  rcases List.mem_cons.1 hy with rfl | hy
  · exact htake x hx
  · exact leP_trans (htake x hx) (ltP_asymm (hdrop y hy))
theorem ins_perm (out : List Pr) (p : Pr) (k : Nat) : (out.take k ++ p :: out.drop k).Perm (p :: out) := by
  refine List.perm_middle.trans ?_
  rw [List.take_append_drop]
theorem sort_unique : ∀ (a b : List Pr), a.Perm b → a.Pairwise leP → b.Pairwise ltP → a = b
  | [], b, h, _, _ => (List.nil_perm.1 h).symm
  | x :: a, [], h, _, _ => absurd h.symm (by simp)
  | x :: a, y :: b, h, ha, hb => by
    obtain ⟨ha1, ha2⟩ := List.pairwise_cons.1 ha
    obtain ⟨hb1, hb2⟩ := List.pairwise_cons.1 hb
    have hx : x ∈ y :: b := h.subset (by simp)
    have hy : y ∈ x :: a := h.symm.subset (by simp)
    have e : x = y := by
      rcases List.mem_cons.1 hx with e | hx
      · exact e
      · rcases List.mem_cons.1 hy with e | hy
        · exact e.symm
        · exact absurd (hb1 x hx) (ha1 y hy)
    subst e
    rw [sort_unique a b ((List.perm_cons x).1 h) ha2 hb2]
theorem flat_perm {f : Pr → List Int} {a b : List Pr} (h : a.Perm b) : (a.flatMap f).length = (b.flatMap f).length := (h.flatMap_right f).length_eq
end Go.Proofs.YtdenjanihikolaaGreatDoor

namespace Go.Proofs.YtdenjanihikolaaGreatDoor
open Go.RowKit
set_option linter.unusedVariables false
theorem me18 (b : Nat) (w : World) : (method 480 149 (.pointer (some ⟨b, 0, none⟩)) "Encode").run Tryz.prog w = .ok (191, .pointer (some ⟨b, 0, none⟩)) w := by kernel_rfl
theorem ce18 (args : Array Value) (w : World) : (callFunc 191 args).run Tryz.prog w = .ok (.enter 191 args) w := by kernel_rfl
theorem me47 (b : Nat) (w : World) : (method 480 213 (.pointer (some ⟨b, 0, none⟩)) "Encode").run Tryz.prog w = .ok (293, .pointer (some ⟨b, 0, none⟩)) w := by kernel_rfl
theorem ce47 (args : Array Value) (w : World) : (callFunc 293 args).run Tryz.prog w = .ok (.enter 293 args) w := by kernel_rfl
theorem me48 (b : Nat) (w : World) : (method 480 217 (.pointer (some ⟨b, 0, none⟩)) "Encode").run Tryz.prog w = .ok (315, .pointer (some ⟨b, 0, none⟩)) w := by kernel_rfl
theorem ce48 (args : Array Value) (w : World) : (callFunc 315 args).run Tryz.prog w = .ok (.enter 315 args) w := by kernel_rfl
end Go.Proofs.YtdenjanihikolaaGreatDoor

namespace Go.Proofs.YtdenjanihikolaaGreatDoor
open Go.RowKit
set_option linter.unusedVariables false
def turnedQ (kd : Int) : Bool := kd == 18 || kd == 47 || kd == 48
set_option maxRecDepth 100000 in
theorem turned12 (kd : Int) (w : World) : Calls Tryz.prog 12 #[.int .i64 kd] w (fun e w' => e = .returned (.bool (turnedQ kd)) ∧ w' = w) := by
  by_cases h18 : kd = 18
  · subst h18
    go_enter Tryz.func12, Tryz.ntmps12
    go_wp2
    go_ret
    exact ⟨rfl, rfl⟩
  by_cases h47 : kd = 47
  · subst h47
    go_enter Tryz.func12, Tryz.ntmps12
    go_wp2
    go_ret
    exact ⟨rfl, rfl⟩
  by_cases h48 : kd = 48
  · subst h48
    go_enter Tryz.func12, Tryz.ntmps12
    go_wp2
    go_ret
    exact ⟨rfl, rfl⟩
  have e18 : (kd == 18) = false := beq_eq_false_iff_ne.2 h18
  have e47 : (kd == 47) = false := beq_eq_false_iff_ne.2 h47
  have e48 : (kd == 48) = false := beq_eq_false_iff_ne.2 h48
  have hs : turnedQ kd = false := by unfold turnedQ; simp only [e18, e47, e48]; rfl
  rw [hs]
  go_enter Tryz.func12, Tryz.ntmps12
  go_wp2
  go_ret
  exact ⟨rfl, rfl⟩
end Go.Proofs.YtdenjanihikolaaGreatDoor

namespace Go.Proofs.YtdenjanihikolaaGreatDoor
open Go.RowKit
set_option linter.unusedVariables false
set_option linter.unusedSimpArgs false
theorem numB1 (n : Int) : numB n 1 = [n % 256] := by simp [numB]
theorem numB4 (n : Int) : numB n 4 = b32 n := by
  unfold b32 be32
  simp only [numB, Int.pow_succ, Int.pow_zero]
  refine List.cons_eq_cons.2 ⟨by omega, List.cons_eq_cons.2 ⟨by omega, List.cons_eq_cons.2 ⟨by omega, List.cons_eq_cons.2 ⟨by omega, rfl⟩⟩⟩⟩
/-- A message with its type, by the reference and by the package. -/
theorem all_msg {L : Int} (h : 0 < L ∧ L < 256) (body : List Int) : allB L body = msgB L body := by
  unfold allB msgB
  rw [if_neg (by omega), numB1, numB4]
  have : L % 256 = L := by omega
  rw [this]
  rfl
theorem all_msg0 (body : List Int) : allB 0 body = msg0 body := by
  unfold allB msg0
  rw [if_pos rfl, numB4]
  rfl
end Go.Proofs.YtdenjanihikolaaGreatDoor

namespace Go.Proofs.YtdenjanihikolaaGreatDoor
open Go.RowKit
set_option linter.unusedVariables false
set_option maxRecDepth 100000 in
theorem letter18 (w : World) : Calls Tryz.prog 35 #[.int .i64 18] w (fun e w' => e = .returned (.int .u8 0) ∧ w' = w) := by
  go_enter Tryz.func35, Tryz.ntmps35
  go_wp2
  go_ret
  exact ⟨rfl, rfl⟩
set_option maxRecDepth 100000 in
theorem letter47 (w : World) : Calls Tryz.prog 35 #[.int .i64 47] w (fun e w' => e = .returned (.int .u8 69) ∧ w' = w) := by
  go_enter Tryz.func35, Tryz.ntmps35
  go_wp2
  go_ret
  exact ⟨rfl, rfl⟩
set_option maxRecDepth 100000 in
theorem letter48 (w : World) : Calls Tryz.prog 35 #[.int .i64 48] w (fun e w' => e = .returned (.int .u8 78) ∧ w' = w) := by
  go_enter Tryz.func35, Tryz.ntmps35
  go_wp2
  go_ret
  exact ⟨rfl, rfl⟩
end Go.Proofs.YtdenjanihikolaaGreatDoor

namespace Go.Proofs.YtdenjanihikolaaGreatDoor
open Go Go.RowKit Go.ChangeShapes Go.WideShapes Go.Deep
set_option linter.unusedVariables false
set_option linter.unusedSimpArgs false
set_option maxRecDepth 100000
section
variable {H : Type} {enc : TypeId × Value → H} {w : World} {sp : Nat → Bool} {held : Bool}
theorem addr_plain {w : World} {a : Addr} {v : Value} (h : w.cell? a = some v) : a = ⟨a.block, a.off, none⟩ := by
  cases a with
  | mk b o s =>
    cases s with
    | none => rfl
    | some q =>
      simp only [World.cell?] at h
      split at h <;> simp at h
theorem getD_take_lt (zs : List Int) (len j : Nat) (h : j < len) : (zs.take len).getD j 0 = zs.getD j 0 := by
  simp [List.getD, List.getElem?_take, h]
/-- a slice of numbers that came in -/
theorem rdI_of {t e : TypeId} {k : IntKind} {fuel : Nat} {v : Value} {x : DataW H × List MemPlace} (ht : Tryz.prog.underlying t = some (.slice e)) (he : Tryz.prog.underlying e = some (.int k)) (hc : Tryz.prog.cellsOf e = 1)
    (h : DataW.trod enc Tryz.prog w 0 sp held fuel t [v] = some x) : ∃ xs A c, v = .slice A (List.length xs) c ∧ RdI k w (.slice A (List.length xs) c) xs ∧ ∀ n ∈ xs, (Lit.int k n).wf = true := by
  rcases open_ints ht he hc h with ⟨hv, _⟩ | ⟨a, len, cap, zs, hv, _, hl, hm, hz, _, hcell, hw⟩
  · have hv' : v = .slice none 0 0 := by simpa using hv
    exact ⟨[], none, 0, hv', ⟨none, 0, rfl, Nat.le_refl _, by unfold maxLen; omega, fun h => absurd h (Nat.lt_irrefl 0)⟩, fun n hn => by simp at hn⟩
  · have hv' : v = .slice (some a) len cap := by simpa using hv
    have hle : len ≤ zs.length := by rw [hz]; split <;> omega
    have hlen : (zs.take len).length = len := by simp; omega
    refine ⟨zs.take len, some a, cap, by rw [hlen]; exact hv', ?_, fun n hn => hw n (List.mem_of_mem_take hn)⟩
    refine ⟨some a, cap, rfl, by rw [hlen]; exact hl, hm, fun hp => ?_⟩
    rw [hlen] at hp
    have h0 := hcell 0 (by omega)
    have ha : a = ⟨a.block, a.off, none⟩ := by
      have e0 : a.add 0 = a := by simp [Addr.add]
      rw [e0] at h0
      exact addr_plain h0
    refine ⟨a.block, a.off, by rw [← ha], fun j hj => ?_⟩
    rw [hlen] at hj
    have := hcell j (by omega)
    rw [getD_take_lt _ _ _ hj, ← add_lit0, ← ha]
    exact this
theorem rdB_of {t e : TypeId} {fuel : Nat} {v : Value} {x : DataW H × List MemPlace} (ht : Tryz.prog.underlying t = some (.slice e)) (he : Tryz.prog.underlying e = some (.int .u8)) (hc : Tryz.prog.cellsOf e = 1)
    (h : DataW.trod enc Tryz.prog w 0 sp held fuel t [v] = some x) : ∃ xs A c, v = .slice A (List.length xs) c ∧ RdB w (.slice A (List.length xs) c) xs ∧ ∀ n ∈ xs, 0 ≤ n ∧ n < 256 := by
  obtain ⟨xs, A, c, h1, h2, h3⟩ := rdI_of ht he hc h
  refine ⟨xs, A, c, h1, h2, fun n hn => ?_⟩
  have := h3 n hn
  simp only [Lit.wf, Bool.and_eq_true, decide_eq_true_eq] at this
  have e1 : IntKind.u8.min = 0 := rfl
  have e2 : IntKind.u8.max = 255 := rfl
  omega
/-- a slice of structs that came in -/
theorem rdM_in {α : Type} [Inhabited α] {size : Nat} (hpos : 0 < size) {R : World → α → (Nat → Value) → Prop} {Q : α → Prop} {t e : TypeId} {fuel : Nat} {v : Value} {x : DataW H × List MemPlace} (ht : Tryz.prog.underlying t = some (.slice e)) (hc : Tryz.prog.cellsOf e = size)
    (hel : ∀ n cs' y, cs'.length = size → DataW.trod enc Tryz.prog w 0 sp held n e cs' = some y → ∃ x : α, R w x (fun k => cs'.getD k undef) ∧ Q x)
    (h : DataW.trod enc Tryz.prog w 0 sp held fuel t [v] = some x) : ∃ (l : List α) (A : Option Addr) (c : Nat), v = .slice A l.length c ∧ RdM size R w (.slice A l.length c) l ∧ ∀ x ∈ l, Q x := by
  rcases open_slice ht h with ⟨hv, _⟩ | ⟨a, len, cap, m, n, D, Pl, hv, _, hl, hm, hmm, _, hx⟩
  · have hv' : v = .slice none 0 0 := by simpa using hv
    exact ⟨[], none, 0, hv', ⟨none, 0, rfl, Nat.le_refl _, by unfold maxLen; omega, fun h => absurd h (Nat.lt_irrefl 0)⟩, fun n hn => by simp at hn⟩
  · have hv' : v = .slice (some a) len cap := by simpa using hv
    have hlm : len ≤ m := by rw [hmm]; split <;> omega
    have each : ∀ i, i < len → ∃ q : α × (Nat → Value), (∀ k, k < size → w.cell? ((a.add (i * size)).add k) = some (q.2 k)) ∧ R w q.1 q.2 ∧ Q q.1 := by
      intro i hi
      obtain ⟨cs', h1, h2⟩ := hx i (by omega)
      rw [hc] at h1
      obtain ⟨_, hlen, hcell⟩ := World.cells?_some h1
      obtain ⟨x, hR, hQ⟩ := hel n cs' _ hlen h2
      refine ⟨(x, fun k => cs'.getD k undef), fun k hk => ?_, hR, hQ⟩
      rw [hcell k hk]
      simp [List.getD, List.getElem?_eq_getElem (show k < cs'.length by omega)]
    obtain ⟨q, hq⟩ := choose_lt each
    have hlen : ((List.range len).map fun i => (q i).1).length = len := by simp
    refine ⟨(List.range len).map fun i => (q i).1, some a, cap, by rw [hlen]; exact hv', ?_, ?_⟩
    · refine ⟨some a, cap, rfl, by rw [hlen]; exact hl, hm, fun hp => ?_⟩
      rw [hlen] at hp
      have h0 := (hq 0 hp).1 0 hpos
      have ha : a = ⟨a.block, a.off, none⟩ := by
        have e0 : (a.add (0 * size)).add 0 = a := by simp [Addr.add]
        rw [e0] at h0
        exact addr_plain h0
      refine ⟨a.block, a.off, by rw [← ha], fun j hj => ?_⟩
      have hj' : j < len := by simpa using hj
      refine ⟨(q j).2, fun k hk => ?_, ?_⟩
      · have h1 := (hq j hj').1 k hk
        rw [ha, add_lit0, add_lit0] at h1
        exact h1
      · simpa using (hq j hj').2.1
    · intro x hxm
      obtain ⟨i, hi, rfl⟩ := List.mem_map.1 hxm
      exact (hq i (List.mem_range.1 hi)).2.2
end
theorem cl3 : Tryz.prog.cellsOf 3 = 1 := by kernel_rfl
theorem cl4 : Tryz.prog.cellsOf 4 = 1 := by kernel_rfl
theorem cl5 : Tryz.prog.cellsOf 5 = 1 := by kernel_rfl
theorem cl9 : Tryz.prog.cellsOf 9 = 1 := by kernel_rfl
theorem cl22 : Tryz.prog.cellsOf 22 = 1 := by kernel_rfl
theorem cl23 : Tryz.prog.cellsOf 23 = 1 := by kernel_rfl
theorem cl24 : Tryz.prog.cellsOf 24 = 1 := by kernel_rfl
theorem cl25 : Tryz.prog.cellsOf 25 = 1 := by kernel_rfl
theorem cl26 : Tryz.prog.cellsOf 26 = 1 := by kernel_rfl
theorem cl27 : Tryz.prog.cellsOf 27 = 1 := by kernel_rfl
theorem cl28 : Tryz.prog.cellsOf 28 = 1 := by kernel_rfl
theorem cl29 : Tryz.prog.cellsOf 29 = 1 := by kernel_rfl
theorem cl31 : Tryz.prog.cellsOf 31 = 13 := by kernel_rfl
theorem cl58 : Tryz.prog.cellsOf 58 = 2 := by kernel_rfl
theorem cl60 : Tryz.prog.cellsOf 60 = 2 := by kernel_rfl
theorem cl62 : Tryz.prog.cellsOf 62 = 7 := by kernel_rfl
section
variable {H : Type} {enc : TypeId × Value → H} {w : World} {sp : Nat → Bool} {held : Bool}
instance : Inhabited Sf := ⟨⟨ByteArray.empty, 0, 0, 0, 0, 0, 0⟩⟩
theorem bool_of {fuel : Nat} {v : Value} {x : DataW H × List MemPlace} (h : DataW.trod enc Tryz.prog w 0 sp held fuel 4 [v] = some x) : ∃ b, v = .bool b := by
  cases fuel with
  | zero => simp [DataW.trod] at h
  | succ n =>
    unfold DataW.trod at h
    rw [Tryz.underlying4] at h
    split at h <;> simp_all
theorem str_of {fuel : Nat} {v : Value} {x : DataW H × List MemPlace} (h : DataW.trod enc Tryz.prog w 0 sp held fuel 9 [v] = some x) : ∃ s, v = .string s := by
  obtain ⟨s, h1, _⟩ := DataW.trod_string Tryz.underlying9 h
  exact ⟨s, by simpa using h1⟩
theorem num_of {t : Nat} {k : IntKind} {fuel : Nat} {v : Value} {x : DataW H × List MemPlace} (ht : Tryz.prog.underlying t = some (.int k)) (h : DataW.trod enc Tryz.prog w 0 sp held fuel t [v] = some x) : ∃ n, v = .int k n ∧ (Lit.int k n).wf = true := by
  obtain ⟨n, h1, _, h3⟩ := DataW.trod_int ht h
  exact ⟨n, by simpa using h1, h3⟩
theorem u32_wf {n : Int} (h : (Lit.int .u32 n).wf = true) : 0 ≤ n ∧ n < 4294967296 := by
  simp only [Lit.wf, Bool.and_eq_true, decide_eq_true_eq] at h
  have e1 : IntKind.u32.min = 0 := rfl
  have e2 : IntKind.u32.max = 4294967295 := rfl
  omega
theorem i64_wf {n : Int} (h : (Lit.int .i64 n).wf = true) : -9223372036854775808 ≤ n ∧ n ≤ 9223372036854775807 := by
  simp only [Lit.wf, Bool.and_eq_true, decide_eq_true_eq] at h
  have e1 : IntKind.i64.min = -9223372036854775808 := rfl
  have e2 : IntKind.i64.max = 9223372036854775807 := rfl
  omega
theorem val_el (n : Nat) (cs' : List Value) (y : DataW H × List MemPlace) (hl : cs'.length = 2) (h : DataW.trod enc Tryz.prog w 0 sp held n 58 cs' = some y) : ∃ x : Bool × List Int, isVal w x (fun k => cs'.getD k undef) ∧ ∀ z ∈ x.2, 0 ≤ z ∧ z < 256 := by
  obtain ⟨xs, m, _, _, _, hxl, hf⟩ := DataW.trod_struct Tryz.underlying58 h
  have hxl' : xs.length = 2 := hxl
  match cs', hl with
  | [c0, c1], _ =>
    have u0 : DataW.trod enc Tryz.prog w 0 sp held m 4 (([c0, c1].drop 0).take (Tryz.prog.cellsOf 4)) = xs[0]? := hf 0 _ rfl
    have u1 : DataW.trod enc Tryz.prog w 0 sp held m 26 (([c0, c1].drop 1).take (Tryz.prog.cellsOf 26)) = xs[1]? := hf 1 _ rfl
    rw [List.getElem?_eq_getElem (by omega)] at u0 u1
    simp only [cl4, cl26, List.drop, List.take] at u0 u1
    obtain ⟨b, rfl⟩ := bool_of u0
    obtain ⟨zs, A, c, rfl, hr, hw⟩ := rdB_of Tryz.underlying26 Tryz.underlying5 cl5 u1
    exact ⟨(b, zs), ⟨rfl, A, c, rfl, hr⟩, hw⟩
theorem pr_el (n : Nat) (cs' : List Value) (y : DataW H × List MemPlace) (hl : cs'.length = 2) (h : DataW.trod enc Tryz.prog w 0 sp held n 60 cs' = some y) : ∃ x : ByteArray × ByteArray, isPr w x (fun k => cs'.getD k undef) ∧ True := by
  obtain ⟨xs, m, _, _, _, hxl, hf⟩ := DataW.trod_struct Tryz.underlying60 h
  have hxl' : xs.length = 2 := hxl
  match cs', hl with
  | [c0, c1], _ =>
    have u0 : DataW.trod enc Tryz.prog w 0 sp held m 9 (([c0, c1].drop 0).take (Tryz.prog.cellsOf 9)) = xs[0]? := hf 0 _ rfl
    have u1 : DataW.trod enc Tryz.prog w 0 sp held m 9 (([c0, c1].drop 1).take (Tryz.prog.cellsOf 9)) = xs[1]? := hf 1 _ rfl
    rw [List.getElem?_eq_getElem (by omega)] at u0 u1
    simp only [cl9, List.drop, List.take] at u0 u1
    obtain ⟨s0, rfl⟩ := str_of u0
    obtain ⟨s1, rfl⟩ := str_of u1
    exact ⟨(s0, s1), ⟨rfl, rfl⟩, trivial⟩
theorem fld_el (n : Nat) (cs' : List Value) (y : DataW H × List MemPlace) (hl : cs'.length = 7) (h : DataW.trod enc Tryz.prog w 0 sp held n 62 cs' = some y) : ∃ x : Sf, isSf w x (fun k => cs'.getD k undef) ∧ 0 ≤ x.tab ∧ x.tab < 4294967296 ∧ 0 ≤ x.typ ∧ x.typ < 4294967296 := by
  obtain ⟨xs, m, _, _, _, hxl, hf⟩ := DataW.trod_struct Tryz.underlying62 h
  have hxl' : xs.length = 7 := hxl
  match cs', hl with
  | [c0, c1, c2, c3, c4, c5, c6], _ =>
    have u0 : DataW.trod enc Tryz.prog w 0 sp held m 9 (([c0, c1, c2, c3, c4, c5, c6].drop 0).take (Tryz.prog.cellsOf 9)) = xs[0]? := hf 0 _ rfl
    have u1 : DataW.trod enc Tryz.prog w 0 sp held m 22 (([c0, c1, c2, c3, c4, c5, c6].drop 1).take (Tryz.prog.cellsOf 22)) = xs[1]? := hf 1 _ rfl
    have u2 : DataW.trod enc Tryz.prog w 0 sp held m 3 (([c0, c1, c2, c3, c4, c5, c6].drop 2).take (Tryz.prog.cellsOf 3)) = xs[2]? := hf 2 _ rfl
    have u3 : DataW.trod enc Tryz.prog w 0 sp held m 22 (([c0, c1, c2, c3, c4, c5, c6].drop 3).take (Tryz.prog.cellsOf 22)) = xs[3]? := hf 3 _ rfl
    have u4 : DataW.trod enc Tryz.prog w 0 sp held m 3 (([c0, c1, c2, c3, c4, c5, c6].drop 4).take (Tryz.prog.cellsOf 3)) = xs[4]? := hf 4 _ rfl
    have u5 : DataW.trod enc Tryz.prog w 0 sp held m 3 (([c0, c1, c2, c3, c4, c5, c6].drop 5).take (Tryz.prog.cellsOf 3)) = xs[5]? := hf 5 _ rfl
    have u6 : DataW.trod enc Tryz.prog w 0 sp held m 3 (([c0, c1, c2, c3, c4, c5, c6].drop 6).take (Tryz.prog.cellsOf 3)) = xs[6]? := hf 6 _ rfl
    rw [List.getElem?_eq_getElem (by omega)] at u0 u1 u2 u3 u4 u5 u6
    simp only [cl9, cl22, cl3, List.drop, List.take] at u0 u1 u2 u3 u4 u5 u6
    obtain ⟨s0, rfl⟩ := str_of u0
    obtain ⟨n1, rfl, w1⟩ := num_of Tryz.underlying22 u1
    obtain ⟨n2, rfl, w2⟩ := num_of Tryz.underlying3 u2
    obtain ⟨n3, rfl, w3⟩ := num_of Tryz.underlying22 u3
    obtain ⟨n4, rfl, w4⟩ := num_of Tryz.underlying3 u4
    obtain ⟨n5, rfl, w5⟩ := num_of Tryz.underlying3 u5
    obtain ⟨n6, rfl, w6⟩ := num_of Tryz.underlying3 u6
    have a1 := u32_wf w1
    have a3 := u32_wf w3
    exact ⟨⟨s0, n1, n2, n3, n4, n5, n6⟩, ⟨rfl, rfl, rfl, rfl, rfl, rfl, rfl⟩, a1.1, a1.2, a3.1, a3.2⟩
/-- a slice of texts that came in -/
theorem rdS_of {fuel : Nat} {v : Value} {x : DataW H × List MemPlace} (h : DataW.trod enc Tryz.prog w 0 sp held fuel 27 [v] = some x) : ∃ (l : List ByteArray) (A : Option Addr) (c : Nat), v = .slice A l.length c ∧ Rd1 isStr w (.slice A l.length c) l := by
  rcases open_strings Tryz.underlying27 Tryz.underlying9 cl9 h with ⟨hv, _⟩ | ⟨a, len, cap, ss, hv, _, hl, hm, hz, _, hcell, _⟩
  · have hv' : v = .slice none 0 0 := by simpa using hv
    exact ⟨[], none, 0, hv', ⟨none, 0, rfl, Nat.le_refl _, by unfold maxLen; omega, fun h => absurd h (Nat.lt_irrefl 0)⟩⟩
  · have hv' : v = .slice (some a) len cap := by simpa using hv
    have hle : len ≤ ss.length := by rw [hz]; split <;> omega
    have hlen : (ss.take len).length = len := by simp; omega
    refine ⟨ss.take len, some a, cap, by rw [hlen]; exact hv', ?_⟩
    refine ⟨some a, cap, rfl, by rw [hlen]; exact hl, hm, fun hp => ?_⟩
    rw [hlen] at hp
    have h0 := hcell 0 (by omega)
    have ha : a = ⟨a.block, a.off, none⟩ := by
      have e0 : a.add 0 = a := by simp [Addr.add]
      rw [e0] at h0
      exact addr_plain h0
    refine ⟨a.block, a.off, by rw [← ha], fun j hj => ?_⟩
    have hj' : j < len := by rw [hlen] at hj; exact hj
    have h1 := hcell j (by omega)
    rw [ha, add_lit0] at h1
    refine ⟨_, h1, ?_⟩
    show Value.string _ = Value.string _
    congr 1
    simp [List.getD, List.getElem?_eq_getElem (show j < ss.length by omega)]
/-- What a message of the thin package is, read. -/
structure MsgIn (w : World) (v : Value) (a b : ByteArray) (kd n mm : Int) (A5 A6 A7 A8 A9 A10 A11 A12 : Option Addr) (c5 c6 c7 c8 c9 c10 c11 c12 : Nat) (lf lr ty d : List Int) (vls : List (Bool × List Int)) (ws : List ByteArray) (ps : List (ByteArray × ByteArray)) (fs : List Sf) : Prop where
  val : v = .agg #[.int .i64 kd, .string a, .string b, .int .u32 n, .int .u32 mm, .slice A5 lf.length c5, .slice A6 lr.length c6, .slice A7 ty.length c7, .slice A8 vls.length c8, .slice A9 d.length c9, .slice A10 ws.length c10, .slice A11 ps.length c11, .slice A12 fs.length c12]
  rf : RdI .i64 w (.slice A5 lf.length c5) lf
  rr : RdI .i64 w (.slice A6 lr.length c6) lr
  rt : RdI .u32 w (.slice A7 ty.length c7) ty
  rv : RdM 2 isVal w (.slice A8 vls.length c8) vls
  rd : RdB w (.slice A9 d.length c9) d
  rw : Rd1 isStr w (.slice A10 ws.length c10) ws
  rp : RdM 2 isPr w (.slice A11 ps.length c11) ps
  rl : RdM 7 isSf w (.slice A12 fs.length c12) fs
  n : 0 ≤ n ∧ n < 4294967296
  kd : -9223372036854775808 ≤ kd ∧ kd ≤ 9223372036854775807
  ty : ∀ y ∈ ty, 0 ≤ y ∧ y < 4294967296
  d : ∀ y ∈ d, 0 ≤ y ∧ y < 256
  vls : ∀ x ∈ vls, ∀ z ∈ x.2, 0 ≤ z ∧ z < 256
  fs : ∀ x ∈ fs, 0 ≤ x.tab ∧ x.tab < 4294967296 ∧ 0 ≤ x.typ ∧ x.typ < 4294967296
theorem open_msg {base : Nat} {v : Value} {dd : DataW H} {pp : List MemPlace} (hok : Value.okWide Tryz.prog w .any base 31 v) (hT : DataW.Trod enc Tryz.prog w 0 sp held 31 v dd pp) :
    ∃ a b kd n mm A5 A6 A7 A8 A9 A10 A11 A12 c5 c6 c7 c8 c9 c10 c11 c12 lf lr ty d vls ws ps fs, MsgIn w v a b kd n mm A5 A6 A7 A8 A9 A10 A11 A12 c5 c6 c7 c8 c9 c10 c11 c12 lf lr ty d vls ws ps fs := by
  obtain ⟨fuel, hv⟩ := hT
  obtain ⟨xs, m, _, _, hl, hxl, hf⟩ := DataW.trod_struct Tryz.underlying31 hv
  have hxl' : xs.length = 13 := hxl
  rw [cl31] at hl
  obtain ⟨cs, rfl, _⟩ := okWide_struct Tryz.underlying31 hok
  obtain ⟨l⟩ := cs
  have hl' : l.length = 13 := hl
  match l, hl' with
  | [g0, g1, g2, g3, g4, g5, g6, g7, g8, g9, g10, g11, g12], _ =>
    have u0 : DataW.trod enc Tryz.prog w 0 sp held m 3 (([g0, g1, g2, g3, g4, g5, g6, g7, g8, g9, g10, g11, g12].drop 0).take (Tryz.prog.cellsOf 3)) = xs[0]? := hf 0 _ rfl
    have u1 : DataW.trod enc Tryz.prog w 0 sp held m 9 (([g0, g1, g2, g3, g4, g5, g6, g7, g8, g9, g10, g11, g12].drop 1).take (Tryz.prog.cellsOf 9)) = xs[1]? := hf 1 _ rfl
    have u2 : DataW.trod enc Tryz.prog w 0 sp held m 9 (([g0, g1, g2, g3, g4, g5, g6, g7, g8, g9, g10, g11, g12].drop 2).take (Tryz.prog.cellsOf 9)) = xs[2]? := hf 2 _ rfl
    have u3 : DataW.trod enc Tryz.prog w 0 sp held m 22 (([g0, g1, g2, g3, g4, g5, g6, g7, g8, g9, g10, g11, g12].drop 3).take (Tryz.prog.cellsOf 22)) = xs[3]? := hf 3 _ rfl
    have u4 : DataW.trod enc Tryz.prog w 0 sp held m 22 (([g0, g1, g2, g3, g4, g5, g6, g7, g8, g9, g10, g11, g12].drop 4).take (Tryz.prog.cellsOf 22)) = xs[4]? := hf 4 _ rfl
    have u5 : DataW.trod enc Tryz.prog w 0 sp held m 23 (([g0, g1, g2, g3, g4, g5, g6, g7, g8, g9, g10, g11, g12].drop 5).take (Tryz.prog.cellsOf 23)) = xs[5]? := hf 5 _ rfl
    have u6 : DataW.trod enc Tryz.prog w 0 sp held m 23 (([g0, g1, g2, g3, g4, g5, g6, g7, g8, g9, g10, g11, g12].drop 6).take (Tryz.prog.cellsOf 23)) = xs[6]? := hf 6 _ rfl
    have u7 : DataW.trod enc Tryz.prog w 0 sp held m 24 (([g0, g1, g2, g3, g4, g5, g6, g7, g8, g9, g10, g11, g12].drop 7).take (Tryz.prog.cellsOf 24)) = xs[7]? := hf 7 _ rfl
    have u8 : DataW.trod enc Tryz.prog w 0 sp held m 25 (([g0, g1, g2, g3, g4, g5, g6, g7, g8, g9, g10, g11, g12].drop 8).take (Tryz.prog.cellsOf 25)) = xs[8]? := hf 8 _ rfl
    have u9 : DataW.trod enc Tryz.prog w 0 sp held m 26 (([g0, g1, g2, g3, g4, g5, g6, g7, g8, g9, g10, g11, g12].drop 9).take (Tryz.prog.cellsOf 26)) = xs[9]? := hf 9 _ rfl
    have u10 : DataW.trod enc Tryz.prog w 0 sp held m 27 (([g0, g1, g2, g3, g4, g5, g6, g7, g8, g9, g10, g11, g12].drop 10).take (Tryz.prog.cellsOf 27)) = xs[10]? := hf 10 _ rfl
    have u11 : DataW.trod enc Tryz.prog w 0 sp held m 28 (([g0, g1, g2, g3, g4, g5, g6, g7, g8, g9, g10, g11, g12].drop 11).take (Tryz.prog.cellsOf 28)) = xs[11]? := hf 11 _ rfl
    have u12 : DataW.trod enc Tryz.prog w 0 sp held m 29 (([g0, g1, g2, g3, g4, g5, g6, g7, g8, g9, g10, g11, g12].drop 12).take (Tryz.prog.cellsOf 29)) = xs[12]? := hf 12 _ rfl
    rw [List.getElem?_eq_getElem (by omega)] at u0 u1 u2 u3 u4 u5 u6 u7 u8 u9 u10 u11 u12
    simp only [Value.cells, cl3, cl9, cl22, cl23, cl24, cl25, cl26, cl27, cl28, cl29, List.drop, List.take] at u0 u1 u2 u3 u4 u5 u6 u7 u8 u9 u10 u11 u12
    obtain ⟨kd, rfl, w0⟩ := num_of Tryz.underlying3 u0
    obtain ⟨a, rfl⟩ := str_of u1
    obtain ⟨b, rfl⟩ := str_of u2
    obtain ⟨n, rfl, w3⟩ := num_of Tryz.underlying22 u3
    obtain ⟨mm, rfl, w4⟩ := num_of Tryz.underlying22 u4
    obtain ⟨lf, A5, c5, rfl, r5, _⟩ := rdI_of Tryz.underlying23 Tryz.underlying3 cl3 u5
    obtain ⟨lr, A6, c6, rfl, r6, _⟩ := rdI_of Tryz.underlying23 Tryz.underlying3 cl3 u6
    obtain ⟨ty, A7, c7, rfl, r7, w7⟩ := rdI_of Tryz.underlying24 Tryz.underlying22 cl22 u7
    obtain ⟨vls, A8, c8, rfl, r8, w8⟩ := rdM_in (by decide) Tryz.underlying25 cl58 (Q := fun x : Bool × List Int => ∀ z ∈ x.2, 0 ≤ z ∧ z < 256) (R := isVal) val_el u8
    obtain ⟨d, A9, c9, rfl, r9, w9⟩ := rdB_of Tryz.underlying26 Tryz.underlying5 cl5 u9
    obtain ⟨ws, A10, c10, rfl, r10⟩ := rdS_of u10
    obtain ⟨ps, A11, c11, rfl, r11, _⟩ := rdM_in (by decide) Tryz.underlying28 cl60 (Q := fun x : ByteArray × ByteArray => True) (R := isPr) pr_el u11
    obtain ⟨fs, A12, c12, rfl, r12, w12⟩ := rdM_in (by decide) Tryz.underlying29 cl62 (Q := fun x : Sf => 0 ≤ x.tab ∧ x.tab < 4294967296 ∧ 0 ≤ x.typ ∧ x.typ < 4294967296) (R := isSf) fld_el u12
    exact ⟨a, b, kd, n, mm, A5, A6, A7, A8, A9, A10, A11, A12, c5, c6, c7, c8, c9, c10, c11, c12, lf, lr, ty, d, vls, ws, ps, fs, rfl, r5, r6, r7, r8, r9, r10, r11, r12, u32_wf w3, i64_wf w0, fun y hy => u32_wf (w7 y hy), w9, w8, w12⟩
end
end Go.Proofs.YtdenjanihikolaaGreatDoor
