/- Values that are known by their parts, for regions whose order is open. -/
import Derived.Test.YtdenjanihikolaaGreatDoorVMkd
import Derived.Test.YtdenjanihikolaaGreatDoorVEncc
import Derived.Test.YtdenjanihikolaaGreatDoorVEnce
namespace Go.Proofs.YtdenjanihikolaaGreatDoor
open Go.RowKit
set_option linter.unusedVariables false
set_option linter.unusedSimpArgs false

theorem Rd1.of_ownS {w : World} {B e : Nat} {v : Value} {xs : List ByteArray} (h : w.ownsRow B e 1 v xs.length (xs.map Value.string)) : Rd1 isStr w v xs := by
  rcases h.2 with ⟨rfl, hn⟩ | ⟨g, cap, cur, rfl, hbg, hg, hnc, hcm, hcs, htake⟩
  · exact ⟨none, 0, by rw [hn], by omega, by unfold maxLen; omega, fun h => by omega⟩
  · refine ⟨_, cap, rfl, hnc, hcm, fun _ => ⟨g, 0, rfl, fun j hj => ?_⟩⟩
    have := h.cells (g := g) rfl j (.string xs[j]) (by
      rw [List.getElem?_map, List.getElem?_eq_getElem hj]; rfl)
    rw [add_lit0] at this
    exact ⟨_, this, rfl⟩
theorem one_strs (xs : List ByteArray) : ∀ u ∈ xs.map Value.string, u.oneCell' = true := by
  intro u hu
  obtain ⟨_, _, rfl⟩ := List.mem_map.1 hu
  rfl
theorem one_ints (k : IntKind) (xs : List Int) : ∀ u ∈ xs.map (Value.int k), u.oneCell' = true := by
  intro u hu
  obtain ⟨_, _, rfl⟩ := List.mem_map.1 hu
  rfl

set_option maxRecDepth 100000 in
theorem cloneI (l : List Int) (A : Option Addr) (c : Nat) (w : World) (h : RdI .u32 w (.slice A l.length c) l) (hl : l.length ≤ 1000) : Calls Tryz.prog 59 #[.slice A l.length c] w (GaveR (fun v w => RdI .u32 w v l) l.length w) := by
  have HR := Lib.hid h
  obtain ⟨A', c', hv, h1, h2, h3⟩ := h
  obtain ⟨rfl, rfl⟩ : A = A' ∧ c = c' := by simpa using hv
  have H3 := Lib.hid h3
  clear h3 hv
  cases A with
  | none =>
    have hd : l = [] := by
      rcases Nat.eq_zero_or_pos l.length with h | h
      · exact List.eq_nil_of_length_eq_zero h
      · obtain ⟨_, _, hA, _⟩ := H3.out h; cases hA
    subst hd
    have hq := fun wx => Lib.run_eql_slice_nil (P := Tryz.prog) wx 24 22 none 0 c 0 0 Tryz.underlying24
    go_enter Tryz.func59, Tryz.ntmps59
    go_wp2
    go_ret
    exact ⟨none, 0, rfl, Ext.refl _, fun w3 _ => ⟨none, 0, rfl, Nat.le_refl _, by unfold maxLen; omega, fun h => absurd h (Nat.lt_irrefl 0)⟩⟩
  | some p =>
    have hcell : ∀ j u, (l.map (Value.int .u32))[j]? = some u → (w.alloc (.cells #[] 22)).cell? (p.add j) = some u := by
      intro j u hj
      have hjl : j < l.length := by
        rcases Nat.lt_or_ge j l.length with h | h
        · exact h
        · simp [List.getElem?_eq_none h] at hj
      obtain ⟨b1, o1, hA, hc⟩ := H3.out (by omega)
      have hp : p = ⟨b1, o1, none⟩ := by simpa using hA
      have hpj : p.add j = ⟨b1, o1 + j, none⟩ := by rw [hp, add_lit0]
      rw [hpj]
      refine Ext.cell (w := w) (ext_alloc _ _) ?_
      rw [hc j hjl]
      rw [List.getElem?_map, List.getElem?_eq_getElem hjl] at hj
      simp at hj
      subst hj
      simp [List.getD, List.getElem?_eq_getElem hjl]
    have HC := Lib.hid hcell
    have HF := Lib.hid (Row.fresh 22 w 1)
    clear hcell
    have hq := fun wx => Lib.run_eql_slice_nil (P := Tryz.prog) wx 24 22 (some p) l.length c 0 0 Tryz.underlying24
    go_enter Tryz.func59, Tryz.ntmps59
    go_wp2_with (at_builtin; refine ap_many (p := p) (m := l.length) (c := c) (ys := l.map (Value.int .u32)) rfl (.tmp 5) (.tmp 6) 24 22 4 _ rfl Tryz.underlying24 info22 rfl (by first | rfl | (simp; rfl)) HF.out rfl (by simp) HC.out (one_ints _ l) (by omega) (by decide) ?_; intro a1 c1 w2 hn; have HN := Lib.hid hn; clear hn)
    go_ret
    have hn := HN.out
    rw [Nat.zero_add, List.nil_append] at hn
    refine ⟨some a1, c1, by simp, hn.bel, fun w3 h3 => RdI.of_own (own_stay hn.own hn.off h3)⟩

set_option maxRecDepth 100000 in
theorem cloneS (l : List ByteArray) (A : Option Addr) (c : Nat) (w : World) (h : Rd1 isStr w (.slice A l.length c) l) (hl : l.length ≤ 1000) : Calls Tryz.prog 67 #[.slice A l.length c] w (GaveR (fun v w => Rd1 isStr w v l) l.length w) := by
  have HR := Lib.hid h
  obtain ⟨A', c', hv, h1, h2, h3⟩ := h
  obtain ⟨rfl, rfl⟩ : A = A' ∧ c = c' := by simpa using hv
  have H3 := Lib.hid h3
  clear h3 hv
  cases A with
  | none =>
    have hd : l = [] := by
      rcases Nat.eq_zero_or_pos l.length with h | h
      · exact List.eq_nil_of_length_eq_zero h
      · obtain ⟨_, _, hA, _⟩ := H3.out h; cases hA
    subst hd
    have hq := fun wx => Lib.run_eql_slice_nil (P := Tryz.prog) wx 27 9 none 0 c 0 0 Tryz.underlying27
    go_enter Tryz.func67, Tryz.ntmps67
    go_wp2
    go_ret
    exact ⟨none, 0, rfl, Ext.refl _, fun w3 _ => ⟨none, 0, rfl, Nat.le_refl _, by unfold maxLen; omega, fun h => absurd h (Nat.lt_irrefl 0)⟩⟩
  | some p =>
    have hcell : ∀ j u, (l.map Value.string)[j]? = some u → (w.alloc (.cells #[] 9)).cell? (p.add j) = some u := by
      intro j u hj
      have hjl : j < l.length := by
        rcases Nat.lt_or_ge j l.length with h | h
        · exact h
        · simp [List.getElem?_eq_none h] at hj
      obtain ⟨b1, o1, hA, hc⟩ := H3.out (by omega)
      have hp : p = ⟨b1, o1, none⟩ := by simpa using hA
      have hpj : p.add j = ⟨b1, o1 + j, none⟩ := by rw [hp, add_lit0]
      rw [hpj]
      refine Ext.cell (w := w) (ext_alloc _ _) ?_
      obtain ⟨u', hu, hs⟩ := hc j hjl
      rw [hu, show u' = Value.string l[j] from hs]
      rw [List.getElem?_map, List.getElem?_eq_getElem hjl] at hj
      simpa using hj
    have HC := Lib.hid hcell
    have HF := Lib.hid (Row.fresh 9 w 1)
    clear hcell
    have hq := fun wx => Lib.run_eql_slice_nil (P := Tryz.prog) wx 27 9 (some p) l.length c 0 0 Tryz.underlying27
    go_enter Tryz.func67, Tryz.ntmps67
    go_wp2_with (at_builtin; refine ap_many (p := p) (m := l.length) (c := c) (ys := l.map Value.string) rfl (.tmp 5) (.tmp 6) 27 9 16 _ rfl Tryz.underlying27 info9 rfl (by first | rfl | (simp; rfl)) HF.out rfl (by simp) HC.out (one_strs l) (by omega) (by decide) ?_; intro a1 c1 w2 hn; have HN := Lib.hid hn; clear hn)
    go_ret
    have hn := HN.out
    rw [Nat.zero_add, List.nil_append] at hn
    refine ⟨some a1, c1, by simp, hn.bel, fun w3 h3 => Rd1.of_ownS (own_stay hn.own hn.off h3)⟩
end Go.Proofs.YtdenjanihikolaaGreatDoor

namespace Go.Proofs.YtdenjanihikolaaGreatDoor
open Go.RowKit
set_option linter.unusedVariables false
set_option linter.unusedSimpArgs false

set_option maxRecDepth 100000 in
set_option maxHeartbeats 1000000 in
theorem ans35 (a b : ByteArray) (n : Int) (v4 v5 v6 v7 v8 v9 v11 v12 : Value) (ws : List ByteArray) (A10 : Option Addr) (c10 : Nat) (w w1 : World) (bk : Nat) (HW : Hid (Rd1 isStr w (.slice A10 ws.length c10) ws)) (hlw : ws.length ≤ 5) (hgw : ∀ y ∈ ws, y.size ≤ 200) (hx : Ext w w1) (hbk : w.heap.size ≤ bk) (hblk : w1.heap[bk]? = some (.cells #[.slice none 0 0] 193 (0, 0))) (R : List Int) (HR : Hid (R = msgB 82 (b32 10 ++ ws.flatMap txt ++ [0]))) :
    Calls Tryz.prog 60 #[.iface 191 (.pointer (some ⟨bk, 0, none⟩)), .agg #[.int .i64 35, .string a, .string b, .int .u32 n, v4, v5, v6, v7, v8, v9, .slice A10 ws.length c10, v11, v12], .bool true] w1 (Ans 191 266 bk w R) := by
  have n185 := no185 191 (by decide)
  have n189 := no189 191 (by decide)
  have y191 := yes191
  obtain ⟨W2, hW2⟩ : ∃ W2, W2 = w1.alloc (.cells #[.int .i64 35, .string a, .string b, .int .u32 n, v4, v5, v6, v7, v8, v9, .slice A10 ws.length c10, v11, v12] 31) := ⟨_, rfl⟩
  have X1 : Hid (Ext w1 W2) := Lib.hid (by rw [hW2]; exact ext_alloc w1 _)
  have XW : Hid (Ext w W2) := Lib.hid (hx.trans X1.out)
  have HB : Hid (W2.heap[bk]? = some (.cells #[.slice none 0 0] 193 (0, 0))) := Lib.hid ((X1.out.block _ (lt_of_block hblk)).trans hblk)
  have HO : Hid (W2.heap[w1.heap.size]? = some (.cells #[.int .i64 35, .string a, .string b, .int .u32 n, v4, v5, v6, v7, v8, v9, .slice A10 ws.length c10, v11, v12] 31 (0, 0))) := Lib.hid (by rw [hW2]; exact heap_alloc_new _ _)
  have HBK := Lib.hid hbk
  clear hx hbk hblk
  have hz0 := cell_slot HB.out 0 (.slice none 0 0) rfl
  have hy0 := free_slot HB.out 0
  have hb3 := cell_slot HO.out 3 (.int .u32 n) rfl
  have hb10 := cell_slot HO.out 10 (.slice A10 ws.length c10) rfl
  go_enter Tryz.func60, Tryz.ntmps60
  go_wp2_with (first | (go_at_call 54; rw [← hW2]; clear hW2; refine (let54 n _).mono ?_; rintro e w54 ⟨rfl, hw54⟩; rw [hw54]; clear hw54) | (go_at_call 67; refine (cloneS ws A10 c10 _ (HW.out.ext XW.out (fun _ _ h => h)) (by omega)).mono ?_; rintro e w2 ⟨A2, c2, rfl, hx2, hk2⟩; have HX2 := Lib.hid hx2; have HK2 := Lib.hid hk2; clear hx2 hk2; have BB := Lib.hid ((HX2.out.block _ (lt_of_block HB.out)).trans HB.out); clear hz0 hy0; have hz0 := cell_slot BB.out 0 (.slice none 0 0) rfl; have hy0 := free_slot BB.out 0))
  go_ret2
  have EB := ((HX2.out.but (b := bk)).set 0 (.slice A2 ws.length c2))
  have SS := (slot_setCell (j := 0) (u := .slice A2 ws.length c2) BB.out)
  refine ⟨rfl, EB.ext XW.out HBK.out, ?_⟩
  have KK := HK2.out.at_ bk _ (lt_of_block HB.out) (((Ext.refl w2).but (b := bk)).set 0 (.slice A2 ws.length c2))
  exact encAuthSASL _ A2 c2 ws _ (cell_slot SS 0 (.slice A2 ws.length c2) rfl) KK (by omega) (fun y hy => by have := hgw y hy; omega) R HR

set_option maxRecDepth 100000 in
set_option maxHeartbeats 1000000 in
theorem ans52 (a b : ByteArray) (n : Int) (v4 v5 v6 v8 v9 v10 v11 v12 : Value) (ty : List Int) (A7 : Option Addr) (c7 : Nat) (w w1 : World) (bk : Nat) (HT : Hid (RdI .u32 w (.slice A7 ty.length c7) ty)) (hlt : ty.length ≤ 20) (hgt : ∀ y ∈ ty, 0 ≤ y ∧ y < 4294967296) (hx : Ext w w1) (hbk : w.heap.size ≤ bk) (hblk : w1.heap[bk]? = some (.cells #[.slice none 0 0] 227 (0, 0))) (R : List Int) (HR : Hid (R = msgB 116 (b16 ty.length ++ ty.flatMap b32))) :
    Calls Tryz.prog 60 #[.iface 225 (.pointer (some ⟨bk, 0, none⟩)), .agg #[.int .i64 52, .string a, .string b, .int .u32 n, v4, v5, v6, .slice A7 ty.length c7, v8, v9, v10, v11, v12], .bool true] w1 (Ans 225 324 bk w R) := by
  have n185 := no185 225 (by decide)
  have n189 := no189 225 (by decide)
  have n191 := no191 225 (by decide)
  have n194 := no194 225 (by decide)
  have n196 := no196 225 (by decide)
  have n198 := no198 225 (by decide)
  have n200 := no200 225 (by decide)
  have n203 := no203 225 (by decide)
  have n206 := no206 225 (by decide)
  have n208 := no208 225 (by decide)
  have n210 := no210 225 (by decide)
  have n213 := no213 225 (by decide)
  have n217 := no217 225 (by decide)
  have n219 := no219 225 (by decide)
  have n222 := no222 225 (by decide)
  have y225 := yes225
  obtain ⟨W2, hW2⟩ : ∃ W2, W2 = w1.alloc (.cells #[.int .i64 52, .string a, .string b, .int .u32 n, v4, v5, v6, .slice A7 ty.length c7, v8, v9, v10, v11, v12] 31) := ⟨_, rfl⟩
  have X1 : Hid (Ext w1 W2) := Lib.hid (by rw [hW2]; exact ext_alloc w1 _)
  have XW : Hid (Ext w W2) := Lib.hid (hx.trans X1.out)
  have HB : Hid (W2.heap[bk]? = some (.cells #[.slice none 0 0] 227 (0, 0))) := Lib.hid ((X1.out.block _ (lt_of_block hblk)).trans hblk)
  have HO : Hid (W2.heap[w1.heap.size]? = some (.cells #[.int .i64 52, .string a, .string b, .int .u32 n, v4, v5, v6, .slice A7 ty.length c7, v8, v9, v10, v11, v12] 31 (0, 0))) := Lib.hid (by rw [hW2]; exact heap_alloc_new _ _)
  have HBK := Lib.hid hbk
  clear hx hbk hblk
  have hz0 := cell_slot HB.out 0 (.slice none 0 0) rfl
  have hy0 := free_slot HB.out 0
  have hb3 := cell_slot HO.out 3 (.int .u32 n) rfl
  have hb7 := cell_slot HO.out 7 (.slice A7 ty.length c7) rfl
  go_enter Tryz.func60, Tryz.ntmps60
  go_wp2_with (first | (go_at_call 54; rw [← hW2]; clear hW2; refine (let54 n _).mono ?_; rintro e w54 ⟨rfl, hw54⟩; rw [hw54]; clear hw54) | (go_at_call 59; refine (cloneI ty A7 c7 _ (HT.out.ext XW.out) (by omega)).mono ?_; rintro e w2 ⟨A2, c2, rfl, hx2, hk2⟩; have HX2 := Lib.hid hx2; have HK2 := Lib.hid hk2; clear hx2 hk2; have BB := Lib.hid ((HX2.out.block _ (lt_of_block HB.out)).trans HB.out); clear hz0 hy0; have hz0 := cell_slot BB.out 0 (.slice none 0 0) rfl; have hy0 := free_slot BB.out 0))
  go_ret2
  have EB := ((HX2.out.but (b := bk)).set 0 (.slice A2 ty.length c2))
  have SS := (slot_setCell (j := 0) (u := .slice A2 ty.length c2) BB.out)
  refine ⟨rfl, EB.ext XW.out HBK.out, ?_⟩
  have KK := HK2.out.at_ bk _ (lt_of_block HB.out) (((Ext.refl w2).but (b := bk)).set 0 (.slice A2 ty.length c2))
  exact encParameterDescription _ A2 c2 ty _ (cell_slot SS 0 (.slice A2 ty.length c2) rfl) KK (by omega) hgt R HR

set_option maxRecDepth 100000 in
set_option maxHeartbeats 1000000 in
theorem ans49 (a b : ByteArray) (n : Int) (v4 v5 v6 v7 v9 v10 v11 v12 : Value) (x1 : Bool) (x2 : List Int) (A8 : Option Addr) (c8 : Nat) (w w1 : World) (bk : Nat) (HV : Hid (RdM 2 isVal w (.slice A8 1 c8) [(x1, x2)])) (hgx : x2.length ≤ 200) (hx : Ext w w1) (hbk : w.heap.size ≤ bk) (hblk : w1.heap[bk]? = some (.cells #[.slice none 0 0] 221 (0, 0))) (R : List Int) (HR : Hid (R = msgB 86 (optB (optV (x1, x2))))) :
    Calls Tryz.prog 60 #[.iface 219 (.pointer (some ⟨bk, 0, none⟩)), .agg #[.int .i64 49, .string a, .string b, .int .u32 n, v4, v5, v6, v7, .slice A8 1 c8, v9, v10, v11, v12], .bool true] w1 (Ans 219 318 bk w R) := by
  obtain ⟨b1, o1, f, rfl, hcell, hv⟩ := HV.out.at_ (k := 0) (by simp)
  have hf0 : f 0 = .bool x1 := hv.1
  obtain ⟨Ax, cx, hf1, hrd⟩ : ∃ A c, f 1 = .slice A x2.length c ∧ RdB w (.slice A x2.length c) x2 := hv.2
  have hg0 := hcell 0 (by omega)
  have hg1 := hcell 1 (by omega)
  rw [hf0] at hg0
  rw [hf1] at hg1
  simp only [Nat.zero_mul, Nat.add_zero] at hg0 hg1
  have HD := Lib.hid hrd
  have HG0 := Lib.hid hg0
  have HG1 := Lib.hid hg1
  clear hrd hf0 hf1 hcell hv hg0 hg1
  have n185 := no185 219 (by decide)
  have n189 := no189 219 (by decide)
  have n191 := no191 219 (by decide)
  have n194 := no194 219 (by decide)
  have n196 := no196 219 (by decide)
  have n198 := no198 219 (by decide)
  have n200 := no200 219 (by decide)
  have n203 := no203 219 (by decide)
  have n206 := no206 219 (by decide)
  have n208 := no208 219 (by decide)
  have n210 := no210 219 (by decide)
  have n213 := no213 219 (by decide)
  have n217 := no217 219 (by decide)
  have y219 := yes219
  obtain ⟨W2, hW2⟩ : ∃ W2, W2 = w1.alloc (.cells #[.int .i64 49, .string a, .string b, .int .u32 n, v4, v5, v6, v7, .slice (some ⟨b1, o1, none⟩) 1 c8, v9, v10, v11, v12] 31) := ⟨_, rfl⟩
  have X1 : Hid (Ext w1 W2) := Lib.hid (by rw [hW2]; exact ext_alloc w1 _)
  have XW : Hid (Ext w W2) := Lib.hid (hx.trans X1.out)
  have HB : Hid (W2.heap[bk]? = some (.cells #[.slice none 0 0] 221 (0, 0))) := Lib.hid ((X1.out.block _ (lt_of_block hblk)).trans hblk)
  have HO : Hid (W2.heap[w1.heap.size]? = some (.cells #[.int .i64 49, .string a, .string b, .int .u32 n, v4, v5, v6, v7, .slice (some ⟨b1, o1, none⟩) 1 c8, v9, v10, v11, v12] 31 (0, 0))) := Lib.hid (by rw [hW2]; exact heap_alloc_new _ _)
  have HBK := Lib.hid hbk
  clear hx hbk hblk
  have hz0 := cell_slot HB.out 0 (.slice none 0 0) rfl
  have hy0 := free_slot HB.out 0
  have hb3 := cell_slot HO.out 3 (.int .u32 n) rfl
  have hb8 := cell_slot HO.out 8 (.slice (some ⟨b1, o1, none⟩) 1 c8) rfl
  have hd0 := XW.out.cell HG0.out
  have hd1 := XW.out.cell HG1.out
  go_enter Tryz.func60, Tryz.ntmps60
  go_wp2_with (first | (go_at_call 54; rw [← hW2]; clear hW2; refine (let54 n _).mono ?_; rintro e w54 ⟨rfl, hw54⟩; rw [hw54]; clear hw54) | (go_at_call 66; refine (oneK (x1, x2) Ax cx _ (HD.out.ext XW.out) (by simp only []; omega)).mono ?_; rintro e w2 ⟨A2, n2, c2, rfl, hx2, hk2⟩; have HX2 := Lib.hid hx2; have HK2 := Lib.hid hk2; clear hx2 hk2; have BB := Lib.hid ((HX2.out.block _ (lt_of_block HB.out)).trans HB.out); clear hz0 hy0; have hz0 := cell_slot BB.out 0 (.slice none 0 0) rfl; have hy0 := free_slot BB.out 0))
  go_ret2
  have EB := ((HX2.out.but (b := bk)).set 0 (.slice A2 n2 c2))
  have SS := (slot_setCell (j := 0) (u := .slice A2 n2 c2) BB.out)
  refine ⟨rfl, EB.ext XW.out HBK.out, ?_⟩
  have KK := HK2.out.at_ bk _ (lt_of_block HB.out) (((Ext.refl w2).but (b := bk)).set 0 (.slice A2 n2 c2))
  cases x1
  · obtain ⟨a9, c9, hu, hr9⟩ := KK
    rw [hu] at SS hr9 ⊢
    exact encFuncRes _ a9 c9 x2 _ (cell_slot SS 0 _ rfl) hr9 (by omega) R HR
  · have hu : Value.slice A2 n2 c2 = .slice none 0 0 := KK
    rw [hu] at SS ⊢
    exact encFuncResNil _ _ (cell_slot SS 0 _ rfl) R HR

end Go.Proofs.YtdenjanihikolaaGreatDoor

namespace Go.Proofs.YtdenjanihikolaaGreatDoor
open Go.RowKit Og
set_option linter.unusedVariables false
set_option linter.unusedSimpArgs false

def slA : Value → Option Addr
  | .slice a _ _ => a
  | _ => none
def slC : Value → Nat
  | .slice _ _ c => c
  | _ => 0
def agAt (i : Nat) : Value → Value
  | .agg cs => cs.getD i undef
  | v => v
/-- a slice that stays readable -/
def PR (R : Value → World → Prop) (n : Nat) (W1 : World) (u : Value) (x : World) : Prop :=
  u = .slice (slA u) n (slC u) ∧ ∀ w3 : World, (∀ k, W1.heap.size ≤ k → k < x.heap.size → w3.heap[k]? = x.heap[k]?) → R (.slice (slA u) n (slC u)) w3
theorem PR.ext {R : Value → World → Prop} {n : Nat} {W1 x y : World} {u : Value} (h : PR R n W1 u x) (hx : Ext x y) : PR R n W1 u y :=
  ⟨h.1, fun w3 h3 => h.2 w3 fun k h1 h2 => (h3 k h1 (Nat.lt_of_lt_of_le h2 hx.size)).trans (hx.block k h2)⟩
theorem PR.of {R : Value → World → Prop} {n : Nat} {W1 x y : World} {A : Option Addr} {c : Nat} (h : Keeps x y (R (.slice A n c))) (hx : Ext W1 x) : PR R n W1 (.slice A n c) y :=
  ⟨rfl, fun w3 h3 => h w3 fun k h1 h2 => h3 k (Nat.le_trans hx.size h1) h2⟩
theorem PR.at_ {R : Value → World → Prop} {n : Nat} {W1 x : World} {u : Value} (h : PR R n W1 u x) (b : Nat) (w3 : World) (hb : b < W1.heap.size) (hx : ExtBut b x w3) : R (.slice (slA u) n (slC u)) w3 :=
  h.2 w3 fun k h1 h2 => hx.block k h2 (by omega)
def spR (R : Value → World → Prop) (n : Nat) (W1 : World) : Sp Ext := ⟨PR R n W1, fun _ _ _ h k => PR.ext k h⟩
end Go.Proofs.YtdenjanihikolaaGreatDoor

