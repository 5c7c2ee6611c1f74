/- RowDescription's Decode on a strict prefix of a body. -/
import Derived.BigQuiet
import Derived.Test.YtdenjanihikolaaGreatDoorPEri
import Derived.Test.YtdenjanihikolaaGreatDoorPDcp
import Derived.Test.YtdenjanihikolaaGreatDoorPOgt
namespace Go.Proofs.YtdenjanihikolaaGreatDoor
set_option linter.unusedVariables false
set_option linter.unusedSimpArgs false
open Go.RowKit Og
set_option linter.unusedVariables false
set_option linter.unusedSimpArgs false
theorem own_take {w : World} {B e size n k c : Nat} {A : Option Addr} {xs : List Value} (h : w.ownsRow B e size (.slice A n c) n xs) (hk : k ≤ n) : w.ownsRow B e size (.slice A k c) k (xs.take (k * size)) := by
  obtain ⟨h1, h2⟩ := h
  have hm := Nat.mul_le_mul_right size hk
  refine ⟨by rw [List.length_take, h1]; exact Nat.min_eq_left hm, ?_⟩
  rcases h2 with ⟨hv, hn⟩ | ⟨g, cap, cur, hv, h3, h4, h5, h6, h7, h8⟩
  · left
    obtain ⟨rfl, _, rfl⟩ : A = none ∧ n = 0 ∧ c = 0 := by simpa using hv
    obtain rfl : k = 0 := by omega
    exact ⟨rfl, rfl⟩
  · right
    obtain ⟨rfl, rfl⟩ : A = some ⟨g, 0, none⟩ ∧ c = cap := by simpa using hv
    exact ⟨g, c, cur, rfl, h3, h4, by omega, h6, h7, by rw [← h8, List.take_take, Nat.min_eq_left hm]⟩
theorem own_le {w : World} {B e size n c : Nat} {A : Option Addr} {xs : List Value} (h : w.ownsRow B e size (.slice A n c) n xs) : n ≤ c := by
  rcases h.2 with ⟨hv, h0⟩ | ⟨g, cap, cur, hv, _, _, h5, _⟩
  · omega
  · obtain ⟨_, rfl⟩ : A = some ⟨g, 0, none⟩ ∧ c = cap := by simpa using hv
    exact h5
theorem own_src {w : World} {B e size n c : Nat} {A : Option Addr} {xs : List Value} (h : w.ownsRow B e size (.slice A n c) n xs) (hn : 0 < n) : ∃ p off, A = some ⟨p, off, none⟩ ∧ ∀ j u, xs[j]? = some u → w.cell? ⟨p, off + j, none⟩ = some u := by
  rcases h.2 with ⟨hv, h0⟩ | ⟨g, cap, cur, hv, _⟩
  · omega
  · have hA := (Value.slice.inj hv).1
    refine ⟨g, 0, hA, fun j u hj => ?_⟩
    have h10 := h.cells (g := g) (by rw [hA]; rfl) j u hj
    rwa [add_lit0] at h10
theorem Row.take {e size : Nat} {K : Nat → Prop} {w0 w : World} {A : Option Addr} {n k c : Nat} {xs : List Value} (h : Row e size K w0 w (.slice A n c) n xs) (hk : k ≤ n) : Row e size K w0 w (.slice A k c) k (xs.take (k * size)) :=
  ⟨own_take h.own hk, fun g hg => h.off g (by cases A <;> exact hg), h.kept, h.lt, h.os, h.tape, h.output⟩
/-- A row of one struct, in a block of its own. -/
theorem Row.one {W w : World} {g e : Nat} {cs : Array Value} {size : Nat} (hx : Ext W w) (hg : W.heap.size ≤ g) (hb : w.heap[g]? = some (.cells cs e (0, 0))) (hs : cs.size = size) (hs0 : 0 < size) : Row e size (Lt W.heap.size) W w (.slice (some ⟨g, 0, none⟩) 1 1) 1 cs.toList := by
  refine ⟨⟨by simp [hs], .inr ⟨g, 1, cs, rfl, Nat.zero_le _, hb, Nat.le_refl _, by unfold maxLen; omega, by rw [hs, Nat.one_mul], by rw [Nat.one_mul, ← hs, List.take_of_length_le (by simp)]⟩⟩, ?_, fun k hk => hx.block k hk, fun k hk => Nat.lt_of_lt_of_le hk hx.size, hx.os, hx.tape, hx.output⟩
  intro g' hg' hk
  have : g = g' := by simpa [Value.ownBlock] using hg'
  subst this
  exact absurd hk (Nat.not_lt.2 hg)
/-- append of structs that are read. -/
theorem ap_rows {ops : Array Oper} {rest : List Oper} {o : Oper} {a : Act} {Q : Exit → Act → World → Prop} {w : World} (hgd : o.guard = none) (s x : Operand) (t e size bytes : Nat) (z : Value)
    (ho : o.op = .call { callee := .builtin .append, args := #[s, x], argTypes := #[t, t] })
    (ht : Tryz.prog.underlying t = some (.slice e)) (hi : (Tryz.prog.info? e).map (fun i => (i.zero, i.size, i.bytes)) = some (some z, size, bytes)) (hzs : z.cells.size = size) (hsz : 0 < size)
    {K : Nat → Prop} {w0 : World} {v : Value} {n m c : Nat} {A : Option Addr} {xs ys : List Value} (hs : a.eval s = v) (hb : Row e size K w0 w v n xs) (hx : a.eval x = .slice A m c) (hmc : m ≤ c) (hl : ys.length = m * size) (hcell : 0 < m → ∃ p off, A = some ⟨p, off, none⟩ ∧ ∀ j u, ys[j]? = some u → w.cell? ⟨p, off + j, none⟩ = some u) (h1 : ∀ u ∈ ys, u.oneCell' = true) (hn : n + m < 1000000000000) (hby : bytes ≤ 100)
    (h : ∀ A' c' w', Row e size K w0 w' (.slice A' (n + m) c') (n + m) (xs ++ ys) → wpList Tryz.prog ops Q rest (a.put o.dst (.slice A' (n + m) c')) w') : wpList Tryz.prog ops Q (o :: rest) a w := by
  obtain ⟨i0, hi, hz0, hz1, hz2⟩ := info_parts hi
  refine wpList_plain hgd fun C hC => ?_
  by_cases hm : 0 < m
  · obtain ⟨p, off, rfl, hcell2⟩ := hcell hm
    have hbb : (n + m) * bytes ≤ 140737488355328 := Nat.le_trans (Nat.mul_le_mul (show n + m ≤ 1000000000000 by omega) hby) (by omega)
    obtain ⟨v', w', hr, h2, h3, h4, h5⟩ := run_append_own_at (P := Tryz.prog) w 0 t o.type e i0 z size bytes ht hi hz0 hz1 hz2 hzs hsz v n xs hb.own ⟨p, off, none⟩ m c ys hl (fun j u hj => by rw [add_lit0]; exact hcell2 j u hj) h1 (by unfold maxLen; omega) hbb (Nat.zero_le _)
    obtain ⟨A', c', rfl⟩ := own_slice h2
    unfold Oper.wp execOp
    simp only [ho, resolve, invoke, builtin, Sem.run_bind, Sem.run_pure, Result.andThen_ok, List.map_toArray, List.map_cons, List.map_nil, hs, hx, hr]
    refine hC _ _ (h A' c' w' (hb.step h3 h2 fun g hg => ?_))
    rcases h5 with h5 | h5
    · exact .inl (h5 ▸ hg)
    · exact .inr (by rw [h5] at hg; cases hg; exact Nat.le_refl _)
  · obtain rfl : m = 0 := by omega
    have hy : ys = [] := List.eq_nil_of_length_eq_zero (by rw [hl, Nat.zero_mul])
    subst hy
    obtain ⟨Av, cv, rfl⟩ := own_slice hb.own
    have hnc : n ≤ cv := by
      rcases hb.own.2 with ⟨hv, h0⟩ | ⟨g, cap, cur, hv, _, _, h5, _⟩
      · omega
      · obtain ⟨_, rfl⟩ : Av = some ⟨g, 0, none⟩ ∧ cv = cap := by simpa using hv
        exact h5
    have hr : (Builtin.append_ #[t, t] o.type #[.slice Av n cv, .slice A 0 c]).run Tryz.prog w = .ok (.slice Av n cv) w := by
      cases Av <;> cases A <;> simp [Builtin.append_, run_underlying ht, sizeOf, typeInfo, hi, Builtin.lenOf, Builtin.firstCells, loadCells, loadCellsFrom, hnc, storeCells]
    unfold Oper.wp execOp
    simp only [ho, resolve, invoke, builtin, Sem.run_bind, Sem.run_pure, Result.andThen_ok, List.map_toArray, List.map_cons, List.map_nil, hs, hx, hr]
    exact hC _ _ (h Av cv w (by rw [Nat.add_zero, List.append_nil]; exact hb))
/-- the cells of pairs -/
def prV (p : Pr) : List Value := [.string p.1, .string p.2]
theorem flat2_len : ∀ l : List Pr, (l.flatMap prV).length = l.length * 2
  | [] => rfl
  | p :: r => by rw [List.flatMap_cons, List.length_append, flat2_len r, List.length_cons]; simp [prV]; omega
theorem flat2_take : ∀ (l : List Pr) (k : Nat), (l.flatMap prV).take (k * 2) = (l.take k).flatMap prV
  | [], k => by simp
  | p :: r, 0 => by simp
  | p :: r, k + 1 => by
    rw [List.flatMap_cons, List.take_succ_cons, List.flatMap_cons, ← flat2_take r k, show (k + 1) * 2 = (prV p).length + k * 2 by simp [prV]; omega, List.take_length_add_append]
theorem flat2_drop : ∀ (l : List Pr) (k : Nat), (l.flatMap prV).drop (k * 2) = (l.drop k).flatMap prV
  | [], k => by simp
  | p :: r, 0 => by simp
  | p :: r, k + 1 => by
    rw [List.flatMap_cons, List.drop_succ_cons, ← flat2_drop r k, show (k + 1) * 2 = (prV p).length + k * 2 by simp [prV]; omega, List.drop_length_add_append]
theorem flat2_at : ∀ (l : List Pr) (s : Nat) (h : s < l.length), (l.flatMap prV)[s * 2]? = some (.string l[s].1) ∧ (l.flatMap prV)[s * 2 + 1]? = some (.string l[s].2)
  | p :: r, 0, _ => ⟨rfl, rfl⟩
  | p :: r, s + 1, h => by
    have h1 := flat2_at r s (by simpa using h)
    have e : (p :: r).flatMap prV = .string p.1 :: .string p.2 :: r.flatMap prV := rfl
    rw [e, show (s + 1) * 2 = s * 2 + 1 + 1 by omega]
    simpa using h1
theorem take_succ2 {α : Type} (l : List α) (k : Nat) (h : k < l.length) : l.take (k + 1) = l.take k ++ [l[k]] := List.take_succ_eq_append_getElem h
theorem flat2_one (l : List Pr) : ∀ u ∈ l.flatMap prV, u.oneCell' = true := by
  intro u hu
  obtain ⟨p, _, hp⟩ := List.mem_flatMap.1 hu
  simp [prV] at hp
  rcases hp with rfl | rfl <;> rfl
theorem rws_flat (w : World) (l : List Pr) : Rws 2 (isPr w) l (l.flatMap prV) := by
  refine ⟨flat2_len l, fun j hj => ?_⟩
  obtain ⟨h0, h1⟩ := flat2_at l j hj
  refine ⟨fun k => if k = 0 then .string l[j].1 else .string l[j].2, fun k hk => ?_, ⟨rfl, rfl⟩⟩
  rcases k with _ | _ | k
  · exact h0
  · exact h1
  · omega
set_option maxRecDepth 100000 in
theorem sl34_from (A : Option Addr) (N c p : Nat) (hp : p ≤ N) (hN : N ≤ c) : ∃ A' c', (∀ (i : Int) (w : World), i = (p : Int) → (Instr.slice 34 (.slice A N c) (some (.int .i64 i)) none none).run Tryz.prog w = .ok (.slice A' (N - p) c') w) ∧ N - p ≤ c' ∧ (0 < N - p → A' = A.map (·.add (p * 2))) := by
  refine ⟨if c = p then A else A.map (·.add (p * 2)), c - p, fun i w hi => ?_, by omega, fun h => if_neg (by omega)⟩
  subst hi
  rw [run_slice_l (P := Tryz.prog) w 34 A N c Tryz.underlying34 .i64 p (by omega) (by omega)]
  have hs : (sizeOf (Tryz.prog.elem 34)).run Tryz.prog w = .ok 2 w := by
    obtain ⟨i0, hi, hz0, hz1, hz2⟩ := info_parts info48
    simp [sizeOf, typeInfo, show Tryz.prog.elem 34 = 48 from by kernel_rfl, hi, hz1]
  rw [hs]
  simp [Result.andThen, sliced]
theorem cons_one (x1 x2 : ByteArray) (l : List Pr) : ∀ u ∈ [Value.string x1, Value.string x2] ++ l.flatMap prV, u.oneCell' = true := by
  intro u hu
  rcases List.mem_append.1 hu with h | h
  · simp at h
    rcases h with rfl | rfl <;> rfl
  · exact flat2_one _ u h
theorem rows_src {w : World} {B k c t : Nat} {A A7 : Option Addr} {out : List Pr} (h7 : 0 < k - t → A7 = A.map (·.add (t * 2))) (h : w.ownsRow B 48 2 (.slice A k c) k (out.flatMap prV)) : 0 < k - t → ∃ p off, A7 = some ⟨p, off, none⟩ ∧ ∀ j u, ((out.drop t).flatMap prV)[j]? = some u → w.cell? ⟨p, off + j, none⟩ = some u := by
  intro h0
  obtain ⟨p, off, hA, hc⟩ := own_src h (by omega)
  have h9 := h7 h0
  rw [hA] at h9
  refine ⟨p, off + t * 2, by rw [h9]; simp [add_lit0], fun j u hj => ?_⟩
  rw [← flat2_drop, List.getElem?_drop] at hj
  rw [Nat.add_assoc]
  exact hc _ _ hj
/-- What Sorted hands back. -/
def GaveS (qs : List Pr) (w : World) : Ending → World → Prop := fun e w' => ∃ (out : List Pr) (A : Option Addr) (c : Nat), e = .returned (.slice A out.length c) ∧ Ext w w' ∧ RdM 2 isPr w' (.slice A out.length c) out ∧ out.Perm qs ∧ out.Pairwise leP
theorem ltP_iff (p q : Pr) : Op.bytesLess p.1.toList q.1.toList = decide (ltP p q) := by
  rw [bytesLess_eq, ByteArray.toList_eq, ByteArray.toList_eq]
  rfl
theorem gtP_iff (p q : Pr) : (!Op.bytesLess p.1.toList q.1.toList && !p.1.toList == q.1.toList) = decide (ltP q p) := by
  rw [ltP_iff p q, Bool.eq_iff_iff]
  simp only [Bool.and_eq_true, Bool.not_eq_true', decide_eq_false_iff_not, beq_eq_false_iff_ne, ne_eq, decide_eq_true_eq]
  constructor
  · rintro ⟨h1, h2⟩
    have h3 : kb q.1 ≤ kb p.1 := h1
    rcases List.le_iff_lt_or_eq.1 h3 with h4 | h4
    · exact h4
    · exact absurd (by rw [ByteArray.toList_eq, ByteArray.toList_eq]; exact h4.symm) h2
  · intro h
    refine ⟨ltP_asymm h, fun e => ?_⟩
    rw [ByteArray.toList_eq, ByteArray.toList_eq] at e
    have h5 : kb q.1 < kb p.1 := h
    rw [show kb p.1 = kb q.1 from e] at h5
    exact List.lt_irrefl _ h5
def slB1 : Value → Nat
  | .slice (some a) _ _ => a.block
  | _ => 0
/-- a struct in a block of its own -/
def spBox (W : World) (cs : Array Value) (e : Nat) : Sp Ext := ⟨fun v x => v = .slice (some ⟨slB1 v, 0, none⟩) 1 1 ∧ W.heap.size ≤ slB1 v ∧ x.heap[slB1 v]? = some (.cells cs e (0, 0)), fun _ _ _ h k => ⟨k.1, k.2.1, (h.block _ (lt_of_block k.2.2)).trans k.2.2⟩⟩
/-- append to a struct that fills its block: a new row, nothing old turns. -/
theorem ap_full {ops : Array Oper} {rest : List Oper} {o : Oper} {a : Act} {Q : Exit → Act → World → Prop} {W w : World} (hgd : o.guard = none) (s x : Operand) (t e size bytes : Nat) (z : Value)
    (ho : o.op = .call { callee := .builtin .append, args := #[s, x], argTypes := #[t, t] })
    (ht : Tryz.prog.underlying t = some (.slice e)) (hi : (Tryz.prog.info? e).map (fun i => (i.zero, i.size, i.bytes)) = some (some z, size, bytes)) (hzs : z.cells.size = size) (hsz : 0 < size)
    {g m c : Nat} {A : Option Addr} {cs : Array Value} {ys : List Value} (hs : a.eval s = .slice (some ⟨g, 0, none⟩) 1 1) (hX : Ext W w) (hg : W.heap.size ≤ g) (hb : w.heap[g]? = some (.cells cs e (0, 0))) (hcs : cs.size = size) (hx : a.eval x = .slice A m c) (hmc : m ≤ c) (hl : ys.length = m * size) (hcell : 0 < m → ∃ p off, A = some ⟨p, off, none⟩ ∧ ∀ j u, ys[j]? = some u → w.cell? ⟨p, off + j, none⟩ = some u) (h1 : ∀ u ∈ ys, u.oneCell' = true) (hn : m < 1000000000) (hby : bytes ≤ 100)
    (h : ∀ A' c' w', Ext w w' → Row e size (Lt W.heap.size) W w' (.slice A' (1 + m) c') (1 + m) (cs.toList ++ ys) → wpList Tryz.prog ops Q rest (a.put o.dst (.slice A' (1 + m) c')) w') : wpList Tryz.prog ops Q (o :: rest) a w := by
  have hR := Row.one (size := size) hX hg hb hcs hsz
  by_cases hm : 0 < m
  · obtain ⟨i0, hi, hz0, hz1, hz2⟩ := info_parts hi
    refine wpList_plain hgd fun C hC => ?_
    obtain ⟨p, off, rfl, hcell2⟩ := hcell hm
    have hbb : (1 + m) * bytes ≤ 140737488355328 := Nat.le_trans (Nat.mul_le_mul (show 1 + m ≤ 1000000000000 by omega) hby) (by omega)
    have hnews : ∀ j u, ys[j]? = some u → w.cell? ((⟨p, off, none⟩ : Addr).add j) = some u := fun j u hj => by rw [add_lit0]; exact hcell2 j u hj
    obtain ⟨v', w', hr, h2, h3, h4, h5⟩ := run_append_own_at (P := Tryz.prog) w 0 t o.type e i0 z size bytes ht hi hz0 hz1 hz2 hzs hsz _ 1 cs.toList hR.own ⟨p, off, none⟩ m c ys hl hnews h1 (by unfold maxLen; omega) hbb (Nat.zero_le _)
    have hr2 := run_append_grow (P := Tryz.prog) w t o.type e i0 z ht hi hz0 ⟨g, 0, none⟩ 1 1 cs.toList (by rw [hz1]; exact hR.own.1) (hR.own.cells (g := g) rfl) ⟨p, off, none⟩ m c ys (by rw [hz1]; exact hl) hnews (by omega) (by omega) (by rw [hz2]; exact growslice_fits (by omega) hbb)
    have hw : Ext w w' := by
      have h9 := hr.symm.trans hr2
      obtain ⟨_, rfl⟩ := Result.ok.inj h9
      exact (Ext.refl w).drew.alloc _
    obtain ⟨A', c', rfl⟩ := own_slice h2
    unfold Oper.wp execOp
    simp only [ho, resolve, invoke, builtin, Sem.run_bind, Sem.run_pure, Result.andThen_ok, List.map_toArray, List.map_cons, List.map_nil, hs, hx, hr]
    refine hC _ _ (h A' c' w' hw (hR.step h3 h2 fun g hg => ?_))
    rcases h5 with h5 | h5
    · exact .inl (h5 ▸ hg)
    · exact .inr (by rw [h5] at hg; cases hg; exact Nat.le_refl _)
  · obtain rfl : m = 0 := by omega
    have hy : ys = [] := List.eq_nil_of_length_eq_zero (by rw [hl, Nat.zero_mul])
    subst hy
    obtain ⟨i0, hi, hz0, hz1, hz2⟩ := info_parts hi
    refine wpList_plain hgd fun C hC => ?_
    have hr : (Builtin.append_ #[t, t] o.type #[.slice (some ⟨g, 0, none⟩) 1 1, .slice A 0 c]).run Tryz.prog w = .ok (.slice (some ⟨g, 0, none⟩) 1 1) w := by
      cases A <;> simp [Builtin.append_, run_underlying ht, sizeOf, typeInfo, hi, Builtin.lenOf, Builtin.firstCells, loadCells, loadCellsFrom, storeCells]
    unfold Oper.wp execOp
    simp only [ho, resolve, invoke, builtin, Sem.run_bind, Sem.run_pure, Result.andThen_ok, List.map_toArray, List.map_cons, List.map_nil, hs, hx, hr]
    exact hC _ _ (h _ 1 w (Ext.refl w) (by rw [Nat.add_zero, List.append_nil]; exact hR))
/-- a row made since W -/
def spTl (W : World) (n : Nat) (ys : List Value) : Sp Ext := ⟨fun v x => v = .slice (slA v) n (slC v) ∧ Row 48 2 (Lt W.heap.size) W x (.slice (slA v) n (slC v)) n ys, fun _ _ _ h k => ⟨k.1, k.2.ext h⟩⟩
set_option maxRecDepth 100000 in
set_option maxHeartbeats 4000000 in
theorem sorted44 (qs : List Pr) (A : Option Addr) (c : Nat) (w : World) (hr : RdM 2 isPr w (.slice A qs.length c) qs) (hl : qs.length ≤ 1000) : Calls Tryz.prog 44 #[.slice A qs.length c] w (GaveS qs w) := by
  have HP := Lib.hid hr
  clear hr
  go_enter Tryz.func44, Tryz.ntmps44
  go_wp2
  go_loopw [3, 9] (fun v i wr => ∃ (k : Nat) (out : List Pr), k ≤ qs.length ∧ i = .int .i64 k ∧ Hid (out.length = k) ∧ Hid (Row 48 2 (Lt w.heap.size) w wr v k (out.flatMap prV)) ∧ Hid (out.Perm (qs.take k) ∧ out.Pairwise leP)) (fun _ i _ => qs.length - (intOf i).toNat)
  case atStart => exact ⟨0, [], Nat.zero_le _, rfl, Lib.hid rfl, Lib.hid ⟨World.ownsRow_nil _ _ _ _, fun g hg => by simp [Value.ownBlock] at hg, fun _ _ => rfl, fun k hk => hk, rfl, rfl, rfl⟩, Lib.hid ⟨by simp, List.Pairwise.nil⟩⟩
  case round =>
    obtain ⟨k, out, hk1, rfl, HL, HB, HO⟩ := hrel
    obtain ⟨wo, hwo⟩ : ∃ x, x = wr := ⟨_, rfl⟩
    subst hwo
    obtain ⟨Av, cv, hv⟩ := own_slice HB.out.own
    subst hv
    by_cases hlt : k < qs.length
    · obtain ⟨b1, o1, f, rfl, hcell, hv⟩ := HP.out.at_ hlt
      have HTT := Lib.hid (take_succ2 qs k hlt)
      obtain ⟨⟨x1, x2⟩, hx⟩ : ∃ x, x = qs[k] := ⟨_, rfl⟩
      rw [← hx] at hv HTT
      have hf0 : f 0 = .string x1 := hv.1
      have hf1 : f 1 = .string x2 := hv.2
      have hd0 := HB.out.bel.cell (hcell 0 (by omega))
      rw [hf0, Nat.add_zero] at hd0
      have hd1 := HB.out.bel.cell (hcell 1 (by omega))
      rw [hf1] at hd1
      clear hx hcell hf0 hf1 hv
      go_wp2
      go_loopw [6] (fun i wi => ∃ t : Nat, t ≤ k ∧ i = .int .i64 t ∧ Hid (Ext (wo.alloc (.cells #[.string x1, .string x2] 48)) wi) ∧ Hid (∀ j (h : j < out.length), t ≤ j → ltP (x1, x2) out[j])) (fun i _ => (intOf i).toNat)
      case atStart => exact ⟨k, Nat.le_refl _, rfl, Lib.hid (Ext.refl _), Lib.hid (fun j h hj => absurd hj (by have := HL.out; omega))⟩
      case round =>
        obtain ⟨t, ht, rfl, HI, HG⟩ := hrel
        have hc0 := box_at HI.out 0 (.string x1) rfl
        have hc1 := box_at HI.out 1 (.string x2) rfl
        have HBI := Lib.hid ((HB.out.ext (ext_alloc wo _)).ext HI.out)
        by_cases htz : t = 0
        · subst htz
          have hdec : decide ((0 : Int) < ((0 : Nat) : Int)) = false := rfl
          go_wp2
          go_quiet (skip)
          go_wp2
          obtain ⟨A7, c7, hsl⟩ := sl34_from Av k cv 0 (by omega) (own_le HB.out.own)
          have HSL := Lib.hid hsl
          have hslf := hsl.1
          clear hsl
          have HL0 := HL
          have hkcv := own_le HB.out.own
          obtain ⟨w8, hw8⟩ : ∃ x, x = wr.drewN nq := ⟨_, rfl⟩
          rw [← hw8]
          have HB8 : Hid (Row 48 2 (Lt w.heap.size) w w8 (.slice Av k cv) k (out.flatMap prV)) := Lib.hid (by rw [hw8]; exact HBI.out.ext ((Ext.refl wr).drewN nq))
          have HC0 : Hid (w8.cell? ⟨wo.heap.size, 0, none⟩ = some (.string x1)) := Lib.hid (by rw [hw8]; exact ((Ext.refl wr).drewN nq).cell hc0)
          have HC1 : Hid (w8.cell? ⟨wo.heap.size, 1, none⟩ = some (.string x2)) := Lib.hid (by rw [hw8]; exact ((Ext.refl wr).drewN nq).cell hc1)
          clear hw8 hc0 hc1
          refine wp_region_cutT (J := fun x => Ext w8 x) (R := Ext) 9 [Sp.eq _ (.slice Av k cv), Sp.eq _ (.int .i64 0), Sp.eq _ (.slice Av 0 cv), Sp.eq _ (.agg #[.string x1, .string x2]), spBox w8 #[.string x1, .string x2] 48, Sp.eq _ (.slice Av k cv), Sp.eq _ (.int .i64 0), Sp.eq _ (.slice A7 (k - 0) c7), spTl w8 (1 + (k - 0)) ([Value.string x1, Value.string x2] ++ (out.drop 0).flatMap prV)] (by kernel_rfl) (by kernel_rfl) ?_ ?_ ?_
          · exact (Ext.refl w8).drew
          · refine ⟨?_, ?_, ?_, ?_, ?_, ?_, ?_, ?_, ?_, trivial⟩
            · intro vs w1 hJ hp
              have HJ := Lib.hid hJ
              clear hp hJ
              simp only [List.take_succ_cons, List.take_zero, putAll, Nat.reduceAdd]
              go_wp2
              exact ⟨rfl, HJ.out, Ext.refl _, rfl⟩
            · intro vs w1 hJ hp
              have HJ := Lib.hid hJ
              clear hp hJ
              simp only [List.take_succ_cons, List.take_zero, putAll, Nat.reduceAdd]
              go_wp2
              exact ⟨rfl, HJ.out, Ext.refl _, rfl⟩
            · intro vs w1 hJ hp
              have q0 : vs 0 = .slice Av k cv := hp 0 (by decide)
              have q1 : vs 1 = .int .i64 0 := hp 1 (by decide)
              have HJ := Lib.hid hJ
              clear hp hJ
              simp only [List.take_succ_cons, List.take_zero, putAll, Nat.reduceAdd]
              go_wp2
              exact ⟨rfl, HJ.out, Ext.refl _, rfl⟩
            · intro vs w1 hJ hp
              have HJ := Lib.hid hJ
              have hq0 := hJ.cell HC0.out
              have hq1 := hJ.cell HC1.out
              clear hp hJ
              simp only [List.take_succ_cons, List.take_zero, putAll, Nat.reduceAdd]
              go_wp2
              exact ⟨rfl, HJ.out, Ext.refl _, rfl⟩
            · intro vs w1 hJ hp
              have q3 : vs 3 = .agg #[.string x1, .string x2] := hp 3 (by decide)
              have q3 : vs 3 = .agg #[.string x1, .string x2] := hp 3 (by decide)
              have HJ := Lib.hid hJ
              clear hp hJ
              simp only [List.take_succ_cons, List.take_zero, putAll, Nat.reduceAdd]
              go_wp2
              exact ⟨rfl, HJ.out.alloc _, ext_alloc _ _, rfl, HJ.out.size, heap_alloc_new _ _⟩
            · intro vs w1 hJ hp
              have HJ := Lib.hid hJ
              clear hp hJ
              simp only [List.take_succ_cons, List.take_zero, putAll, Nat.reduceAdd]
              go_wp2
              exact ⟨rfl, HJ.out, Ext.refl _, rfl⟩
            · intro vs w1 hJ hp
              have HJ := Lib.hid hJ
              clear hp hJ
              simp only [List.take_succ_cons, List.take_zero, putAll, Nat.reduceAdd]
              go_wp2
              exact ⟨rfl, HJ.out, Ext.refl _, rfl⟩
            · intro vs w1 hJ hp
              have q5 : vs 5 = .slice Av k cv := hp 5 (by decide)
              have q6 : vs 6 = .int .i64 0 := hp 6 (by decide)
              have HJ := Lib.hid hJ
              clear hp hJ
              simp only [List.take_succ_cons, List.take_zero, putAll, Nat.reduceAdd]
              go_wp2
              exact ⟨rfl, HJ.out, Ext.refl _, rfl⟩
            · intro vs w1 hJ hp
              have q4 : (spBox w8 #[.string x1, .string x2] 48).p (vs 4) w1 := hp 4 (by decide)
              have q7 : vs 7 = .slice A7 (k - 0) c7 := hp 7 (by decide)
              have HJ := Lib.hid hJ
              obtain ⟨g4, hv4, hlo4, hblk4⟩ : ∃ g, vs 4 = .slice (some ⟨g, 0, none⟩) 1 1 ∧ w8.heap.size ≤ g ∧ w1.heap[g]? = some (.cells #[.string x1, .string x2] 48 (0, 0)) := ⟨_, q4⟩
              have HSRC := Lib.hid (rows_src HSL.out.2.2 (HB8.out.ext hJ).own)
              clear hp q4
              simp only [List.take_succ_cons, List.take_zero, putAll, Nat.reduceAdd, Act.put, List.setIfInBounds_toArray, List.set_cons_zero, List.set_cons_succ]
              refine ap_full (A := A7) (m := k - 0) (c := c7) (ys := (out.drop 0).flatMap prV) rfl (.tmp 34) (.tmp 37) 34 48 2 32 _ rfl Tryz.underlying34 info48 rfl (by decide) hv4 hJ hlo4 hblk4 rfl q7 HSL.out.2.1 (by rw [flat2_len, List.length_drop, HL0.out]) HSRC.out (flat2_one _) (by omega) (by omega) ?_
              intro A8 c8 w9 hx9 hr8
              exact ⟨rfl, HJ.out.trans hx9, hx9, rfl, hr8⟩
          · intro vs w1 hJ hp
            have q0 : vs 0 = .slice Av k cv := hp 0 (by decide)
            have q1 : vs 1 = .int .i64 0 := hp 1 (by decide)
            have q2 : vs 2 = .slice Av 0 cv := hp 2 (by decide)
            have q3 : vs 3 = .agg #[.string x1, .string x2] := hp 3 (by decide)
            have q4 : (spBox w8 #[.string x1, .string x2] 48).p (vs 4) w1 := hp 4 (by decide)
            have q5 : vs 5 = .slice Av k cv := hp 5 (by decide)
            have q6 : vs 6 = .int .i64 0 := hp 6 (by decide)
            have q7 : vs 7 = .slice A7 (k - 0) c7 := hp 7 (by decide)
            have q8 : (spTl w8 (1 + (k - 0)) ([Value.string x1, Value.string x2] ++ (out.drop 0).flatMap prV)).p (vs 8) w1 := hp 8 (by decide)
            have HJ := Lib.hid hJ
            obtain ⟨A8, c8, hv8, hr8⟩ : ∃ (A : Option Addr) (c : Nat), vs 8 = .slice A (1 + (k - 0)) c ∧ Row 48 2 (Lt w8.heap.size) w8 w1 (.slice A (1 + (k - 0)) c) (1 + (k - 0)) ([Value.string x1, Value.string x2] ++ (out.drop 0).flatMap prV) := ⟨_, _, q8⟩
            obtain ⟨v4, hv4⟩ : ∃ v, vs 4 = v := ⟨_, rfl⟩
            have HR8 := Lib.hid hr8
            clear hp hJ q4 q8 hr8
            simp only [List.take_succ_cons, List.take_zero, List.drop_succ_cons, List.drop_zero, putAll, Nat.reduceAdd, Act.put, q0, q1, q2, q3, hv4, q5, q6, q7, hv8, List.setIfInBounds_toArray, List.set_cons_zero, List.set_cons_succ]
            refine ap_rows (ys := ([Value.string x1, Value.string x2] ++ (out.drop 0).flatMap prV)) rfl (.tmp 32) (.tmp 38) 34 48 2 32 _ rfl Tryz.underlying34 info48 rfl (by decide) rfl ((HB8.out.ext HJ.out).take (k := 0) (by omega)) rfl (own_le HR8.out.own) (by rw [List.length_append, flat2_len, List.length_drop, HL0.out]; simp only [List.length_cons, List.length_nil]; omega) (fun _ => own_src HR8.out.own (by omega)) (cons_one x1 x2 _) (by omega) (by omega) ?_
            intro A9 c9 w10 hr9
            have e9 : 0 + (1 + (k - 0)) = k + 1 := by omega
            rw [e9] at hr9 ⊢
            have HR9 := Lib.hid hr9
            clear hr9 e9
            simp only [Act.put, List.setIfInBounds_toArray, List.set_cons_zero, List.set_cons_succ]
            go_wp2
            go_roundw
            case rel =>
              refine ⟨k + 1, out.take 0 ++ (x1, x2) :: out.drop 0, by omega, by go_num, Lib.hid ?_, Lib.hid ?_, Lib.hid ⟨?_, ?_⟩⟩
              · have := HL0.out; simp only [List.length_append, List.length_take, List.length_cons, List.length_drop]; omega
              · have h9 := HR9.out; rw [flat2_take] at h9; rw [List.flatMap_append, List.flatMap_cons]; exact h9
              · rw [HTT.out]; exact ((ins_perm out (x1, x2) _).trans (HO.out.1.cons _)).trans (List.perm_append_singleton _ _).symm
              · exact ins_sorted (by have := HL0.out; omega) HO.out.2 HG.out (fun h _ => absurd h (Nat.lt_irrefl 0))
            case measure => simp only [intOf]; omega
        · obtain ⟨s, rfl⟩ : ∃ s, t = s + 1 := ⟨t - 1, by omega⟩
          have hsl : s < out.length := by have := HL.out; omega
          have hat := flat2_at out s hsl
          obtain ⟨g, hgA⟩ : ∃ g, Av = some ⟨g, 0, none⟩ := by
            rcases HB.out.own.2 with ⟨_, h0⟩ | ⟨g, cap, cur, hv, _⟩
            · omega
            · exact ⟨g, by simpa using (Value.slice.inj hv).1⟩
          subst hgA
          obtain ⟨⟨y1, y2⟩, hy⟩ : ∃ y, y = out[s] := ⟨_, rfl⟩
          rw [← hy] at hat
          have he0 := HBI.out.own.cells (g := g) rfl (s * 2) _ hat.1
          rw [add_lit0, Nat.zero_add] at he0
          simp only [] at he0
          have hdec : decide ((0 : Int) < ((s : Int) + 1)) = true := decide_eq_true (by omega)
          by_cases hlp : ltP (x1, x2) (y1, y2)
          · have HBL : Hid ((!Op.bytesLess y1.toList x1.toList && !y1.toList == x1.toList) = true) := Lib.hid ((gtP_iff (y1, y2) (x1, x2)).trans (decide_eq_true hlp))
            have HLP := Lib.hid hlp
            have HY := Lib.hid hy
            clear hat hy hlp
            go_wp2
            go_quiet (skip)
            rw [HBL.out]
            go_wp2
            go_roundw
            case rel =>
              refine ⟨s, by omega, by go_num, Lib.hid (HI.out.drewN nq), Lib.hid fun j hj hsj => ?_⟩
              by_cases e : j = s
              · subst e
                rw [← HY.out]; exact HLP.out
              · exact HG.out j hj (by omega)
            case measure => simp only [intOf]; omega
          · have HBL : Hid ((!Op.bytesLess y1.toList x1.toList && !y1.toList == x1.toList) = false) := Lib.hid ((gtP_iff (y1, y2) (x1, x2)).trans (decide_eq_false hlp))
            have HLP := Lib.hid hlp
            have HY := Lib.hid hy
            clear hat hy hlp
            go_wp2
            go_quiet (skip)
            rw [HBL.out]
            go_wp2
            obtain ⟨A7, c7, hsl⟩ := sl34_from (some ⟨g, 0, none⟩) k cv (s + 1) (by omega) (own_le HB.out.own)
            have HSL := Lib.hid hsl
            have hslf := hsl.1
            clear hsl
            have HL0 := HL
            have hkcv := own_le HB.out.own
            obtain ⟨w8, hw8⟩ : ∃ x, x = wr.drewN nq := ⟨_, rfl⟩
            rw [← hw8]
            have HB8 : Hid (Row 48 2 (Lt w.heap.size) w w8 (.slice (some ⟨g, 0, none⟩) k cv) k (out.flatMap prV)) := Lib.hid (by rw [hw8]; exact HBI.out.ext ((Ext.refl wr).drewN nq))
            have HC0 : Hid (w8.cell? ⟨wo.heap.size, 0, none⟩ = some (.string x1)) := Lib.hid (by rw [hw8]; exact ((Ext.refl wr).drewN nq).cell hc0)
            have HC1 : Hid (w8.cell? ⟨wo.heap.size, 1, none⟩ = some (.string x2)) := Lib.hid (by rw [hw8]; exact ((Ext.refl wr).drewN nq).cell hc1)
            clear hw8 hc0 hc1
            refine wp_region_cutT (J := fun x => Ext w8 x) (R := Ext) 9 [Sp.eq _ (.slice (some ⟨g, 0, none⟩) k cv), Sp.eq _ (.int .i64 ((s : Int) + 1)), Sp.eq _ (.slice (some ⟨g, 0, none⟩) (s + 1) cv), Sp.eq _ (.agg #[.string x1, .string x2]), spBox w8 #[.string x1, .string x2] 48, Sp.eq _ (.slice (some ⟨g, 0, none⟩) k cv), Sp.eq _ (.int .i64 ((s : Int) + 1)), Sp.eq _ (.slice A7 (k - (s + 1)) c7), spTl w8 (1 + (k - (s + 1))) ([Value.string x1, Value.string x2] ++ (out.drop (s + 1)).flatMap prV)] (by kernel_rfl) (by kernel_rfl) ?_ ?_ ?_
            · exact (Ext.refl w8).drew
            · refine ⟨?_, ?_, ?_, ?_, ?_, ?_, ?_, ?_, ?_, trivial⟩
              · intro vs w1 hJ hp
                have HJ := Lib.hid hJ
                clear hp hJ
                simp only [List.take_succ_cons, List.take_zero, putAll, Nat.reduceAdd]
                go_wp2
                exact ⟨rfl, HJ.out, Ext.refl _, rfl⟩
              · intro vs w1 hJ hp
                have HJ := Lib.hid hJ
                clear hp hJ
                simp only [List.take_succ_cons, List.take_zero, putAll, Nat.reduceAdd]
                go_wp2
                exact ⟨rfl, HJ.out, Ext.refl _, rfl⟩
              · intro vs w1 hJ hp
                have q0 : vs 0 = .slice (some ⟨g, 0, none⟩) k cv := hp 0 (by decide)
                have q1 : vs 1 = .int .i64 ((s : Int) + 1) := hp 1 (by decide)
                have HJ := Lib.hid hJ
                clear hp hJ
                simp only [List.take_succ_cons, List.take_zero, putAll, Nat.reduceAdd]
                go_wp2
                exact ⟨rfl, HJ.out, Ext.refl _, rfl⟩
              · intro vs w1 hJ hp
                have HJ := Lib.hid hJ
                have hq0 := hJ.cell HC0.out
                have hq1 := hJ.cell HC1.out
                clear hp hJ
                simp only [List.take_succ_cons, List.take_zero, putAll, Nat.reduceAdd]
                go_wp2
                exact ⟨rfl, HJ.out, Ext.refl _, rfl⟩
              · intro vs w1 hJ hp
                have q3 : vs 3 = .agg #[.string x1, .string x2] := hp 3 (by decide)
                have q3 : vs 3 = .agg #[.string x1, .string x2] := hp 3 (by decide)
                have HJ := Lib.hid hJ
                clear hp hJ
                simp only [List.take_succ_cons, List.take_zero, putAll, Nat.reduceAdd]
                go_wp2
                exact ⟨rfl, HJ.out.alloc _, ext_alloc _ _, rfl, HJ.out.size, heap_alloc_new _ _⟩
              · intro vs w1 hJ hp
                have HJ := Lib.hid hJ
                clear hp hJ
                simp only [List.take_succ_cons, List.take_zero, putAll, Nat.reduceAdd]
                go_wp2
                exact ⟨rfl, HJ.out, Ext.refl _, rfl⟩
              · intro vs w1 hJ hp
                have HJ := Lib.hid hJ
                clear hp hJ
                simp only [List.take_succ_cons, List.take_zero, putAll, Nat.reduceAdd]
                go_wp2
                exact ⟨rfl, HJ.out, Ext.refl _, rfl⟩
              · intro vs w1 hJ hp
                have q5 : vs 5 = .slice (some ⟨g, 0, none⟩) k cv := hp 5 (by decide)
                have q6 : vs 6 = .int .i64 ((s : Int) + 1) := hp 6 (by decide)
                have HJ := Lib.hid hJ
                clear hp hJ
                simp only [List.take_succ_cons, List.take_zero, putAll, Nat.reduceAdd]
                go_wp2
                exact ⟨rfl, HJ.out, Ext.refl _, rfl⟩
              · intro vs w1 hJ hp
                have q4 : (spBox w8 #[.string x1, .string x2] 48).p (vs 4) w1 := hp 4 (by decide)
                have q7 : vs 7 = .slice A7 (k - (s + 1)) c7 := hp 7 (by decide)
                have HJ := Lib.hid hJ
                obtain ⟨g4, hv4, hlo4, hblk4⟩ : ∃ g, vs 4 = .slice (some ⟨g, 0, none⟩) 1 1 ∧ w8.heap.size ≤ g ∧ w1.heap[g]? = some (.cells #[.string x1, .string x2] 48 (0, 0)) := ⟨_, q4⟩
                have HSRC := Lib.hid (rows_src HSL.out.2.2 (HB8.out.ext hJ).own)
                clear hp q4
                simp only [List.take_succ_cons, List.take_zero, putAll, Nat.reduceAdd, Act.put, List.setIfInBounds_toArray, List.set_cons_zero, List.set_cons_succ]
                refine ap_full (A := A7) (m := k - (s + 1)) (c := c7) (ys := (out.drop (s + 1)).flatMap prV) rfl (.tmp 34) (.tmp 37) 34 48 2 32 _ rfl Tryz.underlying34 info48 rfl (by decide) hv4 hJ hlo4 hblk4 rfl q7 HSL.out.2.1 (by rw [flat2_len, List.length_drop, HL0.out]) HSRC.out (flat2_one _) (by omega) (by omega) ?_
                intro A8 c8 w9 hx9 hr8
                exact ⟨rfl, HJ.out.trans hx9, hx9, rfl, hr8⟩
            · intro vs w1 hJ hp
              have q0 : vs 0 = .slice (some ⟨g, 0, none⟩) k cv := hp 0 (by decide)
              have q1 : vs 1 = .int .i64 ((s : Int) + 1) := hp 1 (by decide)
              have q2 : vs 2 = .slice (some ⟨g, 0, none⟩) (s + 1) cv := hp 2 (by decide)
              have q3 : vs 3 = .agg #[.string x1, .string x2] := hp 3 (by decide)
              have q4 : (spBox w8 #[.string x1, .string x2] 48).p (vs 4) w1 := hp 4 (by decide)
              have q5 : vs 5 = .slice (some ⟨g, 0, none⟩) k cv := hp 5 (by decide)
              have q6 : vs 6 = .int .i64 ((s : Int) + 1) := hp 6 (by decide)
              have q7 : vs 7 = .slice A7 (k - (s + 1)) c7 := hp 7 (by decide)
              have q8 : (spTl w8 (1 + (k - (s + 1))) ([Value.string x1, Value.string x2] ++ (out.drop (s + 1)).flatMap prV)).p (vs 8) w1 := hp 8 (by decide)
              have HJ := Lib.hid hJ
              obtain ⟨A8, c8, hv8, hr8⟩ : ∃ (A : Option Addr) (c : Nat), vs 8 = .slice A (1 + (k - (s + 1))) c ∧ Row 48 2 (Lt w8.heap.size) w8 w1 (.slice A (1 + (k - (s + 1))) c) (1 + (k - (s + 1))) ([Value.string x1, Value.string x2] ++ (out.drop (s + 1)).flatMap prV) := ⟨_, _, q8⟩
              obtain ⟨v4, hv4⟩ : ∃ v, vs 4 = v := ⟨_, rfl⟩
              have HR8 := Lib.hid hr8
              clear hp hJ q4 q8 hr8
              simp only [List.take_succ_cons, List.take_zero, List.drop_succ_cons, List.drop_zero, putAll, Nat.reduceAdd, Act.put, q0, q1, q2, q3, hv4, q5, q6, q7, hv8, List.setIfInBounds_toArray, List.set_cons_zero, List.set_cons_succ]
              refine ap_rows (ys := ([Value.string x1, Value.string x2] ++ (out.drop (s + 1)).flatMap prV)) rfl (.tmp 32) (.tmp 38) 34 48 2 32 _ rfl Tryz.underlying34 info48 rfl (by decide) rfl ((HB8.out.ext HJ.out).take (k := (s + 1)) (by omega)) rfl (own_le HR8.out.own) (by rw [List.length_append, flat2_len, List.length_drop, HL0.out]; simp only [List.length_cons, List.length_nil]; omega) (fun _ => own_src HR8.out.own (by omega)) (cons_one x1 x2 _) (by omega) (by omega) ?_
              intro A9 c9 w10 hr9
              have e9 : (s + 1) + (1 + (k - (s + 1))) = k + 1 := by omega
              rw [e9] at hr9 ⊢
              have HR9 := Lib.hid hr9
              clear hr9 e9
              simp only [Act.put, List.setIfInBounds_toArray, List.set_cons_zero, List.set_cons_succ]
              go_wp2
              go_roundw
              case rel =>
                refine ⟨k + 1, out.take (s + 1) ++ (x1, x2) :: out.drop (s + 1), by omega, by go_num, Lib.hid ?_, Lib.hid ?_, Lib.hid ⟨?_, ?_⟩⟩
                · have := HL0.out; simp only [List.length_append, List.length_take, List.length_cons, List.length_drop]; omega
                · have h9 := HR9.out; rw [flat2_take] at h9; rw [List.flatMap_append, List.flatMap_cons]; exact h9
                · rw [HTT.out]; exact ((ins_perm out (x1, x2) _).trans (HO.out.1.cons _)).trans (List.perm_append_singleton _ _).symm
                · exact ins_sorted (by have := HL0.out; omega) HO.out.2 HG.out (fun _ _ => by have h9 := HLP.out; rw [HY.out] at h9; exact h9)
              case measure => simp only [intOf]; omega
    · obtain rfl : k = qs.length := by omega
      go_wp2
      go_ret
      have h1 := HO.out
      rw [List.take_length] at h1
      have h2 := HL.out
      have h3 := rdm_of (l := out) (by rw [h2]; exact HB.out.own) (rws_flat wo out)
      exact ⟨out, Av, cv, by rw [h2]; rfl, HB.out.bel, by rw [h2]; exact h3, h1.1, h1.2⟩
end Go.Proofs.YtdenjanihikolaaGreatDoor

namespace Go.Proofs.YtdenjanihikolaaGreatDoor
open Go.RowKit Og
set_option linter.unusedVariables false
set_option linter.unusedSimpArgs false
theorem sl_at (A : Option Addr) (N c p : Nat) (hp : p ≤ N) (hN : N ≤ c) (hc : c ≤ maxLen) : ∃ A' c', (∀ (i : Int) (w : World), i = (p : Int) → (Instr.slice 26 (.slice A N c) (some (.int .i64 i)) none none).run Tryz.prog w = .ok (.slice A' (N - p) c') w) ∧ ∀ (b : Nat) (w : World) (xs : List Int), RdN b w (.slice A N c) xs → RdN b w (.slice A' (N - p) c') (xs.drop p) := by
  obtain ⟨A', c', h1, h2⟩ := sl_from A N c p (p : Int) rfl hp hN hc
  exact ⟨A', c', fun i w hi => by subst hi; exact h1 w, h2⟩
/-- Inside a round: the column's own block f. -/
structure Fst (b f : Nat) (wd w : World) (v : Value) (k : Nat) (ys : List Value) (cs : Array Value) : Prop where
  bel : ExtBut b wd w
  blk : w.heap[b]? = some (.cells #[v] 236 (0, 0))
  fd : w.heap[f]? = some (.cells cs 249 (0, 0))
  own : Own f wd w 249 7 v k ys
  lo : wd.heap.size ≤ f
  hi : b < wd.heap.size
theorem Fst.ext {b f : Nat} {wd w w2 : World} {v : Value} {k : Nat} {ys : List Value} {cs : Array Value} (h : Fst b f wd w v k ys cs) (hx : Ext w w2) : Fst b f wd w2 v k ys cs :=
  ⟨h.bel.trans hx.but, (hx.block b (lt_of_block h.blk)).trans h.blk, (hx.block f (lt_of_block h.fd)).trans h.fd, h.own.ext hx, h.lo, h.hi⟩
theorem Fst.set {b f : Nat} {wd w : World} {v : Value} {k : Nat} {ys : List Value} {cs : Array Value} (h : Fst b f wd w v k ys cs) (j : Nat) (u : Value) : Fst b f wd (w.setCell ⟨f, j, none⟩ u) v k ys (cs.setIfInBounds j u) := by
  have hoth : ∀ q, q ≠ f → (w.setCell ⟨f, j, none⟩ u).heap[q]? = w.heap[q]? := fun q hq => heap_setCell_other w ⟨f, j, none⟩ q _ hq
  have h1 := h.lo
  have h2 := h.hi
  exact ⟨⟨h.bel.os, h.bel.tape, h.bel.output, by simpa [World.setCell] using h.bel.size, fun q hq hqb => (hoth q (by omega)).trans (h.bel.block q hq hqb)⟩, (hoth b (by omega)).trans h.blk, slot_setCell h.fd, h.own.keep fun g _ hne _ => hoth g hne, h1, h2⟩
/-- The region that appends the column. -/
structure RJ (b f : Nat) (wd W0 : World) (v : Value) (k : Nat) (ys : List Value) (cs : Array Value) (L : Nat → Bool) (vs : Nat → Value) (w : World) : Prop where
  A : L 6 = false → Ext W0 w
  X : ExtBut b wd w
  C : L 7 = false → Own f wd w 249 7 v k ys
  D : L 6 = true → L 7 = false → vs 6 = .slice (some ⟨slB (vs 6), 0, none⟩) 1 1 ∧ w.heap[slB (vs 6)]? = some (.cells cs 249 (0, 0))
  E : L 7 = true → Own f wd w 249 7 (vs 7) (k + 1) (ys ++ cs.toList)
  F : L 10 = false → w.heap[b]? = some (.cells #[v] 236 (0, 0))
  G : L 10 = true → w.heap[b]? = some (.cells #[vs 7] 236 (0, 0))
  S : f < w.heap.size
  M1 : L 7 = true → L 6 = true
  M2 : L 10 = true → L 7 = true
section
variable {b f : Nat} {wd W0 w w2 : World} {v : Value} {k : Nat} {ys : List Value} {cs : Array Value} {L : Nat → Bool} {vs : Nat → Value}
theorem RJ.start (h : Fst b f wd W0 v k ys cs) : RJ b f wd W0 v k ys cs (fun _ => false) vs W0.drew :=
  ⟨fun _ => (Ext.refl W0).drew, h.bel.trans (Ext.refl W0).drew.but, fun _ => h.own.ext (Ext.refl W0).drew, nofun, nofun, fun _ => h.blk, nofun, lt_of_block h.fd, nofun, nofun⟩
theorem RJ.keep (h : RJ b f wd W0 v k ys cs L vs w) (i : Nat) (u : Value) (h6 : 6 ≠ i) (h7 : 7 ≠ i) (h10 : 10 ≠ i) : RJ b f wd W0 v k ys cs (updB L i) (upd vs i u) w := by
  obtain ⟨A, X, C, D, E, F, G, S, M1, M2⟩ := h
  constructor <;> (try simp only [updB, upd, h6, h7, h10, if_false, beq_eq_false_iff_ne.2, Bool.or_false, ne_eq, not_false_eq_true]) <;> assumption
theorem RJ.low (h : RJ b f wd W0 v k ys cs L vs w) (e : L 7 = false) : L 10 = false := by
  cases e2 : L 10 with
  | false => rfl
  | true => rw [h.M2 e2] at e; cases e
end
end Go.Proofs.YtdenjanihikolaaGreatDoor
