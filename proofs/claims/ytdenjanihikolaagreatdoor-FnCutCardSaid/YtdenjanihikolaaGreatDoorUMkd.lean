/- Helpers of made: values as bytes, clones, the format of a result, by contract. -/
import Derived.Test.YtdenjanihikolaaGreatDoorUMka
namespace Go.Proofs.YtdenjanihikolaaGreatDoor
open Go.RowKit
set_option linter.unusedVariables false
set_option linter.unusedSimpArgs false

theorem info243 : (Tryz.prog.info? 243).map (fun i => (i.zero, i.size, i.bytes)) = some (some (.int .i16 0), 1, 2) := by kernel_rfl
theorem info128 : (Tryz.prog.info? 128).map (fun i => (i.zero, i.size, i.bytes)) = some (some (.int .u16 0), 1, 2) := by kernel_rfl
theorem info22 : (Tryz.prog.info? 22).map (fun i => (i.zero, i.size, i.bytes)) = some (some (.int .u32 0), 1, 4) := by kernel_rfl
theorem Row.bel {e size : Nat} {w0 w : World} {v : Value} {n : Nat} {xs : List Value} (h : Row e size (Lt w0.heap.size) w0 w v n xs) : Ext w0 w :=
  ⟨h.os, h.tape, h.output, Nat.le_of_not_lt fun hl => Nat.lt_irrefl _ (h.lt _ hl), fun k hk => h.kept k hk⟩
theorem Row.start (e size : Nat) (w : World) : Row e size (Lt w.heap.size) w w (.slice none 0 0) 0 [] :=
  ⟨World.ownsRow_nil _ _ _ _, fun g hg => by simp [Value.ownBlock] at hg, fun _ _ => rfl, fun k hk => hk, rfl, rfl, rfl⟩
theorem RdI.of_own {kd : IntKind} {w : World} {B e : Nat} {v : Value} {xs : List Int} (h : w.ownsRow B e 1 v xs.length (xs.map (Value.int kd))) : RdI kd w v xs := by
  rcases h.2 with ⟨rfl, hn⟩ | ⟨g, cap, cur, rfl, hbg, hg, hnc, hcm, hcs, htake⟩
  · exact ⟨none, 0, by rw [hn], by omega, by unfold maxLen; omega, fun h => by omega⟩
  · refine ⟨_, cap, rfl, hnc, hcm, fun _ => ⟨g, 0, rfl, fun j hj => ?_⟩⟩
    have := h.cells (g := g) rfl j (.int kd (xs.getD j 0)) (by
      rw [List.getElem?_map, List.getElem?_eq_getElem hj]
      simp [List.getD, List.getElem?_eq_getElem hj])
    rwa [add_lit0] at this
theorem Row.keepsI {kd : IntKind} {e : Nat} {w w' : World} {v : Value} {xs : List Int} (h : Row e 1 (Lt w.heap.size) w w' v xs.length (xs.map (Value.int kd))) : Keeps w w' (fun w3 => RdI kd w3 v xs) :=
  fun w3 hx => RdI.of_own (own_stay h.own h.off hx)
theorem wrap_small16 {x : Int} (h : 0 ≤ x ∧ x < 32768) : IntKind.i16.wrap x = x := by
  have : IntKind.i16.wrap x = (x + 32768) % 65536 - 32768 := by unfold IntKind.wrap; simp [IntKind.bits, IntKind.signed]; omega
  omega

set_option maxRecDepth 100000 in
set_option maxHeartbeats 400000 in
theorem shortsK (l : List Int) (A_l : Option Addr) (c_l : Nat) (w : World) (hr : RdI .i64 w (.slice A_l l.length c_l) l) (hl : l.length ≤ 1000) (hg : ∀ y ∈ l, 0 ≤ y ∧ y < 32768) :
    Calls Tryz.prog 55 #[.slice A_l l.length c_l] w (GaveR (fun v w => RdI .i16 w v l) l.length w) := by
  have HR := Lib.hid hr
  clear hr
  go_enter Tryz.func55, Tryz.ntmps55
  go_wp2
  go_loopw [3, 8] (fun v i wr => ∃ k : Nat, k ≤ l.length ∧ i = .int .i64 k ∧ Hid (Row 243 1 (Lt w.heap.size) w wr v k ((l.take k).map (Value.int .i16)))) (fun _ i _ => l.length - (intOf i).toNat)
  case atStart => exact ⟨0, Nat.zero_le _, rfl, Lib.hid (by simpa using Row.start 243 1 w)⟩
  case round =>
    rename_i vv0 _
    obtain ⟨k, hk1, rfl, HS⟩ := hrel
    obtain ⟨Av, cv, hv⟩ := own_slice HS.out.own
    subst hv
    by_cases hlt : k < l.length
    · obtain ⟨b1, o1, rfl, hcell⟩ := HR.out.at_ hlt
      replace hcell := HS.out.bel.cell hcell
      rw [getD_at hlt] at hcell
      have hgx := hg _ (List.getElem_mem hlt)
      obtain ⟨x, hx⟩ : ∃ x, x = l[k] := ⟨_, rfl⟩
      rw [← hx] at hcell hgx
      have HX := Lib.hid hx
      clear hx
      have hwr := wrap_small16 hgx
      go_wp2_with (at_builtin; refine ap_built rfl (.tmp 12) (.tmp 15) 102 243 1 2 _ _ _ rfl Tryz.underlying102 info243 rfl (by decide) rfl rfl HS.out rfl rfl (List.all_eq_true.1 rfl) (by omega) (by decide) ?_; intro v2 w2 hn; obtain ⟨A2, c2, hv2⟩ := own_slice hn.own; subst hv2; have HN := Lib.hid hn; clear hn)
      go_roundw
      case rel =>
        refine ⟨k + 1, by omega, by go_num, Lib.hid ?_⟩
        rw [List.take_succ_eq_append_getElem hlt, ← HX.out, List.map_append]
        exact HN.out
      case measure => simp only [intOf]; omega
    · obtain rfl : k = l.length := by omega
      go_wp2
      go_ret
      have h1 := HS.out
      rw [List.take_length] at h1
      exact ⟨_, _, rfl, h1.bel, h1.keepsI⟩

set_option maxRecDepth 100000 in
set_option maxHeartbeats 400000 in
theorem halvesK (l : List Int) (A_l : Option Addr) (c_l : Nat) (w : World) (hr : RdI .i64 w (.slice A_l l.length c_l) l) (hl : l.length ≤ 1000) (hg : ∀ y ∈ l, 0 ≤ y ∧ y < 32768) :
    Calls Tryz.prog 57 #[.slice A_l l.length c_l] w (GaveR (fun v w => RdI .u16 w v l) l.length w) := by
  have HR := Lib.hid hr
  clear hr
  go_enter Tryz.func57, Tryz.ntmps57
  go_wp2
  go_loopw [3, 8] (fun v i wr => ∃ k : Nat, k ≤ l.length ∧ i = .int .i64 k ∧ Hid (Row 128 1 (Lt w.heap.size) w wr v k ((l.take k).map (Value.int .u16)))) (fun _ i _ => l.length - (intOf i).toNat)
  case atStart => exact ⟨0, Nat.zero_le _, rfl, Lib.hid (by simpa using Row.start 128 1 w)⟩
  case round =>
    rename_i vv0 _
    obtain ⟨k, hk1, rfl, HS⟩ := hrel
    obtain ⟨Av, cv, hv⟩ := own_slice HS.out.own
    subst hv
    by_cases hlt : k < l.length
    · obtain ⟨b1, o1, rfl, hcell⟩ := HR.out.at_ hlt
      replace hcell := HS.out.bel.cell hcell
      rw [getD_at hlt] at hcell
      have hgx := hg _ (List.getElem_mem hlt)
      obtain ⟨x, hx⟩ : ∃ x, x = l[k] := ⟨_, rfl⟩
      rw [← hx] at hcell hgx
      have HX := Lib.hid hx
      clear hx
      have hwr : IntKind.u16.wrap x = x := by rw [IntKind.wrap_u16]; omega
      have hwr2 : x % 65536 = x := by omega
      go_wp2_with (at_builtin; refine ap_built rfl (.tmp 12) (.tmp 15) 126 128 1 2 _ _ _ rfl Tryz.underlying126 info128 rfl (by decide) rfl rfl HS.out rfl rfl (List.all_eq_true.1 rfl) (by omega) (by decide) ?_; intro v2 w2 hn; obtain ⟨A2, c2, hv2⟩ := own_slice hn.own; subst hv2; have HN := Lib.hid hn; clear hn)
      go_roundw
      case rel =>
        refine ⟨k + 1, by omega, by go_num, Lib.hid ?_⟩
        rw [List.take_succ_eq_append_getElem hlt, ← HX.out, List.map_append]
        exact HN.out
      case measure => simp only [intOf]; omega
    · obtain rfl : k = l.length := by omega
      go_wp2
      go_ret
      have h1 := HS.out
      rw [List.take_length] at h1
      exact ⟨_, _, rfl, h1.bel, h1.keepsI⟩
end Go.Proofs.YtdenjanihikolaaGreatDoor

namespace Go.Proofs.YtdenjanihikolaaGreatDoor
open Go.RowKit
set_option linter.unusedVariables false
set_option linter.unusedSimpArgs false

/-- append of elements of one cell that are read; a row that is there stays there. -/
theorem ap_many {ops : Array Oper} {rest : List Oper} {o : Oper} {a : Act} {Q : Exit → Act → World → Prop} {w : World} (hgd : o.guard = none) (s x : Operand) (t e bytes : Nat) (z : Value)
    (ho : o.op = .call { callee := .builtin .append, args := #[s, x], argTypes := #[t, t] })
    (ht : Tryz.prog.underlying t = some (.slice e)) (hi : (Tryz.prog.info? e).map (fun i => (i.zero, i.size, i.bytes)) = some (some z, 1, bytes)) (hzs : z.cells.size = 1)
    {K : Nat → Prop} {w0 : World} {a0 : Addr} {n c0 : Nat} {xs : List Value} (hs : a.eval s = .slice (some a0) n c0) (hb : Row e 1 K w0 w (.slice (some a0) n c0) n xs) {p : Addr} {m c : Nat} {ys : List Value} (hx : a.eval x = .slice (some p) m c) (hl : ys.length = m) (hcell : ∀ j u, ys[j]? = some u → w.cell? (p.add j) = some u) (h1 : ∀ u ∈ ys, u.oneCell' = true) (hn : n + m < 1000000000000) (hby : bytes ≤ 100)
    (h : ∀ a1 c1 w', Row e 1 K w0 w' (.slice (some a1) (n + m) c1) (n + m) (xs ++ ys) → wpList Tryz.prog ops Q rest (a.put o.dst (.slice (some a1) (n + m) c1)) w') : wpList Tryz.prog ops Q (o :: rest) a w := by
  obtain ⟨i0, hi, hz0, hz1, hz2⟩ := info_parts hi
  refine wpList_plain hgd fun C hC => ?_
  by_cases hm : 0 < m
  · have hbb : (n + m) * bytes ≤ 140737488355328 := Nat.le_trans (Nat.mul_le_mul (show n + m ≤ 1000000000000 by omega) hby) (by omega)
    obtain ⟨v', w', hr, h2, h3, h4, h5⟩ := run_append_own_at (P := Tryz.prog) w 0 t o.type e i0 z 1 bytes ht hi hz0 hz1 hz2 hzs (by decide) _ n xs hb.own p m c ys (by rw [hl, Nat.mul_one]) hcell h1 (by unfold maxLen; omega) hbb (Nat.zero_le _)
    have hsome : ∃ a1 c1, v' = .slice (some a1) (n + m) c1 := by
      rcases h2.2 with ⟨_, h0⟩ | ⟨g, cap, _, hv, _⟩
      · omega
      · exact ⟨_, _, hv⟩
    unfold Oper.wp execOp
    simp only [ho, resolve, invoke, builtin, Sem.run_bind, Sem.run_pure, Result.andThen_ok, List.map_toArray, List.map_cons, List.map_nil, hs, hx, hr]
    obtain ⟨a1, c1, rfl⟩ := hsome
    refine hC _ _ (h a1 c1 w' (hb.step h3 h2 fun g hg => ?_))
    rcases h5 with h5 | h5
    · exact .inl (h5 ▸ hg)
    · exact .inr (by rw [h5] at hg; cases hg; exact Nat.le_refl _)
  · obtain rfl : m = 0 := by omega
    have hy : ys = [] := List.eq_nil_of_length_eq_zero hl
    subst hy
    have hnc : n ≤ c0 := by
      rcases hb.own.2 with ⟨h0, _⟩ | ⟨g, cap, cur, hv, hbg, hg, hnc, _⟩
      · cases h0
      · simp only [Value.slice.injEq] at hv
        omega
    have hr : (Builtin.append_ #[t, t] o.type #[.slice (some a0) n c0, .slice (some p) 0 c]).run Tryz.prog w = .ok (.slice (some a0) n c0) w := by
      simp [Builtin.append_, run_underlying ht, sizeOf, typeInfo, hi, Builtin.lenOf, Builtin.firstCells, loadCells, loadCellsFrom, hnc, storeCells]
    unfold Oper.wp execOp
    simp only [ho, resolve, invoke, builtin, Sem.run_bind, Sem.run_pure, Result.andThen_ok, List.map_toArray, List.map_cons, List.map_nil, hs, hx, hr]
    exact hC _ _ (h a0 c0 w (by simpa using hb))

theorem ap_none {ops : Array Oper} {rest : List Oper} {o : Oper} {a : Act} {Q : Exit → Act → World → Prop} {w : World} (hgd : o.guard = none) (s x : Operand) (t e bytes : Nat) (z : Value)
    (ho : o.op = .call { callee := .builtin .append, args := #[s, x], argTypes := #[t, t] })
    (ht : Tryz.prog.underlying t = some (.slice e)) (hi : (Tryz.prog.info? e).map (fun i => (i.zero, i.size, i.bytes)) = some (some z, 1, bytes))
    {a0 : Addr} {n c0 c : Nat} (hs : a.eval s = .slice (some a0) n c0) (hnc : n ≤ c0) (hx : a.eval x = .slice none 0 c)
    (h : wpList Tryz.prog ops Q rest (a.put o.dst (.slice (some a0) n c0)) w) : wpList Tryz.prog ops Q (o :: rest) a w := by
  obtain ⟨i0, hi, hz0, hz1, hz2⟩ := info_parts hi
  refine wpList_plain hgd fun C hC => ?_
  have hr : (Builtin.append_ #[t, t] o.type #[.slice (some a0) n c0, .slice none 0 c]).run Tryz.prog w = .ok (.slice (some a0) n c0) w := by
    simp [Builtin.append_, run_underlying ht, sizeOf, typeInfo, hi, Builtin.lenOf, Builtin.firstCells, loadCells, loadCellsFrom, hnc, storeCells]
  unfold Oper.wp execOp
  simp only [ho, resolve, invoke, builtin, Sem.run_bind, Sem.run_pure, Result.andThen_ok, List.map_toArray, List.map_cons, List.map_nil, hs, hx, hr]
  exact hC _ _ h

/-- an empty row in a new block -/
theorem Row.fresh (e : Nat) (w : World) (size : Nat) : Row e size (Lt w.heap.size) w (w.alloc (.cells #[] e)) (.slice (some ⟨w.heap.size, 0, none⟩) 0 0) 0 [] := by
  have hx := ext_alloc w (.cells #[] e)
  refine ⟨⟨by simp, .inr ⟨w.heap.size, 0, #[], rfl, Nat.zero_le _, heap_alloc_new _ _, Nat.le_refl _, by unfold maxLen; omega, by simp, by simp⟩⟩, ?_, fun k hk => hx.block k hk, fun k hk => Nat.lt_of_lt_of_le hk hx.size, hx.os, hx.tape, hx.output⟩
  intro g hg hk
  have : w.heap.size = g := by simpa [Value.ownBlock] using hg
  exact Nat.lt_irrefl _ (this ▸ hk)

/-- a value as bytes -/
def optV (x : Bool × List Int) : Option (List Int) := if x.1 then none else some x.2
def GaveO (x : Bool × List Int) (w : World) : Ending → World → Prop := fun e w' => ∃ A n c, e = .returned (.slice A n c) ∧ Ext w w' ∧ Keeps w w' (fun w3 => isOpt w3 (optV x) (.slice A n c))
theorem info5' : (Tryz.prog.info? 5).map (fun i => (i.zero, i.size, i.bytes)) = some (some (.int .u8 0), 1, 1) := info5

set_option maxRecDepth 100000 in
theorem oneK (x : Bool × List Int) (A : Option Addr) (c : Nat) (w : World) (h : RdB w (.slice A x.2.length c) x.2) (hl : x.2.length ≤ 1000000) : Calls Tryz.prog 66 #[.agg #[.bool x.1, .slice A x.2.length c]] w (GaveO x w) := by
  obtain ⟨b, d⟩ := x
  simp only at h hl ⊢
  cases b
  · obtain ⟨A', c', hv, h1, h2, h3⟩ := h
    obtain ⟨rfl, rfl⟩ : A = A' ∧ c = c' := by simpa using hv
    have HR := Lib.hid h3
    clear h3 hv
    by_cases hA : ∃ p, A = some p
    · obtain ⟨p, rfl⟩ := hA
      have hx := ext_alloc w (.cells #[.bool false, .slice (some p) d.length c] 58)
      have hcell : ∀ j u, (bys d)[j]? = some u → ((w.alloc (.cells #[.bool false, .slice (some p) d.length c] 58)).alloc (.cells #[] 5)).cell? (p.add j) = some u := by
        intro j u hj
        have hjl : j < d.length := by
          rcases Nat.lt_or_ge j d.length with h | h
          · exact h
          · simp [bys, List.getElem?_eq_none h] at hj
        obtain ⟨b1, o1, hA, hc⟩ := HR.out (by omega)
        have hp : p = ⟨b1, o1, none⟩ := by simpa using hA
        have hpj : p.add j = ⟨b1, o1 + j, none⟩ := by rw [hp, add_lit0]
        rw [hpj]
        refine Ext.cell (w := w) (hx.trans (ext_alloc _ _)) ?_
        rw [hc j hjl]
        unfold bys at hj
        rw [List.getElem?_map, List.getElem?_eq_getElem hjl] at hj
        simp at hj
        subst hj
        simp [List.getD, List.getElem?_eq_getElem hjl]
      have HC := Lib.hid hcell
      have HF := Lib.hid (Row.fresh 5 (w.alloc (.cells #[.bool false, .slice (some p) d.length c] 58)) 1)
      clear hcell
      go_enter Tryz.func66, Tryz.ntmps66
      go_wp2_with (at_builtin; refine ap_many (p := p) (m := d.length) (c := c) (ys := bys d) rfl (.tmp 5) (.tmp 7) 26 5 1 _ rfl Tryz.underlying26 info5 rfl (by first | rfl | (simp; rfl)) (by simpa using HF.out) rfl (by simp [bys]) HC.out (bys_one d) (by omega) (by decide) ?_; intro a1 c1 w2 hn; have HN := Lib.hid hn; clear hn)
      go_ret
      have hn := HN.out
      rw [Nat.zero_add, List.nil_append] at hn
      replace hn : Row 5 1 (Lt (w.alloc (.cells #[.bool false, .slice (some p) d.length c] 58)).heap.size) (w.alloc (.cells #[.bool false, .slice (some p) d.length c] 58)) w2 (.slice (some a1) d.length c1) d.length (bys d) := by simpa using hn
      refine ⟨some a1, d.length, c1, by simp, hx.trans hn.bel, fun w3 h3 => ?_⟩
      refine ⟨a1, c1, rfl, RdB.of_own (own_stay hn.own hn.off fun k hk hk2 => h3 k (Nat.le_trans hx.size hk) hk2)⟩
    · have hA' : A = none := by cases A with | none => rfl | some p => exact absurd ⟨p, rfl⟩ hA
      subst hA'
      have hd : d = [] := by
        rcases Nat.eq_zero_or_pos d.length with h | h
        · exact List.eq_nil_of_length_eq_zero h
        · obtain ⟨_, _, hA, _⟩ := HR.out h; cases hA
      subst hd
      have hx := ext_alloc w (.cells #[.bool false, .slice none 0 c] 58)
      have HF := Lib.hid (Row.fresh 5 (w.alloc (.cells #[.bool false, .slice none 0 c] 58)) 1)
      go_enter Tryz.func66, Tryz.ntmps66
      go_wp2_with (at_builtin; refine ap_none rfl (.tmp 5) (.tmp 7) 26 5 1 _ rfl Tryz.underlying26 info5 rfl (Nat.le_refl _) rfl ?_)
      go_ret
      have hn := HF.out
      refine ⟨_, _, _, rfl, hx.trans hn.bel, fun w3 h3 => ?_⟩
      have hk := own_stay hn.own hn.off fun k hk hk2 => h3 k (Nat.le_trans hx.size hk) hk2
      refine ⟨_, _, rfl, RdB.of_own (B := 0) ?_⟩
      simpa [bys] using hk
  · go_enter Tryz.func66, Tryz.ntmps66
    go_wp2
    go_ret
    exact ⟨none, 0, 0, rfl, ext_alloc _ _, fun w3 _ => rfl⟩
end Go.Proofs.YtdenjanihikolaaGreatDoor

namespace Go.Proofs.YtdenjanihikolaaGreatDoor
open Go.RowKit
set_option linter.unusedVariables false
set_option linter.unusedSimpArgs false

theorem info26 : (Tryz.prog.info? 26).map (fun i => (i.zero, i.size, i.bytes)) = some (some (.slice none 0 0), 1, 24) := by kernel_rfl
theorem info9 : (Tryz.prog.info? 9).map (fun i => (i.zero, i.size, i.bytes)) = some (some (.string ⟨#[]⟩), 1, 16) := by kernel_rfl

theorem Row.rebase {e size : Nat} {K K' : Nat → Prop} {w0 w : World} {v : Value} {n : Nat} {xs : List Value} (h : Row e size K w0 w v n xs) (hlt : ∀ k, K' k → k < w.heap.size) (hne : ∀ g, v.ownBlock = some g → ¬ K' g) : Row e size K' w w v n xs :=
  ⟨h.own, hne, fun _ _ => rfl, hlt, rfl, rfl, rfl⟩
/-- all blocks but the row's own -/
def But (w : World) (v : Value) (k : Nat) : Prop := k < w.heap.size ∧ v.ownBlock ≠ some k
theorem Row.but {e size : Nat} {K : Nat → Prop} {w0 w : World} {v : Value} {n : Nat} {xs : List Value} (h : Row e size K w0 w v n xs) : Row e size (But w v) w w v n xs :=
  h.rebase (fun k hk => hk.1) fun g hg hk => hk.2 hg
theorem Row.unbut {e size : Nat} {w w2 w3 : World} {v v2 : Value} {n m : Nat} {xs ys : List Value} (h : Row e size (Lt w.heap.size) w w2 v n xs) (h2 : Row e size (But w2 v) w2 w3 v2 m ys) : Row e size (Lt w.heap.size) w w3 v2 m ys := by
  have hb : ∀ k, k < w.heap.size → But w2 v k := fun k hk => ⟨h.lt k hk, fun e => h.off k e hk⟩
  exact ⟨h2.own, fun g hg hk => h2.off g hg (hb g hk), fun k hk => (h2.kept k (hb k hk)).trans (h.kept k hk), fun k hk => h2.lt k (hb k hk), h2.os.trans h.os, h2.tape.trans h.tape, h2.output.trans h.output⟩

/-- What an element's bytes lean on: blocks made since w, but the row's own. -/
def ElK (w wr : World) (v : Value) (o : Option (List Int)) (u : Value) : Prop := (∃ A n c, u = .slice A n c) ∧ ∀ w3 : World, (∀ q, w.heap.size ≤ q → q < wr.heap.size → v.ownBlock ≠ some q → w3.heap[q]? = wr.heap[q]?) → isOpt w3 o u
theorem ElK.step {w wr w2 w3 : World} {v v2 : Value} {o : Option (List Int)} {u : Value} {e size m : Nat} {ys : List Value} (h : ElK w wr v o u) (hx : Ext wr w2) (h2 : Row e size (But w2 v) w2 w3 v2 m ys) : ElK w w3 v2 o u := by
  refine ⟨h.1, fun w4 h4 => h.2 w4 fun q h1 h3 h5 => ?_⟩
  have hq : But w2 v q := ⟨Nat.lt_of_lt_of_le h3 hx.size, h5⟩
  have h6 := h4 q h1 (h2.lt q hq) fun e => h2.off q e hq
  exact h6.trans ((h2.kept q hq).trans (hx.block q h3))
theorem ElK.new {w wr w2 w3 : World} {v v2 : Value} {o : Option (List Int)} {A : Option Addr} {n c : Nat} {e size m : Nat} {ys : List Value} (h : Keeps wr w2 (fun w3 => isOpt w3 o (.slice A n c))) (hw : w.heap.size ≤ wr.heap.size) (hv : ∀ g, v.ownBlock = some g → g < wr.heap.size) (h2 : Row e size (But w2 v) w2 w3 v2 m ys) : ElK w w3 v2 o (.slice A n c) := by
  refine ⟨⟨A, n, c, rfl⟩, fun w4 h4 => h w4 fun q h1 h3 => ?_⟩
  have hq : But w2 v q := ⟨h3, fun e => by have := hv q e; omega⟩
  exact (h4 q (by omega) (h2.lt q hq) fun e => h2.off q e hq).trans (h2.kept q hq)

/-- elements by elements -/
def Els (w wr : World) (v : Value) (l : List (Bool × List Int)) (xs : List Value) : Prop := xs.length = l.length ∧ ∀ j (h : j < l.length), ∃ u, xs[j]? = some u ∧ ElK w wr v (optV l[j]) u
theorem Els.snoc {w wr w2 w3 : World} {v v2 : Value} {l : List (Bool × List Int)} {xs ys : List Value} {x : Bool × List Int} {u : Value} {e size m : Nat} (h : Els w wr v l xs) (hx : Ext wr w2) (h2 : Row e size (But w2 v) w2 w3 v2 m ys) (hu : ElK w w3 v2 (optV x) u) : Els w w3 v2 (l ++ [x]) (xs ++ [u]) := by
  refine ⟨by simp [h.1], fun j hj => ?_⟩
  rcases Nat.lt_or_ge j l.length with hl | hl
  · obtain ⟨u', h1, h3⟩ := h.2 j hl
    refine ⟨u', by rw [List.getElem?_append_left (by rw [h.1]; exact hl)]; exact h1, ?_⟩
    rw [List.getElem_append_left hl]
    exact h3.step hx h2
  · have hj2 : j = l.length := by simp at hj; omega
    subst hj2
    refine ⟨u, by rw [List.getElem?_append_right (by rw [h.1]; omega), h.1]; simp, by simpa using hu⟩
theorem Els.rd {w wr : World} {v : Value} {l : List (Bool × List Int)} {xs : List Value} (h : Els w wr v l xs) (hb : Row 26 1 (Lt w.heap.size) w wr v l.length xs) : Keeps w wr (fun w3 => Rd1 isOpt w3 v (l.map optV)) := by
  intro w3 h3
  have hown := own_stay hb.own hb.off h3
  rcases hown.2 with ⟨rfl, hn⟩ | ⟨g, cap, cur, rfl, _, hg, hnc, hcm, hcs, ht⟩
  · exact ⟨none, 0, by simp [hn], by simp [hn], by unfold maxLen; omega, fun h0 => by simp at h0; omega⟩
  · refine ⟨some ⟨g, 0, none⟩, cap, by simp, by simpa using hnc, hcm, fun _ => ⟨g, 0, rfl, fun j hj => ?_⟩⟩
    have hj' : j < l.length := by simpa using hj
    obtain ⟨u, h1, h2⟩ := h.2 j hj'
    refine ⟨u, ?_, ?_⟩
    · rw [← ht, List.getElem?_take] at h1
      split at h1
      · refine (cell_of_row _ _ _ _ _ _ hg).trans ?_
        rw [Nat.zero_add, ← Array.getElem?_toList]
        exact h1
      · cases h1
    · simpa using h2.2 w3 fun q a1 a2 _ => h3 q a1 a2

set_option maxRecDepth 100000 in
set_option maxHeartbeats 1000000 in
theorem bytesOfK (l : List (Bool × List Int)) (A_l : Option Addr) (c_l : Nat) (w : World) (hr : RdM 2 isVal w (.slice A_l l.length c_l) l) (hl : l.length ≤ 1000) (hg : ∀ y ∈ l, y.2.length ≤ 2000) :
    Calls Tryz.prog 56 #[.slice A_l l.length c_l] w (GaveR (fun v w => Rd1 isOpt w v (l.map optV)) l.length w) := by
  have HR := Lib.hid hr
  clear hr
  go_enter Tryz.func56, Tryz.ntmps56
  go_wp2
  go_loopw [3, 8] (fun v i wr => ∃ k : Nat, k ≤ l.length ∧ i = .int .i64 k ∧ ∃ xs, Hid (Row 26 1 (Lt w.heap.size) w wr v k xs ∧ Els w wr v (l.take k) xs)) (fun _ i _ => l.length - (intOf i).toNat)
  case atStart => exact ⟨0, Nat.zero_le _, rfl, [], Lib.hid ⟨Row.start 26 1 w, by simp, fun j h => by simp at h⟩⟩
  case round =>
    obtain ⟨k, hk1, rfl, xs, HS⟩ := hrel
    obtain ⟨Av, cv, hv⟩ := own_slice HS.out.1.own
    subst hv
    by_cases hlt : k < l.length
    · obtain ⟨b1, o1, f, rfl, hcell, hv⟩ := HR.out.at_ hlt
      have hgx := hg _ (List.getElem_mem hlt)
      obtain ⟨⟨x1, x2⟩, hx⟩ : ∃ x, x = l[k] := ⟨_, rfl⟩
      rw [← hx] at hv hgx
      replace hgx : x2.length ≤ 2000 := hgx
      have hf0 : f 0 = .bool x1 := hv.1
      obtain ⟨Ax, cx, hf1, hrd⟩ : ∃ A c, f 1 = .slice A x2.length c ∧ RdB w (.slice A x2.length c) x2 := hv.2
      have hd0 := HS.out.1.bel.cell (hcell 0 (by omega))
      rw [hf0, Nat.add_zero] at hd0
      have hd1 := HS.out.1.bel.cell (hcell 1 (by omega))
      rw [hf1] at hd1
      have HX := Lib.hid hx
      have HE1 := Lib.hid (ext_alloc wr (.cells #[.bool x1, .slice Ax x2.length cx] 58))
      have HD := Lib.hid (hrd.ext (HS.out.1.bel.trans HE1.out))
      clear hx hrd hf0 hf1 hcell hv
      go_wp2_with (first | (go_at_call 66; refine (oneK (x1, x2) Ax cx _ HD.out (by simp only []; omega)).mono ?_; rintro e w2 ⟨A2, n2, c2, rfl, hx2, hk2⟩; have HX2 := Lib.hid hx2; have HK2 := Lib.hid hk2; clear hx2 hk2; have HB2 := Lib.hid ((HS.out.1.ext (HE1.out.trans HX2.out)).but)) | (at_builtin; refine ap_built rfl (.tmp 12) (.tmp 15) 104 26 1 24 _ _ _ rfl Tryz.underlying104 info26 rfl (by decide) rfl rfl HB2.out rfl rfl (List.all_eq_true.1 rfl) (by omega) (by decide) ?_; intro v3 w3 hn; obtain ⟨A3, c3, hv3⟩ := own_slice hn.own; subst hv3; have HN := Lib.hid hn; clear hn))
      go_roundw
      case rel =>
        refine ⟨k + 1, by omega, by go_num, _, Lib.hid ⟨(HS.out.1.ext (HE1.out.trans HX2.out)).unbut HN.out, ?_⟩⟩
        rw [List.take_succ_eq_append_getElem hlt, ← HX.out]
        refine HS.out.2.snoc (HE1.out.trans HX2.out) HN.out (ElK.new HK2.out (HS.out.1.bel.trans HE1.out).size ?_ HN.out)
        intro g hg
        exact Nat.lt_of_lt_of_le (HS.out.1.own.lt g hg).2 HE1.out.size
      case measure => simp only [intOf]; omega
    · obtain rfl : k = l.length := by omega
      go_wp2
      go_ret
      have h1 := HS.out
      rw [List.take_length] at h1
      exact ⟨_, _, rfl, h1.1.bel, h1.2.rd h1.1⟩

set_option maxRecDepth 100000 in
theorem resultK (x : Int) (A : Option Addr) (c : Nat) (w : World) (h : RdI .i64 w (.slice A 1 c) [x]) (hx : 0 ≤ x ∧ x < 32768) : Calls Tryz.prog 58 #[.slice A 1 c] w (fun e w' => e = .returned (.int .u16 x) ∧ w' = w) := by
  obtain ⟨b1, o1, rfl, hcell⟩ := RdI.at_ h (k := 0) (by simp)
  have hwr : IntKind.u16.wrap x = x := by rw [IntKind.wrap_u16]; omega
  have hwr2 : x % 65536 = x := by omega
  simp only [List.getD_cons_zero, Nat.add_zero] at hcell
  go_enter Tryz.func58, Tryz.ntmps58
  go_wp2
  go_ret
  exact ⟨rfl, rfl⟩
end Go.Proofs.YtdenjanihikolaaGreatDoor

