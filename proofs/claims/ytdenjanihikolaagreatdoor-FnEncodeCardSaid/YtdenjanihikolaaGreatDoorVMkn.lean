/- The answer's columns, copied. -/
import Derived.Test.YtdenjanihikolaaGreatDoorVMkm
import Derived.Test.YtdenjanihikolaaGreatDoorVMkl
namespace Go.Proofs.YtdenjanihikolaaGreatDoor
open Go.RowKit Og
set_option linter.unusedVariables false
set_option linter.unusedSimpArgs false

theorem wrap_i16 (x : Int) : IntKind.i16.wrap x = (x + 32768) % 65536 - 32768 := by unfold IntKind.wrap; simp [IntKind.bits, IntKind.signed]; omega
theorem ColJ.step29z {bk : Nat} {W0 w : World} {v z z2 : Value} {n : Nat} {xs : List Value} {x : Sf} {L : Nat → Bool} {vs : Nat → Value} (h : ColJ bk W0 v n xs x L vs w) (e26 : L 26 = true) (hbk : w.heap[bk]? = some (.cells #[z] 236 (0, 0))) (hW : bk < W0.heap.size) (u : Value) (hz : vs 26 = z2) : ColJ bk W0 v n xs x (updB L 29) (upd vs 29 u) (w.setCell ⟨bk, 0, none⟩ z2) := by
  subst hz; exact h.step29 e26 hbk hW u
theorem ExtBut.cell {b : Nat} {w w' : World} (h : ExtBut b w w') {g j : Nat} {v : Value} (hc : w.cell? ⟨g, j, none⟩ = some v) (hne : g ≠ b) : w'.cell? ⟨g, j, none⟩ = some v :=
  (cell_of_heap (h.block g (lt_of_cell hc) hne) j).trans hc

set_option maxRecDepth 100000 in
set_option maxHeartbeats 2000000 in
theorem ans57 (a b : ByteArray) (n : Int) (v4 v5 v6 v7 v8 v9 v10 v11 : Value) (fs : List Sf) (A12 : Option Addr) (c12 : Nat) (w wa : World) (bk : Nat) (HL : Hid (RdM 7 isSf w (.slice A12 fs.length c12) fs)) (hlf : fs.length ≤ 20) (hgf : ∀ y ∈ fs, y.name.size ≤ 200 ∧ 0 ≤ y.tab ∧ y.tab < 4294967296 ∧ 0 ≤ y.typ ∧ y.typ < 4294967296 ∧ 0 ≤ y.col ∧ y.col ≤ 32767 ∧ -32768 ≤ y.siz ∧ y.siz ≤ 32767 ∧ -2147483648 ≤ y.mdf ∧ y.mdf < 2147483648 ∧ 0 ≤ y.fmt ∧ y.fmt ≤ 1) (hx : Ext w wa) (hbk : w.heap.size ≤ bk) (hblk : wa.heap[bk]? = some (.cells #[.slice none 0 0] 236 (0, 0))) (R : List Int) (HR : Hid (R = msgB 84 (b16 fs.length ++ (fs.map toFd).flatMap fdB))) :
    Calls Tryz.prog 60 #[.iface 233 (.pointer (some ⟨bk, 0, none⟩)), .agg #[.int .i64 57, .string a, .string b, .int .u32 n, v4, v5, v6, v7, v8, v9, v10, v11, .slice A12 fs.length c12], .bool true] wa (Ans 233 333 bk w R) := by
  have HG := Lib.hid hgf
  clear hgf
  have n185 := no185 233 (by decide)
  have n189 := no189 233 (by decide)
  have n191 := no191 233 (by decide)
  have n194 := no194 233 (by decide)
  have n196 := no196 233 (by decide)
  have n198 := no198 233 (by decide)
  have n200 := no200 233 (by decide)
  have n203 := no203 233 (by decide)
  have n206 := no206 233 (by decide)
  have n208 := no208 233 (by decide)
  have n210 := no210 233 (by decide)
  have n213 := no213 233 (by decide)
  have n217 := no217 233 (by decide)
  have n219 := no219 233 (by decide)
  have n222 := no222 233 (by decide)
  have n225 := no225 233 (by decide)
  have n228 := no228 233 (by decide)
  have n230 := no230 233 (by decide)
  have y233 := yes233
  obtain ⟨W2, hW2⟩ : ∃ W2, W2 = wa.alloc (.cells #[.int .i64 57, .string a, .string b, .int .u32 n, v4, v5, v6, v7, v8, v9, v10, v11, .slice A12 fs.length c12] 31) := ⟨_, rfl⟩
  have X1 : Hid (Ext wa W2) := Lib.hid (by rw [hW2]; exact ext_alloc wa _)
  have XW : Hid (Ext w W2) := Lib.hid (hx.trans X1.out)
  have HB : Hid (W2.heap[bk]? = some (.cells #[.slice none 0 0] 236 (0, 0))) := Lib.hid ((X1.out.block _ (lt_of_block hblk)).trans hblk)
  have hO : W2.heap[wa.heap.size]? = some (.cells #[.int .i64 57, .string a, .string b, .int .u32 n, v4, v5, v6, v7, v8, v9, v10, v11, .slice A12 fs.length c12] 31 (0, 0)) := by rw [hW2]; exact heap_alloc_new _ _
  have hX12 := cell_slot hO 12 (.slice A12 fs.length c12) rfl
  have HBK := Lib.hid hbk
  clear hx hbk hblk hO
  go_enter Tryz.func60, Tryz.ntmps60
  go_wp2_with (first | (go_at_call 54; rw [← hW2]; clear hW2; refine (let54 n _).mono ?_; rintro e w54 ⟨rfl, hw54⟩; rw [hw54]; clear hw54))
  go_loopw [240] (fun i wr => ∃ k : Nat, k ≤ fs.length ∧ i = .int .i64 k ∧ ∃ v xs, Hid (Cols bk W2 wr v (fs.take k) xs)) (fun i _ => fs.length - (intOf i).toNat)
  case atStart => exact ⟨0, Nat.zero_le _, rfl, _, _, Lib.hid (Cols.start HB.out)⟩
  case round =>
    obtain ⟨k, hk1, rfl, v, xs, HS⟩ := hrel
    obtain ⟨Av, cv, hv⟩ := own_slice HS.out.row.own
    rw [show (fs.take k).length = k by rw [List.length_take]; omega] at hv
    subst hv
    by_cases hlt : k < fs.length
    · obtain ⟨b1, o1, f, rfl, hcell, hv⟩ := HL.out.at_ hlt
      have hgx := HG.out _ (List.getElem_mem hlt)
      obtain ⟨x, hx⟩ : ∃ x, x = fs[k] := ⟨_, rfl⟩
      rw [← hx] at hv hgx
      have HX := Lib.hid hx
      obtain ⟨hf0, hf1, hf2, hf3, hf4, hf5, hf6⟩ := hv
      have HBN : Hid (b1 ≠ bk) := Lib.hid (by have := lt_of_cell (hcell 0 (by omega)); have := HBK.out; omega)
      have hd0 := (HS.out.extBut.cell (XW.out.cell (hcell 0 (by omega))) HBN.out)
      rw [hf0, Nat.add_zero] at hd0
      have hd1 := (HS.out.extBut.cell (XW.out.cell (hcell 1 (by omega))) HBN.out)
      rw [hf1] at hd1
      have hd2 := (HS.out.extBut.cell (XW.out.cell (hcell 2 (by omega))) HBN.out)
      rw [hf2] at hd2
      have hd3 := (HS.out.extBut.cell (XW.out.cell (hcell 3 (by omega))) HBN.out)
      rw [hf3] at hd3
      have hd4 := (HS.out.extBut.cell (XW.out.cell (hcell 4 (by omega))) HBN.out)
      rw [hf4] at hd4
      have hd5 := (HS.out.extBut.cell (XW.out.cell (hcell 5 (by omega))) HBN.out)
      rw [hf5] at hd5
      have hd6 := (HS.out.extBut.cell (XW.out.cell (hcell 6 (by omega))) HBN.out)
      rw [hf6] at hd6
      have HKK : Hid ((fs.take k).length = k) := Lib.hid (by rw [List.length_take]; omega)
      have HBL : Hid (bk < (wr.alloc (.cells #[.string x.name, .int .u32 x.tab, .int .i64 x.col, .int .u32 x.typ, .int .i64 x.siz, .int .i64 x.mdf, .int .i64 x.fmt] 62)).heap.size) := Lib.hid (Nat.lt_of_lt_of_le (lt_of_block HS.out.blk) (ext_alloc wr _).size)
      have HB0 : Hid ((wr.alloc (.cells #[.string x.name, .int .u32 x.tab, .int .i64 x.col, .int .u32 x.typ, .int .i64 x.siz, .int .i64 x.mdf, .int .i64 x.fmt] 62)).heap[bk]? = some (.cells #[.slice Av k cv] 236 (0, 0))) := Lib.hid (((ext_alloc wr _).block bk (lt_of_block HS.out.blk)).trans HS.out.blk)
      have HXB : Hid ((wr.alloc (.cells #[.string x.name, .int .u32 x.tab, .int .i64 x.col, .int .u32 x.typ, .int .i64 x.siz, .int .i64 x.mdf, .int .i64 x.fmt] 62)).heap[wr.heap.size]? = some (.cells #[.string x.name, .int .u32 x.tab, .int .i64 x.col, .int .u32 x.typ, .int .i64 x.siz, .int .i64 x.mdf, .int .i64 x.fmt] 62 (0, 0))) := Lib.hid (heap_alloc_new _ _)
      have HV : Hid (∀ g, (.slice Av k cv : Value).ownBlock = some g → g < (wr.alloc (.cells #[.string x.name, .int .u32 x.tab, .int .i64 x.col, .int .u32 x.typ, .int .i64 x.siz, .int .i64 x.mdf, .int .i64 x.fmt] 62)).heap.size) := Lib.hid (fun g hg => Nat.lt_of_lt_of_le (HS.out.row.own.lt g hg).2 (ext_alloc wr _).size)
      have HOF : Hid ((.slice Av k cv : Value).ownBlock ≠ some bk) := Lib.hid (fun e => HS.out.off bk e rfl)
      have HBX : Hid (But (wr.alloc (.cells #[.string x.name, .int .u32 x.tab, .int .i64 x.col, .int .u32 x.typ, .int .i64 x.siz, .int .i64 x.mdf, .int .i64 x.fmt] 62)) (.slice Av k cv) wr.heap.size ∧ wr.heap.size ≠ bk) := Lib.hid ⟨⟨lt_of_block HXB.out, fun e => by have := (HS.out.row.own.lt _ e).2; omega⟩, fun e => by have := lt_of_block HS.out.blk; omega⟩
      have HNS : Hid (x.name.size ≤ maxLen) := Lib.hid (by have := hgx.1; unfold maxLen; omega)
      have hw1 : IntKind.u16.wrap x.col = x.col := by rw [IntKind.wrap_u16]; omega
      have hw2 : x.col % 65536 = x.col := by omega
      have hw3 : IntKind.i16.wrap x.siz = x.siz := by rw [wrap_i16]; omega
      have hw4 : IntKind.i32.wrap x.mdf = x.mdf := by rw [IntKind.wrap_i32]; omega
      have hw5 : IntKind.i16.wrap x.fmt = x.fmt := by rw [wrap_i16]; omega
      clear hx hcell hf0 hf1 hf2 hf3 hf4 hf5 hf6 hgx hX12
      go_wp2
      refine wp_region_ogL (J := ColJ bk (wr.alloc (.cells #[.string x.name, .int .u32 x.tab, .int .i64 x.col, .int .u32 x.typ, .int .i64 x.siz, .int .i64 x.mdf, .int .i64 x.fmt] 62)) (.slice Av k cv) (fs.take k).length xs x) (R := fun _ _ => True) [Sp.eq _ (.pointer (some ⟨bk, 0, none⟩)), Sp.eq _ (.pointer (some ⟨bk, 0, none⟩)), Sp.eq _ (.pointer (some ⟨bk, 0, none⟩)), Sp.eq _ (.pointer (some ⟨bk, 0, none⟩)), Sp.eq _ (.slice Av k cv), Sp.eq _ (.pointer (some ⟨wr.heap.size, 0, none⟩)), Sp.eq _ (.string x.name), Sp.any _, Sp.eq _ (.pointer (some ⟨wr.heap.size, 1, none⟩)), Sp.eq _ (.int .u32 x.tab), Sp.eq _ (.pointer (some ⟨wr.heap.size, 2, none⟩)), Sp.eq _ (.int .i64 x.col), Sp.eq _ (.int .u16 x.col), Sp.eq _ (.pointer (some ⟨wr.heap.size, 3, none⟩)), Sp.eq _ (.int .u32 x.typ), Sp.eq _ (.pointer (some ⟨wr.heap.size, 4, none⟩)), Sp.eq _ (.int .i64 x.siz), Sp.eq _ (.int .i16 x.siz), Sp.eq _ (.pointer (some ⟨wr.heap.size, 5, none⟩)), Sp.eq _ (.int .i64 x.mdf), Sp.eq _ (.int .i32 x.mdf), Sp.eq _ (.pointer (some ⟨wr.heap.size, 6, none⟩)), Sp.eq _ (.int .i64 x.fmt), Sp.eq _ (.int .i16 x.fmt), Sp.any _, Sp.any _, Sp.any _, Sp.eq _ (.pointer (some ⟨bk, 0, none⟩)), Sp.eq _ (.pointer (some ⟨bk, 0, none⟩)), Sp.any _] (by kernel_rfl) (by kernel_rfl) ?_ ?_ ?_
      · exact ColJ.start bk (wr.alloc (.cells #[.string x.name, .int .u32 x.tab, .int .i64 x.col, .int .u32 x.typ, .int .i64 x.siz, .int .i64 x.mdf, .int .i64 x.fmt] 62)) (.slice Av k cv) (fs.take k).length xs x _
      · refine ⟨?_, ?_, ?_, ?_, ?_, ?_, ?_, ?_, ?_, ?_, ?_, ?_, ?_, ?_, ?_, ?_, ?_, ?_, ?_, ?_, ?_, ?_, ?_, ?_, ?_, ?_, ?_, ?_, ?_, ?_, trivial⟩
        · intro vs w1 L hLi hd hdt hJ hp
          have HJ := Lib.hid hJ
          clear hp hd hdt hLi hJ
          simp only [putAll, Nat.reduceAdd]
          go_wp2
          exact ⟨rfl, HJ.out.keep 0 _ (by decide) (by decide) (by decide) (by decide) (by decide), trivial, rfl⟩
        · intro vs w1 L hLi hd hdt hJ hp
          have HJ := Lib.hid hJ
          clear hp hd hdt hLi hJ
          simp only [putAll, Nat.reduceAdd]
          go_wp2
          exact ⟨rfl, HJ.out.keep 1 _ (by decide) (by decide) (by decide) (by decide) (by decide), trivial, rfl⟩
        · intro vs w1 L hLi hd hdt hJ hp
          have q1 : vs 1 = .pointer (some ⟨bk, 0, none⟩) := hp 1 (by decide)
          have HJ := Lib.hid hJ
          clear hp hd hdt hLi hJ
          simp only [putAll, Nat.reduceAdd]
          go_wp2
          exact ⟨rfl, HJ.out.keep 2 _ (by decide) (by decide) (by decide) (by decide) (by decide), trivial, rfl⟩
        · intro vs w1 L hLi hd hdt hJ hp
          have q2 : vs 2 = .pointer (some ⟨bk, 0, none⟩) := hp 2 (by decide)
          have HJ := Lib.hid hJ
          clear hp hd hdt hLi hJ
          simp only [putAll, Nat.reduceAdd]
          go_wp2
          exact ⟨rfl, HJ.out.keep 3 _ (by decide) (by decide) (by decide) (by decide) (by decide), trivial, rfl⟩
        · intro vs w1 L hLi hd hdt hJ hp
          have q3 : vs 3 = .pointer (some ⟨bk, 0, none⟩) := hp 3 (by decide)
          have HJ := Lib.hid hJ
          have hX := hJ.A (hdt 26 (by decide))
          have hq := cell_slot ((hX.block bk HBL.out).trans HB0.out) 0 (.slice Av k cv) rfl
          clear hX
          clear hp hd hdt hLi hJ
          simp only [putAll, Nat.reduceAdd]
          go_wp2
          exact ⟨rfl, HJ.out.keep 4 _ (by decide) (by decide) (by decide) (by decide) (by decide), trivial, rfl⟩
        · intro vs w1 L hLi hd hdt hJ hp
          have HJ := Lib.hid hJ
          clear hp hd hdt hLi hJ
          simp only [putAll, Nat.reduceAdd]
          go_wp2
          exact ⟨rfl, HJ.out.keep 5 _ (by decide) (by decide) (by decide) (by decide) (by decide), trivial, rfl⟩
        · intro vs w1 L hLi hd hdt hJ hp
          have q5 : vs 5 = .pointer (some ⟨wr.heap.size, 0, none⟩) := hp 5 (by decide)
          have HJ := Lib.hid hJ
          have hq := cell_slot ((hJ.box HBX.out.1 HBX.out.2).trans HXB.out) 0 (.string x.name) rfl
          clear hp hd hdt hLi hJ
          simp only [putAll, Nat.reduceAdd]
          go_wp2
          exact ⟨rfl, HJ.out.keep 6 _ (by decide) (by decide) (by decide) (by decide) (by decide), trivial, rfl⟩
        · intro vs w1 L hLi hd hdt hJ hp
          have q6 : vs 6 = .string x.name := hp 6 (by decide)
          have HJ := Lib.hid hJ
          have H24 := Lib.hid (hdt 24 (by decide))
          clear hp hd hdt hLi hJ
          simp only [putAll, Nat.reduceAdd]
          have hrb := run_bytes x.name w1
          go_wp2
          refine ⟨rfl, ?_, trivial, trivial⟩
          exact HJ.out.step7 H24.out (ext_bytes w1 x.name) _ HBL.out (str_keeps w1 x.name HNS.out) (by rw [sby_length]; rfl) HV.out
        · intro vs w1 L hLi hd hdt hJ hp
          have HJ := Lib.hid hJ
          clear hp hd hdt hLi hJ
          simp only [putAll, Nat.reduceAdd]
          go_wp2
          exact ⟨rfl, HJ.out.keep 8 _ (by decide) (by decide) (by decide) (by decide) (by decide), trivial, rfl⟩
        · intro vs w1 L hLi hd hdt hJ hp
          have q8 : vs 8 = .pointer (some ⟨wr.heap.size, 1, none⟩) := hp 8 (by decide)
          have HJ := Lib.hid hJ
          have hq := cell_slot ((hJ.box HBX.out.1 HBX.out.2).trans HXB.out) 1 (.int .u32 x.tab) rfl
          clear hp hd hdt hLi hJ
          simp only [putAll, Nat.reduceAdd]
          go_wp2
          exact ⟨rfl, HJ.out.keep 9 _ (by decide) (by decide) (by decide) (by decide) (by decide), trivial, rfl⟩
        · intro vs w1 L hLi hd hdt hJ hp
          have HJ := Lib.hid hJ
          clear hp hd hdt hLi hJ
          simp only [putAll, Nat.reduceAdd]
          go_wp2
          exact ⟨rfl, HJ.out.keep 10 _ (by decide) (by decide) (by decide) (by decide) (by decide), trivial, rfl⟩
        · intro vs w1 L hLi hd hdt hJ hp
          have q10 : vs 10 = .pointer (some ⟨wr.heap.size, 2, none⟩) := hp 10 (by decide)
          have HJ := Lib.hid hJ
          have hq := cell_slot ((hJ.box HBX.out.1 HBX.out.2).trans HXB.out) 2 (.int .i64 x.col) rfl
          clear hp hd hdt hLi hJ
          simp only [putAll, Nat.reduceAdd]
          go_wp2
          exact ⟨rfl, HJ.out.keep 11 _ (by decide) (by decide) (by decide) (by decide) (by decide), trivial, rfl⟩
        · intro vs w1 L hLi hd hdt hJ hp
          have q11 : vs 11 = .int .i64 x.col := hp 11 (by decide)
          have HJ := Lib.hid hJ
          clear hp hd hdt hLi hJ
          simp only [putAll, Nat.reduceAdd]
          go_wp2
          exact ⟨rfl, HJ.out.keep 12 _ (by decide) (by decide) (by decide) (by decide) (by decide), trivial, rfl⟩
        · intro vs w1 L hLi hd hdt hJ hp
          have HJ := Lib.hid hJ
          clear hp hd hdt hLi hJ
          simp only [putAll, Nat.reduceAdd]
          go_wp2
          exact ⟨rfl, HJ.out.keep 13 _ (by decide) (by decide) (by decide) (by decide) (by decide), trivial, rfl⟩
        · intro vs w1 L hLi hd hdt hJ hp
          have q13 : vs 13 = .pointer (some ⟨wr.heap.size, 3, none⟩) := hp 13 (by decide)
          have HJ := Lib.hid hJ
          have hq := cell_slot ((hJ.box HBX.out.1 HBX.out.2).trans HXB.out) 3 (.int .u32 x.typ) rfl
          clear hp hd hdt hLi hJ
          simp only [putAll, Nat.reduceAdd]
          go_wp2
          exact ⟨rfl, HJ.out.keep 14 _ (by decide) (by decide) (by decide) (by decide) (by decide), trivial, rfl⟩
        · intro vs w1 L hLi hd hdt hJ hp
          have HJ := Lib.hid hJ
          clear hp hd hdt hLi hJ
          simp only [putAll, Nat.reduceAdd]
          go_wp2
          exact ⟨rfl, HJ.out.keep 15 _ (by decide) (by decide) (by decide) (by decide) (by decide), trivial, rfl⟩
        · intro vs w1 L hLi hd hdt hJ hp
          have q15 : vs 15 = .pointer (some ⟨wr.heap.size, 4, none⟩) := hp 15 (by decide)
          have HJ := Lib.hid hJ
          have hq := cell_slot ((hJ.box HBX.out.1 HBX.out.2).trans HXB.out) 4 (.int .i64 x.siz) rfl
          clear hp hd hdt hLi hJ
          simp only [putAll, Nat.reduceAdd]
          go_wp2
          exact ⟨rfl, HJ.out.keep 16 _ (by decide) (by decide) (by decide) (by decide) (by decide), trivial, rfl⟩
        · intro vs w1 L hLi hd hdt hJ hp
          have q16 : vs 16 = .int .i64 x.siz := hp 16 (by decide)
          have HJ := Lib.hid hJ
          clear hp hd hdt hLi hJ
          simp only [putAll, Nat.reduceAdd]
          go_wp2
          exact ⟨rfl, HJ.out.keep 17 _ (by decide) (by decide) (by decide) (by decide) (by decide), trivial, rfl⟩
        · intro vs w1 L hLi hd hdt hJ hp
          have HJ := Lib.hid hJ
          clear hp hd hdt hLi hJ
          simp only [putAll, Nat.reduceAdd]
          go_wp2
          exact ⟨rfl, HJ.out.keep 18 _ (by decide) (by decide) (by decide) (by decide) (by decide), trivial, rfl⟩
        · intro vs w1 L hLi hd hdt hJ hp
          have q18 : vs 18 = .pointer (some ⟨wr.heap.size, 5, none⟩) := hp 18 (by decide)
          have HJ := Lib.hid hJ
          have hq := cell_slot ((hJ.box HBX.out.1 HBX.out.2).trans HXB.out) 5 (.int .i64 x.mdf) rfl
          clear hp hd hdt hLi hJ
          simp only [putAll, Nat.reduceAdd]
          go_wp2
          exact ⟨rfl, HJ.out.keep 19 _ (by decide) (by decide) (by decide) (by decide) (by decide), trivial, rfl⟩
        · intro vs w1 L hLi hd hdt hJ hp
          have q19 : vs 19 = .int .i64 x.mdf := hp 19 (by decide)
          have HJ := Lib.hid hJ
          clear hp hd hdt hLi hJ
          simp only [putAll, Nat.reduceAdd]
          go_wp2
          exact ⟨rfl, HJ.out.keep 20 _ (by decide) (by decide) (by decide) (by decide) (by decide), trivial, rfl⟩
        · intro vs w1 L hLi hd hdt hJ hp
          have HJ := Lib.hid hJ
          clear hp hd hdt hLi hJ
          simp only [putAll, Nat.reduceAdd]
          go_wp2
          exact ⟨rfl, HJ.out.keep 21 _ (by decide) (by decide) (by decide) (by decide) (by decide), trivial, rfl⟩
        · intro vs w1 L hLi hd hdt hJ hp
          have q21 : vs 21 = .pointer (some ⟨wr.heap.size, 6, none⟩) := hp 21 (by decide)
          have HJ := Lib.hid hJ
          have hq := cell_slot ((hJ.box HBX.out.1 HBX.out.2).trans HXB.out) 6 (.int .i64 x.fmt) rfl
          clear hp hd hdt hLi hJ
          simp only [putAll, Nat.reduceAdd]
          go_wp2
          exact ⟨rfl, HJ.out.keep 22 _ (by decide) (by decide) (by decide) (by decide) (by decide), trivial, rfl⟩
        · intro vs w1 L hLi hd hdt hJ hp
          have q22 : vs 22 = .int .i64 x.fmt := hp 22 (by decide)
          have HJ := Lib.hid hJ
          clear hp hd hdt hLi hJ
          simp only [putAll, Nat.reduceAdd]
          go_wp2
          exact ⟨rfl, HJ.out.keep 23 _ (by decide) (by decide) (by decide) (by decide) (by decide), trivial, rfl⟩
        · intro vs w1 L hLi hd hdt hJ hp
          have q9 : vs 9 = .int .u32 x.tab := hp 9 (by decide)
          have q12 : vs 12 = .int .u16 x.col := hp 12 (by decide)
          have q14 : vs 14 = .int .u32 x.typ := hp 14 (by decide)
          have q17 : vs 17 = .int .i16 x.siz := hp 17 (by decide)
          have q20 : vs 20 = .int .i32 x.mdf := hp 20 (by decide)
          have q23 : vs 23 = .int .i16 x.fmt := hp 23 (by decide)
          have h7 := hd 7 (by decide)
          have h25 := hdt 25 (by decide)
          have H7 := Lib.hid h7
          have H25 := Lib.hid h25
          have h7s := (hJ.B h7 (hJ.L25 h25)).1
          rw [sby_length] at h7s
          obtain ⟨S7, hS7⟩ : ∃ y, y = slA (vs 7) := ⟨_, rfl⟩
          obtain ⟨T7, hT7⟩ : ∃ y, y = slC (vs 7) := ⟨_, rfl⟩
          have HS7 := Lib.hid hS7
          have HT7 := Lib.hid hT7
          rw [← hS7, ← hT7] at h7s
          clear hS7 hT7 h7 h25
          have HJ := Lib.hid hJ
          clear hp hd hdt hLi hJ
          simp only [putAll, Nat.reduceAdd]
          rw [h7s]
          go_wp2
          refine ⟨rfl, ?_, trivial, trivial⟩
          exact HJ.out.step24 H7.out H25.out _ (by unfold cells7; rw [← HS7.out, ← HT7.out]; rfl)
        · intro vs w1 L hLi hd hdt hJ hp
          have h24 := hd 24 (by decide)
          have H24 := Lib.hid h24
          have H26 := Lib.hid (hdt 26 (by decide))
          have q24 := hJ.C h24
          unfold cells7 at q24
          have HJ := Lib.hid hJ
          clear h24
          clear hp hd hdt hLi hJ
          simp only [putAll, Nat.reduceAdd]
          rw [q24]
          go_wp2
          refine ⟨rfl, ?_, trivial, trivial⟩
          exact HJ.out.step25 H24.out H26.out HBL.out
        · intro vs w1 L hLi hd hdt hJ hp
          have q4 : vs 4 = .slice Av k cv := hp 4 (by decide)
          have h25 := hd 25 (by decide)
          have H25 := Lib.hid h25
          have HD := Lib.hid (hJ.D h25 hLi)
          have HX1 := Lib.hid (hJ.A hLi)
          have HLi := Lib.hid hLi
          have HR := Lib.hid (((HS.out.row.ext (ext_alloc wr _)).ext HX1.out).but)
          have HJ := Lib.hid hJ
          clear h25
          clear hp hd hdt hLi hJ
          simp only [putAll, Nat.reduceAdd]
          refine ap_one rfl (.tmp 248) (.tmp 269) 234 249 7 48 _ rfl Tryz.underlying234 info249 rfl (by decide) (v := .slice Av k cv) (b := slB (vs 25)) (c := 1) (ys := (cells7 x (vs 7)).toList) (by simp only [evp_none, ne_eq, Nat.reduceEqDiff, not_false_eq_true, evp_ne]; rw [evp_same _ _ _ (by simp [evp_size])]; exact q4) HR.out (by simp only [evp_none, ne_eq, Nat.reduceEqDiff, not_false_eq_true, evp_ne]; rw [evp_same _ _ _ (by simp [evp_size])]; exact HD.out.1) rfl (fun j u hj => (cell_of_row _ _ _ _ _ _ HD.out.2).trans (by rw [← Array.getElem?_toList]; exact hj)) (List.all_eq_true.1 rfl) (by have := HKK.out; omega) (by decide) ?_
          intro v2 w2 hn
          refine ⟨rfl, ?_, trivial, trivial⟩
          rw [slot_put _ _ _ (by simp [evp_size])]
          exact HJ.out.step26 H25.out HLi.out HBL.out HOF.out HV.out hn
        · intro vs w1 L hLi hd hdt hJ hp
          have q0 : vs 0 = .pointer (some ⟨bk, 0, none⟩) := hp 0 (by decide)
          have q1 : vs 1 = .pointer (some ⟨bk, 0, none⟩) := hp 1 (by decide)
          have q2 : vs 2 = .pointer (some ⟨bk, 0, none⟩) := hp 2 (by decide)
          have q3 : vs 3 = .pointer (some ⟨bk, 0, none⟩) := hp 3 (by decide)
          have q4 : vs 4 = .slice Av k cv := hp 4 (by decide)
          have q5 : vs 5 = .pointer (some ⟨wr.heap.size, 0, none⟩) := hp 5 (by decide)
          have q6 : vs 6 = .string x.name := hp 6 (by decide)
          have q8 : vs 8 = .pointer (some ⟨wr.heap.size, 1, none⟩) := hp 8 (by decide)
          have q9 : vs 9 = .int .u32 x.tab := hp 9 (by decide)
          have q10 : vs 10 = .pointer (some ⟨wr.heap.size, 2, none⟩) := hp 10 (by decide)
          have q11 : vs 11 = .int .i64 x.col := hp 11 (by decide)
          have q12 : vs 12 = .int .u16 x.col := hp 12 (by decide)
          have q13 : vs 13 = .pointer (some ⟨wr.heap.size, 3, none⟩) := hp 13 (by decide)
          have q14 : vs 14 = .int .u32 x.typ := hp 14 (by decide)
          have q15 : vs 15 = .pointer (some ⟨wr.heap.size, 4, none⟩) := hp 15 (by decide)
          have q16 : vs 16 = .int .i64 x.siz := hp 16 (by decide)
          have q17 : vs 17 = .int .i16 x.siz := hp 17 (by decide)
          have q18 : vs 18 = .pointer (some ⟨wr.heap.size, 5, none⟩) := hp 18 (by decide)
          have q19 : vs 19 = .int .i64 x.mdf := hp 19 (by decide)
          have q20 : vs 20 = .int .i32 x.mdf := hp 20 (by decide)
          have q21 : vs 21 = .pointer (some ⟨wr.heap.size, 6, none⟩) := hp 21 (by decide)
          have q22 : vs 22 = .int .i64 x.fmt := hp 22 (by decide)
          have q23 : vs 23 = .int .i16 x.fmt := hp 23 (by decide)
          have HJ := Lib.hid hJ
          clear hp hd hdt hLi hJ
          simp only [putAll, Nat.reduceAdd]
          go_wp2
          exact ⟨rfl, HJ.out.keep 27 _ (by decide) (by decide) (by decide) (by decide) (by decide), trivial, rfl⟩
        · intro vs w1 L hLi hd hdt hJ hp
          have q0 : vs 0 = .pointer (some ⟨bk, 0, none⟩) := hp 0 (by decide)
          have q1 : vs 1 = .pointer (some ⟨bk, 0, none⟩) := hp 1 (by decide)
          have q2 : vs 2 = .pointer (some ⟨bk, 0, none⟩) := hp 2 (by decide)
          have q3 : vs 3 = .pointer (some ⟨bk, 0, none⟩) := hp 3 (by decide)
          have q4 : vs 4 = .slice Av k cv := hp 4 (by decide)
          have q5 : vs 5 = .pointer (some ⟨wr.heap.size, 0, none⟩) := hp 5 (by decide)
          have q6 : vs 6 = .string x.name := hp 6 (by decide)
          have q8 : vs 8 = .pointer (some ⟨wr.heap.size, 1, none⟩) := hp 8 (by decide)
          have q9 : vs 9 = .int .u32 x.tab := hp 9 (by decide)
          have q10 : vs 10 = .pointer (some ⟨wr.heap.size, 2, none⟩) := hp 10 (by decide)
          have q11 : vs 11 = .int .i64 x.col := hp 11 (by decide)
          have q12 : vs 12 = .int .u16 x.col := hp 12 (by decide)
          have q13 : vs 13 = .pointer (some ⟨wr.heap.size, 3, none⟩) := hp 13 (by decide)
          have q14 : vs 14 = .int .u32 x.typ := hp 14 (by decide)
          have q15 : vs 15 = .pointer (some ⟨wr.heap.size, 4, none⟩) := hp 15 (by decide)
          have q16 : vs 16 = .int .i64 x.siz := hp 16 (by decide)
          have q17 : vs 17 = .int .i16 x.siz := hp 17 (by decide)
          have q18 : vs 18 = .pointer (some ⟨wr.heap.size, 5, none⟩) := hp 18 (by decide)
          have q19 : vs 19 = .int .i64 x.mdf := hp 19 (by decide)
          have q20 : vs 20 = .int .i32 x.mdf := hp 20 (by decide)
          have q21 : vs 21 = .pointer (some ⟨wr.heap.size, 6, none⟩) := hp 21 (by decide)
          have q22 : vs 22 = .int .i64 x.fmt := hp 22 (by decide)
          have q23 : vs 23 = .int .i16 x.fmt := hp 23 (by decide)
          have q27 : vs 27 = .pointer (some ⟨bk, 0, none⟩) := hp 27 (by decide)
          have HJ := Lib.hid hJ
          clear hp hd hdt hLi hJ
          simp only [putAll, Nat.reduceAdd]
          go_wp2
          exact ⟨rfl, HJ.out.keep 28 _ (by decide) (by decide) (by decide) (by decide) (by decide), trivial, rfl⟩
        · intro vs w1 L hLi hd hdt hJ hp
          have q0 : vs 0 = .pointer (some ⟨bk, 0, none⟩) := hp 0 (by decide)
          have q1 : vs 1 = .pointer (some ⟨bk, 0, none⟩) := hp 1 (by decide)
          have q2 : vs 2 = .pointer (some ⟨bk, 0, none⟩) := hp 2 (by decide)
          have q3 : vs 3 = .pointer (some ⟨bk, 0, none⟩) := hp 3 (by decide)
          have q4 : vs 4 = .slice Av k cv := hp 4 (by decide)
          have q5 : vs 5 = .pointer (some ⟨wr.heap.size, 0, none⟩) := hp 5 (by decide)
          have q6 : vs 6 = .string x.name := hp 6 (by decide)
          have q8 : vs 8 = .pointer (some ⟨wr.heap.size, 1, none⟩) := hp 8 (by decide)
          have q9 : vs 9 = .int .u32 x.tab := hp 9 (by decide)
          have q10 : vs 10 = .pointer (some ⟨wr.heap.size, 2, none⟩) := hp 10 (by decide)
          have q11 : vs 11 = .int .i64 x.col := hp 11 (by decide)
          have q12 : vs 12 = .int .u16 x.col := hp 12 (by decide)
          have q13 : vs 13 = .pointer (some ⟨wr.heap.size, 3, none⟩) := hp 13 (by decide)
          have q14 : vs 14 = .int .u32 x.typ := hp 14 (by decide)
          have q15 : vs 15 = .pointer (some ⟨wr.heap.size, 4, none⟩) := hp 15 (by decide)
          have q16 : vs 16 = .int .i64 x.siz := hp 16 (by decide)
          have q17 : vs 17 = .int .i16 x.siz := hp 17 (by decide)
          have q18 : vs 18 = .pointer (some ⟨wr.heap.size, 5, none⟩) := hp 18 (by decide)
          have q19 : vs 19 = .int .i64 x.mdf := hp 19 (by decide)
          have q20 : vs 20 = .int .i32 x.mdf := hp 20 (by decide)
          have q21 : vs 21 = .pointer (some ⟨wr.heap.size, 6, none⟩) := hp 21 (by decide)
          have q22 : vs 22 = .int .i64 x.fmt := hp 22 (by decide)
          have q23 : vs 23 = .int .i16 x.fmt := hp 23 (by decide)
          have q28 : vs 28 = .pointer (some ⟨bk, 0, none⟩) := hp 28 (by decide)
          have h26 := hd 26 (by decide)
          have H26 := Lib.hid h26
          have hF := (hJ.F hLi).trans HB0.out
          have HFF := Lib.hid hF
          have hc1 := cell_slot hF 0 _ rfl
          have hf1 := free_slot hF 0
          have HJ := Lib.hid hJ
          obtain ⟨A26, c26, hv26⟩ := own_slice (hJ.E h26).1.own
          rw [HKK.out] at hv26
          have HV26 := Lib.hid hv26
          clear h26 hF hv26
          clear hp hd hdt hLi hJ
          simp only [putAll, Nat.reduceAdd]
          rw [HV26.out]
          go_wp2
          refine ⟨rfl, ?_, trivial, trivial⟩
          exact HJ.out.step29z H26.out HFF.out HBL.out _ HV26.out
      · intro vs w1 L hall hJ hp
        have q0 : vs 0 = .pointer (some ⟨bk, 0, none⟩) := hp 0 (by decide)
        have q1 : vs 1 = .pointer (some ⟨bk, 0, none⟩) := hp 1 (by decide)
        have q2 : vs 2 = .pointer (some ⟨bk, 0, none⟩) := hp 2 (by decide)
        have q3 : vs 3 = .pointer (some ⟨bk, 0, none⟩) := hp 3 (by decide)
        have q4 : vs 4 = .slice Av k cv := hp 4 (by decide)
        have q5 : vs 5 = .pointer (some ⟨wr.heap.size, 0, none⟩) := hp 5 (by decide)
        have q6 : vs 6 = .string x.name := hp 6 (by decide)
        have q8 : vs 8 = .pointer (some ⟨wr.heap.size, 1, none⟩) := hp 8 (by decide)
        have q9 : vs 9 = .int .u32 x.tab := hp 9 (by decide)
        have q10 : vs 10 = .pointer (some ⟨wr.heap.size, 2, none⟩) := hp 10 (by decide)
        have q11 : vs 11 = .int .i64 x.col := hp 11 (by decide)
        have q12 : vs 12 = .int .u16 x.col := hp 12 (by decide)
        have q13 : vs 13 = .pointer (some ⟨wr.heap.size, 3, none⟩) := hp 13 (by decide)
        have q14 : vs 14 = .int .u32 x.typ := hp 14 (by decide)
        have q15 : vs 15 = .pointer (some ⟨wr.heap.size, 4, none⟩) := hp 15 (by decide)
        have q16 : vs 16 = .int .i64 x.siz := hp 16 (by decide)
        have q17 : vs 17 = .int .i16 x.siz := hp 17 (by decide)
        have q18 : vs 18 = .pointer (some ⟨wr.heap.size, 5, none⟩) := hp 18 (by decide)
        have q19 : vs 19 = .int .i64 x.mdf := hp 19 (by decide)
        have q20 : vs 20 = .int .i32 x.mdf := hp 20 (by decide)
        have q21 : vs 21 = .pointer (some ⟨wr.heap.size, 6, none⟩) := hp 21 (by decide)
        have q22 : vs 22 = .int .i64 x.fmt := hp 22 (by decide)
        have q23 : vs 23 = .int .i16 x.fmt := hp 23 (by decide)
        have q27 : vs 27 = .pointer (some ⟨bk, 0, none⟩) := hp 27 (by decide)
        have q28 : vs 28 = .pointer (some ⟨bk, 0, none⟩) := hp 28 (by decide)
        have HJ := Lib.hid (HS.out.round hJ (hall 26 (by decide)) (hall 29 (by decide)) rfl)
        clear hJ hp hall
        simp only [putAll, Nat.reduceAdd]
        clear q0 q1 q2 q3 q4 q5 q6 q8 q9 q10 q11 q12 q13 q14 q15 q16 q17 q18 q19 q20 q21 q22 q23 q27 q28
        simp only [Exit.inBlock, Exit.then]
        try go_at_K
        simp only [Act.put, List.setIfInBounds_toArray, List.set_cons_zero, List.set_cons_succ]
        go_wp2
        go_roundw
        case rel =>
          refine ⟨k + 1, by omega, by go_num, vs 26, xs ++ (cells7 x (vs 7)).toList, Lib.hid ?_⟩
          rw [List.take_succ_eq_append_getElem hlt, ← HX.out]
          exact HJ.out
        case measure => simp only [intOf]; omega
    · obtain rfl : k = fs.length := by omega
      have h1 := HS.out
      rw [List.take_length] at h1
      have HS1 := Lib.hid h1
      clear h1
      go_wp2
      go_ret2
      refine ⟨rfl, HS1.out.extBut.ext XW.out HBK.out, ?_⟩
      exact encRowDescription bk Av cv (fs.map toFd) _ (by rw [List.length_map]; exact cell_slot HS1.out.blk 0 _ rfl) (by rw [List.length_map]; exact HS1.out.rd) (by rw [List.length_map]; omega) (by
        intro y hy
        obtain ⟨x, hx, rfl⟩ := List.mem_map.1 hy
        have hg := HG.out x hx
        refine ⟨?_, ⟨hg.2.1, hg.2.2.1⟩, ⟨hg.2.2.2.2.2.1, ?_⟩, ⟨hg.2.2.2.1, hg.2.2.2.2.1⟩⟩
        · show (sby x.name).length ≤ 300
          rw [sby_length]; omega
        · show x.col < 65536
          omega) R (by rw [List.length_map]; exact HR)
end Go.Proofs.YtdenjanihikolaaGreatDoor

