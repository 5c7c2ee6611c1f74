/- The writer of the reference, by contract. -/
import Derived.Test.YtdenjanihikolaaGreatDoorPBase
import Derived.Test.YtdenjanihikolaaGreatDoorPOg
namespace Go.Proofs.YtdenjanihikolaaGreatDoor
set_option linter.unusedVariables false
set_option linter.unusedSimpArgs false
open Go.RowKit
/-- A slice of numbers that is read. -/
def RdI (kd : IntKind) (w : World) (v : Value) (xs : List Int) : Prop :=
  ∃ A c, v = .slice A xs.length c ∧ xs.length ≤ c ∧ c ≤ maxLen ∧ (0 < xs.length → ∃ b off, A = some ⟨b, off, none⟩ ∧ ∀ j, j < xs.length → w.cell? ⟨b, off + j, none⟩ = some (.int kd (xs.getD j 0)))
theorem RdI.ext {kd : IntKind} {w w' : World} {v : Value} {xs : List Int} (h : RdI kd w v xs) (hx : Ext w w') : RdI kd w' v xs := by
  obtain ⟨A, c, hv, h1, h2, h3⟩ := h
  refine ⟨A, c, hv, h1, h2, fun hn => ?_⟩
  obtain ⟨b, off, hA, hc⟩ := h3 hn
  exact ⟨b, off, hA, fun j hj => hx.cell (hc j hj)⟩
theorem RdI.at_ {kd : IntKind} {w : World} {A : Option Addr} {n c : Nat} {xs : List Int} (h : RdI kd w (.slice A n c) xs) {k : Nat} (hk : k < xs.length) : ∃ b off, A = some ⟨b, off, none⟩ ∧ w.cell? ⟨b, off + k, none⟩ = some (.int kd (xs.getD k 0)) := by
  obtain ⟨A', c', hv, h1, h2, h3⟩ := h
  obtain ⟨b, off, hA, hc⟩ := h3 (by omega)
  obtain ⟨rfl, _, _⟩ : A = A' ∧ n = xs.length ∧ c = c' := by simpa using hv
  exact ⟨b, off, hA, hc k hk⟩
/-- A slice whose elements are of one cell. -/
def Rd1 {α : Type} (R : World → α → Value → Prop) (w : World) (v : Value) (l : List α) : Prop :=
  ∃ A c, v = .slice A l.length c ∧ l.length ≤ c ∧ c ≤ maxLen ∧ (0 < l.length → ∃ b off, A = some ⟨b, off, none⟩ ∧ ∀ j (h : j < l.length), ∃ u, w.cell? ⟨b, off + j, none⟩ = some u ∧ R w l[j] u)
theorem Rd1.ext {α : Type} {R : World → α → Value → Prop} {w w' : World} {v : Value} {l : List α} (h : Rd1 R w v l) (hx : Ext w w') (hR : ∀ x u, R w x u → R w' x u) : Rd1 R w' v l := by
  obtain ⟨A, c, hv, h1, h2, h3⟩ := h
  refine ⟨A, c, hv, h1, h2, fun hn => ?_⟩
  obtain ⟨b, off, hA, hc⟩ := h3 hn
  refine ⟨b, off, hA, fun j hj => ?_⟩
  obtain ⟨u, hu, hr⟩ := hc j hj
  exact ⟨u, hx.cell hu, hR _ _ hr⟩
theorem Rd1.at_ {α : Type} {R : World → α → Value → Prop} {w : World} {A : Option Addr} {n c : Nat} {l : List α} (h : Rd1 R w (.slice A n c) l) {k : Nat} (hk : k < l.length) : ∃ b off u, A = some ⟨b, off, none⟩ ∧ w.cell? ⟨b, off + k, none⟩ = some u ∧ R w l[k] u := by
  obtain ⟨A', c', hv, h1, h2, h3⟩ := h
  obtain ⟨b, off, hA, hc⟩ := h3 (by omega)
  obtain ⟨rfl, _, _⟩ : A = A' ∧ n = l.length ∧ c = c' := by simpa using hv
  obtain ⟨u, hu, hr⟩ := hc k hk
  exact ⟨b, off, u, hA, hu, hr⟩
/-- A slice whose elements are of several cells. -/
def RdM {α : Type} (size : Nat) (R : World → α → (Nat → Value) → Prop) (w : World) (v : Value) (l : List α) : Prop :=
  ∃ A c, v = .slice A l.length c ∧ l.length ≤ c ∧ c ≤ maxLen ∧ (0 < l.length → ∃ b off, A = some ⟨b, off, none⟩ ∧ ∀ j (h : j < l.length), ∃ f : Nat → Value, (∀ k, k < size → w.cell? ⟨b, off + j * size + k, none⟩ = some (f k)) ∧ R w l[j] f)
theorem RdM.ext {α : Type} {size : Nat} {R : World → α → (Nat → Value) → Prop} {w w' : World} {v : Value} {l : List α} (h : RdM size R w v l) (hx : Ext w w') (hR : ∀ x f, R w x f → R w' x f) : RdM size R w' v l := by
  obtain ⟨A, c, hv, h1, h2, h3⟩ := h
  refine ⟨A, c, hv, h1, h2, fun hn => ?_⟩
  obtain ⟨b, off, hA, hc⟩ := h3 hn
  refine ⟨b, off, hA, fun j hj => ?_⟩
  obtain ⟨u, hu, hr⟩ := hc j hj
  exact ⟨u, fun k hk => hx.cell (hu k hk), hR _ _ hr⟩
theorem RdM.at_ {α : Type} {size : Nat} {R : World → α → (Nat → Value) → Prop} {w : World} {A : Option Addr} {n c : Nat} {l : List α} (h : RdM size R w (.slice A n c) l) {k : Nat} (hk : k < l.length) :
    ∃ b off, ∃ f : Nat → Value, A = some ⟨b, off, none⟩ ∧ (∀ j, j < size → w.cell? ⟨b, off + k * size + j, none⟩ = some (f j)) ∧ R w l[k] f := by
  obtain ⟨A', c', hv, h1, h2, h3⟩ := h
  obtain ⟨b, off, hA, hc⟩ := h3 (by omega)
  obtain ⟨rfl, _, _⟩ : A = A' ∧ n = l.length ∧ c = c' := by simpa using hv
  obtain ⟨u, hu, hr⟩ := hc k hk
  exact ⟨b, off, u, hA, hu, hr⟩
/-- A text in a cell. -/
def isStr (_ : World) (s : ByteArray) (u : Value) : Prop := u = .string s
/-- A value of bytes, or nil. -/
def isOpt (w : World) (o : Option (List Int)) (u : Value) : Prop :=
  match o with
  | none => u = .slice none 0 0
  | some d => ∃ a c, u = .slice (some a) d.length c ∧ RdB w u d
theorem isOpt.ext {w w' : World} (hx : Ext w w') : ∀ o u, isOpt w o u → isOpt w' o u := by
  intro o u h
  cases o with
  | none => exact h
  | some d => obtain ⟨a, c, hu, hr⟩ := h; exact ⟨a, c, hu, hr.ext hx⟩
theorem take_flat {α : Type} (f : α → List Int) (l : List α) (k : Nat) (h : k < l.length) : (l.take (k + 1)).flatMap f = (l.take k).flatMap f ++ f l[k] := by
  rw [List.take_succ_eq_append_getElem h, List.flatMap_append]
  simp
theorem getD_at {l : List Int} {k : Nat} (h : k < l.length) : l.getD k 0 = l[k] := by simp [List.getD, List.getElem?_eq_getElem h]
theorem flat_len {α : Type} (f : α → List Int) (m : Nat) : ∀ (l : List α), (∀ x ∈ l, (f x).length ≤ m) → (l.flatMap f).length ≤ l.length * m
  | [], _ => by simp
  | a :: t, h => by
    have h1 := h a (by simp)
    have h2 := flat_len f m t fun x hx => h x (by simp [hx])
    simp only [List.flatMap_cons, List.length_append, List.length_cons, Nat.add_mul]
    omega
theorem flat_take_len {α : Type} (f : α → List Int) (m k : Nat) (l : List α) (h : ∀ x ∈ l, (f x).length ≤ m) : ((l.take k).flatMap f).length ≤ l.length * m := by
  have h1 := flat_len f m (l.take k) fun x hx => h x (List.mem_of_mem_take hx)
  have h2 : (l.take k).length ≤ l.length := List.length_take_le' k l
  exact Nat.le_trans h1 (Nat.mul_le_mul_right m h2)
/-- A column of a row's description. -/
structure Fd where
  name : List Int
  tab : Int
  col : Int
  typ : Int
  siz : Int
  mdf : Int
  fmt : Int
def isFd (w : World) (x : Fd) (f : Nat → Value) : Prop :=
  (∃ A c, f 0 = .slice A x.name.length c ∧ RdB w (.slice A x.name.length c) x.name) ∧ f 1 = .int .u32 x.tab ∧ f 2 = .int .u16 x.col ∧ f 3 = .int .u32 x.typ ∧ f 4 = .int .i16 x.siz ∧ f 5 = .int .i32 x.mdf ∧ f 6 = .int .i16 x.fmt
theorem isFd.ext {w w' : World} (hx : Ext w w') : ∀ x f, isFd w x f → isFd w' x f := fun _ _ ⟨⟨A, c, h1, h2⟩, h3⟩ => ⟨⟨A, c, h1, h2.ext hx⟩, h3⟩
/-- A new block beside the row. -/
theorem Buf.box {K : Nat → Prop} {w0 w : World} {v : Value} {xs : List Int} (h : Buf K w0 w v xs) (o : Obj) : Buf (fun k => K k ∨ k = w.heap.size) (w.alloc o) (w.alloc o) v xs := by
  refine (h.ext (ext_alloc w o)).rebase ?_ ?_
  · intro k hk
    have hs : (w.alloc o).heap.size = w.heap.size + 1 := by simp
    rcases hk with hk | hk
    · have := h.lt k hk; omega
    · omega
  · intro g hg hk
    rcases hk with hk | hk
    · exact h.off g hg hk
    · have := h.own_lt g hg; omega
theorem Buf.unbox {K : Nat → Prop} {w0 w w' : World} {v v' : Value} {xs ys : List Int} {o : Obj} (h : Buf K w0 w v xs) (h' : Buf (fun k => K k ∨ k = w.heap.size) (w.alloc o) w' v' ys) : Buf K w0 w' v' ys :=
  Buf.unbase (h.ext (ext_alloc w o)) h' (fun _ hk => .inl hk)
theorem Buf.boxed {K : Nat → Prop} {w w' : World} {v' : Value} {ys : List Int} {cs : Array Value} {t : TypeId} (h' : Buf (fun k => K k ∨ k = w.heap.size) (w.alloc (.cells cs t)) w' v' ys) : ∀ j, w'.cell? ⟨w.heap.size, j, none⟩ = cs[j]? := by
  intro j
  have h1 := h'.kept w.heap.size (.inr rfl)
  rw [heap_alloc_new] at h1
  exact cell_of_row _ _ _ _ _ _ h1
end Go.Proofs.YtdenjanihikolaaGreatDoor

namespace Go.Proofs.YtdenjanihikolaaGreatDoor
open Go.RowKit Og
set_option linter.unusedVariables false
set_option linter.unusedSimpArgs false
/-- the low bytes of a number, the highest one first -/
def numB (n : Int) : Nat → List Int
  | 0 => []
  | k + 1 => n / 256 ^ k % 256 :: numB n k
/-- A writer: a variable that holds a row of bytes. -/
structure Wr (K : Nat → Prop) (w0 w : World) (pb : Nat) (v : Value) (xs : List Int) : Prop where
  out : ¬ K pb
  blk : w.heap[pb]? = some (.cells #[v] 79 (0, 0))
  buf : Buf K w0 w v xs
  off : ∀ g, v.ownBlock = some g → g ≠ pb
theorem Wr.cell {K : Nat → Prop} {w0 w : World} {pb : Nat} {v : Value} {xs : List Int} (h : Wr K w0 w pb v xs) : w.cell? ⟨pb, 0, none⟩ = some v := cell_of_one h.blk
theorem Wr.free {K : Nat → Prop} {w0 w : World} {pb : Nat} {v : Value} {xs : List Int} (h : Wr K w0 w pb v xs) : w.frozen? ⟨pb, 0, none⟩ = false := free_of_one h.blk
theorem Wr.drew {K : Nat → Prop} {w0 w : World} {pb : Nat} {v : Value} {xs : List Int} (h : Wr K w0 w pb v xs) : Wr K w0 w.drew pb v xs := ⟨h.out, h.blk, h.buf.ext (Ext.refl w).drew, h.off⟩
theorem Wr.open {K : Nat → Prop} {w0 w : World} {pb : Nat} {v : Value} {xs : List Int} (h : Wr K w0 w pb v xs) : Buf (fun k => K k ∨ k = pb) w w v xs :=
  h.buf.rebase (fun k hk => hk.elim (h.buf.lt k) (fun e => e ▸ lt_of_block h.blk)) (fun g hg hk => hk.elim (h.buf.off g hg) (h.off g hg))
theorem Wr.in_ {K : Nat → Prop} {w0 w w1 : World} {pb : Nat} {v v1 : Value} {xs ys : List Int} (h : Wr K w0 w pb v xs) (h1 : Buf (fun k => K k ∨ k = pb) w w1 v1 ys) : w1.heap[pb]? = some (.cells #[v] 79 (0, 0)) := (h1.kept pb (.inr rfl)).trans h.blk
theorem Wr.close {K : Nat → Prop} {w0 w w1 : World} {pb : Nat} {v v1 : Value} {xs ys : List Int} (h : Wr K w0 w pb v xs) (h1 : Buf (fun k => K k ∨ k = pb) w w1 v1 ys) : Wr K w0 (w1.setCell ⟨pb, 0, none⟩ v1) pb v1 ys := by
  have hb := h.in_ h1
  have hne : ∀ g, v1.ownBlock = some g → g ≠ pb := fun g hg e => h1.off g hg (.inr e)
  have hoth : ∀ k, k ≠ pb → (w1.setCell ⟨pb, 0, none⟩ v1).heap[k]? = w1.heap[k]? := fun k hk => heap_setCell_other w1 ⟨pb, 0, none⟩ k v1 hk
  have hsz : (w1.setCell ⟨pb, 0, none⟩ v1).heap.size = w1.heap.size := by simp [World.setCell]
  refine ⟨h.out, one_setCell hb, ⟨?_, fun g hg hk => h1.off g hg (.inl hk), ?_, ?_, h1.os.trans h.buf.os, h1.tape.trans h.buf.tape, h1.output.trans h.buf.output⟩, hne⟩
  · refine ownsRow_setCell_other h1.own ?_ _
    intro e; exact hne pb e rfl
  · intro k hk
    rw [hoth k (fun e => h.out (e ▸ hk)), h1.kept k (.inl hk), h.buf.kept k hk]
  · intro k hk
    rw [hsz]; exact h1.lt k (.inl hk)
/-- What the region of 'number' keeps. -/
def NumJ (K : Nat → Prop) (w0 W : World) (pb : Nat) (v : Value) (xs : List Int) (x : Int) (L : Nat → Bool) (vs : Nat → Value) (w : World) : Prop :=
  if L 12 = true then ∃ v', Wr K w0 w pb v' (xs ++ [x]) else if L 10 = true then Buf (fun k => K k ∨ k = pb) W w (vs 10) (xs ++ [x]) else Buf (fun k => K k ∨ k = pb) W w v xs ∧ (L 9 = true → RdB w (vs 9) [x])
theorem evp_none (a : Act) (v : Value) (x : Operand) : (a.put none v).eval x = a.eval x := rfl
theorem evp_size (a : Act) (d : Option Tmp) (v : Value) : (a.put d v).tmps.size = a.tmps.size := by
  cases d <;> simp [Act.put]
theorem evp_same (a : Act) (d : Nat) (v : Value) (h : d < a.tmps.size) : (a.put (some d) v).eval (.tmp d) = v := by
  simp [Act.put, Act.eval, Array.getD, h]
theorem slot_put (a : Act) (d : Nat) (v : Value) (h : d < a.tmps.size) : slotOf (some d) (a.put (some d) v) = v := by
  show (a.put (some d) v).eval (.tmp d) = v
  exact evp_same a d v h
theorem evp_ne (a : Act) (d j : Nat) (v : Value) (h : d ≠ j) : (a.put (some d) v).eval (.tmp j) = a.eval (.tmp j) := by
  simp only [Act.put, Act.eval, Array.getD_eq_getD_getElem?]
  rw [Array.getElem?_setIfInBounds_ne h]
theorem NumJ.keep {K : Nat → Prop} {w0 W : World} {pb : Nat} {v : Value} {xs : List Int} {x : Int} {L : Nat → Bool} {vs : Nat → Value} {w : World} (h : NumJ K w0 W pb v xs x L vs w) (i : Nat) (u : Value) (h9 : 9 ≠ i) (h10 : 10 ≠ i) (h12 : 12 ≠ i) : NumJ K w0 W pb v xs x (updB L i) (upd vs i u) w := by
  unfold NumJ at *
  simpa [updB, upd, h9, h10, h12] using h
set_option maxRecDepth 100000 in
set_option maxHeartbeats 600000 in
theorem number_any (k : Nat) (hk : k ≤ 4) (n : Int) {K : Nat → Prop} {w0 w : World} {pb : Nat} {v : Value} {xs : List Int} (h : Wr K w0 w pb v xs) (hl : xs.length ≤ 1099511627776) :
    Calls Tryz.prog 36 #[.pointer (some ⟨pb, 0, none⟩), .int .i64 n, .int .i64 k] w fun e w' => e = .returned (.tuple #[]) ∧ ∃ v', Wr K w0 w' pb v' (xs ++ numB n k) := by
  have H := Lib.hid h
  clear h
  go_enter Tryz.func36, Tryz.ntmps36
  go_wp2
  go_loopw [6] (fun i wr => ∃ j : Nat, i = .int .i64 ((j : Int) - 1) ∧ j ≤ 4 ∧ ∃ v', ∃ done, Hid (done ++ numB n j = numB n k ∧ done.length + j ≤ 4 ∧ Wr K w0 wr pb v' (xs ++ done))) (fun i _ => (intOf i + 1).toNat)
  case atStart => exact ⟨k, rfl, hk, v, [], Lib.hid ⟨rfl, by simpa using hk, by simpa using H.out⟩⟩
  case round =>
    obtain ⟨j, rfl, hj, v', done, HH⟩ := hrel
    obtain ⟨hdn, hdl, hw⟩ := HH.out
    have HV := Lib.hid hw
    have HW := Lib.hid hw.drew
    have HD := Lib.hid hdn
    clear hw hdn HH H
    have hjj : j = 0 ∨ j = 1 ∨ j = 2 ∨ j = 3 ∨ j = 4 := by omega
    rcases hjj with rfl | rfl | rfl | rfl | rfl
    · go_wp2
      go_end0
      exact ⟨rfl, v', by have := HD.out; simp only [numB, List.append_nil] at this; rw [← this]; exact HV.out⟩
    · go_wp2
      refine wp_region_ogL (J := NumJ K w0 wr.drew pb v' (xs ++ done) (n % 256)) (R := fun _ _ => True) [Sp.eq _ (.pointer (some ⟨pb, 0, none⟩)), Sp.eq _ (.pointer (some ⟨pb, 0, none⟩)), Sp.eq _ (.pointer (some ⟨pb, 0, none⟩)), Sp.eq _ (v'), Sp.eq _ (.int .i64 n), Sp.eq _ (.int .i64 0), Sp.eq _ (.int .i64 0), Sp.eq _ (.int .i64 (n)), Sp.eq _ (.int .u8 (n % 256)), Sp.any _, Sp.any _, Sp.eq _ (.pointer (some ⟨pb, 0, none⟩)), Sp.any _] (by kernel_rfl) (by kernel_rfl) ?_ ?_ ?_
      · exact ⟨HW.out.open, fun h => by cases h⟩
      · refine ⟨?_, ?_, ?_, ?_, ?_, ?_, ?_, ?_, ?_, ?_, ?_, ?_, ?_, trivial⟩
        · intro vs w1 L hLi hd hdt hJ hp
          have HJ := Lib.hid hJ
          clear hp hd hdt hLi hJ
          simp only [putAll, Nat.reduceAdd]
          go_wp2
          exact ⟨rfl, HJ.out.keep 0 _ (by decide) (by decide) (by decide), trivial, rfl⟩
        · intro vs w1 L hLi hd hdt hJ hp
          have HJ := Lib.hid hJ
          clear hp hd hdt hLi hJ
          simp only [putAll, Nat.reduceAdd]
          go_wp2
          exact ⟨rfl, HJ.out.keep 1 _ (by decide) (by decide) (by decide), trivial, rfl⟩
        · intro vs w1 L hLi hd hdt hJ hp
          have q1 : vs 1 = .pointer (some ⟨pb, 0, none⟩) := hp 1 (by decide)
          have HJ := Lib.hid hJ
          clear hp hd hdt hLi hJ
          simp only [putAll, Nat.reduceAdd]
          go_wp2
          exact ⟨rfl, HJ.out.keep 2 _ (by decide) (by decide) (by decide), trivial, rfl⟩
        · intro vs w1 L hLi hd hdt hJ hp
          have q2 : vs 2 = .pointer (some ⟨pb, 0, none⟩) := hp 2 (by decide)
          have HJ := Lib.hid hJ
          have hL10 : L 10 = false := hdt 10 (by decide)
          have hL12 : L 12 = false := hdt 12 (by decide)
          unfold NumJ at hJ
          rw [hL12, hL10] at hJ
          simp only [Bool.false_eq_true, if_false] at hJ
          have hc1 := cell_of_one (HW.out.in_ hJ.1)
          clear hp hd hdt hLi hJ hL10 hL12
          simp only [putAll, Nat.reduceAdd]
          go_wp2
          exact ⟨rfl, HJ.out.keep 3 _ (by decide) (by decide) (by decide), trivial, rfl⟩
        · intro vs w1 L hLi hd hdt hJ hp
          have HJ := Lib.hid hJ
          clear hp hd hdt hLi hJ
          simp only [putAll, Nat.reduceAdd]
          go_wp2
          exact ⟨rfl, HJ.out.keep 4 _ (by decide) (by decide) (by decide), trivial, rfl⟩
        · intro vs w1 L hLi hd hdt hJ hp
          have HJ := Lib.hid hJ
          clear hp hd hdt hLi hJ
          simp only [putAll, Nat.reduceAdd]
          go_wp2
          exact ⟨rfl, HJ.out.keep 5 _ (by decide) (by decide) (by decide), trivial, rfl⟩
        · intro vs w1 L hLi hd hdt hJ hp
          have q5 : vs 5 = .int .i64 0 := hp 5 (by decide)
          have HJ := Lib.hid hJ
          clear hp hd hdt hLi hJ
          simp only [putAll, Nat.reduceAdd]
          go_wp2
          exact ⟨rfl, HJ.out.keep 6 _ (by decide) (by decide) (by decide), trivial, rfl⟩
        · intro vs w1 L hLi hd hdt hJ hp
          have q4 : vs 4 = .int .i64 n := hp 4 (by decide)
          have q6 : vs 6 = .int .i64 0 := hp 6 (by decide)
          have HJ := Lib.hid hJ
          clear hp hd hdt hLi hJ
          simp only [putAll, Nat.reduceAdd]
          go_wp2
          exact ⟨rfl, HJ.out.keep 7 _ (by decide) (by decide) (by decide), trivial, rfl⟩
        · intro vs w1 L hLi hd hdt hJ hp
          have q7 : vs 7 = .int .i64 (n) := hp 7 (by decide)
          have HJ := Lib.hid hJ
          clear hp hd hdt hLi hJ
          simp only [putAll, Nat.reduceAdd]
          go_wp2
          exact ⟨rfl, HJ.out.keep 8 _ (by decide) (by decide) (by decide), trivial, rfl⟩
        · intro vs w1 L hLi hd hdt hJ hp
          have q8 : vs 8 = .int .u8 (n % 256) := hp 8 (by decide)
          have hL10 : L 10 = false := hdt 10 (by decide)
          have hL12 : L 12 = false := hdt 12 (by decide)
          unfold NumJ at hJ
          rw [hL12, hL10] at hJ
          simp only [Bool.false_eq_true, if_false] at hJ
          have HJ := Lib.hid hJ.1
          have HL10 := Lib.hid hL10
          have HL12 := Lib.hid hL12
          clear hp hd hdt hLi hJ hL10 hL12
          simp only [putAll, Nat.reduceAdd]
          go_wp2
          refine ⟨rfl, ?_, trivial, trivial⟩
          unfold NumJ
          simp only [updB, upd, HL10.out, HL12.out]
          exact ⟨HJ.out.ext (ext_alloc _ _), fun _ => RdB.lit1 _ (n % 256)⟩
        · intro vs w1 L hLi hd hdt hJ hp
          have q3 : vs 3 = v' := hp 3 (by decide)
          have hL9 : L 9 = true := hd 9 (by decide)
          have hL12 : L 12 = false := hdt 12 (by decide)
          unfold NumJ at hJ
          rw [hL12, hLi] at hJ
          simp only [Bool.false_eq_true, if_false] at hJ
          have HJ := Lib.hid hJ.1
          have HR := Lib.hid (hJ.2 hL9)
          have HL12 := Lib.hid hL12
          clear hp hd hdt hLi hJ hL9 hL12
          simp only [putAll, Nat.reduceAdd]
          refine ap_row (v := v') (vx := vs 9) (ys := [n % 256]) rfl (.tmp 16) (.tmp 22) 79 79 rfl Tryz.underlying79 Tryz.underlying79 (by simp only [evp_none, ne_eq, Nat.reduceEqDiff, not_false_eq_true, evp_ne]; rw [evp_same _ _ _ (by simp [evp_size])]; exact q3) HJ.out (by simp only [evp_none, ne_eq, Nat.reduceEqDiff, not_false_eq_true, evp_ne]; rw [evp_same _ _ _ (by simp [evp_size])]) HR.out (by simp; omega) ?_
          intro v2 w2 hn
          refine ⟨rfl, ?_, trivial, trivial⟩
          unfold NumJ
          simp only [updB, upd, HL12.out, Bool.false_or, Nat.reduceBEq, Bool.false_eq_true, if_false, beq_self_eq_true, Bool.or_true, if_true]
          rw [slot_put _ _ _ (by simp [evp_size])]
          exact hn
        · intro vs w1 L hLi hd hdt hJ hp
          have q0 : vs 0 = .pointer (some ⟨pb, 0, none⟩) := hp 0 (by decide)
          have q1 : vs 1 = .pointer (some ⟨pb, 0, none⟩) := hp 1 (by decide)
          have q2 : vs 2 = .pointer (some ⟨pb, 0, none⟩) := hp 2 (by decide)
          have q3 : vs 3 = v' := hp 3 (by decide)
          have q4 : vs 4 = .int .i64 n := hp 4 (by decide)
          have q5 : vs 5 = .int .i64 0 := hp 5 (by decide)
          have q6 : vs 6 = .int .i64 0 := hp 6 (by decide)
          have q7 : vs 7 = .int .i64 (n) := hp 7 (by decide)
          have q8 : vs 8 = .int .u8 (n % 256) := hp 8 (by decide)
          have HJ := Lib.hid hJ
          clear hp hd hdt hLi hJ
          simp only [putAll, Nat.reduceAdd]
          go_wp2
          exact ⟨rfl, HJ.out.keep 11 _ (by decide) (by decide) (by decide), trivial, rfl⟩
        · intro vs w1 L hLi hd hdt hJ hp
          have q0 : vs 0 = .pointer (some ⟨pb, 0, none⟩) := hp 0 (by decide)
          have q1 : vs 1 = .pointer (some ⟨pb, 0, none⟩) := hp 1 (by decide)
          have q2 : vs 2 = .pointer (some ⟨pb, 0, none⟩) := hp 2 (by decide)
          have q3 : vs 3 = v' := hp 3 (by decide)
          have q4 : vs 4 = .int .i64 n := hp 4 (by decide)
          have q5 : vs 5 = .int .i64 0 := hp 5 (by decide)
          have q6 : vs 6 = .int .i64 0 := hp 6 (by decide)
          have q7 : vs 7 = .int .i64 (n) := hp 7 (by decide)
          have q8 : vs 8 = .int .u8 (n % 256) := hp 8 (by decide)
          have q11 : vs 11 = .pointer (some ⟨pb, 0, none⟩) := hp 11 (by decide)
          have hL10 : L 10 = true := hd 10 (by decide)
          unfold NumJ at hJ
          rw [hLi, hL10] at hJ
          simp only [Bool.false_eq_true, if_false, if_true] at hJ
          have HJ := Lib.hid hJ
          have hc1 := cell_of_one (HW.out.in_ hJ)
          have hf1 := free_of_one (HW.out.in_ hJ)
          obtain ⟨A2, c2, hv2⟩ := hJ.len
          have HV := Lib.hid hv2
          clear hp hd hdt hLi hJ hL10
          simp only [putAll, Nat.reduceAdd]
          rw [HV.out]
          go_wp2
          refine ⟨rfl, ?_, trivial, trivial⟩
          unfold NumJ
          simp only [updB, Nat.reduceAdd, beq_self_eq_true, Bool.or_true, if_true]
          have hz := HW.out.close HJ.out
          rw [HV.out] at hz
          simp only [List.length_append, List.length_cons, List.length_nil, Nat.zero_add, Nat.add_assoc] at hz
          exact ⟨_, hz⟩
      · intro vs w1 L hall hJ hp
        have q0 : vs 0 = .pointer (some ⟨pb, 0, none⟩) := hp 0 (by decide)
        have q1 : vs 1 = .pointer (some ⟨pb, 0, none⟩) := hp 1 (by decide)
        have q2 : vs 2 = .pointer (some ⟨pb, 0, none⟩) := hp 2 (by decide)
        have q3 : vs 3 = v' := hp 3 (by decide)
        have q4 : vs 4 = .int .i64 n := hp 4 (by decide)
        have q5 : vs 5 = .int .i64 0 := hp 5 (by decide)
        have q6 : vs 6 = .int .i64 0 := hp 6 (by decide)
        have q7 : vs 7 = .int .i64 (n) := hp 7 (by decide)
        have q8 : vs 8 = .int .u8 (n % 256) := hp 8 (by decide)
        have q11 : vs 11 = .pointer (some ⟨pb, 0, none⟩) := hp 11 (by decide)
        have hL12 := hall 12 (by decide)
        unfold NumJ at hJ
        rw [hL12] at hJ
        simp only [if_true] at hJ
        obtain ⟨v2, hw2⟩ := hJ
        have HN := Lib.hid hw2
        clear hw2 hp hall hL12
        simp only [putAll, Nat.reduceAdd]
        go_wp2
        go_roundw
        case rel => exact ⟨0, rfl, by omega, v2, done ++ [n % 256], Lib.hid ⟨by rw [List.append_assoc]; simpa [numB] using HD.out, by simp only [List.length_append, List.length_cons, List.length_nil]; omega, by rw [← List.append_assoc]; exact HN.out⟩⟩
        case measure => simp [intOf]
    · go_wp2
      refine wp_region_ogL (J := NumJ K w0 wr.drew pb v' (xs ++ done) (n / 256 % 256)) (R := fun _ _ => True) [Sp.eq _ (.pointer (some ⟨pb, 0, none⟩)), Sp.eq _ (.pointer (some ⟨pb, 0, none⟩)), Sp.eq _ (.pointer (some ⟨pb, 0, none⟩)), Sp.eq _ (v'), Sp.eq _ (.int .i64 n), Sp.eq _ (.int .i64 1), Sp.eq _ (.int .i64 8), Sp.eq _ (.int .i64 (n / 256)), Sp.eq _ (.int .u8 (n / 256 % 256)), Sp.any _, Sp.any _, Sp.eq _ (.pointer (some ⟨pb, 0, none⟩)), Sp.any _] (by kernel_rfl) (by kernel_rfl) ?_ ?_ ?_
      · exact ⟨HW.out.open, fun h => by cases h⟩
      · refine ⟨?_, ?_, ?_, ?_, ?_, ?_, ?_, ?_, ?_, ?_, ?_, ?_, ?_, trivial⟩
        · intro vs w1 L hLi hd hdt hJ hp
          have HJ := Lib.hid hJ
          clear hp hd hdt hLi hJ
          simp only [putAll, Nat.reduceAdd]
          go_wp2
          exact ⟨rfl, HJ.out.keep 0 _ (by decide) (by decide) (by decide), trivial, rfl⟩
        · intro vs w1 L hLi hd hdt hJ hp
          have HJ := Lib.hid hJ
          clear hp hd hdt hLi hJ
          simp only [putAll, Nat.reduceAdd]
          go_wp2
          exact ⟨rfl, HJ.out.keep 1 _ (by decide) (by decide) (by decide), trivial, rfl⟩
        · intro vs w1 L hLi hd hdt hJ hp
          have q1 : vs 1 = .pointer (some ⟨pb, 0, none⟩) := hp 1 (by decide)
          have HJ := Lib.hid hJ
          clear hp hd hdt hLi hJ
          simp only [putAll, Nat.reduceAdd]
          go_wp2
          exact ⟨rfl, HJ.out.keep 2 _ (by decide) (by decide) (by decide), trivial, rfl⟩
        · intro vs w1 L hLi hd hdt hJ hp
          have q2 : vs 2 = .pointer (some ⟨pb, 0, none⟩) := hp 2 (by decide)
          have HJ := Lib.hid hJ
          have hL10 : L 10 = false := hdt 10 (by decide)
          have hL12 : L 12 = false := hdt 12 (by decide)
          unfold NumJ at hJ
          rw [hL12, hL10] at hJ
          simp only [Bool.false_eq_true, if_false] at hJ
          have hc1 := cell_of_one (HW.out.in_ hJ.1)
          clear hp hd hdt hLi hJ hL10 hL12
          simp only [putAll, Nat.reduceAdd]
          go_wp2
          exact ⟨rfl, HJ.out.keep 3 _ (by decide) (by decide) (by decide), trivial, rfl⟩
        · intro vs w1 L hLi hd hdt hJ hp
          have HJ := Lib.hid hJ
          clear hp hd hdt hLi hJ
          simp only [putAll, Nat.reduceAdd]
          go_wp2
          exact ⟨rfl, HJ.out.keep 4 _ (by decide) (by decide) (by decide), trivial, rfl⟩
        · intro vs w1 L hLi hd hdt hJ hp
          have HJ := Lib.hid hJ
          clear hp hd hdt hLi hJ
          simp only [putAll, Nat.reduceAdd]
          go_wp2
          exact ⟨rfl, HJ.out.keep 5 _ (by decide) (by decide) (by decide), trivial, rfl⟩
        · intro vs w1 L hLi hd hdt hJ hp
          have q5 : vs 5 = .int .i64 1 := hp 5 (by decide)
          have HJ := Lib.hid hJ
          clear hp hd hdt hLi hJ
          simp only [putAll, Nat.reduceAdd]
          go_wp2
          exact ⟨rfl, HJ.out.keep 6 _ (by decide) (by decide) (by decide), trivial, rfl⟩
        · intro vs w1 L hLi hd hdt hJ hp
          have q4 : vs 4 = .int .i64 n := hp 4 (by decide)
          have q6 : vs 6 = .int .i64 8 := hp 6 (by decide)
          have HJ := Lib.hid hJ
          clear hp hd hdt hLi hJ
          simp only [putAll, Nat.reduceAdd]
          go_wp2
          exact ⟨rfl, HJ.out.keep 7 _ (by decide) (by decide) (by decide), trivial, rfl⟩
        · intro vs w1 L hLi hd hdt hJ hp
          have q7 : vs 7 = .int .i64 (n / 256) := hp 7 (by decide)
          have HJ := Lib.hid hJ
          clear hp hd hdt hLi hJ
          simp only [putAll, Nat.reduceAdd]
          go_wp2
          exact ⟨rfl, HJ.out.keep 8 _ (by decide) (by decide) (by decide), trivial, rfl⟩
        · intro vs w1 L hLi hd hdt hJ hp
          have q8 : vs 8 = .int .u8 (n / 256 % 256) := hp 8 (by decide)
          have hL10 : L 10 = false := hdt 10 (by decide)
          have hL12 : L 12 = false := hdt 12 (by decide)
          unfold NumJ at hJ
          rw [hL12, hL10] at hJ
          simp only [Bool.false_eq_true, if_false] at hJ
          have HJ := Lib.hid hJ.1
          have HL10 := Lib.hid hL10
          have HL12 := Lib.hid hL12
          clear hp hd hdt hLi hJ hL10 hL12
          simp only [putAll, Nat.reduceAdd]
          go_wp2
          refine ⟨rfl, ?_, trivial, trivial⟩
          unfold NumJ
          simp only [updB, upd, HL10.out, HL12.out]
          exact ⟨HJ.out.ext (ext_alloc _ _), fun _ => RdB.lit1 _ (n / 256 % 256)⟩
        · intro vs w1 L hLi hd hdt hJ hp
          have q3 : vs 3 = v' := hp 3 (by decide)
          have hL9 : L 9 = true := hd 9 (by decide)
          have hL12 : L 12 = false := hdt 12 (by decide)
          unfold NumJ at hJ
          rw [hL12, hLi] at hJ
          simp only [Bool.false_eq_true, if_false] at hJ
          have HJ := Lib.hid hJ.1
          have HR := Lib.hid (hJ.2 hL9)
          have HL12 := Lib.hid hL12
          clear hp hd hdt hLi hJ hL9 hL12
          simp only [putAll, Nat.reduceAdd]
          refine ap_row (v := v') (vx := vs 9) (ys := [n / 256 % 256]) rfl (.tmp 16) (.tmp 22) 79 79 rfl Tryz.underlying79 Tryz.underlying79 (by simp only [evp_none, ne_eq, Nat.reduceEqDiff, not_false_eq_true, evp_ne]; rw [evp_same _ _ _ (by simp [evp_size])]; exact q3) HJ.out (by simp only [evp_none, ne_eq, Nat.reduceEqDiff, not_false_eq_true, evp_ne]; rw [evp_same _ _ _ (by simp [evp_size])]) HR.out (by simp; omega) ?_
          intro v2 w2 hn
          refine ⟨rfl, ?_, trivial, trivial⟩
          unfold NumJ
          simp only [updB, upd, HL12.out, Bool.false_or, Nat.reduceBEq, Bool.false_eq_true, if_false, beq_self_eq_true, Bool.or_true, if_true]
          rw [slot_put _ _ _ (by simp [evp_size])]
          exact hn
        · intro vs w1 L hLi hd hdt hJ hp
          have q0 : vs 0 = .pointer (some ⟨pb, 0, none⟩) := hp 0 (by decide)
          have q1 : vs 1 = .pointer (some ⟨pb, 0, none⟩) := hp 1 (by decide)
          have q2 : vs 2 = .pointer (some ⟨pb, 0, none⟩) := hp 2 (by decide)
          have q3 : vs 3 = v' := hp 3 (by decide)
          have q4 : vs 4 = .int .i64 n := hp 4 (by decide)
          have q5 : vs 5 = .int .i64 1 := hp 5 (by decide)
          have q6 : vs 6 = .int .i64 8 := hp 6 (by decide)
          have q7 : vs 7 = .int .i64 (n / 256) := hp 7 (by decide)
          have q8 : vs 8 = .int .u8 (n / 256 % 256) := hp 8 (by decide)
          have HJ := Lib.hid hJ
          clear hp hd hdt hLi hJ
          simp only [putAll, Nat.reduceAdd]
          go_wp2
          exact ⟨rfl, HJ.out.keep 11 _ (by decide) (by decide) (by decide), trivial, rfl⟩
        · intro vs w1 L hLi hd hdt hJ hp
          have q0 : vs 0 = .pointer (some ⟨pb, 0, none⟩) := hp 0 (by decide)
          have q1 : vs 1 = .pointer (some ⟨pb, 0, none⟩) := hp 1 (by decide)
          have q2 : vs 2 = .pointer (some ⟨pb, 0, none⟩) := hp 2 (by decide)
          have q3 : vs 3 = v' := hp 3 (by decide)
          have q4 : vs 4 = .int .i64 n := hp 4 (by decide)
          have q5 : vs 5 = .int .i64 1 := hp 5 (by decide)
          have q6 : vs 6 = .int .i64 8 := hp 6 (by decide)
          have q7 : vs 7 = .int .i64 (n / 256) := hp 7 (by decide)
          have q8 : vs 8 = .int .u8 (n / 256 % 256) := hp 8 (by decide)
          have q11 : vs 11 = .pointer (some ⟨pb, 0, none⟩) := hp 11 (by decide)
          have hL10 : L 10 = true := hd 10 (by decide)
          unfold NumJ at hJ
          rw [hLi, hL10] at hJ
          simp only [Bool.false_eq_true, if_false, if_true] at hJ
          have HJ := Lib.hid hJ
          have hc1 := cell_of_one (HW.out.in_ hJ)
          have hf1 := free_of_one (HW.out.in_ hJ)
          obtain ⟨A2, c2, hv2⟩ := hJ.len
          have HV := Lib.hid hv2
          clear hp hd hdt hLi hJ hL10
          simp only [putAll, Nat.reduceAdd]
          rw [HV.out]
          go_wp2
          refine ⟨rfl, ?_, trivial, trivial⟩
          unfold NumJ
          simp only [updB, Nat.reduceAdd, beq_self_eq_true, Bool.or_true, if_true]
          have hz := HW.out.close HJ.out
          rw [HV.out] at hz
          simp only [List.length_append, List.length_cons, List.length_nil, Nat.zero_add, Nat.add_assoc] at hz
          exact ⟨_, hz⟩
      · intro vs w1 L hall hJ hp
        have q0 : vs 0 = .pointer (some ⟨pb, 0, none⟩) := hp 0 (by decide)
        have q1 : vs 1 = .pointer (some ⟨pb, 0, none⟩) := hp 1 (by decide)
        have q2 : vs 2 = .pointer (some ⟨pb, 0, none⟩) := hp 2 (by decide)
        have q3 : vs 3 = v' := hp 3 (by decide)
        have q4 : vs 4 = .int .i64 n := hp 4 (by decide)
        have q5 : vs 5 = .int .i64 1 := hp 5 (by decide)
        have q6 : vs 6 = .int .i64 8 := hp 6 (by decide)
        have q7 : vs 7 = .int .i64 (n / 256) := hp 7 (by decide)
        have q8 : vs 8 = .int .u8 (n / 256 % 256) := hp 8 (by decide)
        have q11 : vs 11 = .pointer (some ⟨pb, 0, none⟩) := hp 11 (by decide)
        have hL12 := hall 12 (by decide)
        unfold NumJ at hJ
        rw [hL12] at hJ
        simp only [if_true] at hJ
        obtain ⟨v2, hw2⟩ := hJ
        have HN := Lib.hid hw2
        clear hw2 hp hall hL12
        simp only [putAll, Nat.reduceAdd]
        go_wp2
        go_roundw
        case rel => exact ⟨1, rfl, by omega, v2, done ++ [n / 256 % 256], Lib.hid ⟨by rw [List.append_assoc]; simpa [numB] using HD.out, by simp only [List.length_append, List.length_cons, List.length_nil]; omega, by rw [← List.append_assoc]; exact HN.out⟩⟩
        case measure => simp [intOf]
    · go_wp2
      refine wp_region_ogL (J := NumJ K w0 wr.drew pb v' (xs ++ done) (n / 65536 % 256)) (R := fun _ _ => True) [Sp.eq _ (.pointer (some ⟨pb, 0, none⟩)), Sp.eq _ (.pointer (some ⟨pb, 0, none⟩)), Sp.eq _ (.pointer (some ⟨pb, 0, none⟩)), Sp.eq _ (v'), Sp.eq _ (.int .i64 n), Sp.eq _ (.int .i64 2), Sp.eq _ (.int .i64 16), Sp.eq _ (.int .i64 (n / 65536)), Sp.eq _ (.int .u8 (n / 65536 % 256)), Sp.any _, Sp.any _, Sp.eq _ (.pointer (some ⟨pb, 0, none⟩)), Sp.any _] (by kernel_rfl) (by kernel_rfl) ?_ ?_ ?_
      · exact ⟨HW.out.open, fun h => by cases h⟩
      · refine ⟨?_, ?_, ?_, ?_, ?_, ?_, ?_, ?_, ?_, ?_, ?_, ?_, ?_, trivial⟩
        · intro vs w1 L hLi hd hdt hJ hp
          have HJ := Lib.hid hJ
          clear hp hd hdt hLi hJ
          simp only [putAll, Nat.reduceAdd]
          go_wp2
          exact ⟨rfl, HJ.out.keep 0 _ (by decide) (by decide) (by decide), trivial, rfl⟩
        · intro vs w1 L hLi hd hdt hJ hp
          have HJ := Lib.hid hJ
          clear hp hd hdt hLi hJ
          simp only [putAll, Nat.reduceAdd]
          go_wp2
          exact ⟨rfl, HJ.out.keep 1 _ (by decide) (by decide) (by decide), trivial, rfl⟩
        · intro vs w1 L hLi hd hdt hJ hp
          have q1 : vs 1 = .pointer (some ⟨pb, 0, none⟩) := hp 1 (by decide)
          have HJ := Lib.hid hJ
          clear hp hd hdt hLi hJ
          simp only [putAll, Nat.reduceAdd]
          go_wp2
          exact ⟨rfl, HJ.out.keep 2 _ (by decide) (by decide) (by decide), trivial, rfl⟩
        · intro vs w1 L hLi hd hdt hJ hp
          have q2 : vs 2 = .pointer (some ⟨pb, 0, none⟩) := hp 2 (by decide)
          have HJ := Lib.hid hJ
          have hL10 : L 10 = false := hdt 10 (by decide)
          have hL12 : L 12 = false := hdt 12 (by decide)
          unfold NumJ at hJ
          rw [hL12, hL10] at hJ
          simp only [Bool.false_eq_true, if_false] at hJ
          have hc1 := cell_of_one (HW.out.in_ hJ.1)
          clear hp hd hdt hLi hJ hL10 hL12
          simp only [putAll, Nat.reduceAdd]
          go_wp2
          exact ⟨rfl, HJ.out.keep 3 _ (by decide) (by decide) (by decide), trivial, rfl⟩
        · intro vs w1 L hLi hd hdt hJ hp
          have HJ := Lib.hid hJ
          clear hp hd hdt hLi hJ
          simp only [putAll, Nat.reduceAdd]
          go_wp2
          exact ⟨rfl, HJ.out.keep 4 _ (by decide) (by decide) (by decide), trivial, rfl⟩
        · intro vs w1 L hLi hd hdt hJ hp
          have HJ := Lib.hid hJ
          clear hp hd hdt hLi hJ
          simp only [putAll, Nat.reduceAdd]
          go_wp2
          exact ⟨rfl, HJ.out.keep 5 _ (by decide) (by decide) (by decide), trivial, rfl⟩
        · intro vs w1 L hLi hd hdt hJ hp
          have q5 : vs 5 = .int .i64 2 := hp 5 (by decide)
          have HJ := Lib.hid hJ
          clear hp hd hdt hLi hJ
          simp only [putAll, Nat.reduceAdd]
          go_wp2
          exact ⟨rfl, HJ.out.keep 6 _ (by decide) (by decide) (by decide), trivial, rfl⟩
        · intro vs w1 L hLi hd hdt hJ hp
          have q4 : vs 4 = .int .i64 n := hp 4 (by decide)
          have q6 : vs 6 = .int .i64 16 := hp 6 (by decide)
          have HJ := Lib.hid hJ
          clear hp hd hdt hLi hJ
          simp only [putAll, Nat.reduceAdd]
          go_wp2
          exact ⟨rfl, HJ.out.keep 7 _ (by decide) (by decide) (by decide), trivial, rfl⟩
        · intro vs w1 L hLi hd hdt hJ hp
          have q7 : vs 7 = .int .i64 (n / 65536) := hp 7 (by decide)
          have HJ := Lib.hid hJ
          clear hp hd hdt hLi hJ
          simp only [putAll, Nat.reduceAdd]
          go_wp2
          exact ⟨rfl, HJ.out.keep 8 _ (by decide) (by decide) (by decide), trivial, rfl⟩
        · intro vs w1 L hLi hd hdt hJ hp
          have q8 : vs 8 = .int .u8 (n / 65536 % 256) := hp 8 (by decide)
          have hL10 : L 10 = false := hdt 10 (by decide)
          have hL12 : L 12 = false := hdt 12 (by decide)
          unfold NumJ at hJ
          rw [hL12, hL10] at hJ
          simp only [Bool.false_eq_true, if_false] at hJ
          have HJ := Lib.hid hJ.1
          have HL10 := Lib.hid hL10
          have HL12 := Lib.hid hL12
          clear hp hd hdt hLi hJ hL10 hL12
          simp only [putAll, Nat.reduceAdd]
          go_wp2
          refine ⟨rfl, ?_, trivial, trivial⟩
          unfold NumJ
          simp only [updB, upd, HL10.out, HL12.out]
          exact ⟨HJ.out.ext (ext_alloc _ _), fun _ => RdB.lit1 _ (n / 65536 % 256)⟩
        · intro vs w1 L hLi hd hdt hJ hp
          have q3 : vs 3 = v' := hp 3 (by decide)
          have hL9 : L 9 = true := hd 9 (by decide)
          have hL12 : L 12 = false := hdt 12 (by decide)
          unfold NumJ at hJ
          rw [hL12, hLi] at hJ
          simp only [Bool.false_eq_true, if_false] at hJ
          have HJ := Lib.hid hJ.1
          have HR := Lib.hid (hJ.2 hL9)
          have HL12 := Lib.hid hL12
          clear hp hd hdt hLi hJ hL9 hL12
          simp only [putAll, Nat.reduceAdd]
          refine ap_row (v := v') (vx := vs 9) (ys := [n / 65536 % 256]) rfl (.tmp 16) (.tmp 22) 79 79 rfl Tryz.underlying79 Tryz.underlying79 (by simp only [evp_none, ne_eq, Nat.reduceEqDiff, not_false_eq_true, evp_ne]; rw [evp_same _ _ _ (by simp [evp_size])]; exact q3) HJ.out (by simp only [evp_none, ne_eq, Nat.reduceEqDiff, not_false_eq_true, evp_ne]; rw [evp_same _ _ _ (by simp [evp_size])]) HR.out (by simp; omega) ?_
          intro v2 w2 hn
          refine ⟨rfl, ?_, trivial, trivial⟩
          unfold NumJ
          simp only [updB, upd, HL12.out, Bool.false_or, Nat.reduceBEq, Bool.false_eq_true, if_false, beq_self_eq_true, Bool.or_true, if_true]
          rw [slot_put _ _ _ (by simp [evp_size])]
          exact hn
        · intro vs w1 L hLi hd hdt hJ hp
          have q0 : vs 0 = .pointer (some ⟨pb, 0, none⟩) := hp 0 (by decide)
          have q1 : vs 1 = .pointer (some ⟨pb, 0, none⟩) := hp 1 (by decide)
          have q2 : vs 2 = .pointer (some ⟨pb, 0, none⟩) := hp 2 (by decide)
          have q3 : vs 3 = v' := hp 3 (by decide)
          have q4 : vs 4 = .int .i64 n := hp 4 (by decide)
          have q5 : vs 5 = .int .i64 2 := hp 5 (by decide)
          have q6 : vs 6 = .int .i64 16 := hp 6 (by decide)
          have q7 : vs 7 = .int .i64 (n / 65536) := hp 7 (by decide)
          have q8 : vs 8 = .int .u8 (n / 65536 % 256) := hp 8 (by decide)
          have HJ := Lib.hid hJ
          clear hp hd hdt hLi hJ
          simp only [putAll, Nat.reduceAdd]
          go_wp2
          exact ⟨rfl, HJ.out.keep 11 _ (by decide) (by decide) (by decide), trivial, rfl⟩
        · intro vs w1 L hLi hd hdt hJ hp
          have q0 : vs 0 = .pointer (some ⟨pb, 0, none⟩) := hp 0 (by decide)
          have q1 : vs 1 = .pointer (some ⟨pb, 0, none⟩) := hp 1 (by decide)
          have q2 : vs 2 = .pointer (some ⟨pb, 0, none⟩) := hp 2 (by decide)
          have q3 : vs 3 = v' := hp 3 (by decide)
          have q4 : vs 4 = .int .i64 n := hp 4 (by decide)
          have q5 : vs 5 = .int .i64 2 := hp 5 (by decide)
          have q6 : vs 6 = .int .i64 16 := hp 6 (by decide)
          have q7 : vs 7 = .int .i64 (n / 65536) := hp 7 (by decide)
          have q8 : vs 8 = .int .u8 (n / 65536 % 256) := hp 8 (by decide)
          have q11 : vs 11 = .pointer (some ⟨pb, 0, none⟩) := hp 11 (by decide)
          have hL10 : L 10 = true := hd 10 (by decide)
          unfold NumJ at hJ
          rw [hLi, hL10] at hJ
          simp only [Bool.false_eq_true, if_false, if_true] at hJ
          have HJ := Lib.hid hJ
          have hc1 := cell_of_one (HW.out.in_ hJ)
          have hf1 := free_of_one (HW.out.in_ hJ)
          obtain ⟨A2, c2, hv2⟩ := hJ.len
          have HV := Lib.hid hv2
          clear hp hd hdt hLi hJ hL10
          simp only [putAll, Nat.reduceAdd]
          rw [HV.out]
          go_wp2
          refine ⟨rfl, ?_, trivial, trivial⟩
          unfold NumJ
          simp only [updB, Nat.reduceAdd, beq_self_eq_true, Bool.or_true, if_true]
          have hz := HW.out.close HJ.out
          rw [HV.out] at hz
          simp only [List.length_append, List.length_cons, List.length_nil, Nat.zero_add, Nat.add_assoc] at hz
          exact ⟨_, hz⟩
      · intro vs w1 L hall hJ hp
        have q0 : vs 0 = .pointer (some ⟨pb, 0, none⟩) := hp 0 (by decide)
        have q1 : vs 1 = .pointer (some ⟨pb, 0, none⟩) := hp 1 (by decide)
        have q2 : vs 2 = .pointer (some ⟨pb, 0, none⟩) := hp 2 (by decide)
        have q3 : vs 3 = v' := hp 3 (by decide)
        have q4 : vs 4 = .int .i64 n := hp 4 (by decide)
        have q5 : vs 5 = .int .i64 2 := hp 5 (by decide)
        have q6 : vs 6 = .int .i64 16 := hp 6 (by decide)
        have q7 : vs 7 = .int .i64 (n / 65536) := hp 7 (by decide)
        have q8 : vs 8 = .int .u8 (n / 65536 % 256) := hp 8 (by decide)
        have q11 : vs 11 = .pointer (some ⟨pb, 0, none⟩) := hp 11 (by decide)
        have hL12 := hall 12 (by decide)
        unfold NumJ at hJ
        rw [hL12] at hJ
        simp only [if_true] at hJ
        obtain ⟨v2, hw2⟩ := hJ
        have HN := Lib.hid hw2
        clear hw2 hp hall hL12
        simp only [putAll, Nat.reduceAdd]
        go_wp2
        go_roundw
        case rel => exact ⟨2, rfl, by omega, v2, done ++ [n / 65536 % 256], Lib.hid ⟨by rw [List.append_assoc]; simpa [numB] using HD.out, by simp only [List.length_append, List.length_cons, List.length_nil]; omega, by rw [← List.append_assoc]; exact HN.out⟩⟩
        case measure => simp [intOf]
    · go_wp2
      refine wp_region_ogL (J := NumJ K w0 wr.drew pb v' (xs ++ done) (n / 16777216 % 256)) (R := fun _ _ => True) [Sp.eq _ (.pointer (some ⟨pb, 0, none⟩)), Sp.eq _ (.pointer (some ⟨pb, 0, none⟩)), Sp.eq _ (.pointer (some ⟨pb, 0, none⟩)), Sp.eq _ (v'), Sp.eq _ (.int .i64 n), Sp.eq _ (.int .i64 3), Sp.eq _ (.int .i64 24), Sp.eq _ (.int .i64 (n / 16777216)), Sp.eq _ (.int .u8 (n / 16777216 % 256)), Sp.any _, Sp.any _, Sp.eq _ (.pointer (some ⟨pb, 0, none⟩)), Sp.any _] (by kernel_rfl) (by kernel_rfl) ?_ ?_ ?_
      · exact ⟨HW.out.open, fun h => by cases h⟩
      · refine ⟨?_, ?_, ?_, ?_, ?_, ?_, ?_, ?_, ?_, ?_, ?_, ?_, ?_, trivial⟩
        · intro vs w1 L hLi hd hdt hJ hp
          have HJ := Lib.hid hJ
          clear hp hd hdt hLi hJ
          simp only [putAll, Nat.reduceAdd]
          go_wp2
          exact ⟨rfl, HJ.out.keep 0 _ (by decide) (by decide) (by decide), trivial, rfl⟩
        · intro vs w1 L hLi hd hdt hJ hp
          have HJ := Lib.hid hJ
          clear hp hd hdt hLi hJ
          simp only [putAll, Nat.reduceAdd]
          go_wp2
          exact ⟨rfl, HJ.out.keep 1 _ (by decide) (by decide) (by decide), trivial, rfl⟩
        · intro vs w1 L hLi hd hdt hJ hp
          have q1 : vs 1 = .pointer (some ⟨pb, 0, none⟩) := hp 1 (by decide)
          have HJ := Lib.hid hJ
          clear hp hd hdt hLi hJ
          simp only [putAll, Nat.reduceAdd]
          go_wp2
          exact ⟨rfl, HJ.out.keep 2 _ (by decide) (by decide) (by decide), trivial, rfl⟩
        · intro vs w1 L hLi hd hdt hJ hp
          have q2 : vs 2 = .pointer (some ⟨pb, 0, none⟩) := hp 2 (by decide)
          have HJ := Lib.hid hJ
          have hL10 : L 10 = false := hdt 10 (by decide)
          have hL12 : L 12 = false := hdt 12 (by decide)
          unfold NumJ at hJ
          rw [hL12, hL10] at hJ
          simp only [Bool.false_eq_true, if_false] at hJ
          have hc1 := cell_of_one (HW.out.in_ hJ.1)
          clear hp hd hdt hLi hJ hL10 hL12
          simp only [putAll, Nat.reduceAdd]
          go_wp2
          exact ⟨rfl, HJ.out.keep 3 _ (by decide) (by decide) (by decide), trivial, rfl⟩
        · intro vs w1 L hLi hd hdt hJ hp
          have HJ := Lib.hid hJ
          clear hp hd hdt hLi hJ
          simp only [putAll, Nat.reduceAdd]
          go_wp2
          exact ⟨rfl, HJ.out.keep 4 _ (by decide) (by decide) (by decide), trivial, rfl⟩
        · intro vs w1 L hLi hd hdt hJ hp
          have HJ := Lib.hid hJ
          clear hp hd hdt hLi hJ
          simp only [putAll, Nat.reduceAdd]
          go_wp2
          exact ⟨rfl, HJ.out.keep 5 _ (by decide) (by decide) (by decide), trivial, rfl⟩
        · intro vs w1 L hLi hd hdt hJ hp
          have q5 : vs 5 = .int .i64 3 := hp 5 (by decide)
          have HJ := Lib.hid hJ
          clear hp hd hdt hLi hJ
          simp only [putAll, Nat.reduceAdd]
          go_wp2
          exact ⟨rfl, HJ.out.keep 6 _ (by decide) (by decide) (by decide), trivial, rfl⟩
        · intro vs w1 L hLi hd hdt hJ hp
          have q4 : vs 4 = .int .i64 n := hp 4 (by decide)
          have q6 : vs 6 = .int .i64 24 := hp 6 (by decide)
          have HJ := Lib.hid hJ
          clear hp hd hdt hLi hJ
          simp only [putAll, Nat.reduceAdd]
          go_wp2
          exact ⟨rfl, HJ.out.keep 7 _ (by decide) (by decide) (by decide), trivial, rfl⟩
        · intro vs w1 L hLi hd hdt hJ hp
          have q7 : vs 7 = .int .i64 (n / 16777216) := hp 7 (by decide)
          have HJ := Lib.hid hJ
          clear hp hd hdt hLi hJ
          simp only [putAll, Nat.reduceAdd]
          go_wp2
          exact ⟨rfl, HJ.out.keep 8 _ (by decide) (by decide) (by decide), trivial, rfl⟩
        · intro vs w1 L hLi hd hdt hJ hp
          have q8 : vs 8 = .int .u8 (n / 16777216 % 256) := hp 8 (by decide)
          have hL10 : L 10 = false := hdt 10 (by decide)
          have hL12 : L 12 = false := hdt 12 (by decide)
          unfold NumJ at hJ
          rw [hL12, hL10] at hJ
          simp only [Bool.false_eq_true, if_false] at hJ
          have HJ := Lib.hid hJ.1
          have HL10 := Lib.hid hL10
          have HL12 := Lib.hid hL12
          clear hp hd hdt hLi hJ hL10 hL12
          simp only [putAll, Nat.reduceAdd]
          go_wp2
          refine ⟨rfl, ?_, trivial, trivial⟩
          unfold NumJ
          simp only [updB, upd, HL10.out, HL12.out]
          exact ⟨HJ.out.ext (ext_alloc _ _), fun _ => RdB.lit1 _ (n / 16777216 % 256)⟩
        · intro vs w1 L hLi hd hdt hJ hp
          have q3 : vs 3 = v' := hp 3 (by decide)
          have hL9 : L 9 = true := hd 9 (by decide)
          have hL12 : L 12 = false := hdt 12 (by decide)
          unfold NumJ at hJ
          rw [hL12, hLi] at hJ
          simp only [Bool.false_eq_true, if_false] at hJ
          have HJ := Lib.hid hJ.1
          have HR := Lib.hid (hJ.2 hL9)
          have HL12 := Lib.hid hL12
          clear hp hd hdt hLi hJ hL9 hL12
          simp only [putAll, Nat.reduceAdd]
          refine ap_row (v := v') (vx := vs 9) (ys := [n / 16777216 % 256]) rfl (.tmp 16) (.tmp 22) 79 79 rfl Tryz.underlying79 Tryz.underlying79 (by simp only [evp_none, ne_eq, Nat.reduceEqDiff, not_false_eq_true, evp_ne]; rw [evp_same _ _ _ (by simp [evp_size])]; exact q3) HJ.out (by simp only [evp_none, ne_eq, Nat.reduceEqDiff, not_false_eq_true, evp_ne]; rw [evp_same _ _ _ (by simp [evp_size])]) HR.out (by simp; omega) ?_
          intro v2 w2 hn
          refine ⟨rfl, ?_, trivial, trivial⟩
          unfold NumJ
          simp only [updB, upd, HL12.out, Bool.false_or, Nat.reduceBEq, Bool.false_eq_true, if_false, beq_self_eq_true, Bool.or_true, if_true]
          rw [slot_put _ _ _ (by simp [evp_size])]
          exact hn
        · intro vs w1 L hLi hd hdt hJ hp
          have q0 : vs 0 = .pointer (some ⟨pb, 0, none⟩) := hp 0 (by decide)
          have q1 : vs 1 = .pointer (some ⟨pb, 0, none⟩) := hp 1 (by decide)
          have q2 : vs 2 = .pointer (some ⟨pb, 0, none⟩) := hp 2 (by decide)
          have q3 : vs 3 = v' := hp 3 (by decide)
          have q4 : vs 4 = .int .i64 n := hp 4 (by decide)
          have q5 : vs 5 = .int .i64 3 := hp 5 (by decide)
          have q6 : vs 6 = .int .i64 24 := hp 6 (by decide)
          have q7 : vs 7 = .int .i64 (n / 16777216) := hp 7 (by decide)
          have q8 : vs 8 = .int .u8 (n / 16777216 % 256) := hp 8 (by decide)
          have HJ := Lib.hid hJ
          clear hp hd hdt hLi hJ
          simp only [putAll, Nat.reduceAdd]
          go_wp2
          exact ⟨rfl, HJ.out.keep 11 _ (by decide) (by decide) (by decide), trivial, rfl⟩
        · intro vs w1 L hLi hd hdt hJ hp
          have q0 : vs 0 = .pointer (some ⟨pb, 0, none⟩) := hp 0 (by decide)
          have q1 : vs 1 = .pointer (some ⟨pb, 0, none⟩) := hp 1 (by decide)
          have q2 : vs 2 = .pointer (some ⟨pb, 0, none⟩) := hp 2 (by decide)
          have q3 : vs 3 = v' := hp 3 (by decide)
          have q4 : vs 4 = .int .i64 n := hp 4 (by decide)
          have q5 : vs 5 = .int .i64 3 := hp 5 (by decide)
          have q6 : vs 6 = .int .i64 24 := hp 6 (by decide)
          have q7 : vs 7 = .int .i64 (n / 16777216) := hp 7 (by decide)
          have q8 : vs 8 = .int .u8 (n / 16777216 % 256) := hp 8 (by decide)
          have q11 : vs 11 = .pointer (some ⟨pb, 0, none⟩) := hp 11 (by decide)
          have hL10 : L 10 = true := hd 10 (by decide)
          unfold NumJ at hJ
          rw [hLi, hL10] at hJ
          simp only [Bool.false_eq_true, if_false, if_true] at hJ
          have HJ := Lib.hid hJ
          have hc1 := cell_of_one (HW.out.in_ hJ)
          have hf1 := free_of_one (HW.out.in_ hJ)
          obtain ⟨A2, c2, hv2⟩ := hJ.len
          have HV := Lib.hid hv2
          clear hp hd hdt hLi hJ hL10
          simp only [putAll, Nat.reduceAdd]
          rw [HV.out]
          go_wp2
          refine ⟨rfl, ?_, trivial, trivial⟩
          unfold NumJ
          simp only [updB, Nat.reduceAdd, beq_self_eq_true, Bool.or_true, if_true]
          have hz := HW.out.close HJ.out
          rw [HV.out] at hz
          simp only [List.length_append, List.length_cons, List.length_nil, Nat.zero_add, Nat.add_assoc] at hz
          exact ⟨_, hz⟩
      · intro vs w1 L hall hJ hp
        have q0 : vs 0 = .pointer (some ⟨pb, 0, none⟩) := hp 0 (by decide)
        have q1 : vs 1 = .pointer (some ⟨pb, 0, none⟩) := hp 1 (by decide)
        have q2 : vs 2 = .pointer (some ⟨pb, 0, none⟩) := hp 2 (by decide)
        have q3 : vs 3 = v' := hp 3 (by decide)
        have q4 : vs 4 = .int .i64 n := hp 4 (by decide)
        have q5 : vs 5 = .int .i64 3 := hp 5 (by decide)
        have q6 : vs 6 = .int .i64 24 := hp 6 (by decide)
        have q7 : vs 7 = .int .i64 (n / 16777216) := hp 7 (by decide)
        have q8 : vs 8 = .int .u8 (n / 16777216 % 256) := hp 8 (by decide)
        have q11 : vs 11 = .pointer (some ⟨pb, 0, none⟩) := hp 11 (by decide)
        have hL12 := hall 12 (by decide)
        unfold NumJ at hJ
        rw [hL12] at hJ
        simp only [if_true] at hJ
        obtain ⟨v2, hw2⟩ := hJ
        have HN := Lib.hid hw2
        clear hw2 hp hall hL12
        simp only [putAll, Nat.reduceAdd]
        go_wp2
        go_roundw
        case rel => exact ⟨3, rfl, by omega, v2, done ++ [n / 16777216 % 256], Lib.hid ⟨by rw [List.append_assoc]; simpa [numB] using HD.out, by simp only [List.length_append, List.length_cons, List.length_nil]; omega, by rw [← List.append_assoc]; exact HN.out⟩⟩
        case measure => simp [intOf]
end Go.Proofs.YtdenjanihikolaaGreatDoor
