/- Slices that are read, of numbers, of texts, of slices, of structs. -/
import Derived.Test.YtdenjanihikolaaGreatDoorEncz
namespace Go.Proofs.YtdenjanihikolaaGreatDoor
open Go.RowKit

/-- A slice of numbers that is read. -/
def RdI (kd : IntKind) (w : World) (v : Value) (xs : List Int) : Prop :=
  ∃ A c, v = .slice A xs.length c ∧ xs.length ≤ c ∧ c ≤ maxLen ∧ (0 < xs.length → ∃ b off, A = some ⟨b, off, none⟩ ∧ ∀ j, j < xs.length → w.cell? ⟨b, off + j, none⟩ = some (.int kd (xs.getD j 0)))
theorem RdI.ext {kd : IntKind} {w w' : World} {v : Value} {xs : List Int} (h : RdI kd w v xs) (hx : Ext w w') : RdI kd w' v xs := by
  obtain ⟨A, c, hv, h1, h2, h3⟩ := h
  refine ⟨A, c, hv, h1, h2, fun hn => ?_⟩
  obtain ⟨b, off, hA, hc⟩ := h3 hn
  exact ⟨b, off, hA, fun j hj => hx.cell (hc j hj)⟩
theorem RdI.at_ {kd : IntKind} {w : World} {A : Option Addr} {n c : Nat} {xs : List Int} (h : RdI kd w (.slice A n c) xs) {k : Nat} (hk : k < xs.length) : ∃ b off, A = some ⟨b, off, none⟩ ∧ w.cell? ⟨b, off + k, none⟩ = some (.int kd (xs.getD k 0)) := by
  obtain ⟨A', c', hv, h1, h2, h3⟩ := h
  obtain ⟨b, off, hA, hc⟩ := h3 (by omega)
  obtain ⟨rfl, _, _⟩ : A = A' ∧ n = xs.length ∧ c = c' := by simpa using hv
  exact ⟨b, off, hA, hc k hk⟩

/-- A slice whose elements are of one cell. -/
def Rd1 {α : Type} (R : World → α → Value → Prop) (w : World) (v : Value) (l : List α) : Prop :=
  ∃ A c, v = .slice A l.length c ∧ l.length ≤ c ∧ c ≤ maxLen ∧ (0 < l.length → ∃ b off, A = some ⟨b, off, none⟩ ∧ ∀ j (h : j < l.length), ∃ u, w.cell? ⟨b, off + j, none⟩ = some u ∧ R w l[j] u)
theorem Rd1.ext {α : Type} {R : World → α → Value → Prop} {w w' : World} {v : Value} {l : List α} (h : Rd1 R w v l) (hx : Ext w w') (hR : ∀ x u, R w x u → R w' x u) : Rd1 R w' v l := by
  obtain ⟨A, c, hv, h1, h2, h3⟩ := h
  refine ⟨A, c, hv, h1, h2, fun hn => ?_⟩
  obtain ⟨b, off, hA, hc⟩ := h3 hn
  refine ⟨b, off, hA, fun j hj => ?_⟩
  obtain ⟨u, hu, hr⟩ := hc j hj
  exact ⟨u, hx.cell hu, hR _ _ hr⟩
theorem Rd1.at_ {α : Type} {R : World → α → Value → Prop} {w : World} {A : Option Addr} {n c : Nat} {l : List α} (h : Rd1 R w (.slice A n c) l) {k : Nat} (hk : k < l.length) : ∃ b off u, A = some ⟨b, off, none⟩ ∧ w.cell? ⟨b, off + k, none⟩ = some u ∧ R w l[k] u := by
  obtain ⟨A', c', hv, h1, h2, h3⟩ := h
  obtain ⟨b, off, hA, hc⟩ := h3 (by omega)
  obtain ⟨rfl, _, _⟩ : A = A' ∧ n = l.length ∧ c = c' := by simpa using hv
  obtain ⟨u, hu, hr⟩ := hc k hk
  exact ⟨b, off, u, hA, hu, hr⟩

/-- A slice whose elements are of several cells. -/
def RdM {α : Type} (size : Nat) (R : World → α → (Nat → Value) → Prop) (w : World) (v : Value) (l : List α) : Prop :=
  ∃ A c, v = .slice A l.length c ∧ l.length ≤ c ∧ c ≤ maxLen ∧ (0 < l.length → ∃ b off, A = some ⟨b, off, none⟩ ∧ ∀ j (h : j < l.length), ∃ f : Nat → Value, (∀ k, k < size → w.cell? ⟨b, off + j * size + k, none⟩ = some (f k)) ∧ R w l[j] f)
theorem RdM.ext {α : Type} {size : Nat} {R : World → α → (Nat → Value) → Prop} {w w' : World} {v : Value} {l : List α} (h : RdM size R w v l) (hx : Ext w w') (hR : ∀ x f, R w x f → R w' x f) : RdM size R w' v l := by
  obtain ⟨A, c, hv, h1, h2, h3⟩ := h
  refine ⟨A, c, hv, h1, h2, fun hn => ?_⟩
  obtain ⟨b, off, hA, hc⟩ := h3 hn
  refine ⟨b, off, hA, fun j hj => ?_⟩
  obtain ⟨u, hu, hr⟩ := hc j hj
  exact ⟨u, fun k hk => hx.cell (hu k hk), hR _ _ hr⟩
theorem RdM.at_ {α : Type} {size : Nat} {R : World → α → (Nat → Value) → Prop} {w : World} {A : Option Addr} {n c : Nat} {l : List α} (h : RdM size R w (.slice A n c) l) {k : Nat} (hk : k < l.length) :
    ∃ b off, ∃ f : Nat → Value, A = some ⟨b, off, none⟩ ∧ (∀ j, j < size → w.cell? ⟨b, off + k * size + j, none⟩ = some (f j)) ∧ R w l[k] f := by
  obtain ⟨A', c', hv, h1, h2, h3⟩ := h
  obtain ⟨b, off, hA, hc⟩ := h3 (by omega)
  obtain ⟨rfl, _, _⟩ : A = A' ∧ n = l.length ∧ c = c' := by simpa using hv
  obtain ⟨u, hu, hr⟩ := hc k hk
  exact ⟨b, off, u, hA, hu, hr⟩

/-- A text in a cell. -/
def isStr (_ : World) (s : ByteArray) (u : Value) : Prop := u = .string s
/-- A value of bytes, or nil. -/
def isOpt (w : World) (o : Option (List Int)) (u : Value) : Prop :=
  match o with
  | none => u = .slice none 0 0
  | some d => ∃ a c, u = .slice (some a) d.length c ∧ RdB w u d
theorem isOpt.ext {w w' : World} (hx : Ext w w') : ∀ o u, isOpt w o u → isOpt w' o u := by
  intro o u h
  cases o with
  | none => exact h
  | some d => obtain ⟨a, c, hu, hr⟩ := h; exact ⟨a, c, hu, hr.ext hx⟩

theorem take_flat {α : Type} (f : α → List Int) (l : List α) (k : Nat) (h : k < l.length) : (l.take (k + 1)).flatMap f = (l.take k).flatMap f ++ f l[k] := by
  rw [List.take_succ_eq_append_getElem h, List.flatMap_append]
  simp
theorem getD_at {l : List Int} {k : Nat} (h : k < l.length) : l.getD k 0 = l[k] := by simp [List.getD, List.getElem?_eq_getElem h]
theorem flat_len {α : Type} (f : α → List Int) (m : Nat) : ∀ (l : List α), (∀ x ∈ l, (f x).length ≤ m) → (l.flatMap f).length ≤ l.length * m
  | [], _ => by simp
  | a :: t, h => by
    have h1 := h a (by simp)
    have h2 := flat_len f m t fun x hx => h x (by simp [hx])
    simp only [List.flatMap_cons, List.length_append, List.length_cons, Nat.add_mul]
    omega
theorem flat_take_len {α : Type} (f : α → List Int) (m k : Nat) (l : List α) (h : ∀ x ∈ l, (f x).length ≤ m) : ((l.take k).flatMap f).length ≤ l.length * m := by
  have h1 := flat_len f m (l.take k) fun x hx => h x (List.mem_of_mem_take hx)
  have h2 : (l.take k).length ≤ l.length := List.length_take_le' k l
  exact Nat.le_trans h1 (Nat.mul_le_mul_right m h2)

/-- a value of bytes, or nothing, with its length ahead of it -/
def optB : Option (List Int) → List Int
  | none => b32 (-1)
  | some d => b32 d.length ++ d

/-- A column of a row's description. -/
structure Fd where
  name : List Int
  tab : Int
  col : Int
  typ : Int
  siz : Int
  mdf : Int
  fmt : Int
def fdB (x : Fd) : List Int := x.name ++ [0] ++ b32 x.tab ++ b16 x.col ++ b32 x.typ ++ b16 x.siz ++ b32 x.mdf ++ b16 x.fmt
def isFd (w : World) (x : Fd) (f : Nat → Value) : Prop :=
  (∃ A c, f 0 = .slice A x.name.length c ∧ RdB w (.slice A x.name.length c) x.name) ∧ f 1 = .int .u32 x.tab ∧ f 2 = .int .u16 x.col ∧ f 3 = .int .u32 x.typ ∧ f 4 = .int .i16 x.siz ∧ f 5 = .int .i32 x.mdf ∧ f 6 = .int .i16 x.fmt
theorem isFd.ext {w w' : World} (hx : Ext w w') : ∀ x f, isFd w x f → isFd w' x f := fun _ _ ⟨⟨A, c, h1, h2⟩, h3⟩ => ⟨⟨A, c, h1, h2.ext hx⟩, h3⟩

/-- A new block beside the row. -/
theorem Buf.box {K : Nat → Prop} {w0 w : World} {v : Value} {xs : List Int} (h : Buf K w0 w v xs) (o : Obj) : Buf (fun k => K k ∨ k = w.heap.size) (w.alloc o) (w.alloc o) v xs := by
  refine (h.ext (ext_alloc w o)).rebase ?_ ?_
  · intro k hk
    have hs : (w.alloc o).heap.size = w.heap.size + 1 := by simp
    rcases hk with hk | hk
    · have := h.lt k hk; omega
    · omega
  · intro g hg hk
    rcases hk with hk | hk
    · exact h.off g hg hk
    · have := h.own_lt g hg; omega
theorem Buf.unbox {K : Nat → Prop} {w0 w w' : World} {v v' : Value} {xs ys : List Int} {o : Obj} (h : Buf K w0 w v xs) (h' : Buf (fun k => K k ∨ k = w.heap.size) (w.alloc o) w' v' ys) : Buf K w0 w' v' ys :=
  Buf.unbase (h.ext (ext_alloc w o)) h' (fun _ hk => .inl hk)
theorem Buf.boxed {K : Nat → Prop} {w w' : World} {v' : Value} {ys : List Int} {cs : Array Value} {t : TypeId} (h' : Buf (fun k => K k ∨ k = w.heap.size) (w.alloc (.cells cs t)) w' v' ys) : ∀ j, w'.cell? ⟨w.heap.size, j, none⟩ = cs[j]? := by
  intro j
  have h1 := h'.kept w.heap.size (.inr rfl)
  rw [heap_alloc_new] at h1
  exact cell_of_row _ _ _ _ _ _ h1

end Go.Proofs.YtdenjanihikolaaGreatDoor
