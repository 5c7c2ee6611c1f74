/- What an Encode hands back, and small laws for the walks through the Encode methods. -/
import Derived.Test.YtdenjanihikolaaGreatDoorPgio
import Derived.WalkSpells
import Derived.Lib.SliceRun
namespace Go.Proofs.YtdenjanihikolaaGreatDoor
open Go.RowKit

theorem Buf.cellb {w0 w : World} {v : Value} {xs : List Int} (h : Buf (Lt w0.heap.size) w0 w v xs) {b : Nat} (hb : b < w0.heap.size) : ∀ o, w.cell? ⟨b, o, none⟩ = w0.cell? ⟨b, o, none⟩ := fun o => Below.cell h.bel (p := ⟨b, o, none⟩) hb
theorem lt_of_cell {w : World} {b o : Nat} {v : Value} (h : w.cell? ⟨b, o, none⟩ = some v) : b < w.heap.size := World.block_lt_of_cell? w _ h

/-- a text with its nought -/
def txt (s : ByteArray) : List Int := sby s ++ [0]
/-- a message with its type -/
def msgB (t : Int) (body : List Int) : List Int := t :: (b32 (body.length + 4) ++ body)
/-- a message without a type -/
def msg0 (body : List Int) : List Int := b32 (body.length + 4) ++ body

theorem txt_len (s : ByteArray) : (txt s).length = s.size + 1 := by simp [txt, sby_length]

/-- What an Encode hands back: no error, and bytes that are read. -/
def Gives (w : World) (xs : List Int) (e : Ending) (w' : World) : Prop := ∃ v', e = .returned (.tuple #[v', .nilIface]) ∧ Ext w w' ∧ RdB w' v' xs
theorem gives_of {w w' : World} {v : Value} {xs : List Int} (h : Buf (Lt w.heap.size) w w' v xs) {R : List Int} (e : R = xs) : Gives w R (.returned (.tuple #[v, .nilIface])) w' := ⟨v, rfl, h.bel, e ▸ h.rd⟩

theorem finish1 {B : Nat → Prop} {w0 : World} (v : Value) (t : Int) (xs body : List Int) (w : World) (hb : Buf B w0 w v xs) (hx : xs = [t, 255, 255, 255, 255] ++ body) (hlen : body.length ≤ 900000) :
    Calls Tryz.prog 143 #[v, .int .i64 1] w fun e w' => ∃ v', e = .returned (.tuple #[v', .nilIface]) ∧ Buf B w0 w' v' (msgB t body) :=
  finish_any v [t] body 255 255 255 255 w (by rw [hx] at hb; exact hb) (by simp; omega)

theorem ext_bytes (w : World) (s : ByteArray) : Ext w (Lib.bytesWorld w 5 s) :=
  ⟨rfl, rfl, rfl, by rw [Lib.bytesWorld_size]; omega, fun k hk => Lib.bytesWorld_at_old w 5 s k hk⟩
theorem RdB.str (w : World) (s : ByteArray) (hs : s.size ≤ maxLen) : RdB (Lib.bytesWorld w 5 s) (.slice (some ⟨w.heap.size, 0, none⟩) s.size (grownCap w s.size 0 5)) (sby s) := by
  refine ⟨_, _, by rw [sby_length], by rw [sby_length]; exact grownCap_ge w s.size 0 5, grownCap_le_maxLen w s.size 0 5 hs, fun _ => ⟨w.heap.size, 0, rfl, fun j hj => ?_⟩⟩
  rw [sby_length] at hj
  rw [Nat.zero_add, Lib.bytesWorld_cell w 5 s j hj]
  unfold sby
  have hl : j < s.data.toList.length := by rw [Array.length_toList]; exact hj
  simp [List.getD, List.getElem?_map, List.getElem?_eq_getElem hl]
theorem run_bytes (s : ByteArray) (w : World) : (convert 9 26 (.string s)).run Tryz.prog w = .ok (.slice (some ⟨w.heap.size, 0, none⟩) s.size (grownCap w s.size 0 5)) (Lib.bytesWorld w 5 s) :=
  Lib.run_convert_string_bytes w 9 26 5 s Tryz.underlying9 Tryz.underlying26 Tryz.underlying5

/-- append of '[]byte(s)'. -/
theorem ap_conv {ops : Array Oper} {rest : List Oper} {o : Oper} {a : Act} {Q : Exit → Act → World → Prop} {W : World} {st : ByteArray} (hgd : o.guard = none) (s x : Operand) (t tx : TypeId)
    (ho : o.op = .call { callee := .builtin .append, args := #[s, x], argTypes := #[t, tx] })
    (ht : Tryz.prog.underlying t = some (.slice 5)) (htx : Tryz.prog.underlying tx = some (.slice 5))
    (hx : a.eval x = .slice (some ⟨W.heap.size, 0, none⟩) st.size (grownCap W st.size 0 5)) {v : Value} (hs : a.eval s = v) {B : Nat → Prop} {w0 : World} {xs : List Int} (hb : Buf B w0 W v xs) (hl : xs.length + st.size ≤ 35184372088832)
    (h : ∀ v' w', Buf B w0 w' v' (xs ++ sby st) → wpList Tryz.prog ops Q rest (a.put o.dst v') w') : wpList Tryz.prog ops Q (o :: rest) a (Lib.bytesWorld W 5 st) :=
  ap_row hgd s x t tx ho ht htx hs (hb.ext (ext_bytes W st)) hx (RdB.str W st (by unfold maxLen; omega)) (by rw [sby_length]; omega) h

theorem RdB.lit6 (W : World) (a b c d e f : Int) : RdB (W.alloc (.cells #[.int .u8 a, .int .u8 b, .int .u8 c, .int .u8 d, .int .u8 e, .int .u8 f] 5)) (.slice (some ⟨W.heap.size, 0, none⟩) 6 6) [a, b, c, d, e, f] :=
  ⟨_, 6, rfl, Nat.le_refl _, by unfold maxLen; omega, fun _ => ⟨W.heap.size, 0, rfl, fun j hj => by
    rw [Nat.zero_add, cell_of_row _ _ _ _ _ _ (heap_alloc_new W _)]
    match j, hj with
    | 0, _ => rfl
    | 1, _ => rfl
    | 2, _ => rfl
    | 3, _ => rfl
    | 4, _ => rfl
    | 5, _ => rfl⟩⟩
theorem ap_lit5 {ops : Array Oper} {rest : List Oper} {o : Oper} {a : Act} {Q : Exit → Act → World → Prop} {W : World} {x1 x2 x3 x4 x5 : Int} (hgd : o.guard = none) (s x : Operand) (t tx : TypeId)
    (ho : o.op = .call { callee := .builtin .append, args := #[s, x], argTypes := #[t, tx] })
    (ht : Tryz.prog.underlying t = some (.slice 5)) (htx : Tryz.prog.underlying tx = some (.slice 5))
    (hx : a.eval x = .slice (some ⟨W.heap.size, 0, none⟩) 5 5) {v : Value} (hs : a.eval s = v) {B : Nat → Prop} {w0 : World} {xs : List Int} (hb : Buf B w0 W v xs) (hl : xs.length ≤ 35184372088832)
    (h : ∀ v' w', Buf B w0 w' v' (xs ++ [x1, x2, x3, x4, x5]) → wpList Tryz.prog ops Q rest (a.put o.dst v') w') : wpList Tryz.prog ops Q (o :: rest) a (W.alloc (.cells #[.int .u8 x1, .int .u8 x2, .int .u8 x3, .int .u8 x4, .int .u8 x5] 5)) :=
  ap_row hgd s x t tx ho ht htx hs (hb.ext (ext_alloc W _)) hx (RdB.lit5 W x1 x2 x3 x4 x5) (by simp; omega) h
theorem ap_lit6 {ops : Array Oper} {rest : List Oper} {o : Oper} {a : Act} {Q : Exit → Act → World → Prop} {W : World} {x1 x2 x3 x4 x5 x6 : Int} (hgd : o.guard = none) (s x : Operand) (t tx : TypeId)
    (ho : o.op = .call { callee := .builtin .append, args := #[s, x], argTypes := #[t, tx] })
    (ht : Tryz.prog.underlying t = some (.slice 5)) (htx : Tryz.prog.underlying tx = some (.slice 5))
    (hx : a.eval x = .slice (some ⟨W.heap.size, 0, none⟩) 6 6) {v : Value} (hs : a.eval s = v) {B : Nat → Prop} {w0 : World} {xs : List Int} (hb : Buf B w0 W v xs) (hl : xs.length ≤ 35184372088832)
    (h : ∀ v' w', Buf B w0 w' v' (xs ++ [x1, x2, x3, x4, x5, x6]) → wpList Tryz.prog ops Q rest (a.put o.dst v') w') : wpList Tryz.prog ops Q (o :: rest) a (W.alloc (.cells #[.int .u8 x1, .int .u8 x2, .int .u8 x3, .int .u8 x4, .int .u8 x5, .int .u8 x6] 5)) :=
  ap_row hgd s x t tx ho ht htx hs (hb.ext (ext_alloc W _)) hx (RdB.lit6 W x1 x2 x3 x4 x5 x6) (by simp; omega) h

/-- The receiver's own array of four bytes. -/
theorem RdB.arr4 {w : World} {b : Nat} {a0 a1 a2 a3 : Int} (h0 : w.cell? ⟨b, 0, none⟩ = some (.int .u8 a0)) (h1 : w.cell? ⟨b, 1, none⟩ = some (.int .u8 a1)) (h2 : w.cell? ⟨b, 2, none⟩ = some (.int .u8 a2)) (h3 : w.cell? ⟨b, 3, none⟩ = some (.int .u8 a3)) :
    RdB w (.slice (some ⟨b, 0, none⟩) 4 4) [a0, a1, a2, a3] :=
  ⟨_, 4, rfl, Nat.le_refl _, by unfold maxLen; omega, fun _ => ⟨b, 0, rfl, fun j hj => by
    rw [Nat.zero_add]
    match j, hj with
    | 0, _ => exact h0
    | 1, _ => exact h1
    | 2, _ => exact h2
    | 3, _ => exact h3⟩⟩

end Go.Proofs.YtdenjanihikolaaGreatDoor
