/- The writer of the reference: bytes and texts, by contract. -/
import Derived.Test.YtdenjanihikolaaGreatDoorWra
namespace Go.Proofs.YtdenjanihikolaaGreatDoor
open Go.RowKit Og
set_option linter.unusedVariables false
set_option linter.unusedSimpArgs false

theorem Wr.ext {K : Nat → Prop} {w0 w w' : World} {pb : Nat} {v : Value} {xs : List Int} (h : Wr K w0 w pb v xs) (hx : Ext w w') : Wr K w0 w' pb v xs :=
  ⟨h.out, (hx.block pb (lt_of_block h.blk)).trans h.blk, h.buf.ext hx, h.off⟩

theorem Buf.sl {K : Nat → Prop} {w0 w : World} {v : Value} {xs : List Int} (h : Buf K w0 w v xs) : ∃ A n c, v = .slice A n c := by
  obtain ⟨A, c, hv⟩ := h.len
  exact ⟨A, _, c, hv⟩

/-- What a method of the writer leaves. -/
def Wrote (K : Nat → Prop) (w0 : World) (pb : Nat) (ys : List Int) : Ending → World → Prop := fun e w' => e = .returned (.tuple #[]) ∧ ∃ v', Wr K w0 w' pb v' ys

theorem number_w (k : Nat) (hk : k ≤ 4) (n : Int) {K : Nat → Prop} {w0 w : World} {pb : Nat} {v : Value} {xs : List Int} (h : Wr K w0 w pb v xs) (hl : xs.length ≤ 1099511627776) :
    Calls Tryz.prog 36 #[.pointer (some ⟨pb, 0, none⟩), .int .i64 n, .int .i64 k] w (Wrote K w0 pb (xs ++ numB n k)) := number_any k hk n h hl

set_option maxRecDepth 100000 in
theorem bytes_w {K : Nat → Prop} {w0 w : World} {pb : Nat} {v vb : Value} {xs ys : List Int} (h : Wr K w0 w pb v xs) (hr : RdB w vb ys) (hl : xs.length + ys.length ≤ 1099511627776) :
    Calls Tryz.prog 37 #[.pointer (some ⟨pb, 0, none⟩), vb] w (Wrote K w0 pb (xs ++ ys)) := by
  have hc := h.cell
  have H := Lib.hid h
  clear h
  have HR := Lib.hid hr
  clear hr
  go_enter Tryz.func37, Tryz.ntmps37
  go_wp2_with (at_builtin; refine ap_row (v := v) (vx := vb) (ys := ys) rfl _ _ 79 26 rfl Tryz.underlying79 Tryz.underlying26 rfl H.out.open rfl HR.out (by omega) ?_; intro v1 w1 hn; obtain ⟨A2, n2, c2, hv2⟩ := hn.sl; subst hv2; have hc1 := cell_of_one (H.out.in_ hn); have hf1 := free_of_one (H.out.in_ hn); have HN := Lib.hid hn; clear hn hc)
  go_end0
  exact ⟨rfl, _, H.out.close HN.out⟩

set_option maxRecDepth 100000 in
theorem text_w (s : ByteArray) {K : Nat → Prop} {w0 w : World} {pb : Nat} {v : Value} {xs : List Int} (h : Wr K w0 w pb v xs) (hl : xs.length + s.size ≤ 1099511627776) :
    Calls Tryz.prog 38 #[.pointer (some ⟨pb, 0, none⟩), .string s] w (Wrote K w0 pb (xs ++ txt s)) := by
  have hc := h.cell
  have H := Lib.hid h
  clear h
  go_enter Tryz.func38, Tryz.ntmps38
  go_wp2_with (first | (at_builtin; refine ap_str (st := s) rfl _ _ 79 rfl Tryz.underlying79 rfl rfl H.out.open (by omega) ?_; intro v1 w1 hn; have HB := Lib.hid hn; clear hn) | (at_builtin; refine ap_lit1 rfl _ _ 79 79 rfl Tryz.underlying79 Tryz.underlying79 rfl rfl HB.out (by simp only [List.length_append, sby_length]; omega) ?_; intro v2 w2 hn; obtain ⟨A2, n2, c2, hv2⟩ := hn.sl; subst hv2; have hc1 := cell_of_one (H.out.in_ hn); have hf1 := free_of_one (H.out.in_ hn); have HN := Lib.hid hn; clear hn hc))
  go_end0
  have hz := H.out.close HN.out
  rw [List.append_assoc] at hz
  exact ⟨rfl, _, hz⟩

end Go.Proofs.YtdenjanihikolaaGreatDoor
