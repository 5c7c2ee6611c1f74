/- Encode methods with loops, by contract. -/
import Derived.Test.YtdenjanihikolaaGreatDoorVBase
namespace Go.Proofs.YtdenjanihikolaaGreatDoor
open Go.RowKit
set_option linter.unusedVariables false
set_option linter.unusedSimpArgs false

set_option maxRecDepth 100000 in
theorem encCopyDone (b : Nat)  (w : World)   (R : List Int) (HR : Hid (R = msgB 99 ([]))) :
    Calls Tryz.prog 215 #[.pointer (some ⟨b, 0, none⟩), .slice none 0 0] w (Gives w R) := by
  have HB := Lib.hid (Buf.nil w)
  go_enter Tryz.func215, Tryz.ntmps215
  go_wp2_with (first | (go_at_call 139; refine (begin_any _ _ _ _ HB.out (by simp)).mono ?_; rintro e w1 ⟨v1, rfl, hn⟩; replace HB := Lib.hid hn; clear hn) | (go_at_call 145; refine (appendU32 _ _ _ _ (by omega) (by omega) HB.out (by simp only [List.length_append, List.length_cons, List.length_nil, sby_length, b16_len, b32_len]; omega)).mono ?_; rintro e w1 ⟨v1, rfl, hn⟩; replace HB := Lib.hid hn; clear hn) | (go_at_call 142; refine (appendI32 _ _ _ _ HB.out (by simp only [List.length_append, List.length_cons, List.length_nil, sby_length, b16_len, b32_len]; omega)).mono ?_; rintro e w1 ⟨v1, rfl, hn⟩; replace HB := Lib.hid hn; clear hn) | (go_at_call 143; refine (finish1 _ 99 _ ([]) _ HB.out (by simp only [txt, List.append_assoc, List.cons_append, List.nil_append]) (by first | omega | (simp only [txt, List.length_append, List.length_cons, List.length_nil, sby_length, b16_len, b32_len]; omega))).mono ?_; rintro e w1 ⟨v1, rfl, hn⟩; clear HB; have HB := Lib.hid hn; clear hn) | (at_builtin; refine ap_lit1 rfl _ _ 26 26 rfl Tryz.underlying26 Tryz.underlying26 rfl rfl HB.out (by simp only [List.length_append, List.length_cons, List.length_nil, sby_length, b16_len, b32_len]; omega) ?_; intro v3 w3 hn; replace HB := Lib.hid hn; clear hn) | (at_builtin; refine ap_lit5 rfl _ _ 26 26 rfl Tryz.underlying26 Tryz.underlying26 rfl rfl HB.out (by simp only [List.length_append, List.length_cons, List.length_nil, sby_length, b16_len, b32_len]; omega) ?_; intro v3 w3 hn; replace HB := Lib.hid hn; clear hn) | (at_builtin; refine ap_lit6 rfl _ _ 26 26 rfl Tryz.underlying26 Tryz.underlying26 rfl rfl HB.out (by simp only [List.length_append, List.length_cons, List.length_nil, sby_length, b16_len, b32_len]; omega) ?_; intro v3 w3 hn; replace HB := Lib.hid hn; clear hn))
  go_ret2
  exact gives_of HB.out (by rw [HR.out]; rfl)

set_option maxRecDepth 100000 in
theorem encFlush (b : Nat)  (w : World)   (R : List Int) (HR : Hid (R = msgB 72 ([]))) :
    Calls Tryz.prog 217 #[.pointer (some ⟨b, 0, none⟩), .slice none 0 0] w (Gives w R) := by
  have HB := Lib.hid (Buf.nil w)
  go_enter Tryz.func217, Tryz.ntmps217
  go_wp2_with (first | (go_at_call 139; refine (begin_any _ _ _ _ HB.out (by simp)).mono ?_; rintro e w1 ⟨v1, rfl, hn⟩; replace HB := Lib.hid hn; clear hn) | (go_at_call 145; refine (appendU32 _ _ _ _ (by omega) (by omega) HB.out (by simp only [List.length_append, List.length_cons, List.length_nil, sby_length, b16_len, b32_len]; omega)).mono ?_; rintro e w1 ⟨v1, rfl, hn⟩; replace HB := Lib.hid hn; clear hn) | (go_at_call 142; refine (appendI32 _ _ _ _ HB.out (by simp only [List.length_append, List.length_cons, List.length_nil, sby_length, b16_len, b32_len]; omega)).mono ?_; rintro e w1 ⟨v1, rfl, hn⟩; replace HB := Lib.hid hn; clear hn) | (go_at_call 143; refine (finish1 _ 72 _ ([]) _ HB.out (by simp only [txt, List.append_assoc, List.cons_append, List.nil_append]) (by first | omega | (simp only [txt, List.length_append, List.length_cons, List.length_nil, sby_length, b16_len, b32_len]; omega))).mono ?_; rintro e w1 ⟨v1, rfl, hn⟩; clear HB; have HB := Lib.hid hn; clear hn) | (at_builtin; refine ap_lit1 rfl _ _ 26 26 rfl Tryz.underlying26 Tryz.underlying26 rfl rfl HB.out (by simp only [List.length_append, List.length_cons, List.length_nil, sby_length, b16_len, b32_len]; omega) ?_; intro v3 w3 hn; replace HB := Lib.hid hn; clear hn) | (at_builtin; refine ap_lit5 rfl _ _ 26 26 rfl Tryz.underlying26 Tryz.underlying26 rfl rfl HB.out (by simp only [List.length_append, List.length_cons, List.length_nil, sby_length, b16_len, b32_len]; omega) ?_; intro v3 w3 hn; replace HB := Lib.hid hn; clear hn) | (at_builtin; refine ap_lit6 rfl _ _ 26 26 rfl Tryz.underlying26 Tryz.underlying26 rfl rfl HB.out (by simp only [List.length_append, List.length_cons, List.length_nil, sby_length, b16_len, b32_len]; omega) ?_; intro v3 w3 hn; replace HB := Lib.hid hn; clear hn))
  go_ret2
  exact gives_of HB.out (by rw [HR.out]; rfl)

set_option maxRecDepth 100000 in
theorem encSync (b : Nat)  (w : World)   (R : List Int) (HR : Hid (R = msgB 83 ([]))) :
    Calls Tryz.prog 226 #[.pointer (some ⟨b, 0, none⟩), .slice none 0 0] w (Gives w R) := by
  have HB := Lib.hid (Buf.nil w)
  go_enter Tryz.func226, Tryz.ntmps226
  go_wp2_with (first | (go_at_call 139; refine (begin_any _ _ _ _ HB.out (by simp)).mono ?_; rintro e w1 ⟨v1, rfl, hn⟩; replace HB := Lib.hid hn; clear hn) | (go_at_call 145; refine (appendU32 _ _ _ _ (by omega) (by omega) HB.out (by simp only [List.length_append, List.length_cons, List.length_nil, sby_length, b16_len, b32_len]; omega)).mono ?_; rintro e w1 ⟨v1, rfl, hn⟩; replace HB := Lib.hid hn; clear hn) | (go_at_call 142; refine (appendI32 _ _ _ _ HB.out (by simp only [List.length_append, List.length_cons, List.length_nil, sby_length, b16_len, b32_len]; omega)).mono ?_; rintro e w1 ⟨v1, rfl, hn⟩; replace HB := Lib.hid hn; clear hn) | (go_at_call 143; refine (finish1 _ 83 _ ([]) _ HB.out (by simp only [txt, List.append_assoc, List.cons_append, List.nil_append]) (by first | omega | (simp only [txt, List.length_append, List.length_cons, List.length_nil, sby_length, b16_len, b32_len]; omega))).mono ?_; rintro e w1 ⟨v1, rfl, hn⟩; clear HB; have HB := Lib.hid hn; clear hn) | (at_builtin; refine ap_lit1 rfl _ _ 26 26 rfl Tryz.underlying26 Tryz.underlying26 rfl rfl HB.out (by simp only [List.length_append, List.length_cons, List.length_nil, sby_length, b16_len, b32_len]; omega) ?_; intro v3 w3 hn; replace HB := Lib.hid hn; clear hn) | (at_builtin; refine ap_lit5 rfl _ _ 26 26 rfl Tryz.underlying26 Tryz.underlying26 rfl rfl HB.out (by simp only [List.length_append, List.length_cons, List.length_nil, sby_length, b16_len, b32_len]; omega) ?_; intro v3 w3 hn; replace HB := Lib.hid hn; clear hn) | (at_builtin; refine ap_lit6 rfl _ _ 26 26 rfl Tryz.underlying26 Tryz.underlying26 rfl rfl HB.out (by simp only [List.length_append, List.length_cons, List.length_nil, sby_length, b16_len, b32_len]; omega) ?_; intro v3 w3 hn; replace HB := Lib.hid hn; clear hn))
  go_ret2
  exact gives_of HB.out (by rw [HR.out]; rfl)

set_option maxRecDepth 100000 in
theorem encTerminate (b : Nat)  (w : World)   (R : List Int) (HR : Hid (R = msgB 88 ([]))) :
    Calls Tryz.prog 229 #[.pointer (some ⟨b, 0, none⟩), .slice none 0 0] w (Gives w R) := by
  have HB := Lib.hid (Buf.nil w)
  go_enter Tryz.func229, Tryz.ntmps229
  go_wp2_with (first | (go_at_call 139; refine (begin_any _ _ _ _ HB.out (by simp)).mono ?_; rintro e w1 ⟨v1, rfl, hn⟩; replace HB := Lib.hid hn; clear hn) | (go_at_call 145; refine (appendU32 _ _ _ _ (by omega) (by omega) HB.out (by simp only [List.length_append, List.length_cons, List.length_nil, sby_length, b16_len, b32_len]; omega)).mono ?_; rintro e w1 ⟨v1, rfl, hn⟩; replace HB := Lib.hid hn; clear hn) | (go_at_call 142; refine (appendI32 _ _ _ _ HB.out (by simp only [List.length_append, List.length_cons, List.length_nil, sby_length, b16_len, b32_len]; omega)).mono ?_; rintro e w1 ⟨v1, rfl, hn⟩; replace HB := Lib.hid hn; clear hn) | (go_at_call 143; refine (finish1 _ 88 _ ([]) _ HB.out (by simp only [txt, List.append_assoc, List.cons_append, List.nil_append]) (by first | omega | (simp only [txt, List.length_append, List.length_cons, List.length_nil, sby_length, b16_len, b32_len]; omega))).mono ?_; rintro e w1 ⟨v1, rfl, hn⟩; clear HB; have HB := Lib.hid hn; clear hn) | (at_builtin; refine ap_lit1 rfl _ _ 26 26 rfl Tryz.underlying26 Tryz.underlying26 rfl rfl HB.out (by simp only [List.length_append, List.length_cons, List.length_nil, sby_length, b16_len, b32_len]; omega) ?_; intro v3 w3 hn; replace HB := Lib.hid hn; clear hn) | (at_builtin; refine ap_lit5 rfl _ _ 26 26 rfl Tryz.underlying26 Tryz.underlying26 rfl rfl HB.out (by simp only [List.length_append, List.length_cons, List.length_nil, sby_length, b16_len, b32_len]; omega) ?_; intro v3 w3 hn; replace HB := Lib.hid hn; clear hn) | (at_builtin; refine ap_lit6 rfl _ _ 26 26 rfl Tryz.underlying26 Tryz.underlying26 rfl rfl HB.out (by simp only [List.length_append, List.length_cons, List.length_nil, sby_length, b16_len, b32_len]; omega) ?_; intro v3 w3 hn; replace HB := Lib.hid hn; clear hn))
  go_ret2
  exact gives_of HB.out (by rw [HR.out]; rfl)

set_option maxRecDepth 100000 in
theorem encBindComplete (b : Nat)  (w : World)   (R : List Int) (HR : Hid (R = msgB 50 ([]))) :
    Calls Tryz.prog 242 #[.pointer (some ⟨b, 0, none⟩), .slice none 0 0] w (Gives w R) := by
  have HB := Lib.hid (Buf.nil w)
  go_enter Tryz.func242, Tryz.ntmps242
  go_wp2_with (first | (go_at_call 139; refine (begin_any _ _ _ _ HB.out (by simp)).mono ?_; rintro e w1 ⟨v1, rfl, hn⟩; replace HB := Lib.hid hn; clear hn) | (go_at_call 145; refine (appendU32 _ _ _ _ (by omega) (by omega) HB.out (by simp only [List.length_append, List.length_cons, List.length_nil, sby_length, b16_len, b32_len]; omega)).mono ?_; rintro e w1 ⟨v1, rfl, hn⟩; replace HB := Lib.hid hn; clear hn) | (go_at_call 142; refine (appendI32 _ _ _ _ HB.out (by simp only [List.length_append, List.length_cons, List.length_nil, sby_length, b16_len, b32_len]; omega)).mono ?_; rintro e w1 ⟨v1, rfl, hn⟩; replace HB := Lib.hid hn; clear hn) | (go_at_call 143; refine (finish1 _ 50 _ ([]) _ HB.out (by simp only [txt, List.append_assoc, List.cons_append, List.nil_append]) (by first | omega | (simp only [txt, List.length_append, List.length_cons, List.length_nil, sby_length, b16_len, b32_len]; omega))).mono ?_; rintro e w1 ⟨v1, rfl, hn⟩; clear HB; have HB := Lib.hid hn; clear hn) | (at_builtin; refine ap_lit1 rfl _ _ 26 26 rfl Tryz.underlying26 Tryz.underlying26 rfl rfl HB.out (by simp only [List.length_append, List.length_cons, List.length_nil, sby_length, b16_len, b32_len]; omega) ?_; intro v3 w3 hn; replace HB := Lib.hid hn; clear hn) | (at_builtin; refine ap_lit5 rfl _ _ 26 26 rfl Tryz.underlying26 Tryz.underlying26 rfl rfl HB.out (by simp only [List.length_append, List.length_cons, List.length_nil, sby_length, b16_len, b32_len]; omega) ?_; intro v3 w3 hn; replace HB := Lib.hid hn; clear hn) | (at_builtin; refine ap_lit6 rfl _ _ 26 26 rfl Tryz.underlying26 Tryz.underlying26 rfl rfl HB.out (by simp only [List.length_append, List.length_cons, List.length_nil, sby_length, b16_len, b32_len]; omega) ?_; intro v3 w3 hn; replace HB := Lib.hid hn; clear hn))
  go_ret2
  exact gives_of HB.out (by rw [HR.out]; rfl)

set_option maxRecDepth 100000 in
theorem encCloseComplete (b : Nat)  (w : World)   (R : List Int) (HR : Hid (R = msgB 51 ([]))) :
    Calls Tryz.prog 245 #[.pointer (some ⟨b, 0, none⟩), .slice none 0 0] w (Gives w R) := by
  have HB := Lib.hid (Buf.nil w)
  go_enter Tryz.func245, Tryz.ntmps245
  go_wp2_with (first | (go_at_call 139; refine (begin_any _ _ _ _ HB.out (by simp)).mono ?_; rintro e w1 ⟨v1, rfl, hn⟩; replace HB := Lib.hid hn; clear hn) | (go_at_call 145; refine (appendU32 _ _ _ _ (by omega) (by omega) HB.out (by simp only [List.length_append, List.length_cons, List.length_nil, sby_length, b16_len, b32_len]; omega)).mono ?_; rintro e w1 ⟨v1, rfl, hn⟩; replace HB := Lib.hid hn; clear hn) | (go_at_call 142; refine (appendI32 _ _ _ _ HB.out (by simp only [List.length_append, List.length_cons, List.length_nil, sby_length, b16_len, b32_len]; omega)).mono ?_; rintro e w1 ⟨v1, rfl, hn⟩; replace HB := Lib.hid hn; clear hn) | (go_at_call 143; refine (finish1 _ 51 _ ([]) _ HB.out (by simp only [txt, List.append_assoc, List.cons_append, List.nil_append]) (by first | omega | (simp only [txt, List.length_append, List.length_cons, List.length_nil, sby_length, b16_len, b32_len]; omega))).mono ?_; rintro e w1 ⟨v1, rfl, hn⟩; clear HB; have HB := Lib.hid hn; clear hn) | (at_builtin; refine ap_lit1 rfl _ _ 26 26 rfl Tryz.underlying26 Tryz.underlying26 rfl rfl HB.out (by simp only [List.length_append, List.length_cons, List.length_nil, sby_length, b16_len, b32_len]; omega) ?_; intro v3 w3 hn; replace HB := Lib.hid hn; clear hn) | (at_builtin; refine ap_lit5 rfl _ _ 26 26 rfl Tryz.underlying26 Tryz.underlying26 rfl rfl HB.out (by simp only [List.length_append, List.length_cons, List.length_nil, sby_length, b16_len, b32_len]; omega) ?_; intro v3 w3 hn; replace HB := Lib.hid hn; clear hn) | (at_builtin; refine ap_lit6 rfl _ _ 26 26 rfl Tryz.underlying26 Tryz.underlying26 rfl rfl HB.out (by simp only [List.length_append, List.length_cons, List.length_nil, sby_length, b16_len, b32_len]; omega) ?_; intro v3 w3 hn; replace HB := Lib.hid hn; clear hn))
  go_ret2
  exact gives_of HB.out (by rw [HR.out]; rfl)

set_option maxRecDepth 100000 in
theorem encEmptyQuery (b : Nat)  (w : World)   (R : List Int) (HR : Hid (R = msgB 73 ([]))) :
    Calls Tryz.prog 248 #[.pointer (some ⟨b, 0, none⟩), .slice none 0 0] w (Gives w R) := by
  have HB := Lib.hid (Buf.nil w)
  go_enter Tryz.func248, Tryz.ntmps248
  go_wp2_with (first | (go_at_call 139; refine (begin_any _ _ _ _ HB.out (by simp)).mono ?_; rintro e w1 ⟨v1, rfl, hn⟩; replace HB := Lib.hid hn; clear hn) | (go_at_call 145; refine (appendU32 _ _ _ _ (by omega) (by omega) HB.out (by simp only [List.length_append, List.length_cons, List.length_nil, sby_length, b16_len, b32_len]; omega)).mono ?_; rintro e w1 ⟨v1, rfl, hn⟩; replace HB := Lib.hid hn; clear hn) | (go_at_call 142; refine (appendI32 _ _ _ _ HB.out (by simp only [List.length_append, List.length_cons, List.length_nil, sby_length, b16_len, b32_len]; omega)).mono ?_; rintro e w1 ⟨v1, rfl, hn⟩; replace HB := Lib.hid hn; clear hn) | (go_at_call 143; refine (finish1 _ 73 _ ([]) _ HB.out (by simp only [txt, List.append_assoc, List.cons_append, List.nil_append]) (by first | omega | (simp only [txt, List.length_append, List.length_cons, List.length_nil, sby_length, b16_len, b32_len]; omega))).mono ?_; rintro e w1 ⟨v1, rfl, hn⟩; clear HB; have HB := Lib.hid hn; clear hn) | (at_builtin; refine ap_lit1 rfl _ _ 26 26 rfl Tryz.underlying26 Tryz.underlying26 rfl rfl HB.out (by simp only [List.length_append, List.length_cons, List.length_nil, sby_length, b16_len, b32_len]; omega) ?_; intro v3 w3 hn; replace HB := Lib.hid hn; clear hn) | (at_builtin; refine ap_lit5 rfl _ _ 26 26 rfl Tryz.underlying26 Tryz.underlying26 rfl rfl HB.out (by simp only [List.length_append, List.length_cons, List.length_nil, sby_length, b16_len, b32_len]; omega) ?_; intro v3 w3 hn; replace HB := Lib.hid hn; clear hn) | (at_builtin; refine ap_lit6 rfl _ _ 26 26 rfl Tryz.underlying26 Tryz.underlying26 rfl rfl HB.out (by simp only [List.length_append, List.length_cons, List.length_nil, sby_length, b16_len, b32_len]; omega) ?_; intro v3 w3 hn; replace HB := Lib.hid hn; clear hn))
  go_ret2
  exact gives_of HB.out (by rw [HR.out]; rfl)

set_option maxRecDepth 100000 in
theorem encNoData (b : Nat)  (w : World)   (R : List Int) (HR : Hid (R = msgB 110 ([]))) :
    Calls Tryz.prog 251 #[.pointer (some ⟨b, 0, none⟩), .slice none 0 0] w (Gives w R) := by
  have HB := Lib.hid (Buf.nil w)
  go_enter Tryz.func251, Tryz.ntmps251
  go_wp2_with (first | (go_at_call 139; refine (begin_any _ _ _ _ HB.out (by simp)).mono ?_; rintro e w1 ⟨v1, rfl, hn⟩; replace HB := Lib.hid hn; clear hn) | (go_at_call 145; refine (appendU32 _ _ _ _ (by omega) (by omega) HB.out (by simp only [List.length_append, List.length_cons, List.length_nil, sby_length, b16_len, b32_len]; omega)).mono ?_; rintro e w1 ⟨v1, rfl, hn⟩; replace HB := Lib.hid hn; clear hn) | (go_at_call 142; refine (appendI32 _ _ _ _ HB.out (by simp only [List.length_append, List.length_cons, List.length_nil, sby_length, b16_len, b32_len]; omega)).mono ?_; rintro e w1 ⟨v1, rfl, hn⟩; replace HB := Lib.hid hn; clear hn) | (go_at_call 143; refine (finish1 _ 110 _ ([]) _ HB.out (by simp only [txt, List.append_assoc, List.cons_append, List.nil_append]) (by first | omega | (simp only [txt, List.length_append, List.length_cons, List.length_nil, sby_length, b16_len, b32_len]; omega))).mono ?_; rintro e w1 ⟨v1, rfl, hn⟩; clear HB; have HB := Lib.hid hn; clear hn) | (at_builtin; refine ap_lit1 rfl _ _ 26 26 rfl Tryz.underlying26 Tryz.underlying26 rfl rfl HB.out (by simp only [List.length_append, List.length_cons, List.length_nil, sby_length, b16_len, b32_len]; omega) ?_; intro v3 w3 hn; replace HB := Lib.hid hn; clear hn) | (at_builtin; refine ap_lit5 rfl _ _ 26 26 rfl Tryz.underlying26 Tryz.underlying26 rfl rfl HB.out (by simp only [List.length_append, List.length_cons, List.length_nil, sby_length, b16_len, b32_len]; omega) ?_; intro v3 w3 hn; replace HB := Lib.hid hn; clear hn) | (at_builtin; refine ap_lit6 rfl _ _ 26 26 rfl Tryz.underlying26 Tryz.underlying26 rfl rfl HB.out (by simp only [List.length_append, List.length_cons, List.length_nil, sby_length, b16_len, b32_len]; omega) ?_; intro v3 w3 hn; replace HB := Lib.hid hn; clear hn))
  go_ret2
  exact gives_of HB.out (by rw [HR.out]; rfl)

set_option maxRecDepth 100000 in
theorem encParseComplete (b : Nat)  (w : World)   (R : List Int) (HR : Hid (R = msgB 49 ([]))) :
    Calls Tryz.prog 254 #[.pointer (some ⟨b, 0, none⟩), .slice none 0 0] w (Gives w R) := by
  have HB := Lib.hid (Buf.nil w)
  go_enter Tryz.func254, Tryz.ntmps254
  go_wp2_with (first | (go_at_call 139; refine (begin_any _ _ _ _ HB.out (by simp)).mono ?_; rintro e w1 ⟨v1, rfl, hn⟩; replace HB := Lib.hid hn; clear hn) | (go_at_call 145; refine (appendU32 _ _ _ _ (by omega) (by omega) HB.out (by simp only [List.length_append, List.length_cons, List.length_nil, sby_length, b16_len, b32_len]; omega)).mono ?_; rintro e w1 ⟨v1, rfl, hn⟩; replace HB := Lib.hid hn; clear hn) | (go_at_call 142; refine (appendI32 _ _ _ _ HB.out (by simp only [List.length_append, List.length_cons, List.length_nil, sby_length, b16_len, b32_len]; omega)).mono ?_; rintro e w1 ⟨v1, rfl, hn⟩; replace HB := Lib.hid hn; clear hn) | (go_at_call 143; refine (finish1 _ 49 _ ([]) _ HB.out (by simp only [txt, List.append_assoc, List.cons_append, List.nil_append]) (by first | omega | (simp only [txt, List.length_append, List.length_cons, List.length_nil, sby_length, b16_len, b32_len]; omega))).mono ?_; rintro e w1 ⟨v1, rfl, hn⟩; clear HB; have HB := Lib.hid hn; clear hn) | (at_builtin; refine ap_lit1 rfl _ _ 26 26 rfl Tryz.underlying26 Tryz.underlying26 rfl rfl HB.out (by simp only [List.length_append, List.length_cons, List.length_nil, sby_length, b16_len, b32_len]; omega) ?_; intro v3 w3 hn; replace HB := Lib.hid hn; clear hn) | (at_builtin; refine ap_lit5 rfl _ _ 26 26 rfl Tryz.underlying26 Tryz.underlying26 rfl rfl HB.out (by simp only [List.length_append, List.length_cons, List.length_nil, sby_length, b16_len, b32_len]; omega) ?_; intro v3 w3 hn; replace HB := Lib.hid hn; clear hn) | (at_builtin; refine ap_lit6 rfl _ _ 26 26 rfl Tryz.underlying26 Tryz.underlying26 rfl rfl HB.out (by simp only [List.length_append, List.length_cons, List.length_nil, sby_length, b16_len, b32_len]; omega) ?_; intro v3 w3 hn; replace HB := Lib.hid hn; clear hn))
  go_ret2
  exact gives_of HB.out (by rw [HR.out]; rfl)

set_option maxRecDepth 100000 in
theorem encPortalSuspended (b : Nat)  (w : World)   (R : List Int) (HR : Hid (R = msgB 115 ([]))) :
    Calls Tryz.prog 257 #[.pointer (some ⟨b, 0, none⟩), .slice none 0 0] w (Gives w R) := by
  have HB := Lib.hid (Buf.nil w)
  go_enter Tryz.func257, Tryz.ntmps257
  go_wp2_with (first | (go_at_call 139; refine (begin_any _ _ _ _ HB.out (by simp)).mono ?_; rintro e w1 ⟨v1, rfl, hn⟩; replace HB := Lib.hid hn; clear hn) | (go_at_call 145; refine (appendU32 _ _ _ _ (by omega) (by omega) HB.out (by simp only [List.length_append, List.length_cons, List.length_nil, sby_length, b16_len, b32_len]; omega)).mono ?_; rintro e w1 ⟨v1, rfl, hn⟩; replace HB := Lib.hid hn; clear hn) | (go_at_call 142; refine (appendI32 _ _ _ _ HB.out (by simp only [List.length_append, List.length_cons, List.length_nil, sby_length, b16_len, b32_len]; omega)).mono ?_; rintro e w1 ⟨v1, rfl, hn⟩; replace HB := Lib.hid hn; clear hn) | (go_at_call 143; refine (finish1 _ 115 _ ([]) _ HB.out (by simp only [txt, List.append_assoc, List.cons_append, List.nil_append]) (by first | omega | (simp only [txt, List.length_append, List.length_cons, List.length_nil, sby_length, b16_len, b32_len]; omega))).mono ?_; rintro e w1 ⟨v1, rfl, hn⟩; clear HB; have HB := Lib.hid hn; clear hn) | (at_builtin; refine ap_lit1 rfl _ _ 26 26 rfl Tryz.underlying26 Tryz.underlying26 rfl rfl HB.out (by simp only [List.length_append, List.length_cons, List.length_nil, sby_length, b16_len, b32_len]; omega) ?_; intro v3 w3 hn; replace HB := Lib.hid hn; clear hn) | (at_builtin; refine ap_lit5 rfl _ _ 26 26 rfl Tryz.underlying26 Tryz.underlying26 rfl rfl HB.out (by simp only [List.length_append, List.length_cons, List.length_nil, sby_length, b16_len, b32_len]; omega) ?_; intro v3 w3 hn; replace HB := Lib.hid hn; clear hn) | (at_builtin; refine ap_lit6 rfl _ _ 26 26 rfl Tryz.underlying26 Tryz.underlying26 rfl rfl HB.out (by simp only [List.length_append, List.length_cons, List.length_nil, sby_length, b16_len, b32_len]; omega) ?_; intro v3 w3 hn; replace HB := Lib.hid hn; clear hn))
  go_ret2
  exact gives_of HB.out (by rw [HR.out]; rfl)

set_option maxRecDepth 100000 in
theorem encAuthOk (b : Nat)  (w : World)   (R : List Int) (HR : Hid (R = msgB 82 (b32 0))) :
    Calls Tryz.prog 233 #[.pointer (some ⟨b, 0, none⟩), .slice none 0 0] w (Gives w R) := by
  have HB := Lib.hid (Buf.nil w)
  go_enter Tryz.func233, Tryz.ntmps233
  go_wp2_with (first | (go_at_call 139; refine (begin_any _ _ _ _ HB.out (by simp)).mono ?_; rintro e w1 ⟨v1, rfl, hn⟩; replace HB := Lib.hid hn; clear hn) | (go_at_call 145; refine (appendU32 _ _ _ _ (by omega) (by omega) HB.out (by simp only [List.length_append, List.length_cons, List.length_nil, sby_length, b16_len, b32_len]; omega)).mono ?_; rintro e w1 ⟨v1, rfl, hn⟩; replace HB := Lib.hid hn; clear hn) | (go_at_call 142; refine (appendI32 _ _ _ _ HB.out (by simp only [List.length_append, List.length_cons, List.length_nil, sby_length, b16_len, b32_len]; omega)).mono ?_; rintro e w1 ⟨v1, rfl, hn⟩; replace HB := Lib.hid hn; clear hn) | (go_at_call 143; refine (finish1 _ 82 _ (b32 0) _ HB.out (by simp only [txt, List.append_assoc, List.cons_append, List.nil_append]) (by first | omega | (simp only [txt, List.length_append, List.length_cons, List.length_nil, sby_length, b16_len, b32_len]; omega))).mono ?_; rintro e w1 ⟨v1, rfl, hn⟩; clear HB; have HB := Lib.hid hn; clear hn) | (at_builtin; refine ap_lit1 rfl _ _ 26 26 rfl Tryz.underlying26 Tryz.underlying26 rfl rfl HB.out (by simp only [List.length_append, List.length_cons, List.length_nil, sby_length, b16_len, b32_len]; omega) ?_; intro v3 w3 hn; replace HB := Lib.hid hn; clear hn) | (at_builtin; refine ap_lit5 rfl _ _ 26 26 rfl Tryz.underlying26 Tryz.underlying26 rfl rfl HB.out (by simp only [List.length_append, List.length_cons, List.length_nil, sby_length, b16_len, b32_len]; omega) ?_; intro v3 w3 hn; replace HB := Lib.hid hn; clear hn) | (at_builtin; refine ap_lit6 rfl _ _ 26 26 rfl Tryz.underlying26 Tryz.underlying26 rfl rfl HB.out (by simp only [List.length_append, List.length_cons, List.length_nil, sby_length, b16_len, b32_len]; omega) ?_; intro v3 w3 hn; replace HB := Lib.hid hn; clear hn))
  go_ret2
  exact gives_of HB.out (HR.out)

set_option maxRecDepth 100000 in
theorem encAuthCleartext (b : Nat)  (w : World)   (R : List Int) (HR : Hid (R = msgB 82 (b32 3))) :
    Calls Tryz.prog 236 #[.pointer (some ⟨b, 0, none⟩), .slice none 0 0] w (Gives w R) := by
  have HB := Lib.hid (Buf.nil w)
  go_enter Tryz.func236, Tryz.ntmps236
  go_wp2_with (first | (go_at_call 139; refine (begin_any _ _ _ _ HB.out (by simp)).mono ?_; rintro e w1 ⟨v1, rfl, hn⟩; replace HB := Lib.hid hn; clear hn) | (go_at_call 145; refine (appendU32 _ _ _ _ (by omega) (by omega) HB.out (by simp only [List.length_append, List.length_cons, List.length_nil, sby_length, b16_len, b32_len]; omega)).mono ?_; rintro e w1 ⟨v1, rfl, hn⟩; replace HB := Lib.hid hn; clear hn) | (go_at_call 142; refine (appendI32 _ _ _ _ HB.out (by simp only [List.length_append, List.length_cons, List.length_nil, sby_length, b16_len, b32_len]; omega)).mono ?_; rintro e w1 ⟨v1, rfl, hn⟩; replace HB := Lib.hid hn; clear hn) | (go_at_call 143; refine (finish1 _ 82 _ (b32 3) _ HB.out (by simp only [txt, List.append_assoc, List.cons_append, List.nil_append]) (by first | omega | (simp only [txt, List.length_append, List.length_cons, List.length_nil, sby_length, b16_len, b32_len]; omega))).mono ?_; rintro e w1 ⟨v1, rfl, hn⟩; clear HB; have HB := Lib.hid hn; clear hn) | (at_builtin; refine ap_lit1 rfl _ _ 26 26 rfl Tryz.underlying26 Tryz.underlying26 rfl rfl HB.out (by simp only [List.length_append, List.length_cons, List.length_nil, sby_length, b16_len, b32_len]; omega) ?_; intro v3 w3 hn; replace HB := Lib.hid hn; clear hn) | (at_builtin; refine ap_lit5 rfl _ _ 26 26 rfl Tryz.underlying26 Tryz.underlying26 rfl rfl HB.out (by simp only [List.length_append, List.length_cons, List.length_nil, sby_length, b16_len, b32_len]; omega) ?_; intro v3 w3 hn; replace HB := Lib.hid hn; clear hn) | (at_builtin; refine ap_lit6 rfl _ _ 26 26 rfl Tryz.underlying26 Tryz.underlying26 rfl rfl HB.out (by simp only [List.length_append, List.length_cons, List.length_nil, sby_length, b16_len, b32_len]; omega) ?_; intro v3 w3 hn; replace HB := Lib.hid hn; clear hn))
  go_ret2
  exact gives_of HB.out (HR.out)

set_option maxRecDepth 100000 in
theorem encAuthGSS (b : Nat)  (w : World)   (R : List Int) (HR : Hid (R = msgB 82 (b32 7))) :
    Calls Tryz.prog 239 #[.pointer (some ⟨b, 0, none⟩), .slice none 0 0] w (Gives w R) := by
  have HB := Lib.hid (Buf.nil w)
  go_enter Tryz.func239, Tryz.ntmps239
  go_wp2_with (first | (go_at_call 139; refine (begin_any _ _ _ _ HB.out (by simp)).mono ?_; rintro e w1 ⟨v1, rfl, hn⟩; replace HB := Lib.hid hn; clear hn) | (go_at_call 145; refine (appendU32 _ _ _ _ (by omega) (by omega) HB.out (by simp only [List.length_append, List.length_cons, List.length_nil, sby_length, b16_len, b32_len]; omega)).mono ?_; rintro e w1 ⟨v1, rfl, hn⟩; replace HB := Lib.hid hn; clear hn) | (go_at_call 142; refine (appendI32 _ _ _ _ HB.out (by simp only [List.length_append, List.length_cons, List.length_nil, sby_length, b16_len, b32_len]; omega)).mono ?_; rintro e w1 ⟨v1, rfl, hn⟩; replace HB := Lib.hid hn; clear hn) | (go_at_call 143; refine (finish1 _ 82 _ (b32 7) _ HB.out (by simp only [txt, List.append_assoc, List.cons_append, List.nil_append]) (by first | omega | (simp only [txt, List.length_append, List.length_cons, List.length_nil, sby_length, b16_len, b32_len]; omega))).mono ?_; rintro e w1 ⟨v1, rfl, hn⟩; clear HB; have HB := Lib.hid hn; clear hn) | (at_builtin; refine ap_lit1 rfl _ _ 26 26 rfl Tryz.underlying26 Tryz.underlying26 rfl rfl HB.out (by simp only [List.length_append, List.length_cons, List.length_nil, sby_length, b16_len, b32_len]; omega) ?_; intro v3 w3 hn; replace HB := Lib.hid hn; clear hn) | (at_builtin; refine ap_lit5 rfl _ _ 26 26 rfl Tryz.underlying26 Tryz.underlying26 rfl rfl HB.out (by simp only [List.length_append, List.length_cons, List.length_nil, sby_length, b16_len, b32_len]; omega) ?_; intro v3 w3 hn; replace HB := Lib.hid hn; clear hn) | (at_builtin; refine ap_lit6 rfl _ _ 26 26 rfl Tryz.underlying26 Tryz.underlying26 rfl rfl HB.out (by simp only [List.length_append, List.length_cons, List.length_nil, sby_length, b16_len, b32_len]; omega) ?_; intro v3 w3 hn; replace HB := Lib.hid hn; clear hn))
  go_ret2
  exact gives_of HB.out (HR.out)

set_option maxRecDepth 100000 in
theorem encCancelRequest (b : Nat) (n : Int) (A_d : Option Addr) (c_d : Nat) (d : List Int) (w : World) (hc0 : w.cell? ⟨b, 0, none⟩ = some (.int .u32 n)) (hc1 : w.cell? ⟨b, 1, none⟩ = some (.slice A_d d.length c_d)) (h0_n : 0 ≤ n) (h1_n : n < 4294967296) (hr_d : RdB w (.slice A_d d.length c_d) d) (hl_d : d.length ≤ 200) (R : List Int) (HR : Hid (R = msg0 (b32 80877102 ++ b32 n ++ d))) :
    Calls Tryz.prog 148 #[.pointer (some ⟨b, 0, none⟩), .slice none 0 0] w (Gives w R) := by
  have hb : b < w.heap.size := lt_of_cell hc0
  have hk : ∀ o, w.cell? ⟨b, o, none⟩ = w.cell? ⟨b, o, none⟩ := fun _ => rfl
  have hr_d' := Lib.hid hr_d
  clear hr_d
  have HB := Lib.hid (Buf.nil w)
  have hk' := Lib.hid hk; clear hk; have hk : True := trivial
  go_enter Tryz.func148, Tryz.ntmps148
  go_wp2_with (first | (go_at_call 139; refine (begin_any _ _ _ _ HB.out (by simp)).mono ?_; rintro e w1 ⟨v1, rfl, hn⟩; clear hk; have hk := hn.cellb hb; replace HB := Lib.hid hn; clear hn) | (go_at_call 145; refine (appendU32 _ _ _ _ (by omega) (by omega) HB.out (by simp only [List.length_append, List.length_cons, List.length_nil, sby_length, b16_len, b32_len]; omega)).mono ?_; rintro e w1 ⟨v1, rfl, hn⟩; clear hk; have hk := hn.cellb hb; replace HB := Lib.hid hn; clear hn) | (go_at_call 142; refine (appendI32 _ _ _ _ HB.out (by simp only [List.length_append, List.length_cons, List.length_nil, sby_length, b16_len, b32_len]; omega)).mono ?_; rintro e w1 ⟨v1, rfl, hn⟩; clear hk; have hk := hn.cellb hb; replace HB := Lib.hid hn; clear hn) | (at_builtin; refine ap_lit1 rfl _ _ 26 26 rfl Tryz.underlying26 Tryz.underlying26 rfl rfl HB.out (by simp only [List.length_append, List.length_cons, List.length_nil, sby_length, b16_len, b32_len]; omega) ?_; intro v3 w3 hn; clear hk; have hk := hn.cellb hb; replace HB := Lib.hid hn; clear hn) | (at_builtin; refine ap_lit5 rfl _ _ 26 26 rfl Tryz.underlying26 Tryz.underlying26 rfl rfl HB.out (by simp only [List.length_append, List.length_cons, List.length_nil, sby_length, b16_len, b32_len]; omega) ?_; intro v3 w3 hn; clear hk; have hk := hn.cellb hb; replace HB := Lib.hid hn; clear hn) | (at_builtin; refine ap_lit6 rfl _ _ 26 26 rfl Tryz.underlying26 Tryz.underlying26 rfl rfl HB.out (by simp only [List.length_append, List.length_cons, List.length_nil, sby_length, b16_len, b32_len]; omega) ?_; intro v3 w3 hn; clear hk; have hk := hn.cellb hb; replace HB := Lib.hid hn; clear hn) | (at_builtin; refine ap_row (ys := d) rfl _ _ 26 26 rfl Tryz.underlying26 Tryz.underlying26 rfl HB.out rfl (hr_d'.out.ext HB.out.bel) (by simp only [List.length_append, List.length_cons, List.length_nil, sby_length, b16_len, b32_len]; omega) ?_; intro v4 w4 hn; clear hk; have hk := hn.cellb hb; replace HB := Lib.hid hn; clear hn))
  go_ret2
  exact gives_of HB.out (by rw [HR.out]; simp only [msg0, List.append_assoc, List.nil_append, List.length_append, b32_len]; congr 2; omega)

set_option maxRecDepth 100000 in
theorem encGSSEncRequest (b : Nat)  (w : World)   (R : List Int) (HR : Hid (R = msg0 (b32 80877104))) :
    Calls Tryz.prog 220 #[.pointer (some ⟨b, 0, none⟩), .slice none 0 0] w (Gives w R) := by
  have HB := Lib.hid (Buf.nil w)
  go_enter Tryz.func220, Tryz.ntmps220
  go_wp2_with (first | (go_at_call 139; refine (begin_any _ _ _ _ HB.out (by simp)).mono ?_; rintro e w1 ⟨v1, rfl, hn⟩; replace HB := Lib.hid hn; clear hn) | (go_at_call 145; refine (appendU32 _ _ _ _ (by omega) (by omega) HB.out (by simp only [List.length_append, List.length_cons, List.length_nil, sby_length, b16_len, b32_len]; omega)).mono ?_; rintro e w1 ⟨v1, rfl, hn⟩; replace HB := Lib.hid hn; clear hn) | (go_at_call 142; refine (appendI32 _ _ _ _ HB.out (by simp only [List.length_append, List.length_cons, List.length_nil, sby_length, b16_len, b32_len]; omega)).mono ?_; rintro e w1 ⟨v1, rfl, hn⟩; replace HB := Lib.hid hn; clear hn) | (at_builtin; refine ap_lit1 rfl _ _ 26 26 rfl Tryz.underlying26 Tryz.underlying26 rfl rfl HB.out (by simp only [List.length_append, List.length_cons, List.length_nil, sby_length, b16_len, b32_len]; omega) ?_; intro v3 w3 hn; replace HB := Lib.hid hn; clear hn) | (at_builtin; refine ap_lit5 rfl _ _ 26 26 rfl Tryz.underlying26 Tryz.underlying26 rfl rfl HB.out (by simp only [List.length_append, List.length_cons, List.length_nil, sby_length, b16_len, b32_len]; omega) ?_; intro v3 w3 hn; replace HB := Lib.hid hn; clear hn) | (at_builtin; refine ap_lit6 rfl _ _ 26 26 rfl Tryz.underlying26 Tryz.underlying26 rfl rfl HB.out (by simp only [List.length_append, List.length_cons, List.length_nil, sby_length, b16_len, b32_len]; omega) ?_; intro v3 w3 hn; replace HB := Lib.hid hn; clear hn))
  go_ret2
  exact gives_of HB.out (by rw [HR.out]; rfl)

set_option maxRecDepth 100000 in
theorem encSSLRequest (b : Nat)  (w : World)   (R : List Int) (HR : Hid (R = msg0 (b32 80877103))) :
    Calls Tryz.prog 223 #[.pointer (some ⟨b, 0, none⟩), .slice none 0 0] w (Gives w R) := by
  have HB := Lib.hid (Buf.nil w)
  go_enter Tryz.func223, Tryz.ntmps223
  go_wp2_with (first | (go_at_call 139; refine (begin_any _ _ _ _ HB.out (by simp)).mono ?_; rintro e w1 ⟨v1, rfl, hn⟩; replace HB := Lib.hid hn; clear hn) | (go_at_call 145; refine (appendU32 _ _ _ _ (by omega) (by omega) HB.out (by simp only [List.length_append, List.length_cons, List.length_nil, sby_length, b16_len, b32_len]; omega)).mono ?_; rintro e w1 ⟨v1, rfl, hn⟩; replace HB := Lib.hid hn; clear hn) | (go_at_call 142; refine (appendI32 _ _ _ _ HB.out (by simp only [List.length_append, List.length_cons, List.length_nil, sby_length, b16_len, b32_len]; omega)).mono ?_; rintro e w1 ⟨v1, rfl, hn⟩; replace HB := Lib.hid hn; clear hn) | (at_builtin; refine ap_lit1 rfl _ _ 26 26 rfl Tryz.underlying26 Tryz.underlying26 rfl rfl HB.out (by simp only [List.length_append, List.length_cons, List.length_nil, sby_length, b16_len, b32_len]; omega) ?_; intro v3 w3 hn; replace HB := Lib.hid hn; clear hn) | (at_builtin; refine ap_lit5 rfl _ _ 26 26 rfl Tryz.underlying26 Tryz.underlying26 rfl rfl HB.out (by simp only [List.length_append, List.length_cons, List.length_nil, sby_length, b16_len, b32_len]; omega) ?_; intro v3 w3 hn; replace HB := Lib.hid hn; clear hn) | (at_builtin; refine ap_lit6 rfl _ _ 26 26 rfl Tryz.underlying26 Tryz.underlying26 rfl rfl HB.out (by simp only [List.length_append, List.length_cons, List.length_nil, sby_length, b16_len, b32_len]; omega) ?_; intro v3 w3 hn; replace HB := Lib.hid hn; clear hn))
  go_ret2
  exact gives_of HB.out (by rw [HR.out]; rfl)

end Go.Proofs.YtdenjanihikolaaGreatDoor

namespace Go.Proofs.YtdenjanihikolaaGreatDoor
open Go.RowKit
set_option linter.unusedVariables false
set_option linter.unusedSimpArgs false

set_option maxRecDepth 100000 in
set_option maxHeartbeats 1000000 in
theorem encParse (b : Nat) (s : ByteArray) (s2 : ByteArray) (A_l : Option Addr) (c_l : Nat) (l : List Int) (w : World) (hc0 : w.cell? ⟨b, 0, none⟩ = some (.string s)) (hc1 : w.cell? ⟨b, 1, none⟩ = some (.string s2)) (hc2 : w.cell? ⟨b, 2, none⟩ = some (.slice A_l l.length c_l)) (hs_s : s.size ≤ 1000) (hs_s2 : s2.size ≤ 1000) (hr_l : RdI .u32 w (.slice A_l l.length c_l) l) (hl_l : l.length ≤ 100) (hg_l : ∀ y ∈ l, 0 ≤ y ∧ y < 4294967296) (R : List Int) (HR : Hid (R = msgB 80 (txt s ++ txt s2 ++ b16 l.length ++ l.flatMap b32))) :
    Calls Tryz.prog 176 #[.pointer (some ⟨b, 0, none⟩), .slice none 0 0] w (Gives w R) := by
  have hb : b < w.heap.size := lt_of_cell hc0
  have hk : True := trivial
  have HR_l := Lib.hid hr_l
  clear hr_l
  have HG_l := Lib.hid hg_l
  clear hg_l
  have hm_l : ∀ y ∈ l, (b32 y).length ≤ 4 := fun _ _ => Nat.le_refl _
  have HM_l := Lib.hid hm_l
  clear hm_l
  have HB := Lib.hid (Buf.nil w)
  go_enter Tryz.func176, Tryz.ntmps176
  go_wp2_with (first | (go_at_call 139; refine (begin_any _ _ _ _ HB.out (by simp)).mono ?_; rintro e w1 ⟨v1, rfl, hn⟩; clear hk; have hk := hn.cellb hb; replace HB := Lib.hid hn; clear hn) | (go_at_call 140; refine (appendU16 _ _ _ _ (by omega) (by omega) HB.out (by simp only [List.length_append, List.length_cons, List.length_nil, sby_length, b16_len, b32_len]; omega)).mono ?_; rintro e w1 ⟨v1, rfl, hn⟩; clear hk; have hk := hn.cellb hb; replace HB := Lib.hid hn; clear hn) | (go_at_call 145; refine (appendU32 _ _ _ _ (by omega) (by omega) HB.out (by simp only [List.length_append, List.length_cons, List.length_nil, sby_length, b16_len, b32_len]; omega)).mono ?_; rintro e w1 ⟨v1, rfl, hn⟩; clear hk; have hk := hn.cellb hb; replace HB := Lib.hid hn; clear hn) | (at_builtin; refine ap_str (st := s) rfl _ _ 26 rfl Tryz.underlying26 rfl rfl HB.out (by simp only [List.length_append, List.length_cons, List.length_nil, sby_length, b16_len, b32_len]; omega) ?_; intro v2 w2 hn; clear hk; have hk := hn.cellb hb; replace HB := Lib.hid hn; clear hn) | (at_builtin; refine ap_str (st := s2) rfl _ _ 26 rfl Tryz.underlying26 rfl rfl HB.out (by simp only [List.length_append, List.length_cons, List.length_nil, sby_length, b16_len, b32_len]; omega) ?_; intro v2 w2 hn; clear hk; have hk := hn.cellb hb; replace HB := Lib.hid hn; clear hn) | (at_builtin; refine ap_lit1 rfl _ _ 26 26 rfl Tryz.underlying26 Tryz.underlying26 rfl rfl HB.out (by simp only [List.length_append, List.length_cons, List.length_nil, sby_length, b16_len, b32_len]; omega) ?_; intro v3 w3 hn; clear hk; have hk := hn.cellb hb; replace HB := Lib.hid hn; clear hn))
  obtain ⟨PRE0, HB', HP0⟩ : ∃ P, Hid (Buf (Lt w.heap.size) w _ _ P) ∧ Hid (P = _) := ⟨_, HB, Lib.hid rfl⟩
  clear HB
  have hpl0 : PRE0.length ≤ 3000 := by rw [HP0.out]; simp only [List.length_append, List.length_cons, List.length_nil, sby_length, b16_len, b32_len]; omega
  go_loopw [1, 52] (fun v i wr => ∃ k : Nat, k ≤ l.length ∧ i = .int .i64 k ∧ Hid (Buf (Lt w.heap.size) w wr v (PRE0 ++ (l.take k).flatMap b32))) (fun _ i _ => l.length - (intOf i).toNat)
  case atStart => exact ⟨0, Nat.zero_le _, rfl, by simpa using HB'⟩
  case round =>
    clear HB'
    obtain ⟨k, hk1, rfl, HB⟩ := hrel
    clear hk
    have hk := HB.out.cellb hb
    by_cases hlt : k < l.length
    · have hfl := flat_take_len b32 4 k l HM_l.out
      obtain ⟨b1, o1, rfl, hcell⟩ := (HR_l.out.ext HB.out.bel).at_ hlt
      rw [getD_at hlt] at hcell
      have h1 := HG_l.out _ (List.getElem_mem hlt)
      obtain ⟨x, hx⟩ : ∃ x, x = l[k] := ⟨_, rfl⟩
      rw [← hx] at hcell h1
      have HX := Lib.hid hx
      clear hx
      go_wp2_with (go_at_call 145; refine (appendU32 _ _ _ _ (by omega) (by omega) HB.out (by simp only [List.length_append, List.length_cons, List.length_nil, sby_length, b16_len, b32_len]; omega)).mono ?_; rintro e w1 ⟨v1, rfl, hn⟩; replace HB := Lib.hid hn; clear hn)
      go_roundw
      case rel =>
        refine ⟨k + 1, by omega, by go_num, ?_⟩
        rw [take_flat b32 l k hlt, ← List.append_assoc, ← HX.out]
        exact HB
      case measure => simp [intOf]; omega
    · obtain rfl : k = l.length := by omega
      have hfl0 := flat_len b32 4 l HM_l.out
      rw [List.take_length] at HB
      go_wp2_with (first | (go_at_call 143; refine (finish1 _ 80 _ (txt s ++ txt s2 ++ b16 l.length ++ l.flatMap b32) _ HB.out (by rw [HP0.out]; simp only [txt, List.append_assoc, List.cons_append, List.nil_append]) (by first | omega | (simp only [txt, List.length_append, List.length_cons, List.length_nil, sby_length, b16_len, b32_len]; omega))).mono ?_; rintro e w1 ⟨v1, rfl, hn⟩; clear HB; have HB := Lib.hid hn; clear hn) | (go_at_call 139; refine (begin_any _ _ _ _ HB.out (by simp)).mono ?_; rintro e w1 ⟨v1, rfl, hn⟩; clear hk; have hk := hn.cellb hb; replace HB := Lib.hid hn; clear hn) | (go_at_call 140; refine (appendU16 _ _ _ _ (by omega) (by omega) HB.out (by simp only [List.length_append, List.length_cons, List.length_nil, sby_length, b16_len, b32_len]; omega)).mono ?_; rintro e w1 ⟨v1, rfl, hn⟩; clear hk; have hk := hn.cellb hb; replace HB := Lib.hid hn; clear hn) | (go_at_call 145; refine (appendU32 _ _ _ _ (by omega) (by omega) HB.out (by simp only [List.length_append, List.length_cons, List.length_nil, sby_length, b16_len, b32_len]; omega)).mono ?_; rintro e w1 ⟨v1, rfl, hn⟩; clear hk; have hk := hn.cellb hb; replace HB := Lib.hid hn; clear hn) | (at_builtin; refine ap_str (st := s) rfl _ _ 26 rfl Tryz.underlying26 rfl rfl HB.out (by simp only [List.length_append, List.length_cons, List.length_nil, sby_length, b16_len, b32_len]; omega) ?_; intro v2 w2 hn; clear hk; have hk := hn.cellb hb; replace HB := Lib.hid hn; clear hn) | (at_builtin; refine ap_str (st := s2) rfl _ _ 26 rfl Tryz.underlying26 rfl rfl HB.out (by simp only [List.length_append, List.length_cons, List.length_nil, sby_length, b16_len, b32_len]; omega) ?_; intro v2 w2 hn; clear hk; have hk := hn.cellb hb; replace HB := Lib.hid hn; clear hn) | (at_builtin; refine ap_lit1 rfl _ _ 26 26 rfl Tryz.underlying26 Tryz.underlying26 rfl rfl HB.out (by simp only [List.length_append, List.length_cons, List.length_nil, sby_length, b16_len, b32_len]; omega) ?_; intro v3 w3 hn; clear hk; have hk := hn.cellb hb; replace HB := Lib.hid hn; clear hn))
      go_ret2
      exact gives_of HB.out HR.out

set_option maxRecDepth 100000 in
set_option maxHeartbeats 1000000 in
theorem encCopyBoth (b : Nat) (c : Int) (A_l : Option Addr) (c_l : Nat) (l : List Int) (w : World) (hc0 : w.cell? ⟨b, 0, none⟩ = some (.int .u8 c)) (hc1 : w.cell? ⟨b, 1, none⟩ = some (.slice A_l l.length c_l)) (hr_l : RdI .u16 w (.slice A_l l.length c_l) l) (hl_l : l.length ≤ 100) (hg_l : ∀ y ∈ l, 0 ≤ y ∧ y < 65536) (R : List Int) (HR : Hid (R = msgB 87 ([c] ++ b16 l.length ++ l.flatMap b16))) :
    Calls Tryz.prog 281 #[.pointer (some ⟨b, 0, none⟩), .slice none 0 0] w (Gives w R) := by
  have hb : b < w.heap.size := lt_of_cell hc0
  have hk : True := trivial
  have HR_l := Lib.hid hr_l
  clear hr_l
  have HG_l := Lib.hid hg_l
  clear hg_l
  have hm_l : ∀ y ∈ l, (b16 y).length ≤ 2 := fun _ _ => Nat.le_refl _
  have HM_l := Lib.hid hm_l
  clear hm_l
  have HB := Lib.hid (Buf.nil w)
  go_enter Tryz.func281, Tryz.ntmps281
  go_wp2_with (first | (go_at_call 139; refine (begin_any _ _ _ _ HB.out (by simp)).mono ?_; rintro e w1 ⟨v1, rfl, hn⟩; clear hk; have hk := hn.cellb hb; replace HB := Lib.hid hn; clear hn) | (go_at_call 140; refine (appendU16 _ _ _ _ (by omega) (by omega) HB.out (by simp only [List.length_append, List.length_cons, List.length_nil, sby_length, b16_len, b32_len]; omega)).mono ?_; rintro e w1 ⟨v1, rfl, hn⟩; clear hk; have hk := hn.cellb hb; replace HB := Lib.hid hn; clear hn) | (go_at_call 145; refine (appendU32 _ _ _ _ (by omega) (by omega) HB.out (by simp only [List.length_append, List.length_cons, List.length_nil, sby_length, b16_len, b32_len]; omega)).mono ?_; rintro e w1 ⟨v1, rfl, hn⟩; clear hk; have hk := hn.cellb hb; replace HB := Lib.hid hn; clear hn) | (at_builtin; refine ap_lit1 rfl _ _ 26 26 rfl Tryz.underlying26 Tryz.underlying26 rfl rfl HB.out (by simp only [List.length_append, List.length_cons, List.length_nil, sby_length, b16_len, b32_len]; omega) ?_; intro v3 w3 hn; clear hk; have hk := hn.cellb hb; replace HB := Lib.hid hn; clear hn))
  obtain ⟨PRE0, HB', HP0⟩ : ∃ P, Hid (Buf (Lt w.heap.size) w _ _ P) ∧ Hid (P = _) := ⟨_, HB, Lib.hid rfl⟩
  clear HB
  have hpl0 : PRE0.length ≤ 3000 := by rw [HP0.out]; simp only [List.length_append, List.length_cons, List.length_nil, sby_length, b16_len, b32_len]; omega
  go_loopw [1, 41] (fun v i wr => ∃ k : Nat, k ≤ l.length ∧ i = .int .i64 k ∧ Hid (Buf (Lt w.heap.size) w wr v (PRE0 ++ (l.take k).flatMap b16))) (fun _ i _ => l.length - (intOf i).toNat)
  case atStart => exact ⟨0, Nat.zero_le _, rfl, by simpa using HB'⟩
  case round =>
    clear HB'
    obtain ⟨k, hk1, rfl, HB⟩ := hrel
    clear hk
    have hk := HB.out.cellb hb
    by_cases hlt : k < l.length
    · have hfl := flat_take_len b16 2 k l HM_l.out
      obtain ⟨b1, o1, rfl, hcell⟩ := (HR_l.out.ext HB.out.bel).at_ hlt
      rw [getD_at hlt] at hcell
      have h1 := HG_l.out _ (List.getElem_mem hlt)
      obtain ⟨x, hx⟩ : ∃ x, x = l[k] := ⟨_, rfl⟩
      rw [← hx] at hcell h1
      have HX := Lib.hid hx
      clear hx
      go_wp2_with (go_at_call 140; refine (appendU16 _ _ _ _ (by omega) (by omega) HB.out (by simp only [List.length_append, List.length_cons, List.length_nil, sby_length, b16_len, b32_len]; omega)).mono ?_; rintro e w1 ⟨v1, rfl, hn⟩; replace HB := Lib.hid hn; clear hn)
      go_roundw
      case rel =>
        refine ⟨k + 1, by omega, by go_num, ?_⟩
        rw [take_flat b16 l k hlt, ← List.append_assoc, ← HX.out]
        exact HB
      case measure => simp [intOf]; omega
    · obtain rfl : k = l.length := by omega
      have hfl0 := flat_len b16 2 l HM_l.out
      rw [List.take_length] at HB
      go_wp2_with (first | (go_at_call 143; refine (finish1 _ 87 _ ([c] ++ b16 l.length ++ l.flatMap b16) _ HB.out (by rw [HP0.out]; simp only [txt, List.append_assoc, List.cons_append, List.nil_append]) (by first | omega | (simp only [txt, List.length_append, List.length_cons, List.length_nil, sby_length, b16_len, b32_len]; omega))).mono ?_; rintro e w1 ⟨v1, rfl, hn⟩; clear HB; have HB := Lib.hid hn; clear hn) | (go_at_call 139; refine (begin_any _ _ _ _ HB.out (by simp)).mono ?_; rintro e w1 ⟨v1, rfl, hn⟩; clear hk; have hk := hn.cellb hb; replace HB := Lib.hid hn; clear hn) | (go_at_call 140; refine (appendU16 _ _ _ _ (by omega) (by omega) HB.out (by simp only [List.length_append, List.length_cons, List.length_nil, sby_length, b16_len, b32_len]; omega)).mono ?_; rintro e w1 ⟨v1, rfl, hn⟩; clear hk; have hk := hn.cellb hb; replace HB := Lib.hid hn; clear hn) | (go_at_call 145; refine (appendU32 _ _ _ _ (by omega) (by omega) HB.out (by simp only [List.length_append, List.length_cons, List.length_nil, sby_length, b16_len, b32_len]; omega)).mono ?_; rintro e w1 ⟨v1, rfl, hn⟩; clear hk; have hk := hn.cellb hb; replace HB := Lib.hid hn; clear hn) | (at_builtin; refine ap_lit1 rfl _ _ 26 26 rfl Tryz.underlying26 Tryz.underlying26 rfl rfl HB.out (by simp only [List.length_append, List.length_cons, List.length_nil, sby_length, b16_len, b32_len]; omega) ?_; intro v3 w3 hn; clear hk; have hk := hn.cellb hb; replace HB := Lib.hid hn; clear hn))
      go_ret2
      exact gives_of HB.out HR.out

set_option maxRecDepth 100000 in
set_option maxHeartbeats 1000000 in
theorem encCopyIn (b : Nat) (c : Int) (A_l : Option Addr) (c_l : Nat) (l : List Int) (w : World) (hc0 : w.cell? ⟨b, 0, none⟩ = some (.int .u8 c)) (hc1 : w.cell? ⟨b, 1, none⟩ = some (.slice A_l l.length c_l)) (hr_l : RdI .u16 w (.slice A_l l.length c_l) l) (hl_l : l.length ≤ 100) (hg_l : ∀ y ∈ l, 0 ≤ y ∧ y < 65536) (R : List Int) (HR : Hid (R = msgB 71 ([c] ++ b16 l.length ++ l.flatMap b16))) :
    Calls Tryz.prog 284 #[.pointer (some ⟨b, 0, none⟩), .slice none 0 0] w (Gives w R) := by
  have hb : b < w.heap.size := lt_of_cell hc0
  have hk : True := trivial
  have HR_l := Lib.hid hr_l
  clear hr_l
  have HG_l := Lib.hid hg_l
  clear hg_l
  have hm_l : ∀ y ∈ l, (b16 y).length ≤ 2 := fun _ _ => Nat.le_refl _
  have HM_l := Lib.hid hm_l
  clear hm_l
  have HB := Lib.hid (Buf.nil w)
  go_enter Tryz.func284, Tryz.ntmps284
  go_wp2_with (first | (go_at_call 139; refine (begin_any _ _ _ _ HB.out (by simp)).mono ?_; rintro e w1 ⟨v1, rfl, hn⟩; clear hk; have hk := hn.cellb hb; replace HB := Lib.hid hn; clear hn) | (go_at_call 140; refine (appendU16 _ _ _ _ (by omega) (by omega) HB.out (by simp only [List.length_append, List.length_cons, List.length_nil, sby_length, b16_len, b32_len]; omega)).mono ?_; rintro e w1 ⟨v1, rfl, hn⟩; clear hk; have hk := hn.cellb hb; replace HB := Lib.hid hn; clear hn) | (go_at_call 145; refine (appendU32 _ _ _ _ (by omega) (by omega) HB.out (by simp only [List.length_append, List.length_cons, List.length_nil, sby_length, b16_len, b32_len]; omega)).mono ?_; rintro e w1 ⟨v1, rfl, hn⟩; clear hk; have hk := hn.cellb hb; replace HB := Lib.hid hn; clear hn) | (at_builtin; refine ap_lit1 rfl _ _ 26 26 rfl Tryz.underlying26 Tryz.underlying26 rfl rfl HB.out (by simp only [List.length_append, List.length_cons, List.length_nil, sby_length, b16_len, b32_len]; omega) ?_; intro v3 w3 hn; clear hk; have hk := hn.cellb hb; replace HB := Lib.hid hn; clear hn))
  obtain ⟨PRE0, HB', HP0⟩ : ∃ P, Hid (Buf (Lt w.heap.size) w _ _ P) ∧ Hid (P = _) := ⟨_, HB, Lib.hid rfl⟩
  clear HB
  have hpl0 : PRE0.length ≤ 3000 := by rw [HP0.out]; simp only [List.length_append, List.length_cons, List.length_nil, sby_length, b16_len, b32_len]; omega
  go_loopw [1, 41] (fun v i wr => ∃ k : Nat, k ≤ l.length ∧ i = .int .i64 k ∧ Hid (Buf (Lt w.heap.size) w wr v (PRE0 ++ (l.take k).flatMap b16))) (fun _ i _ => l.length - (intOf i).toNat)
  case atStart => exact ⟨0, Nat.zero_le _, rfl, by simpa using HB'⟩
  case round =>
    clear HB'
    obtain ⟨k, hk1, rfl, HB⟩ := hrel
    clear hk
    have hk := HB.out.cellb hb
    by_cases hlt : k < l.length
    · have hfl := flat_take_len b16 2 k l HM_l.out
      obtain ⟨b1, o1, rfl, hcell⟩ := (HR_l.out.ext HB.out.bel).at_ hlt
      rw [getD_at hlt] at hcell
      have h1 := HG_l.out _ (List.getElem_mem hlt)
      obtain ⟨x, hx⟩ : ∃ x, x = l[k] := ⟨_, rfl⟩
      rw [← hx] at hcell h1
      have HX := Lib.hid hx
      clear hx
      go_wp2_with (go_at_call 140; refine (appendU16 _ _ _ _ (by omega) (by omega) HB.out (by simp only [List.length_append, List.length_cons, List.length_nil, sby_length, b16_len, b32_len]; omega)).mono ?_; rintro e w1 ⟨v1, rfl, hn⟩; replace HB := Lib.hid hn; clear hn)
      go_roundw
      case rel =>
        refine ⟨k + 1, by omega, by go_num, ?_⟩
        rw [take_flat b16 l k hlt, ← List.append_assoc, ← HX.out]
        exact HB
      case measure => simp [intOf]; omega
    · obtain rfl : k = l.length := by omega
      have hfl0 := flat_len b16 2 l HM_l.out
      rw [List.take_length] at HB
      go_wp2_with (first | (go_at_call 143; refine (finish1 _ 71 _ ([c] ++ b16 l.length ++ l.flatMap b16) _ HB.out (by rw [HP0.out]; simp only [txt, List.append_assoc, List.cons_append, List.nil_append]) (by first | omega | (simp only [txt, List.length_append, List.length_cons, List.length_nil, sby_length, b16_len, b32_len]; omega))).mono ?_; rintro e w1 ⟨v1, rfl, hn⟩; clear HB; have HB := Lib.hid hn; clear hn) | (go_at_call 139; refine (begin_any _ _ _ _ HB.out (by simp)).mono ?_; rintro e w1 ⟨v1, rfl, hn⟩; clear hk; have hk := hn.cellb hb; replace HB := Lib.hid hn; clear hn) | (go_at_call 140; refine (appendU16 _ _ _ _ (by omega) (by omega) HB.out (by simp only [List.length_append, List.length_cons, List.length_nil, sby_length, b16_len, b32_len]; omega)).mono ?_; rintro e w1 ⟨v1, rfl, hn⟩; clear hk; have hk := hn.cellb hb; replace HB := Lib.hid hn; clear hn) | (go_at_call 145; refine (appendU32 _ _ _ _ (by omega) (by omega) HB.out (by simp only [List.length_append, List.length_cons, List.length_nil, sby_length, b16_len, b32_len]; omega)).mono ?_; rintro e w1 ⟨v1, rfl, hn⟩; clear hk; have hk := hn.cellb hb; replace HB := Lib.hid hn; clear hn) | (at_builtin; refine ap_lit1 rfl _ _ 26 26 rfl Tryz.underlying26 Tryz.underlying26 rfl rfl HB.out (by simp only [List.length_append, List.length_cons, List.length_nil, sby_length, b16_len, b32_len]; omega) ?_; intro v3 w3 hn; clear hk; have hk := hn.cellb hb; replace HB := Lib.hid hn; clear hn))
      go_ret2
      exact gives_of HB.out HR.out

set_option maxRecDepth 100000 in
set_option maxHeartbeats 1000000 in
theorem encCopyOut (b : Nat) (c : Int) (A_l : Option Addr) (c_l : Nat) (l : List Int) (w : World) (hc0 : w.cell? ⟨b, 0, none⟩ = some (.int .u8 c)) (hc1 : w.cell? ⟨b, 1, none⟩ = some (.slice A_l l.length c_l)) (hr_l : RdI .u16 w (.slice A_l l.length c_l) l) (hl_l : l.length ≤ 100) (hg_l : ∀ y ∈ l, 0 ≤ y ∧ y < 65536) (R : List Int) (HR : Hid (R = msgB 72 ([c] ++ b16 l.length ++ l.flatMap b16))) :
    Calls Tryz.prog 287 #[.pointer (some ⟨b, 0, none⟩), .slice none 0 0] w (Gives w R) := by
  have hb : b < w.heap.size := lt_of_cell hc0
  have hk : True := trivial
  have HR_l := Lib.hid hr_l
  clear hr_l
  have HG_l := Lib.hid hg_l
  clear hg_l
  have hm_l : ∀ y ∈ l, (b16 y).length ≤ 2 := fun _ _ => Nat.le_refl _
  have HM_l := Lib.hid hm_l
  clear hm_l
  have HB := Lib.hid (Buf.nil w)
  go_enter Tryz.func287, Tryz.ntmps287
  go_wp2_with (first | (go_at_call 139; refine (begin_any _ _ _ _ HB.out (by simp)).mono ?_; rintro e w1 ⟨v1, rfl, hn⟩; clear hk; have hk := hn.cellb hb; replace HB := Lib.hid hn; clear hn) | (go_at_call 140; refine (appendU16 _ _ _ _ (by omega) (by omega) HB.out (by simp only [List.length_append, List.length_cons, List.length_nil, sby_length, b16_len, b32_len]; omega)).mono ?_; rintro e w1 ⟨v1, rfl, hn⟩; clear hk; have hk := hn.cellb hb; replace HB := Lib.hid hn; clear hn) | (go_at_call 145; refine (appendU32 _ _ _ _ (by omega) (by omega) HB.out (by simp only [List.length_append, List.length_cons, List.length_nil, sby_length, b16_len, b32_len]; omega)).mono ?_; rintro e w1 ⟨v1, rfl, hn⟩; clear hk; have hk := hn.cellb hb; replace HB := Lib.hid hn; clear hn) | (at_builtin; refine ap_lit1 rfl _ _ 26 26 rfl Tryz.underlying26 Tryz.underlying26 rfl rfl HB.out (by simp only [List.length_append, List.length_cons, List.length_nil, sby_length, b16_len, b32_len]; omega) ?_; intro v3 w3 hn; clear hk; have hk := hn.cellb hb; replace HB := Lib.hid hn; clear hn))
  obtain ⟨PRE0, HB', HP0⟩ : ∃ P, Hid (Buf (Lt w.heap.size) w _ _ P) ∧ Hid (P = _) := ⟨_, HB, Lib.hid rfl⟩
  clear HB
  have hpl0 : PRE0.length ≤ 3000 := by rw [HP0.out]; simp only [List.length_append, List.length_cons, List.length_nil, sby_length, b16_len, b32_len]; omega
  go_loopw [1, 41] (fun v i wr => ∃ k : Nat, k ≤ l.length ∧ i = .int .i64 k ∧ Hid (Buf (Lt w.heap.size) w wr v (PRE0 ++ (l.take k).flatMap b16))) (fun _ i _ => l.length - (intOf i).toNat)
  case atStart => exact ⟨0, Nat.zero_le _, rfl, by simpa using HB'⟩
  case round =>
    clear HB'
    obtain ⟨k, hk1, rfl, HB⟩ := hrel
    clear hk
    have hk := HB.out.cellb hb
    by_cases hlt : k < l.length
    · have hfl := flat_take_len b16 2 k l HM_l.out
      obtain ⟨b1, o1, rfl, hcell⟩ := (HR_l.out.ext HB.out.bel).at_ hlt
      rw [getD_at hlt] at hcell
      have h1 := HG_l.out _ (List.getElem_mem hlt)
      obtain ⟨x, hx⟩ : ∃ x, x = l[k] := ⟨_, rfl⟩
      rw [← hx] at hcell h1
      have HX := Lib.hid hx
      clear hx
      go_wp2_with (go_at_call 140; refine (appendU16 _ _ _ _ (by omega) (by omega) HB.out (by simp only [List.length_append, List.length_cons, List.length_nil, sby_length, b16_len, b32_len]; omega)).mono ?_; rintro e w1 ⟨v1, rfl, hn⟩; replace HB := Lib.hid hn; clear hn)
      go_roundw
      case rel =>
        refine ⟨k + 1, by omega, by go_num, ?_⟩
        rw [take_flat b16 l k hlt, ← List.append_assoc, ← HX.out]
        exact HB
      case measure => simp [intOf]; omega
    · obtain rfl : k = l.length := by omega
      have hfl0 := flat_len b16 2 l HM_l.out
      rw [List.take_length] at HB
      go_wp2_with (first | (go_at_call 143; refine (finish1 _ 72 _ ([c] ++ b16 l.length ++ l.flatMap b16) _ HB.out (by rw [HP0.out]; simp only [txt, List.append_assoc, List.cons_append, List.nil_append]) (by first | omega | (simp only [txt, List.length_append, List.length_cons, List.length_nil, sby_length, b16_len, b32_len]; omega))).mono ?_; rintro e w1 ⟨v1, rfl, hn⟩; clear HB; have HB := Lib.hid hn; clear hn) | (go_at_call 139; refine (begin_any _ _ _ _ HB.out (by simp)).mono ?_; rintro e w1 ⟨v1, rfl, hn⟩; clear hk; have hk := hn.cellb hb; replace HB := Lib.hid hn; clear hn) | (go_at_call 140; refine (appendU16 _ _ _ _ (by omega) (by omega) HB.out (by simp only [List.length_append, List.length_cons, List.length_nil, sby_length, b16_len, b32_len]; omega)).mono ?_; rintro e w1 ⟨v1, rfl, hn⟩; clear hk; have hk := hn.cellb hb; replace HB := Lib.hid hn; clear hn) | (go_at_call 145; refine (appendU32 _ _ _ _ (by omega) (by omega) HB.out (by simp only [List.length_append, List.length_cons, List.length_nil, sby_length, b16_len, b32_len]; omega)).mono ?_; rintro e w1 ⟨v1, rfl, hn⟩; clear hk; have hk := hn.cellb hb; replace HB := Lib.hid hn; clear hn) | (at_builtin; refine ap_lit1 rfl _ _ 26 26 rfl Tryz.underlying26 Tryz.underlying26 rfl rfl HB.out (by simp only [List.length_append, List.length_cons, List.length_nil, sby_length, b16_len, b32_len]; omega) ?_; intro v3 w3 hn; clear hk; have hk := hn.cellb hb; replace HB := Lib.hid hn; clear hn))
      go_ret2
      exact gives_of HB.out HR.out

set_option maxRecDepth 100000 in
set_option maxHeartbeats 1000000 in
theorem encParameterDescription (b : Nat) (A_l : Option Addr) (c_l : Nat) (l : List Int) (w : World) (hc0 : w.cell? ⟨b, 0, none⟩ = some (.slice A_l l.length c_l)) (hr_l : RdI .u32 w (.slice A_l l.length c_l) l) (hl_l : l.length ≤ 100) (hg_l : ∀ y ∈ l, 0 ≤ y ∧ y < 4294967296) (R : List Int) (HR : Hid (R = msgB 116 (b16 l.length ++ l.flatMap b32))) :
    Calls Tryz.prog 324 #[.pointer (some ⟨b, 0, none⟩), .slice none 0 0] w (Gives w R) := by
  have hb : b < w.heap.size := lt_of_cell hc0
  have hk : True := trivial
  have HR_l := Lib.hid hr_l
  clear hr_l
  have HG_l := Lib.hid hg_l
  clear hg_l
  have hm_l : ∀ y ∈ l, (b32 y).length ≤ 4 := fun _ _ => Nat.le_refl _
  have HM_l := Lib.hid hm_l
  clear hm_l
  have HB := Lib.hid (Buf.nil w)
  go_enter Tryz.func324, Tryz.ntmps324
  go_wp2_with (first | (go_at_call 139; refine (begin_any _ _ _ _ HB.out (by simp)).mono ?_; rintro e w1 ⟨v1, rfl, hn⟩; clear hk; have hk := hn.cellb hb; replace HB := Lib.hid hn; clear hn) | (go_at_call 140; refine (appendU16 _ _ _ _ (by omega) (by omega) HB.out (by simp only [List.length_append, List.length_cons, List.length_nil, sby_length, b16_len, b32_len]; omega)).mono ?_; rintro e w1 ⟨v1, rfl, hn⟩; clear hk; have hk := hn.cellb hb; replace HB := Lib.hid hn; clear hn) | (go_at_call 145; refine (appendU32 _ _ _ _ (by omega) (by omega) HB.out (by simp only [List.length_append, List.length_cons, List.length_nil, sby_length, b16_len, b32_len]; omega)).mono ?_; rintro e w1 ⟨v1, rfl, hn⟩; clear hk; have hk := hn.cellb hb; replace HB := Lib.hid hn; clear hn) | (at_builtin; refine ap_lit1 rfl _ _ 26 26 rfl Tryz.underlying26 Tryz.underlying26 rfl rfl HB.out (by simp only [List.length_append, List.length_cons, List.length_nil, sby_length, b16_len, b32_len]; omega) ?_; intro v3 w3 hn; clear hk; have hk := hn.cellb hb; replace HB := Lib.hid hn; clear hn))
  obtain ⟨PRE0, HB', HP0⟩ : ∃ P, Hid (Buf (Lt w.heap.size) w _ _ P) ∧ Hid (P = _) := ⟨_, HB, Lib.hid rfl⟩
  clear HB
  have hpl0 : PRE0.length ≤ 3000 := by rw [HP0.out]; simp only [List.length_append, List.length_cons, List.length_nil, sby_length, b16_len, b32_len]; omega
  go_loopw [1, 34] (fun v i wr => ∃ k : Nat, k ≤ l.length ∧ i = .int .i64 k ∧ Hid (Buf (Lt w.heap.size) w wr v (PRE0 ++ (l.take k).flatMap b32))) (fun _ i _ => l.length - (intOf i).toNat)
  case atStart => exact ⟨0, Nat.zero_le _, rfl, by simpa using HB'⟩
  case round =>
    clear HB'
    obtain ⟨k, hk1, rfl, HB⟩ := hrel
    clear hk
    have hk := HB.out.cellb hb
    by_cases hlt : k < l.length
    · have hfl := flat_take_len b32 4 k l HM_l.out
      obtain ⟨b1, o1, rfl, hcell⟩ := (HR_l.out.ext HB.out.bel).at_ hlt
      rw [getD_at hlt] at hcell
      have h1 := HG_l.out _ (List.getElem_mem hlt)
      obtain ⟨x, hx⟩ : ∃ x, x = l[k] := ⟨_, rfl⟩
      rw [← hx] at hcell h1
      have HX := Lib.hid hx
      clear hx
      go_wp2_with (go_at_call 145; refine (appendU32 _ _ _ _ (by omega) (by omega) HB.out (by simp only [List.length_append, List.length_cons, List.length_nil, sby_length, b16_len, b32_len]; omega)).mono ?_; rintro e w1 ⟨v1, rfl, hn⟩; replace HB := Lib.hid hn; clear hn)
      go_roundw
      case rel =>
        refine ⟨k + 1, by omega, by go_num, ?_⟩
        rw [take_flat b32 l k hlt, ← List.append_assoc, ← HX.out]
        exact HB
      case measure => simp [intOf]; omega
    · obtain rfl : k = l.length := by omega
      have hfl0 := flat_len b32 4 l HM_l.out
      rw [List.take_length] at HB
      go_wp2_with (first | (go_at_call 143; refine (finish1 _ 116 _ (b16 l.length ++ l.flatMap b32) _ HB.out (by rw [HP0.out]; simp only [txt, List.append_assoc, List.cons_append, List.nil_append]) (by first | omega | (simp only [txt, List.length_append, List.length_cons, List.length_nil, sby_length, b16_len, b32_len]; omega))).mono ?_; rintro e w1 ⟨v1, rfl, hn⟩; clear HB; have HB := Lib.hid hn; clear hn) | (go_at_call 139; refine (begin_any _ _ _ _ HB.out (by simp)).mono ?_; rintro e w1 ⟨v1, rfl, hn⟩; clear hk; have hk := hn.cellb hb; replace HB := Lib.hid hn; clear hn) | (go_at_call 140; refine (appendU16 _ _ _ _ (by omega) (by omega) HB.out (by simp only [List.length_append, List.length_cons, List.length_nil, sby_length, b16_len, b32_len]; omega)).mono ?_; rintro e w1 ⟨v1, rfl, hn⟩; clear hk; have hk := hn.cellb hb; replace HB := Lib.hid hn; clear hn) | (go_at_call 145; refine (appendU32 _ _ _ _ (by omega) (by omega) HB.out (by simp only [List.length_append, List.length_cons, List.length_nil, sby_length, b16_len, b32_len]; omega)).mono ?_; rintro e w1 ⟨v1, rfl, hn⟩; clear hk; have hk := hn.cellb hb; replace HB := Lib.hid hn; clear hn) | (at_builtin; refine ap_lit1 rfl _ _ 26 26 rfl Tryz.underlying26 Tryz.underlying26 rfl rfl HB.out (by simp only [List.length_append, List.length_cons, List.length_nil, sby_length, b16_len, b32_len]; omega) ?_; intro v3 w3 hn; clear hk; have hk := hn.cellb hb; replace HB := Lib.hid hn; clear hn))
      go_ret2
      exact gives_of HB.out HR.out

end Go.Proofs.YtdenjanihikolaaGreatDoor

