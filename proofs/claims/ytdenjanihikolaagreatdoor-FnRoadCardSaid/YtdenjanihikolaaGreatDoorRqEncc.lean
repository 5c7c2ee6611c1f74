/- Helpers of made, by contract. -/
import Derived.Test.YtdenjanihikolaaGreatDoorRqA0
import Derived.Test.YtdenjanihikolaaGreatDoorRqA1
import Derived.Test.YtdenjanihikolaaGreatDoorRqBase
import Derived.Laws.IdiomStrings
import Derived.Test.YtdenjanihikolaaGreatDoorRqTa
import Derived.Test.YtdenjanihikolaaGreatDoorRqEncb
namespace Go.Proofs.YtdenjanihikolaaGreatDoor
set_option linter.unusedVariables false
set_option linter.unusedSimpArgs false
set_option maxRecDepth 100000
open Go.RowKit
theorem encCopyDone (b:Nat)(w:World)(R:List Int)(HR:Hid (R=msgB 99 ([]))):
 Calls Tryz.prog 215 #[.pointer (some ⟨b,0,none⟩),.slice none 0 0] w (Gives w R):=by
 have HB:=zh (Buf.nil w)
 go_enter Tryz.func215,Tryz.ntmps215
 go_wp2_with (first|(go_at_call 139;refine(begin_any _ _ _ _ HB.out (by simp)).mono ?_;rintro e w1 ⟨v1,rfl,hn⟩;replace HB:=zh hn;clear hn)|(go_at_call 145;refine(appendU32 _ _ _ _ (by omega) (by omega) HB.out ul1).mono ?_;rintro e w1 ⟨v1,rfl,hn⟩;replace HB:=zh hn;clear hn)|(go_at_call 142;refine(appendI32 _ _ _ _ HB.out ul1).mono ?_;rintro e w1 ⟨v1,rfl,hn⟩;replace HB:=zh hn;clear hn)|(go_at_call 143;refine(finish1 _ 99 _ ([]) _ HB.out ul6 ul3).mono ?_;rintro e w1 ⟨v1,rfl,hn⟩;clear HB;have HB:=zh hn;clear hn)|(at_builtin;refine ap_lit1 rfl _ _ 26 26 rfl Tryz.underlying26 Tryz.underlying26 rfl rfl HB.out ul1 ?_;intro v3 w3 hn;replace HB:=zh hn;clear hn)|(at_builtin;refine ap_lit5 rfl _ _ 26 26 rfl Tryz.underlying26 Tryz.underlying26 rfl rfl HB.out ul1 ?_;intro v3 w3 hn;replace HB:=zh hn;clear hn)|(at_builtin;refine ap_lit6 rfl _ _ 26 26 rfl Tryz.underlying26 Tryz.underlying26 rfl rfl HB.out ul1 ?_;intro v3 w3 hn;replace HB:=zh hn;clear hn))
 go_ret2
 exact gives_of HB.out (by rw [HR.out];rfl)
theorem encFlush (b:Nat)(w:World)(R:List Int)(HR:Hid (R=msgB 72 ([]))):
 Calls Tryz.prog 217 #[.pointer (some ⟨b,0,none⟩),.slice none 0 0] w (Gives w R):=by
 have HB:=zh (Buf.nil w)
 go_enter Tryz.func217,Tryz.ntmps217
 go_wp2_with (first|(go_at_call 139;refine(begin_any _ _ _ _ HB.out (by simp)).mono ?_;rintro e w1 ⟨v1,rfl,hn⟩;replace HB:=zh hn;clear hn)|(go_at_call 145;refine(appendU32 _ _ _ _ (by omega) (by omega) HB.out ul1).mono ?_;rintro e w1 ⟨v1,rfl,hn⟩;replace HB:=zh hn;clear hn)|(go_at_call 142;refine(appendI32 _ _ _ _ HB.out ul1).mono ?_;rintro e w1 ⟨v1,rfl,hn⟩;replace HB:=zh hn;clear hn)|(go_at_call 143;refine(finish1 _ 72 _ ([]) _ HB.out ul6 ul3).mono ?_;rintro e w1 ⟨v1,rfl,hn⟩;clear HB;have HB:=zh hn;clear hn)|(at_builtin;refine ap_lit1 rfl _ _ 26 26 rfl Tryz.underlying26 Tryz.underlying26 rfl rfl HB.out ul1 ?_;intro v3 w3 hn;replace HB:=zh hn;clear hn)|(at_builtin;refine ap_lit5 rfl _ _ 26 26 rfl Tryz.underlying26 Tryz.underlying26 rfl rfl HB.out ul1 ?_;intro v3 w3 hn;replace HB:=zh hn;clear hn)|(at_builtin;refine ap_lit6 rfl _ _ 26 26 rfl Tryz.underlying26 Tryz.underlying26 rfl rfl HB.out ul1 ?_;intro v3 w3 hn;replace HB:=zh hn;clear hn))
 go_ret2
 exact gives_of HB.out (by rw [HR.out];rfl)
theorem encSync (b:Nat)(w:World)(R:List Int)(HR:Hid (R=msgB 83 ([]))):
 Calls Tryz.prog 226 #[.pointer (some ⟨b,0,none⟩),.slice none 0 0] w (Gives w R):=by
 have HB:=zh (Buf.nil w)
 go_enter Tryz.func226,Tryz.ntmps226
 go_wp2_with (first|(go_at_call 139;refine(begin_any _ _ _ _ HB.out (by simp)).mono ?_;rintro e w1 ⟨v1,rfl,hn⟩;replace HB:=zh hn;clear hn)|(go_at_call 145;refine(appendU32 _ _ _ _ (by omega) (by omega) HB.out ul1).mono ?_;rintro e w1 ⟨v1,rfl,hn⟩;replace HB:=zh hn;clear hn)|(go_at_call 142;refine(appendI32 _ _ _ _ HB.out ul1).mono ?_;rintro e w1 ⟨v1,rfl,hn⟩;replace HB:=zh hn;clear hn)|(go_at_call 143;refine(finish1 _ 83 _ ([]) _ HB.out ul6 ul3).mono ?_;rintro e w1 ⟨v1,rfl,hn⟩;clear HB;have HB:=zh hn;clear hn)|(at_builtin;refine ap_lit1 rfl _ _ 26 26 rfl Tryz.underlying26 Tryz.underlying26 rfl rfl HB.out ul1 ?_;intro v3 w3 hn;replace HB:=zh hn;clear hn)|(at_builtin;refine ap_lit5 rfl _ _ 26 26 rfl Tryz.underlying26 Tryz.underlying26 rfl rfl HB.out ul1 ?_;intro v3 w3 hn;replace HB:=zh hn;clear hn)|(at_builtin;refine ap_lit6 rfl _ _ 26 26 rfl Tryz.underlying26 Tryz.underlying26 rfl rfl HB.out ul1 ?_;intro v3 w3 hn;replace HB:=zh hn;clear hn))
 go_ret2
 exact gives_of HB.out (by rw [HR.out];rfl)
theorem encTerminate (b:Nat)(w:World)(R:List Int)(HR:Hid (R=msgB 88 ([]))):
 Calls Tryz.prog 229 #[.pointer (some ⟨b,0,none⟩),.slice none 0 0] w (Gives w R):=by
 have HB:=zh (Buf.nil w)
 go_enter Tryz.func229,Tryz.ntmps229
 go_wp2_with (first|(go_at_call 139;refine(begin_any _ _ _ _ HB.out (by simp)).mono ?_;rintro e w1 ⟨v1,rfl,hn⟩;replace HB:=zh hn;clear hn)|(go_at_call 145;refine(appendU32 _ _ _ _ (by omega) (by omega) HB.out ul1).mono ?_;rintro e w1 ⟨v1,rfl,hn⟩;replace HB:=zh hn;clear hn)|(go_at_call 142;refine(appendI32 _ _ _ _ HB.out ul1).mono ?_;rintro e w1 ⟨v1,rfl,hn⟩;replace HB:=zh hn;clear hn)|(go_at_call 143;refine(finish1 _ 88 _ ([]) _ HB.out ul6 ul3).mono ?_;rintro e w1 ⟨v1,rfl,hn⟩;clear HB;have HB:=zh hn;clear hn)|(at_builtin;refine ap_lit1 rfl _ _ 26 26 rfl Tryz.underlying26 Tryz.underlying26 rfl rfl HB.out ul1 ?_;intro v3 w3 hn;replace HB:=zh hn;clear hn)|(at_builtin;refine ap_lit5 rfl _ _ 26 26 rfl Tryz.underlying26 Tryz.underlying26 rfl rfl HB.out ul1 ?_;intro v3 w3 hn;replace HB:=zh hn;clear hn)|(at_builtin;refine ap_lit6 rfl _ _ 26 26 rfl Tryz.underlying26 Tryz.underlying26 rfl rfl HB.out ul1 ?_;intro v3 w3 hn;replace HB:=zh hn;clear hn))
 go_ret2
 exact gives_of HB.out (by rw [HR.out];rfl)
theorem encBindComplete (b:Nat)(w:World)(R:List Int)(HR:Hid (R=msgB 50 ([]))):
 Calls Tryz.prog 242 #[.pointer (some ⟨b,0,none⟩),.slice none 0 0] w (Gives w R):=by
 have HB:=zh (Buf.nil w)
 go_enter Tryz.func242,Tryz.ntmps242
 go_wp2_with (first|(go_at_call 139;refine(begin_any _ _ _ _ HB.out (by simp)).mono ?_;rintro e w1 ⟨v1,rfl,hn⟩;replace HB:=zh hn;clear hn)|(go_at_call 145;refine(appendU32 _ _ _ _ (by omega) (by omega) HB.out ul1).mono ?_;rintro e w1 ⟨v1,rfl,hn⟩;replace HB:=zh hn;clear hn)|(go_at_call 142;refine(appendI32 _ _ _ _ HB.out ul1).mono ?_;rintro e w1 ⟨v1,rfl,hn⟩;replace HB:=zh hn;clear hn)|(go_at_call 143;refine(finish1 _ 50 _ ([]) _ HB.out ul6 ul3).mono ?_;rintro e w1 ⟨v1,rfl,hn⟩;clear HB;have HB:=zh hn;clear hn)|(at_builtin;refine ap_lit1 rfl _ _ 26 26 rfl Tryz.underlying26 Tryz.underlying26 rfl rfl HB.out ul1 ?_;intro v3 w3 hn;replace HB:=zh hn;clear hn)|(at_builtin;refine ap_lit5 rfl _ _ 26 26 rfl Tryz.underlying26 Tryz.underlying26 rfl rfl HB.out ul1 ?_;intro v3 w3 hn;replace HB:=zh hn;clear hn)|(at_builtin;refine ap_lit6 rfl _ _ 26 26 rfl Tryz.underlying26 Tryz.underlying26 rfl rfl HB.out ul1 ?_;intro v3 w3 hn;replace HB:=zh hn;clear hn))
 go_ret2
 exact gives_of HB.out (by rw [HR.out];rfl)
theorem encCloseComplete (b:Nat)(w:World)(R:List Int)(HR:Hid (R=msgB 51 ([]))):
 Calls Tryz.prog 245 #[.pointer (some ⟨b,0,none⟩),.slice none 0 0] w (Gives w R):=by
 have HB:=zh (Buf.nil w)
 go_enter Tryz.func245,Tryz.ntmps245
 go_wp2_with (first|(go_at_call 139;refine(begin_any _ _ _ _ HB.out (by simp)).mono ?_;rintro e w1 ⟨v1,rfl,hn⟩;replace HB:=zh hn;clear hn)|(go_at_call 145;refine(appendU32 _ _ _ _ (by omega) (by omega) HB.out ul1).mono ?_;rintro e w1 ⟨v1,rfl,hn⟩;replace HB:=zh hn;clear hn)|(go_at_call 142;refine(appendI32 _ _ _ _ HB.out ul1).mono ?_;rintro e w1 ⟨v1,rfl,hn⟩;replace HB:=zh hn;clear hn)|(go_at_call 143;refine(finish1 _ 51 _ ([]) _ HB.out ul6 ul3).mono ?_;rintro e w1 ⟨v1,rfl,hn⟩;clear HB;have HB:=zh hn;clear hn)|(at_builtin;refine ap_lit1 rfl _ _ 26 26 rfl Tryz.underlying26 Tryz.underlying26 rfl rfl HB.out ul1 ?_;intro v3 w3 hn;replace HB:=zh hn;clear hn)|(at_builtin;refine ap_lit5 rfl _ _ 26 26 rfl Tryz.underlying26 Tryz.underlying26 rfl rfl HB.out ul1 ?_;intro v3 w3 hn;replace HB:=zh hn;clear hn)|(at_builtin;refine ap_lit6 rfl _ _ 26 26 rfl Tryz.underlying26 Tryz.underlying26 rfl rfl HB.out ul1 ?_;intro v3 w3 hn;replace HB:=zh hn;clear hn))
 go_ret2
 exact gives_of HB.out (by rw [HR.out];rfl)
theorem encEmptyQuery (b:Nat)(w:World)(R:List Int)(HR:Hid (R=msgB 73 ([]))):
 Calls Tryz.prog 248 #[.pointer (some ⟨b,0,none⟩),.slice none 0 0] w (Gives w R):=by
 have HB:=zh (Buf.nil w)
 go_enter Tryz.func248,Tryz.ntmps248
 go_wp2_with (first|(go_at_call 139;refine(begin_any _ _ _ _ HB.out (by simp)).mono ?_;rintro e w1 ⟨v1,rfl,hn⟩;replace HB:=zh hn;clear hn)|(go_at_call 145;refine(appendU32 _ _ _ _ (by omega) (by omega) HB.out ul1).mono ?_;rintro e w1 ⟨v1,rfl,hn⟩;replace HB:=zh hn;clear hn)|(go_at_call 142;refine(appendI32 _ _ _ _ HB.out ul1).mono ?_;rintro e w1 ⟨v1,rfl,hn⟩;replace HB:=zh hn;clear hn)|(go_at_call 143;refine(finish1 _ 73 _ ([]) _ HB.out ul6 ul3).mono ?_;rintro e w1 ⟨v1,rfl,hn⟩;clear HB;have HB:=zh hn;clear hn)|(at_builtin;refine ap_lit1 rfl _ _ 26 26 rfl Tryz.underlying26 Tryz.underlying26 rfl rfl HB.out ul1 ?_;intro v3 w3 hn;replace HB:=zh hn;clear hn)|(at_builtin;refine ap_lit5 rfl _ _ 26 26 rfl Tryz.underlying26 Tryz.underlying26 rfl rfl HB.out ul1 ?_;intro v3 w3 hn;replace HB:=zh hn;clear hn)|(at_builtin;refine ap_lit6 rfl _ _ 26 26 rfl Tryz.underlying26 Tryz.underlying26 rfl rfl HB.out ul1 ?_;intro v3 w3 hn;replace HB:=zh hn;clear hn))
 go_ret2
 exact gives_of HB.out (by rw [HR.out];rfl)
theorem encNoData (b:Nat)(w:World)(R:List Int)(HR:Hid (R=msgB 110 ([]))):
 Calls Tryz.prog 251 #[.pointer (some ⟨b,0,none⟩),.slice none 0 0] w (Gives w R):=by
 have HB:=zh (Buf.nil w)
 go_enter Tryz.func251,Tryz.ntmps251
 go_wp2_with (first|(go_at_call 139;refine(begin_any _ _ _ _ HB.out (by simp)).mono ?_;rintro e w1 ⟨v1,rfl,hn⟩;replace HB:=zh hn;clear hn)|(go_at_call 145;refine(appendU32 _ _ _ _ (by omega) (by omega) HB.out ul1).mono ?_;rintro e w1 ⟨v1,rfl,hn⟩;replace HB:=zh hn;clear hn)|(go_at_call 142;refine(appendI32 _ _ _ _ HB.out ul1).mono ?_;rintro e w1 ⟨v1,rfl,hn⟩;replace HB:=zh hn;clear hn)|(go_at_call 143;refine(finish1 _ 110 _ ([]) _ HB.out ul6 ul3).mono ?_;rintro e w1 ⟨v1,rfl,hn⟩;clear HB;have HB:=zh hn;clear hn)|(at_builtin;refine ap_lit1 rfl _ _ 26 26 rfl Tryz.underlying26 Tryz.underlying26 rfl rfl HB.out ul1 ?_;intro v3 w3 hn;replace HB:=zh hn;clear hn)|(at_builtin;refine ap_lit5 rfl _ _ 26 26 rfl Tryz.underlying26 Tryz.underlying26 rfl rfl HB.out ul1 ?_;intro v3 w3 hn;replace HB:=zh hn;clear hn)|(at_builtin;refine ap_lit6 rfl _ _ 26 26 rfl Tryz.underlying26 Tryz.underlying26 rfl rfl HB.out ul1 ?_;intro v3 w3 hn;replace HB:=zh hn;clear hn))
 go_ret2
 exact gives_of HB.out (by rw [HR.out];rfl)
theorem encParseComplete (b:Nat)(w:World)(R:List Int)(HR:Hid (R=msgB 49 ([]))):
 Calls Tryz.prog 254 #[.pointer (some ⟨b,0,none⟩),.slice none 0 0] w (Gives w R):=by
 have HB:=zh (Buf.nil w)
 go_enter Tryz.func254,Tryz.ntmps254
 go_wp2_with (first|(go_at_call 139;refine(begin_any _ _ _ _ HB.out (by simp)).mono ?_;rintro e w1 ⟨v1,rfl,hn⟩;replace HB:=zh hn;clear hn)|(go_at_call 145;refine(appendU32 _ _ _ _ (by omega) (by omega) HB.out ul1).mono ?_;rintro e w1 ⟨v1,rfl,hn⟩;replace HB:=zh hn;clear hn)|(go_at_call 142;refine(appendI32 _ _ _ _ HB.out ul1).mono ?_;rintro e w1 ⟨v1,rfl,hn⟩;replace HB:=zh hn;clear hn)|(go_at_call 143;refine(finish1 _ 49 _ ([]) _ HB.out ul6 ul3).mono ?_;rintro e w1 ⟨v1,rfl,hn⟩;clear HB;have HB:=zh hn;clear hn)|(at_builtin;refine ap_lit1 rfl _ _ 26 26 rfl Tryz.underlying26 Tryz.underlying26 rfl rfl HB.out ul1 ?_;intro v3 w3 hn;replace HB:=zh hn;clear hn)|(at_builtin;refine ap_lit5 rfl _ _ 26 26 rfl Tryz.underlying26 Tryz.underlying26 rfl rfl HB.out ul1 ?_;intro v3 w3 hn;replace HB:=zh hn;clear hn)|(at_builtin;refine ap_lit6 rfl _ _ 26 26 rfl Tryz.underlying26 Tryz.underlying26 rfl rfl HB.out ul1 ?_;intro v3 w3 hn;replace HB:=zh hn;clear hn))
 go_ret2
 exact gives_of HB.out (by rw [HR.out];rfl)
theorem encPortalSuspended (b:Nat)(w:World)(R:List Int)(HR:Hid (R=msgB 115 ([]))):
 Calls Tryz.prog 257 #[.pointer (some ⟨b,0,none⟩),.slice none 0 0] w (Gives w R):=by
 have HB:=zh (Buf.nil w)
 go_enter Tryz.func257,Tryz.ntmps257
 go_wp2_with (first|(go_at_call 139;refine(begin_any _ _ _ _ HB.out (by simp)).mono ?_;rintro e w1 ⟨v1,rfl,hn⟩;replace HB:=zh hn;clear hn)|(go_at_call 145;refine(appendU32 _ _ _ _ (by omega) (by omega) HB.out ul1).mono ?_;rintro e w1 ⟨v1,rfl,hn⟩;replace HB:=zh hn;clear hn)|(go_at_call 142;refine(appendI32 _ _ _ _ HB.out ul1).mono ?_;rintro e w1 ⟨v1,rfl,hn⟩;replace HB:=zh hn;clear hn)|(go_at_call 143;refine(finish1 _ 115 _ ([]) _ HB.out ul6 ul3).mono ?_;rintro e w1 ⟨v1,rfl,hn⟩;clear HB;have HB:=zh hn;clear hn)|(at_builtin;refine ap_lit1 rfl _ _ 26 26 rfl Tryz.underlying26 Tryz.underlying26 rfl rfl HB.out ul1 ?_;intro v3 w3 hn;replace HB:=zh hn;clear hn)|(at_builtin;refine ap_lit5 rfl _ _ 26 26 rfl Tryz.underlying26 Tryz.underlying26 rfl rfl HB.out ul1 ?_;intro v3 w3 hn;replace HB:=zh hn;clear hn)|(at_builtin;refine ap_lit6 rfl _ _ 26 26 rfl Tryz.underlying26 Tryz.underlying26 rfl rfl HB.out ul1 ?_;intro v3 w3 hn;replace HB:=zh hn;clear hn))
 go_ret2
 exact gives_of HB.out (by rw [HR.out];rfl)
theorem encAuthOk (b:Nat)(w:World)(R:List Int)(HR:Hid (R=msgB 82 (b32 0))):
 Calls Tryz.prog 233 #[.pointer (some ⟨b,0,none⟩),.slice none 0 0] w (Gives w R):=by
 have HB:=zh (Buf.nil w)
 go_enter Tryz.func233,Tryz.ntmps233
 go_wp2_with (first|(go_at_call 139;refine(begin_any _ _ _ _ HB.out (by simp)).mono ?_;rintro e w1 ⟨v1,rfl,hn⟩;replace HB:=zh hn;clear hn)|(go_at_call 145;refine(appendU32 _ _ _ _ (by omega) (by omega) HB.out ul1).mono ?_;rintro e w1 ⟨v1,rfl,hn⟩;replace HB:=zh hn;clear hn)|(go_at_call 142;refine(appendI32 _ _ _ _ HB.out ul1).mono ?_;rintro e w1 ⟨v1,rfl,hn⟩;replace HB:=zh hn;clear hn)|(go_at_call 143;refine(finish1 _ 82 _ (b32 0) _ HB.out ul6 ul3).mono ?_;rintro e w1 ⟨v1,rfl,hn⟩;clear HB;have HB:=zh hn;clear hn)|(at_builtin;refine ap_lit1 rfl _ _ 26 26 rfl Tryz.underlying26 Tryz.underlying26 rfl rfl HB.out ul1 ?_;intro v3 w3 hn;replace HB:=zh hn;clear hn)|(at_builtin;refine ap_lit5 rfl _ _ 26 26 rfl Tryz.underlying26 Tryz.underlying26 rfl rfl HB.out ul1 ?_;intro v3 w3 hn;replace HB:=zh hn;clear hn)|(at_builtin;refine ap_lit6 rfl _ _ 26 26 rfl Tryz.underlying26 Tryz.underlying26 rfl rfl HB.out ul1 ?_;intro v3 w3 hn;replace HB:=zh hn;clear hn))
 go_ret2
 exact gives_of HB.out (HR.out)
theorem encAuthCleartext (b:Nat)(w:World)(R:List Int)(HR:Hid (R=msgB 82 (b32 3))):
 Calls Tryz.prog 236 #[.pointer (some ⟨b,0,none⟩),.slice none 0 0] w (Gives w R):=by
 have HB:=zh (Buf.nil w)
 go_enter Tryz.func236,Tryz.ntmps236
 go_wp2_with (first|(go_at_call 139;refine(begin_any _ _ _ _ HB.out (by simp)).mono ?_;rintro e w1 ⟨v1,rfl,hn⟩;replace HB:=zh hn;clear hn)|(go_at_call 145;refine(appendU32 _ _ _ _ (by omega) (by omega) HB.out ul1).mono ?_;rintro e w1 ⟨v1,rfl,hn⟩;replace HB:=zh hn;clear hn)|(go_at_call 142;refine(appendI32 _ _ _ _ HB.out ul1).mono ?_;rintro e w1 ⟨v1,rfl,hn⟩;replace HB:=zh hn;clear hn)|(go_at_call 143;refine(finish1 _ 82 _ (b32 3) _ HB.out ul6 ul3).mono ?_;rintro e w1 ⟨v1,rfl,hn⟩;clear HB;have HB:=zh hn;clear hn)|(at_builtin;refine ap_lit1 rfl _ _ 26 26 rfl Tryz.underlying26 Tryz.underlying26 rfl rfl HB.out ul1 ?_;intro v3 w3 hn;replace HB:=zh hn;clear hn)|(at_builtin;refine ap_lit5 rfl _ _ 26 26 rfl Tryz.underlying26 Tryz.underlying26 rfl rfl HB.out ul1 ?_;intro v3 w3 hn;replace HB:=zh hn;clear hn)|(at_builtin;refine ap_lit6 rfl _ _ 26 26 rfl Tryz.underlying26 Tryz.underlying26 rfl rfl HB.out ul1 ?_;intro v3 w3 hn;replace HB:=zh hn;clear hn))
 go_ret2
 exact gives_of HB.out (HR.out)
theorem encAuthGSS (b:Nat)(w:World)(R:List Int)(HR:Hid (R=msgB 82 (b32 7))):
 Calls Tryz.prog 239 #[.pointer (some ⟨b,0,none⟩),.slice none 0 0] w (Gives w R):=by
 have HB:=zh (Buf.nil w)
 go_enter Tryz.func239,Tryz.ntmps239
 go_wp2_with (first|(go_at_call 139;refine(begin_any _ _ _ _ HB.out (by simp)).mono ?_;rintro e w1 ⟨v1,rfl,hn⟩;replace HB:=zh hn;clear hn)|(go_at_call 145;refine(appendU32 _ _ _ _ (by omega) (by omega) HB.out ul1).mono ?_;rintro e w1 ⟨v1,rfl,hn⟩;replace HB:=zh hn;clear hn)|(go_at_call 142;refine(appendI32 _ _ _ _ HB.out ul1).mono ?_;rintro e w1 ⟨v1,rfl,hn⟩;replace HB:=zh hn;clear hn)|(go_at_call 143;refine(finish1 _ 82 _ (b32 7) _ HB.out ul6 ul3).mono ?_;rintro e w1 ⟨v1,rfl,hn⟩;clear HB;have HB:=zh hn;clear hn)|(at_builtin;refine ap_lit1 rfl _ _ 26 26 rfl Tryz.underlying26 Tryz.underlying26 rfl rfl HB.out ul1 ?_;intro v3 w3 hn;replace HB:=zh hn;clear hn)|(at_builtin;refine ap_lit5 rfl _ _ 26 26 rfl Tryz.underlying26 Tryz.underlying26 rfl rfl HB.out ul1 ?_;intro v3 w3 hn;replace HB:=zh hn;clear hn)|(at_builtin;refine ap_lit6 rfl _ _ 26 26 rfl Tryz.underlying26 Tryz.underlying26 rfl rfl HB.out ul1 ?_;intro v3 w3 hn;replace HB:=zh hn;clear hn))
 go_ret2
 exact gives_of HB.out (HR.out)
theorem encCancelRequest (b:Nat)(n:Int)(A_d:Option Addr)(c_d:Nat)(d:List Int)(w:World)(hc0:w.cell? ⟨b,0,none⟩=some (.int .u32 n))(hc1:w.cell? ⟨b,1,none⟩=some (.slice A_d d.length c_d))(h0_n:0<=n)(h1_n:n < 4294967296)(hr_d:RdB w (.slice A_d d.length c_d) d)(hl_d:d.length<=200)(R:List Int)(HR:Hid (R=msg0 (b32 80877102++b32 n++d))):
 Calls Tryz.prog 148 #[.pointer (some ⟨b,0,none⟩),.slice none 0 0] w (Gives w R):=by
 have hb:b < w.heap.size:=lt_of_cell hc0
 have hk:∀o,w.cell? ⟨b,o,none⟩=w.cell? ⟨b,o,none⟩:=fun _=>rfl
 have hr_d':=zh hr_d
 clear hr_d
 have HB:=zh (Buf.nil w)
 have hk':=zh hk;clear hk;have hk:True:=trivial
 go_enter Tryz.func148,Tryz.ntmps148
 go_wp2_with (first|(go_at_call 139;refine(begin_any _ _ _ _ HB.out (by simp)).mono ?_;rintro e w1 ⟨v1,rfl,hn⟩;clear hk;have hk:=hn.cellb hb;replace HB:=zh hn;clear hn)|(go_at_call 145;refine(appendU32 _ _ _ _ (by omega) (by omega) HB.out ul1).mono ?_;rintro e w1 ⟨v1,rfl,hn⟩;clear hk;have hk:=hn.cellb hb;replace HB:=zh hn;clear hn)|(go_at_call 142;refine(appendI32 _ _ _ _ HB.out ul1).mono ?_;rintro e w1 ⟨v1,rfl,hn⟩;clear hk;have hk:=hn.cellb hb;replace HB:=zh hn;clear hn)|(at_builtin;refine ap_lit1 rfl _ _ 26 26 rfl Tryz.underlying26 Tryz.underlying26 rfl rfl HB.out ul1 ?_;intro v3 w3 hn;clear hk;have hk:=hn.cellb hb;replace HB:=zh hn;clear hn)|(at_builtin;refine ap_lit5 rfl _ _ 26 26 rfl Tryz.underlying26 Tryz.underlying26 rfl rfl HB.out ul1 ?_;intro v3 w3 hn;clear hk;have hk:=hn.cellb hb;replace HB:=zh hn;clear hn)|(at_builtin;refine ap_lit6 rfl _ _ 26 26 rfl Tryz.underlying26 Tryz.underlying26 rfl rfl HB.out ul1 ?_;intro v3 w3 hn;clear hk;have hk:=hn.cellb hb;replace HB:=zh hn;clear hn)|(at_builtin;refine ap_row (ys:=d) rfl _ _ 26 26 rfl Tryz.underlying26 Tryz.underlying26 rfl HB.out rfl (hr_d'.out.ext HB.out.bel) ul1 ?_;intro v4 w4 hn;clear hk;have hk:=hn.cellb hb;replace HB:=zh hn;clear hn))
 go_ret2
 exact gives_of HB.out (by rw [HR.out];simp only [msg0,List.append_assoc,List.nil_append,List.length_append,b32_len];congr 2;omega)
theorem encGSSEncRequest (b:Nat)(w:World)(R:List Int)(HR:Hid (R=msg0 (b32 80877104))):
 Calls Tryz.prog 220 #[.pointer (some ⟨b,0,none⟩),.slice none 0 0] w (Gives w R):=by
 have HB:=zh (Buf.nil w)
 go_enter Tryz.func220,Tryz.ntmps220
 go_wp2_with (first|(go_at_call 139;refine(begin_any _ _ _ _ HB.out (by simp)).mono ?_;rintro e w1 ⟨v1,rfl,hn⟩;replace HB:=zh hn;clear hn)|(go_at_call 145;refine(appendU32 _ _ _ _ (by omega) (by omega) HB.out ul1).mono ?_;rintro e w1 ⟨v1,rfl,hn⟩;replace HB:=zh hn;clear hn)|(go_at_call 142;refine(appendI32 _ _ _ _ HB.out ul1).mono ?_;rintro e w1 ⟨v1,rfl,hn⟩;replace HB:=zh hn;clear hn)|(at_builtin;refine ap_lit1 rfl _ _ 26 26 rfl Tryz.underlying26 Tryz.underlying26 rfl rfl HB.out ul1 ?_;intro v3 w3 hn;replace HB:=zh hn;clear hn)|(at_builtin;refine ap_lit5 rfl _ _ 26 26 rfl Tryz.underlying26 Tryz.underlying26 rfl rfl HB.out ul1 ?_;intro v3 w3 hn;replace HB:=zh hn;clear hn)|(at_builtin;refine ap_lit6 rfl _ _ 26 26 rfl Tryz.underlying26 Tryz.underlying26 rfl rfl HB.out ul1 ?_;intro v3 w3 hn;replace HB:=zh hn;clear hn))
 go_ret2
 exact gives_of HB.out (by rw [HR.out];rfl)
theorem encSSLRequest (b:Nat)(w:World)(R:List Int)(HR:Hid (R=msg0 (b32 80877103))):
 Calls Tryz.prog 223 #[.pointer (some ⟨b,0,none⟩),.slice none 0 0] w (Gives w R):=by
 have HB:=zh (Buf.nil w)
 go_enter Tryz.func223,Tryz.ntmps223
 go_wp2_with (first|(go_at_call 139;refine(begin_any _ _ _ _ HB.out (by simp)).mono ?_;rintro e w1 ⟨v1,rfl,hn⟩;replace HB:=zh hn;clear hn)|(go_at_call 145;refine(appendU32 _ _ _ _ (by omega) (by omega) HB.out ul1).mono ?_;rintro e w1 ⟨v1,rfl,hn⟩;replace HB:=zh hn;clear hn)|(go_at_call 142;refine(appendI32 _ _ _ _ HB.out ul1).mono ?_;rintro e w1 ⟨v1,rfl,hn⟩;replace HB:=zh hn;clear hn)|(at_builtin;refine ap_lit1 rfl _ _ 26 26 rfl Tryz.underlying26 Tryz.underlying26 rfl rfl HB.out ul1 ?_;intro v3 w3 hn;replace HB:=zh hn;clear hn)|(at_builtin;refine ap_lit5 rfl _ _ 26 26 rfl Tryz.underlying26 Tryz.underlying26 rfl rfl HB.out ul1 ?_;intro v3 w3 hn;replace HB:=zh hn;clear hn)|(at_builtin;refine ap_lit6 rfl _ _ 26 26 rfl Tryz.underlying26 Tryz.underlying26 rfl rfl HB.out ul1 ?_;intro v3 w3 hn;replace HB:=zh hn;clear hn))
 go_ret2
 exact gives_of HB.out (by rw [HR.out];rfl)
def strOf (xs:List Int):ByteArray:=xs.foldl (fun r n=>r.push (UInt8.ofNat n.toNat)) ByteArray.empty
theorem conv_rd {w:World} {v:Value} {xs:List Int} (h:RdB w v xs):(convert 26 9 v).run Tryz.prog w=.ok (.string (strOf xs)) w:=by
 obtain⟨A,c,rfl,h1,h2,h3⟩:=h
 rw [run_convert_bytes_string w 26 9 5 A xs.length c Tryz.underlying26 Tryz.underlying5 Tryz.underlying9]
 by_cases hn:0 < xs.length
 ·obtain⟨b,off,rfl,hc⟩:=h3 hn
  refine run_bytesToString w ⟨b,off,none⟩ xs.length c xs ?_
  have:=run_loadCells_list (P:=Tryz.prog) w ⟨b,off,none⟩ (xs.map (Value.int .u8)) (fun j v hj=>by
   have hj':j < xs.length:=by
    have:=(List.getElem?_eq_some_iff.1 hj).1
    simpa using this
   rw [add_lit0,hc j hj']
   simp [List.getElem?_eq_getElem hj']at hj
   rw [<-hj]
   simp [List.getD,List.getElem?_eq_getElem hj'])
  simpa using this
 ·have hx:xs=[]:=List.eq_nil_of_length_eq_zero (by omega)
  subst hx
  cases A with
  | none=>simp [Conv.bytesToString,strOf,Sem.run_pure]
  | some a=>exact run_bytesToString w a 0 c [] (by simpa using run_loadCells_list (P:=Tryz.prog) w a [] (fun j v hj=>by simp at hj))
theorem meth19 (b:Nat)(w:World):(method 480 163 (.pointer (some ⟨b,0,none⟩)) "Encode").run Tryz.prog w=.ok (226,.pointer (some ⟨b,0,none⟩)) w:=by kernel_rfl
theorem cf226 (args:Array Value)(w:World):(callFunc 226 args).run Tryz.prog w=.ok (.enter 226 args) w:=by kernel_rfl
theorem made19 (n:Int)(v1 v2 v4 v5 v6 v7 v8 v9 v10 v11 v12:Value)(w:World)(R:List Int)(HR:Hid (R=msgB 83 [])):Calls Tryz.prog 34 #[.agg #[.int .i64 19,v1,v2,.int .u32 n,v4,v5,v6,v7,v8,v9,v10,v11,v12]] w (Made 163 226 w R):=
 made_dflt 163 226 164 #[] 19 n v1 v2 v4 v5 v6 v7 v8 v9 v10 v11 v12 w R (by decide) emp19 fun w1 b hx _ _=>ans_triv 163 226 b 19 n v1 v2 v4 v5 v6 v7 v8 v9 v10 v11 v12 w w1 R (by decide) hx fun w2=>encSync b w2 R HR
theorem enc19 (n:Int)(v1 v2 v4 v5 v6 v7 v8 v9 v10 v11 v12:Value)(w:World)(R:List Int)(HR:Hid (R=msgB 83 [])):Calls Tryz.prog 14 #[.agg #[.int .i64 19,v1,v2,.int .u32 n,v4,v5,v6,v7,v8,v9,v10,v11,v12]] w (Encs w R):=
 enc14 163 226 _ _ _ _ _ _ _ _ _ _ _ _ _ w R meth19 cf226 fun w' _=>made19 n v1 v2 v4 v5 v6 v7 v8 v9 v10 v11 v12 w' R HR
theorem str5:(strOf [83,0,0,0,4]).toList=[83,0,0,0,4]:=by
 rw [ByteArray.toList_eq];rfl
theorem works13 (w:World):Calls Tryz.prog 13 #[] w (fun e w'=>e=.returned (.bool true)/\Ext w w'):=by
 have h5:=str5
 go_enter Tryz.func13,Tryz.ntmps13
 go_wp2_with (go_at_call 14;refine(enc19 _ _ _ _ _ _ _ _ _ _ _ _ _ [83,0,0,0,4] (zh (by decide))).mono ?_;rintro e w1 ⟨A,c,rfl,hx,hr⟩;have HX:=zh hx;have hcv:(convert 26 9 (.slice A 5 c)).run Tryz.prog w1=.ok (.string (strOf [83,0,0,0,4])) w1:=conv_rd hr;clear hr hx)
 go_ret
 exact⟨rfl,HX.out⟩
open Go.RowKit Og
theorem idle45 (p q:Addr)(w:World):CallsD Tryz.prog 45 #[.pointer (some p),.pointer (some q)] .returning w fun e u' w'=>e=.returned (.tuple #[])/\u'=.returning/\w'=w:=by
 refine callsD_of_wpS Tryz.func45 rfl fun c₀ cs hu=>?_
 apply wpS_seq
 apply wpS_region
 simp [wpOpsS,go_sem,recoverD,hu,Tryz.ntmps45,Exit.thenS]
 refine wpS_cond (t:=false) (by simp [Act.eval,Array.replicate]) ?_
 simp only [Bool.false_eq_true,if_false]
 refine wpS_of_wp (wp_skip ?_)
 cases c₀
 simp_all [bodyPostS,results,Tryz.results45]
theorem copied47 (v:Value)(xs:List Int)(w:World)(h:RdB w v xs)(hl:xs.length<=1000000):Calls Tryz.prog 47 #[v] w (Gave w xs):=by
 have HR:=zh h
 have HB:=zh (Buf.nil w)
 go_enter Tryz.func47,Tryz.ntmps47
 go_wp2_with (at_builtin;refine ap_row (ys:=xs) rfl _ _ 26 26 rfl Tryz.underlying26 Tryz.underlying26 rfl HB.out rfl HR.out (by simp;omega) ?_;intro v2 w2 hn;clear HB;have HB:=zh hn;clear hn)
 go_ret
 exact⟨_,rfl,by simpa using HB.out⟩
structure ExtBut (b:Nat) (w w':World):Prop where
 os:w'.os=w.os
 tape:w'.tape=w.tape
 output:w'.output=w.output
 size:w.heap.size<=w'.heap.size
 block:∀k,k < w.heap.size->k≠b->w'.heap[k]?=w.heap[k]?
theorem Ext.but {b:Nat} {w w':World} (h:Ext w w'):ExtBut b w w':=⟨h.os,h.tape,h.output,h.size,fun k hk _=>h.block k hk⟩
theorem ExtBut.trans {b:Nat} {w w1 w2:World} (h:ExtBut b w w1)(h2:ExtBut b w1 w2):ExtBut b w w2:=
 ⟨h2.os.trans h.os,h2.tape.trans h.tape,h2.output.trans h.output,Nat.le_trans h.size h2.size,fun k hk hb=>(h2.block k (Nat.lt_of_lt_of_le hk h.size) hb).trans (h.block k hk hb)⟩
theorem ExtBut.set {b:Nat} {w w1:World} (h:ExtBut b w w1)(j:Nat)(v:Value):ExtBut b w (w1.setCell ⟨b,j,none⟩ v):=
 ⟨h.os,h.tape,h.output,by simpa [World.setCell]using h.size,fun k hk hb=>(heap_setCell_other w1 ⟨b,j,none⟩ k v hb).trans (h.block k hk hb)⟩
theorem ExtBut.ext {b:Nat} {w w1 w2:World} (h:ExtBut b w1 w2)(hx:Ext w w1)(hb:w.heap.size<=b):Ext w w2:=
 ⟨h.os.trans hx.os,h.tape.trans hx.tape,h.output.trans hx.output,Nat.le_trans hx.size h.size,fun k hk=>(h.block k (Nat.lt_of_lt_of_le hk hx.size) (by omega)).trans (hx.block k hk)⟩
def DecK (W0:World) (bk:Nat) (xs:List Int) (D:Value->World->Prop) (L:Nat->Bool) (vs:Nat->Value) (w:World):Prop:=
 if L 9 then D (vs 9) w else Ext W0 w/\(L 5=true->RdB w (vs 5) xs/\(vs 5).ownBlock≠some bk)
theorem DecK.keep {W0:World} {bk:Nat} {xs:List Int} {D:Value->World->Prop} {L:Nat->Bool} {vs:Nat->Value} {w:World} (h:DecK W0 bk xs D L vs w)(i:Nat)(u:Value)(h5:5≠i)(h9:9≠i):DecK W0 bk xs D (updB L i) (upd vs i u) w:=by
 unfold DecK at *
 simpa [updB,upd,h5,h9]using h
def Keeps (w w':World) (R:World->Prop):Prop:=∀w3:World,(∀k,w.heap.size<=k->k < w'.heap.size->w3.heap[k]?=w'.heap[k]?)->R w3
theorem Keeps.at_ {w w':World} {R:World->Prop} (h:Keeps w w' R)(b:Nat)(w3:World)(hb:b < w.heap.size)(hx:ExtBut b w' w3):R w3:=
 h w3 fun k h1 h2=>hx.block k h2 (by omega)
theorem own_stay {w w' w3:World} {e size n:Nat} {v:Value} {xs:List Value} (h:w'.ownsRow 0 e size v n xs)(hoff:∀g,v.ownBlock=some g->¬g < w.heap.size)(hx:∀k,w.heap.size<=k->k < w'.heap.size->w3.heap[k]?=w'.heap[k]?):w3.ownsRow 0 e size v n xs:=
 own_keep h fun g hg=>hx g (Nat.le_of_not_lt (hoff g hg)) (h.lt g hg).2
theorem Buf.keeps {w w':World} {v:Value} {xs:List Int} (h:Buf (Lt w.heap.size) w w' v xs):Keeps w w' (fun w3=>RdB w3 v xs):=
 fun w3 hx=>RdB.of_own (own_stay h.own h.off hx)
def GaveR (R:Value->World->Prop) (n:Nat) (w:World):Ending->World->Prop:=fun e w'=>∃A c,e=.returned (.slice A n c)/\Ext w w'/\Keeps w w' (R (.slice A n c))
theorem copiedK (v:Value)(xs:List Int)(w:World)(h:RdB w v xs)(hl:xs.length<=1000000):Calls Tryz.prog 47 #[v] w (GaveR (fun v w=>RdB w v xs) xs.length w):=by
 refine(copied47 v xs w h hl).mono ?_
 rintro e w' ⟨v',rfl,hb⟩
 obtain⟨A,c,rfl⟩:=hb.len
 exact⟨A,c,rfl,hb.bel,hb.keeps⟩
theorem str_keeps (w:World)(s:ByteArray)(hs:s.size<=maxLen):Keeps w (Lib.bytesWorld w 5 s) (fun w3=>RdB w3 (.slice (some ⟨w.heap.size,0,none⟩) s.size (grownCap w s.size 0 5)) (sby s)):=by
 intro w3 hx
 obtain⟨A,c,hv,h1,h2,h3⟩:=RdB.str w s hs
 refine⟨A,c,hv,h1,h2,fun hp=>?_⟩
 obtain⟨b',off,hA,hc⟩:=h3 hp
 refine⟨b',off,hA,fun j hj=>?_⟩
 have hAv:A=some ⟨w.heap.size,0,none⟩:=by
  have:=hv
  simp only [Value.slice.injEq]at this
  exact this.1.symm
 have hb':b'=w.heap.size:=by
  rw [hA]at hAv
  simp at hAv
  exact hAv.1
 subst hb'
 rw [cell_of_heap (hx w.heap.size (Nat.le_refl _) (by rw [Lib.bytesWorld_size];omega))]
 exact hc j hj
end Go.Proofs.YtdenjanihikolaaGreatDoor
