/- Encode methods without loops, by contract. -/
import Derived.Test.YtdenjanihikolaaGreatDoorRqA0
import Derived.Test.YtdenjanihikolaaGreatDoorRqA1
import Derived.Test.YtdenjanihikolaaGreatDoorRqBase
namespace Go.Proofs.YtdenjanihikolaaGreatDoor
set_option linter.unusedVariables false
set_option linter.unusedSimpArgs false
set_option maxRecDepth 100000
open Go.RowKit
theorem encSASLInitial (b:Nat)(s:ByteArray)(A_d:Option Addr)(c_d:Nat)(d:List Int)(w:World)(hc0:w.cell? ⟨b,0,none⟩=some (.string s))(hc1:w.cell? ⟨b,1,none⟩=some (.slice A_d d.length c_d))(hs_s:s.size<=1000)(hr_d:RdB w (.slice A_d d.length c_d) d)(hl_d:d.length<=1000)(R:List Int)(HR:Hid (R=msgB 112 (txt s++b32 d.length++d))):
 Calls Tryz.prog 185 #[.pointer (some ⟨b,0,none⟩),.slice none 0 0] w (Gives w R):=by
 have hb:b < w.heap.size:=lt_of_cell hc0
 have hk:∀o,w.cell? ⟨b,o,none⟩=w.cell? ⟨b,o,none⟩:=fun _=>rfl
 have hr_d':=zh hr_d
 clear hr_d
 have HB:=zh (Buf.nil w)
 have hk':=zh hk;clear hk;have hk:True:=trivial
 have hcv:=run_bytes s
 go_enter Tryz.func185,Tryz.ntmps185
 go_wp2_with (first|(go_at_call 139;refine(begin_any _ _ _ _ HB.out (by simp)).mono ?_;rintro e w1 ⟨v1,rfl,hn⟩;clear hk;have hk:=hn.cellb hb;replace HB:=zh hn;clear hn)|(go_at_call 145;refine(appendU32 _ _ _ _ (by omega) (by omega) HB.out ul1).mono ?_;rintro e w1 ⟨v1,rfl,hn⟩;clear hk;have hk:=hn.cellb hb;replace HB:=zh hn;clear hn)|(go_at_call 142;refine(appendI32 _ _ _ _ HB.out ul1).mono ?_;rintro e w1 ⟨v1,rfl,hn⟩;clear hk;have hk:=hn.cellb hb;replace HB:=zh hn;clear hn)|(go_at_call 143;refine(finish1 _ 112 _ (txt s++b32 d.length++d) _ HB.out ul6 ul3).mono ?_;rintro e w1 ⟨v1,rfl,hn⟩;clear HB;have HB:=zh hn;clear hn)|(at_builtin;refine ap_str (st:=s) rfl _ _ 26 rfl Tryz.underlying26 rfl rfl HB.out ul1 ?_;intro v2 w2 hn;clear hk;have hk:=hn.cellb hb;replace HB:=zh hn;clear hn)|(at_builtin;refine ap_lit1 rfl _ _ 26 26 rfl Tryz.underlying26 Tryz.underlying26 rfl rfl HB.out ul1 ?_;intro v3 w3 hn;clear hk;have hk:=hn.cellb hb;replace HB:=zh hn;clear hn)|(at_builtin;refine ap_lit5 rfl _ _ 26 26 rfl Tryz.underlying26 Tryz.underlying26 rfl rfl HB.out ul1 ?_;intro v3 w3 hn;clear hk;have hk:=hn.cellb hb;replace HB:=zh hn;clear hn)|(at_builtin;refine ap_lit6 rfl _ _ 26 26 rfl Tryz.underlying26 Tryz.underlying26 rfl rfl HB.out ul1 ?_;intro v3 w3 hn;clear hk;have hk:=hn.cellb hb;replace HB:=zh hn;clear hn)|(at_builtin;refine ap_row (ys:=d) rfl _ _ 26 26 rfl Tryz.underlying26 Tryz.underlying26 rfl HB.out rfl (hr_d'.out.ext HB.out.bel) ul1 ?_;intro v4 w4 hn;clear hk;have hk:=hn.cellb hb;replace HB:=zh hn;clear hn)|(at_builtin;refine ap_conv (st:=s) rfl _ _ 26 26 rfl Tryz.underlying26 Tryz.underlying26 rfl rfl HB.out ul1 ?_;intro v5 w5 hn;clear hk;have hk:=hn.cellb hb;replace HB:=zh hn;clear hn))
 go_ret2
 exact gives_of HB.out (HR.out)
theorem encSASLResponse (b:Nat)(A_d:Option Addr)(c_d:Nat)(d:List Int)(w:World)(hc0:w.cell? ⟨b,0,none⟩=some (.slice A_d d.length c_d))(hr_d:RdB w (.slice A_d d.length c_d) d)(hl_d:d.length<=1000)(R:List Int)(HR:Hid (R=msgB 112 (d))):
 Calls Tryz.prog 188 #[.pointer (some ⟨b,0,none⟩),.slice none 0 0] w (Gives w R):=by
 have hb:b < w.heap.size:=lt_of_cell hc0
 have hk:∀o,w.cell? ⟨b,o,none⟩=w.cell? ⟨b,o,none⟩:=fun _=>rfl
 have hr_d':=zh hr_d
 clear hr_d
 have HB:=zh (Buf.nil w)
 have hk':=zh hk;clear hk;have hk:True:=trivial
 go_enter Tryz.func188,Tryz.ntmps188
 go_wp2_with (first|(go_at_call 139;refine(begin_any _ _ _ _ HB.out (by simp)).mono ?_;rintro e w1 ⟨v1,rfl,hn⟩;clear hk;have hk:=hn.cellb hb;replace HB:=zh hn;clear hn)|(go_at_call 145;refine(appendU32 _ _ _ _ (by omega) (by omega) HB.out ul1).mono ?_;rintro e w1 ⟨v1,rfl,hn⟩;clear hk;have hk:=hn.cellb hb;replace HB:=zh hn;clear hn)|(go_at_call 142;refine(appendI32 _ _ _ _ HB.out ul1).mono ?_;rintro e w1 ⟨v1,rfl,hn⟩;clear hk;have hk:=hn.cellb hb;replace HB:=zh hn;clear hn)|(go_at_call 143;refine(finish1 _ 112 _ (d) _ HB.out ul6 ul3).mono ?_;rintro e w1 ⟨v1,rfl,hn⟩;clear HB;have HB:=zh hn;clear hn)|(at_builtin;refine ap_lit1 rfl _ _ 26 26 rfl Tryz.underlying26 Tryz.underlying26 rfl rfl HB.out ul1 ?_;intro v3 w3 hn;clear hk;have hk:=hn.cellb hb;replace HB:=zh hn;clear hn)|(at_builtin;refine ap_lit5 rfl _ _ 26 26 rfl Tryz.underlying26 Tryz.underlying26 rfl rfl HB.out ul1 ?_;intro v3 w3 hn;clear hk;have hk:=hn.cellb hb;replace HB:=zh hn;clear hn)|(at_builtin;refine ap_lit6 rfl _ _ 26 26 rfl Tryz.underlying26 Tryz.underlying26 rfl rfl HB.out ul1 ?_;intro v3 w3 hn;clear hk;have hk:=hn.cellb hb;replace HB:=zh hn;clear hn)|(at_builtin;refine ap_row (ys:=d) rfl _ _ 26 26 rfl Tryz.underlying26 Tryz.underlying26 rfl HB.out rfl (hr_d'.out.ext HB.out.bel) ul1 ?_;intro v4 w4 hn;clear hk;have hk:=hn.cellb hb;replace HB:=zh hn;clear hn))
 go_ret2
 exact gives_of HB.out (HR.out)
theorem encAuthMD5 (b:Nat)(x0 x1 x2 x3:Int)(w:World)(hc0:w.cell? ⟨b,0,none⟩=some (.int .u8 x0))(hc1:w.cell? ⟨b,1,none⟩=some (.int .u8 x1))(hc2:w.cell? ⟨b,2,none⟩=some (.int .u8 x2))(hc3:w.cell? ⟨b,3,none⟩=some (.int .u8 x3))(R:List Int)(HR:Hid (R=msgB 82 (b32 5++ [x0,x1,x2,x3]))):
 Calls Tryz.prog 260 #[.pointer (some ⟨b,0,none⟩),.slice none 0 0] w (Gives w R):=by
 have hb:b < w.heap.size:=lt_of_cell hc0
 have hk:∀o,w.cell? ⟨b,o,none⟩=w.cell? ⟨b,o,none⟩:=fun _=>rfl
 have hra:=zh (RdB.arr4 hc0 hc1 hc2 hc3)
 have HB:=zh (Buf.nil w)
 have hk':=zh hk;clear hk;have hk:True:=trivial
 go_enter Tryz.func260,Tryz.ntmps260
 go_wp2_with (first|(go_at_call 139;refine(begin_any _ _ _ _ HB.out (by simp)).mono ?_;rintro e w1 ⟨v1,rfl,hn⟩;clear hk;have hk:=hn.cellb hb;replace HB:=zh hn;clear hn)|(go_at_call 145;refine(appendU32 _ _ _ _ (by omega) (by omega) HB.out ul1).mono ?_;rintro e w1 ⟨v1,rfl,hn⟩;clear hk;have hk:=hn.cellb hb;replace HB:=zh hn;clear hn)|(go_at_call 142;refine(appendI32 _ _ _ _ HB.out ul1).mono ?_;rintro e w1 ⟨v1,rfl,hn⟩;clear hk;have hk:=hn.cellb hb;replace HB:=zh hn;clear hn)|(go_at_call 143;refine(finish1 _ 82 _ (b32 5++ [x0,x1,x2,x3]) _ HB.out ul6 ul3).mono ?_;rintro e w1 ⟨v1,rfl,hn⟩;clear HB;have HB:=zh hn;clear hn)|(at_builtin;refine ap_lit1 rfl _ _ 26 26 rfl Tryz.underlying26 Tryz.underlying26 rfl rfl HB.out ul1 ?_;intro v3 w3 hn;clear hk;have hk:=hn.cellb hb;replace HB:=zh hn;clear hn)|(at_builtin;refine ap_lit5 rfl _ _ 26 26 rfl Tryz.underlying26 Tryz.underlying26 rfl rfl HB.out ul1 ?_;intro v3 w3 hn;clear hk;have hk:=hn.cellb hb;replace HB:=zh hn;clear hn)|(at_builtin;refine ap_lit6 rfl _ _ 26 26 rfl Tryz.underlying26 Tryz.underlying26 rfl rfl HB.out ul1 ?_;intro v3 w3 hn;clear hk;have hk:=hn.cellb hb;replace HB:=zh hn;clear hn)|(at_builtin;refine ap_row (ys:=[x0,x1,x2,x3]) rfl _ _ 26 26 rfl Tryz.underlying26 Tryz.underlying26 rfl HB.out rfl (hra.out.ext HB.out.bel) ul1 ?_;intro v4 w4 hn;clear hk;have hk:=hn.cellb hb;replace HB:=zh hn;clear hn))
 go_ret2
 exact gives_of HB.out (HR.out)
theorem encAuthGSSContinue (b:Nat)(A_d:Option Addr)(c_d:Nat)(d:List Int)(w:World)(hc0:w.cell? ⟨b,0,none⟩=some (.slice A_d d.length c_d))(hr_d:RdB w (.slice A_d d.length c_d) d)(hl_d:d.length<=1000)(R:List Int)(HR:Hid (R=msgB 82 (b32 8++d))):
 Calls Tryz.prog 263 #[.pointer (some ⟨b,0,none⟩),.slice none 0 0] w (Gives w R):=by
 have hb:b < w.heap.size:=lt_of_cell hc0
 have hk:∀o,w.cell? ⟨b,o,none⟩=w.cell? ⟨b,o,none⟩:=fun _=>rfl
 have hr_d':=zh hr_d
 clear hr_d
 have HB:=zh (Buf.nil w)
 have hk':=zh hk;clear hk;have hk:True:=trivial
 go_enter Tryz.func263,Tryz.ntmps263
 go_wp2_with (first|(go_at_call 139;refine(begin_any _ _ _ _ HB.out (by simp)).mono ?_;rintro e w1 ⟨v1,rfl,hn⟩;clear hk;have hk:=hn.cellb hb;replace HB:=zh hn;clear hn)|(go_at_call 145;refine(appendU32 _ _ _ _ (by omega) (by omega) HB.out ul1).mono ?_;rintro e w1 ⟨v1,rfl,hn⟩;clear hk;have hk:=hn.cellb hb;replace HB:=zh hn;clear hn)|(go_at_call 142;refine(appendI32 _ _ _ _ HB.out ul1).mono ?_;rintro e w1 ⟨v1,rfl,hn⟩;clear hk;have hk:=hn.cellb hb;replace HB:=zh hn;clear hn)|(go_at_call 143;refine(finish1 _ 82 _ (b32 8++d) _ HB.out ul6 ul3).mono ?_;rintro e w1 ⟨v1,rfl,hn⟩;clear HB;have HB:=zh hn;clear hn)|(at_builtin;refine ap_lit1 rfl _ _ 26 26 rfl Tryz.underlying26 Tryz.underlying26 rfl rfl HB.out ul1 ?_;intro v3 w3 hn;clear hk;have hk:=hn.cellb hb;replace HB:=zh hn;clear hn)|(at_builtin;refine ap_lit5 rfl _ _ 26 26 rfl Tryz.underlying26 Tryz.underlying26 rfl rfl HB.out ul1 ?_;intro v3 w3 hn;clear hk;have hk:=hn.cellb hb;replace HB:=zh hn;clear hn)|(at_builtin;refine ap_lit6 rfl _ _ 26 26 rfl Tryz.underlying26 Tryz.underlying26 rfl rfl HB.out ul1 ?_;intro v3 w3 hn;clear hk;have hk:=hn.cellb hb;replace HB:=zh hn;clear hn)|(at_builtin;refine ap_row (ys:=d) rfl _ _ 26 26 rfl Tryz.underlying26 Tryz.underlying26 rfl HB.out rfl (hr_d'.out.ext HB.out.bel) ul1 ?_;intro v4 w4 hn;clear hk;have hk:=hn.cellb hb;replace HB:=zh hn;clear hn))
 go_ret2
 exact gives_of HB.out (HR.out)
theorem encAuthSASLContinue (b:Nat)(A_d:Option Addr)(c_d:Nat)(d:List Int)(w:World)(hc0:w.cell? ⟨b,0,none⟩=some (.slice A_d d.length c_d))(hr_d:RdB w (.slice A_d d.length c_d) d)(hl_d:d.length<=1000)(R:List Int)(HR:Hid (R=msgB 82 (b32 11++d))):
 Calls Tryz.prog 269 #[.pointer (some ⟨b,0,none⟩),.slice none 0 0] w (Gives w R):=by
 have hb:b < w.heap.size:=lt_of_cell hc0
 have hk:∀o,w.cell? ⟨b,o,none⟩=w.cell? ⟨b,o,none⟩:=fun _=>rfl
 have hr_d':=zh hr_d
 clear hr_d
 have HB:=zh (Buf.nil w)
 have hk':=zh hk;clear hk;have hk:True:=trivial
 go_enter Tryz.func269,Tryz.ntmps269
 go_wp2_with (first|(go_at_call 139;refine(begin_any _ _ _ _ HB.out (by simp)).mono ?_;rintro e w1 ⟨v1,rfl,hn⟩;clear hk;have hk:=hn.cellb hb;replace HB:=zh hn;clear hn)|(go_at_call 145;refine(appendU32 _ _ _ _ (by omega) (by omega) HB.out ul1).mono ?_;rintro e w1 ⟨v1,rfl,hn⟩;clear hk;have hk:=hn.cellb hb;replace HB:=zh hn;clear hn)|(go_at_call 142;refine(appendI32 _ _ _ _ HB.out ul1).mono ?_;rintro e w1 ⟨v1,rfl,hn⟩;clear hk;have hk:=hn.cellb hb;replace HB:=zh hn;clear hn)|(go_at_call 143;refine(finish1 _ 82 _ (b32 11++d) _ HB.out ul6 ul3).mono ?_;rintro e w1 ⟨v1,rfl,hn⟩;clear HB;have HB:=zh hn;clear hn)|(at_builtin;refine ap_lit1 rfl _ _ 26 26 rfl Tryz.underlying26 Tryz.underlying26 rfl rfl HB.out ul1 ?_;intro v3 w3 hn;clear hk;have hk:=hn.cellb hb;replace HB:=zh hn;clear hn)|(at_builtin;refine ap_lit5 rfl _ _ 26 26 rfl Tryz.underlying26 Tryz.underlying26 rfl rfl HB.out ul1 ?_;intro v3 w3 hn;clear hk;have hk:=hn.cellb hb;replace HB:=zh hn;clear hn)|(at_builtin;refine ap_lit6 rfl _ _ 26 26 rfl Tryz.underlying26 Tryz.underlying26 rfl rfl HB.out ul1 ?_;intro v3 w3 hn;clear hk;have hk:=hn.cellb hb;replace HB:=zh hn;clear hn)|(at_builtin;refine ap_row (ys:=d) rfl _ _ 26 26 rfl Tryz.underlying26 Tryz.underlying26 rfl HB.out rfl (hr_d'.out.ext HB.out.bel) ul1 ?_;intro v4 w4 hn;clear hk;have hk:=hn.cellb hb;replace HB:=zh hn;clear hn))
 go_ret2
 exact gives_of HB.out (HR.out)
theorem encAuthSASLFinal (b:Nat)(A_d:Option Addr)(c_d:Nat)(d:List Int)(w:World)(hc0:w.cell? ⟨b,0,none⟩=some (.slice A_d d.length c_d))(hr_d:RdB w (.slice A_d d.length c_d) d)(hl_d:d.length<=1000)(R:List Int)(HR:Hid (R=msgB 82 (b32 12++d))):
 Calls Tryz.prog 272 #[.pointer (some ⟨b,0,none⟩),.slice none 0 0] w (Gives w R):=by
 have hb:b < w.heap.size:=lt_of_cell hc0
 have hk:∀o,w.cell? ⟨b,o,none⟩=w.cell? ⟨b,o,none⟩:=fun _=>rfl
 have hr_d':=zh hr_d
 clear hr_d
 have HB:=zh (Buf.nil w)
 have hk':=zh hk;clear hk;have hk:True:=trivial
 go_enter Tryz.func272,Tryz.ntmps272
 go_wp2_with (first|(go_at_call 139;refine(begin_any _ _ _ _ HB.out (by simp)).mono ?_;rintro e w1 ⟨v1,rfl,hn⟩;clear hk;have hk:=hn.cellb hb;replace HB:=zh hn;clear hn)|(go_at_call 145;refine(appendU32 _ _ _ _ (by omega) (by omega) HB.out ul1).mono ?_;rintro e w1 ⟨v1,rfl,hn⟩;clear hk;have hk:=hn.cellb hb;replace HB:=zh hn;clear hn)|(go_at_call 142;refine(appendI32 _ _ _ _ HB.out ul1).mono ?_;rintro e w1 ⟨v1,rfl,hn⟩;clear hk;have hk:=hn.cellb hb;replace HB:=zh hn;clear hn)|(go_at_call 143;refine(finish1 _ 82 _ (b32 12++d) _ HB.out ul6 ul3).mono ?_;rintro e w1 ⟨v1,rfl,hn⟩;clear HB;have HB:=zh hn;clear hn)|(at_builtin;refine ap_lit1 rfl _ _ 26 26 rfl Tryz.underlying26 Tryz.underlying26 rfl rfl HB.out ul1 ?_;intro v3 w3 hn;clear hk;have hk:=hn.cellb hb;replace HB:=zh hn;clear hn)|(at_builtin;refine ap_lit5 rfl _ _ 26 26 rfl Tryz.underlying26 Tryz.underlying26 rfl rfl HB.out ul1 ?_;intro v3 w3 hn;clear hk;have hk:=hn.cellb hb;replace HB:=zh hn;clear hn)|(at_builtin;refine ap_lit6 rfl _ _ 26 26 rfl Tryz.underlying26 Tryz.underlying26 rfl rfl HB.out ul1 ?_;intro v3 w3 hn;clear hk;have hk:=hn.cellb hb;replace HB:=zh hn;clear hn)|(at_builtin;refine ap_row (ys:=d) rfl _ _ 26 26 rfl Tryz.underlying26 Tryz.underlying26 rfl HB.out rfl (hr_d'.out.ext HB.out.bel) ul1 ?_;intro v4 w4 hn;clear hk;have hk:=hn.cellb hb;replace HB:=zh hn;clear hn))
 go_ret2
 exact gives_of HB.out (HR.out)
theorem encBackendKey (b:Nat)(n:Int)(A_d:Option Addr)(c_d:Nat)(d:List Int)(w:World)(hc0:w.cell? ⟨b,0,none⟩=some (.int .u32 n))(hc1:w.cell? ⟨b,1,none⟩=some (.slice A_d d.length c_d))(h0_n:0<=n)(h1_n:n < 4294967296)(hr_d:RdB w (.slice A_d d.length c_d) d)(hl_d:d.length<=1000)(R:List Int)(HR:Hid (R=msgB 75 (b32 n++d))):
 Calls Tryz.prog 275 #[.pointer (some ⟨b,0,none⟩),.slice none 0 0] w (Gives w R):=by
 have hb:b < w.heap.size:=lt_of_cell hc0
 have hk:∀o,w.cell? ⟨b,o,none⟩=w.cell? ⟨b,o,none⟩:=fun _=>rfl
 have hr_d':=zh hr_d
 clear hr_d
 have HB:=zh (Buf.nil w)
 have hk':=zh hk;clear hk;have hk:True:=trivial
 go_enter Tryz.func275,Tryz.ntmps275
 go_wp2_with (first|(go_at_call 139;refine(begin_any _ _ _ _ HB.out (by simp)).mono ?_;rintro e w1 ⟨v1,rfl,hn⟩;clear hk;have hk:=hn.cellb hb;replace HB:=zh hn;clear hn)|(go_at_call 145;refine(appendU32 _ _ _ _ (by omega) (by omega) HB.out ul1).mono ?_;rintro e w1 ⟨v1,rfl,hn⟩;clear hk;have hk:=hn.cellb hb;replace HB:=zh hn;clear hn)|(go_at_call 142;refine(appendI32 _ _ _ _ HB.out ul1).mono ?_;rintro e w1 ⟨v1,rfl,hn⟩;clear hk;have hk:=hn.cellb hb;replace HB:=zh hn;clear hn)|(go_at_call 143;refine(finish1 _ 75 _ (b32 n++d) _ HB.out ul6 ul3).mono ?_;rintro e w1 ⟨v1,rfl,hn⟩;clear HB;have HB:=zh hn;clear hn)|(at_builtin;refine ap_lit1 rfl _ _ 26 26 rfl Tryz.underlying26 Tryz.underlying26 rfl rfl HB.out ul1 ?_;intro v3 w3 hn;clear hk;have hk:=hn.cellb hb;replace HB:=zh hn;clear hn)|(at_builtin;refine ap_lit5 rfl _ _ 26 26 rfl Tryz.underlying26 Tryz.underlying26 rfl rfl HB.out ul1 ?_;intro v3 w3 hn;clear hk;have hk:=hn.cellb hb;replace HB:=zh hn;clear hn)|(at_builtin;refine ap_lit6 rfl _ _ 26 26 rfl Tryz.underlying26 Tryz.underlying26 rfl rfl HB.out ul1 ?_;intro v3 w3 hn;clear hk;have hk:=hn.cellb hb;replace HB:=zh hn;clear hn)|(at_builtin;refine ap_row (ys:=d) rfl _ _ 26 26 rfl Tryz.underlying26 Tryz.underlying26 rfl HB.out rfl (hr_d'.out.ext HB.out.bel) ul1 ?_;intro v4 w4 hn;clear hk;have hk:=hn.cellb hb;replace HB:=zh hn;clear hn))
 go_ret2
 exact gives_of HB.out (HR.out)
theorem encCommandComplete (b:Nat)(A_d:Option Addr)(c_d:Nat)(d:List Int)(w:World)(hc0:w.cell? ⟨b,0,none⟩=some (.slice A_d d.length c_d))(hr_d:RdB w (.slice A_d d.length c_d) d)(hl_d:d.length<=1000)(R:List Int)(HR:Hid (R=msgB 67 (d++ [0]))):
 Calls Tryz.prog 278 #[.pointer (some ⟨b,0,none⟩),.slice none 0 0] w (Gives w R):=by
 have hb:b < w.heap.size:=lt_of_cell hc0
 have hk:∀o,w.cell? ⟨b,o,none⟩=w.cell? ⟨b,o,none⟩:=fun _=>rfl
 have hr_d':=zh hr_d
 clear hr_d
 have HB:=zh (Buf.nil w)
 have hk':=zh hk;clear hk;have hk:True:=trivial
 go_enter Tryz.func278,Tryz.ntmps278
 go_wp2_with (first|(go_at_call 139;refine(begin_any _ _ _ _ HB.out (by simp)).mono ?_;rintro e w1 ⟨v1,rfl,hn⟩;clear hk;have hk:=hn.cellb hb;replace HB:=zh hn;clear hn)|(go_at_call 145;refine(appendU32 _ _ _ _ (by omega) (by omega) HB.out ul1).mono ?_;rintro e w1 ⟨v1,rfl,hn⟩;clear hk;have hk:=hn.cellb hb;replace HB:=zh hn;clear hn)|(go_at_call 142;refine(appendI32 _ _ _ _ HB.out ul1).mono ?_;rintro e w1 ⟨v1,rfl,hn⟩;clear hk;have hk:=hn.cellb hb;replace HB:=zh hn;clear hn)|(go_at_call 143;refine(finish1 _ 67 _ (d++ [0]) _ HB.out ul6 ul3).mono ?_;rintro e w1 ⟨v1,rfl,hn⟩;clear HB;have HB:=zh hn;clear hn)|(at_builtin;refine ap_lit1 rfl _ _ 26 26 rfl Tryz.underlying26 Tryz.underlying26 rfl rfl HB.out ul1 ?_;intro v3 w3 hn;clear hk;have hk:=hn.cellb hb;replace HB:=zh hn;clear hn)|(at_builtin;refine ap_lit5 rfl _ _ 26 26 rfl Tryz.underlying26 Tryz.underlying26 rfl rfl HB.out ul1 ?_;intro v3 w3 hn;clear hk;have hk:=hn.cellb hb;replace HB:=zh hn;clear hn)|(at_builtin;refine ap_lit6 rfl _ _ 26 26 rfl Tryz.underlying26 Tryz.underlying26 rfl rfl HB.out ul1 ?_;intro v3 w3 hn;clear hk;have hk:=hn.cellb hb;replace HB:=zh hn;clear hn)|(at_builtin;refine ap_row (ys:=d) rfl _ _ 26 26 rfl Tryz.underlying26 Tryz.underlying26 rfl HB.out rfl (hr_d'.out.ext HB.out.bel) ul1 ?_;intro v4 w4 hn;clear hk;have hk:=hn.cellb hb;replace HB:=zh hn;clear hn))
 go_ret2
 exact gives_of HB.out (HR.out)
theorem encNotification (b:Nat)(n:Int)(s:ByteArray)(s2:ByteArray)(w:World)(hc0:w.cell? ⟨b,0,none⟩=some (.int .u32 n))(hc1:w.cell? ⟨b,1,none⟩=some (.string s))(hc2:w.cell? ⟨b,2,none⟩=some (.string s2))(h0_n:0<=n)(h1_n:n < 4294967296)(hs_s:s.size<=1000)(hs_s2:s2.size<=1000)(R:List Int)(HR:Hid (R=msgB 65 (b32 n++txt s++txt s2))):
 Calls Tryz.prog 321 #[.pointer (some ⟨b,0,none⟩),.slice none 0 0] w (Gives w R):=by
 have hb:b < w.heap.size:=lt_of_cell hc0
 have hk:∀o,w.cell? ⟨b,o,none⟩=w.cell? ⟨b,o,none⟩:=fun _=>rfl
 have HB:=zh (Buf.nil w)
 have hk':=zh hk;clear hk;have hk:True:=trivial
 go_enter Tryz.func321,Tryz.ntmps321
 go_wp2_with (first|(go_at_call 139;refine(begin_any _ _ _ _ HB.out (by simp)).mono ?_;rintro e w1 ⟨v1,rfl,hn⟩;clear hk;have hk:=hn.cellb hb;replace HB:=zh hn;clear hn)|(go_at_call 145;refine(appendU32 _ _ _ _ (by omega) (by omega) HB.out ul1).mono ?_;rintro e w1 ⟨v1,rfl,hn⟩;clear hk;have hk:=hn.cellb hb;replace HB:=zh hn;clear hn)|(go_at_call 142;refine(appendI32 _ _ _ _ HB.out ul1).mono ?_;rintro e w1 ⟨v1,rfl,hn⟩;clear hk;have hk:=hn.cellb hb;replace HB:=zh hn;clear hn)|(go_at_call 143;refine(finish1 _ 65 _ (b32 n++txt s++txt s2) _ HB.out ul6 ul3).mono ?_;rintro e w1 ⟨v1,rfl,hn⟩;clear HB;have HB:=zh hn;clear hn)|(at_builtin;refine ap_str (st:=s) rfl _ _ 26 rfl Tryz.underlying26 rfl rfl HB.out ul1 ?_;intro v2 w2 hn;clear hk;have hk:=hn.cellb hb;replace HB:=zh hn;clear hn)|(at_builtin;refine ap_str (st:=s2) rfl _ _ 26 rfl Tryz.underlying26 rfl rfl HB.out ul1 ?_;intro v2 w2 hn;clear hk;have hk:=hn.cellb hb;replace HB:=zh hn;clear hn)|(at_builtin;refine ap_lit1 rfl _ _ 26 26 rfl Tryz.underlying26 Tryz.underlying26 rfl rfl HB.out ul1 ?_;intro v3 w3 hn;clear hk;have hk:=hn.cellb hb;replace HB:=zh hn;clear hn)|(at_builtin;refine ap_lit5 rfl _ _ 26 26 rfl Tryz.underlying26 Tryz.underlying26 rfl rfl HB.out ul1 ?_;intro v3 w3 hn;clear hk;have hk:=hn.cellb hb;replace HB:=zh hn;clear hn)|(at_builtin;refine ap_lit6 rfl _ _ 26 26 rfl Tryz.underlying26 Tryz.underlying26 rfl rfl HB.out ul1 ?_;intro v3 w3 hn;clear hk;have hk:=hn.cellb hb;replace HB:=zh hn;clear hn))
 go_ret2
 exact gives_of HB.out (HR.out)
theorem encParameterStatus (b:Nat)(s:ByteArray)(s2:ByteArray)(w:World)(hc0:w.cell? ⟨b,0,none⟩=some (.string s))(hc1:w.cell? ⟨b,1,none⟩=some (.string s2))(hs_s:s.size<=1000)(hs_s2:s2.size<=1000)(R:List Int)(HR:Hid (R=msgB 83 (txt s++txt s2))):
 Calls Tryz.prog 327 #[.pointer (some ⟨b,0,none⟩),.slice none 0 0] w (Gives w R):=by
 have hb:b < w.heap.size:=lt_of_cell hc0
 have hk:∀o,w.cell? ⟨b,o,none⟩=w.cell? ⟨b,o,none⟩:=fun _=>rfl
 have HB:=zh (Buf.nil w)
 have hk':=zh hk;clear hk;have hk:True:=trivial
 go_enter Tryz.func327,Tryz.ntmps327
 go_wp2_with (first|(go_at_call 139;refine(begin_any _ _ _ _ HB.out (by simp)).mono ?_;rintro e w1 ⟨v1,rfl,hn⟩;clear hk;have hk:=hn.cellb hb;replace HB:=zh hn;clear hn)|(go_at_call 145;refine(appendU32 _ _ _ _ (by omega) (by omega) HB.out ul1).mono ?_;rintro e w1 ⟨v1,rfl,hn⟩;clear hk;have hk:=hn.cellb hb;replace HB:=zh hn;clear hn)|(go_at_call 142;refine(appendI32 _ _ _ _ HB.out ul1).mono ?_;rintro e w1 ⟨v1,rfl,hn⟩;clear hk;have hk:=hn.cellb hb;replace HB:=zh hn;clear hn)|(go_at_call 143;refine(finish1 _ 83 _ (txt s++txt s2) _ HB.out ul6 ul3).mono ?_;rintro e w1 ⟨v1,rfl,hn⟩;clear HB;have HB:=zh hn;clear hn)|(at_builtin;refine ap_str (st:=s) rfl _ _ 26 rfl Tryz.underlying26 rfl rfl HB.out ul1 ?_;intro v2 w2 hn;clear hk;have hk:=hn.cellb hb;replace HB:=zh hn;clear hn)|(at_builtin;refine ap_str (st:=s2) rfl _ _ 26 rfl Tryz.underlying26 rfl rfl HB.out ul1 ?_;intro v2 w2 hn;clear hk;have hk:=hn.cellb hb;replace HB:=zh hn;clear hn)|(at_builtin;refine ap_lit1 rfl _ _ 26 26 rfl Tryz.underlying26 Tryz.underlying26 rfl rfl HB.out ul1 ?_;intro v3 w3 hn;clear hk;have hk:=hn.cellb hb;replace HB:=zh hn;clear hn)|(at_builtin;refine ap_lit5 rfl _ _ 26 26 rfl Tryz.underlying26 Tryz.underlying26 rfl rfl HB.out ul1 ?_;intro v3 w3 hn;clear hk;have hk:=hn.cellb hb;replace HB:=zh hn;clear hn)|(at_builtin;refine ap_lit6 rfl _ _ 26 26 rfl Tryz.underlying26 Tryz.underlying26 rfl rfl HB.out ul1 ?_;intro v3 w3 hn;clear hk;have hk:=hn.cellb hb;replace HB:=zh hn;clear hn))
 go_ret2
 exact gives_of HB.out (HR.out)
theorem encReady (b:Nat)(c:Int)(w:World)(hc0:w.cell? ⟨b,0,none⟩=some (.int .u8 c))(R:List Int)(HR:Hid (R=msgB 90 ([c]))):
 Calls Tryz.prog 330 #[.pointer (some ⟨b,0,none⟩),.slice none 0 0] w (Gives w R):=by
 have hb:b < w.heap.size:=lt_of_cell hc0
 have hk:∀o,w.cell? ⟨b,o,none⟩=w.cell? ⟨b,o,none⟩:=fun _=>rfl
 have HB:=zh (Buf.nil w)
 have hk':=zh hk;clear hk;have hk:True:=trivial
 go_enter Tryz.func330,Tryz.ntmps330
 go_wp2_with (first|(go_at_call 139;refine(begin_any _ _ _ _ HB.out (by simp)).mono ?_;rintro e w1 ⟨v1,rfl,hn⟩;clear hk;have hk:=hn.cellb hb;replace HB:=zh hn;clear hn)|(go_at_call 145;refine(appendU32 _ _ _ _ (by omega) (by omega) HB.out ul1).mono ?_;rintro e w1 ⟨v1,rfl,hn⟩;clear hk;have hk:=hn.cellb hb;replace HB:=zh hn;clear hn)|(go_at_call 142;refine(appendI32 _ _ _ _ HB.out ul1).mono ?_;rintro e w1 ⟨v1,rfl,hn⟩;clear hk;have hk:=hn.cellb hb;replace HB:=zh hn;clear hn)|(go_at_call 143;refine(finish1 _ 90 _ ([c]) _ HB.out ul6 ul3).mono ?_;rintro e w1 ⟨v1,rfl,hn⟩;clear HB;have HB:=zh hn;clear hn)|(at_builtin;refine ap_lit1 rfl _ _ 26 26 rfl Tryz.underlying26 Tryz.underlying26 rfl rfl HB.out ul1 ?_;intro v3 w3 hn;clear hk;have hk:=hn.cellb hb;replace HB:=zh hn;clear hn)|(at_builtin;refine ap_lit5 rfl _ _ 26 26 rfl Tryz.underlying26 Tryz.underlying26 rfl rfl HB.out ul1 ?_;intro v3 w3 hn;clear hk;have hk:=hn.cellb hb;replace HB:=zh hn;clear hn)|(at_builtin;refine ap_lit6 rfl _ _ 26 26 rfl Tryz.underlying26 Tryz.underlying26 rfl rfl HB.out ul1 ?_;intro v3 w3 hn;clear hk;have hk:=hn.cellb hb;replace HB:=zh hn;clear hn))
 go_ret2
 exact gives_of HB.out (by rw [HR.out];simp [msgB,b32,be32])
end Go.Proofs.YtdenjanihikolaaGreatDoor
