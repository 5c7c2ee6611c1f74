/- Encode methods with loops, by contract. -/
import Derived.Test.YtdenjanihikolaaGreatDoorRqA0
import Derived.Test.YtdenjanihikolaaGreatDoorRqA1
import Derived.Test.YtdenjanihikolaaGreatDoorRqBase
namespace Go.Proofs.YtdenjanihikolaaGreatDoor
set_option linter.unusedVariables false
set_option linter.unusedSimpArgs false
set_option maxRecDepth 100000
set_option maxHeartbeats 4000000
open Go.RowKit
theorem encParse (b:Nat)(s:ByteArray)(s2:ByteArray)(A_l:Option Addr)(c_l:Nat)(l:List Int)(w:World)(hc0:w.cell? ⟨b,0,none⟩=some (.string s))(hc1:w.cell? ⟨b,1,none⟩=some (.string s2))(hc2:w.cell? ⟨b,2,none⟩=some (.slice A_l l.length c_l))(hs_s:s.size<=1000)(hs_s2:s2.size<=1000)(hr_l:RdI .u32 w (.slice A_l l.length c_l) l)(hl_l:l.length<=100)(hg_l:∀y∈l,0<=y/\y < 4294967296)(R:List Int)(HR:Hid (R=msgB 80 (txt s++txt s2++b16 l.length++l.flatMap b32))):
 Calls Tryz.prog 176 #[.pointer (some ⟨b,0,none⟩),.slice none 0 0] w (Gives w R):=by
 have hb:b < w.heap.size:=lt_of_cell hc0
 have hk:True:=trivial
 have HR_l:=zh hr_l
 clear hr_l
 have HG_l:=zh hg_l
 clear hg_l
 have hm_l:∀y∈l,(b32 y).length<=4:=fun _ _=>Nat.le_refl _
 have HM_l:=zh hm_l
 clear hm_l
 have HB:=zh (Buf.nil w)
 go_enter Tryz.func176,Tryz.ntmps176
 go_wp2_with (first|(go_at_call 139;refine(begin_any _ _ _ _ HB.out (by simp)).mono ?_;rintro e w1 ⟨v1,rfl,hn⟩;clear hk;have hk:=hn.cellb hb;replace HB:=zh hn;clear hn)|(go_at_call 140;refine(appendU16 _ _ _ _ (by omega) (by omega) HB.out ul1).mono ?_;rintro e w1 ⟨v1,rfl,hn⟩;clear hk;have hk:=hn.cellb hb;replace HB:=zh hn;clear hn)|(go_at_call 145;refine(appendU32 _ _ _ _ (by omega) (by omega) HB.out ul1).mono ?_;rintro e w1 ⟨v1,rfl,hn⟩;clear hk;have hk:=hn.cellb hb;replace HB:=zh hn;clear hn)|(at_builtin;refine ap_str (st:=s) rfl _ _ 26 rfl Tryz.underlying26 rfl rfl HB.out ul1 ?_;intro v2 w2 hn;clear hk;have hk:=hn.cellb hb;replace HB:=zh hn;clear hn)|(at_builtin;refine ap_str (st:=s2) rfl _ _ 26 rfl Tryz.underlying26 rfl rfl HB.out ul1 ?_;intro v2 w2 hn;clear hk;have hk:=hn.cellb hb;replace HB:=zh hn;clear hn)|(at_builtin;refine ap_lit1 rfl _ _ 26 26 rfl Tryz.underlying26 Tryz.underlying26 rfl rfl HB.out ul1 ?_;intro v3 w3 hn;clear hk;have hk:=hn.cellb hb;replace HB:=zh hn;clear hn))
 obtain⟨PRE0,HB',HP0⟩:∃P,Hid (Buf (Lt w.heap.size) w _ _ P)/\Hid (P=_):=⟨_,HB,zh rfl⟩
 clear HB
 have hpl0:PRE0.length<=3000:=by rw [HP0.out];simp only [List.length_append,List.length_cons,List.length_nil,sby_length,b16_len,b32_len];omega
 go_loopw [1,52] (fun v i wr=>∃k:Nat,k<=l.length/\i=.int .i64 k/\Hid (Buf (Lt w.heap.size) w wr v (PRE0++(l.take k).flatMap b32))) (fun _ i _=>l.length - (intOf i).toNat)
 case atStart=>exact⟨0,Nat.zero_le _,rfl,by simpa using HB'⟩
 case round=>
  clear HB'
  obtain⟨k,hk1,rfl,HB⟩:=hrel
  clear hk
  have hk:=HB.out.cellb hb
  by_cases hlt:k < l.length
  ·have hfl:=flat_take_len b32 4 k l HM_l.out
   obtain⟨b1,o1,rfl,hcell⟩:=(HR_l.out.ext HB.out.bel).at_ hlt
   rw [getD_at hlt]at hcell
   have h1:=HG_l.out _ (List.getElem_mem hlt)
   obtain⟨x,hx⟩:∃x,x=l[k]:=⟨_,rfl⟩
   rw [<-hx]at hcell h1
   have HX:=zh hx
   clear hx
   go_wp2_with (go_at_call 145;refine(appendU32 _ _ _ _ (by omega) (by omega) HB.out ul1).mono ?_;rintro e w1 ⟨v1,rfl,hn⟩;replace HB:=zh hn;clear hn)
   go_roundw
   case rel=>
    refine⟨k+1,by omega,by go_num,?_⟩
    rw [take_flat b32 l k hlt,<-List.append_assoc,<-HX.out]
    exact HB
   case measure=>simp [intOf];omega
  ·obtain rfl:k=l.length:=by omega
   have hfl0:=flat_len b32 4 l HM_l.out
   rw [List.take_length]at HB
   go_wp2_with (first|(go_at_call 143;refine(finish1 _ 80 _ (txt s++txt s2++b16 l.length++l.flatMap b32) _ HB.out (by rw [HP0.out];simp only [txt,List.append_assoc,List.cons_append,List.nil_append]) ul3).mono ?_;rintro e w1 ⟨v1,rfl,hn⟩;clear HB;have HB:=zh hn;clear hn)|(go_at_call 139;refine(begin_any _ _ _ _ HB.out (by simp)).mono ?_;rintro e w1 ⟨v1,rfl,hn⟩;clear hk;have hk:=hn.cellb hb;replace HB:=zh hn;clear hn)|(go_at_call 140;refine(appendU16 _ _ _ _ (by omega) (by omega) HB.out ul1).mono ?_;rintro e w1 ⟨v1,rfl,hn⟩;clear hk;have hk:=hn.cellb hb;replace HB:=zh hn;clear hn)|(go_at_call 145;refine(appendU32 _ _ _ _ (by omega) (by omega) HB.out ul1).mono ?_;rintro e w1 ⟨v1,rfl,hn⟩;clear hk;have hk:=hn.cellb hb;replace HB:=zh hn;clear hn)|(at_builtin;refine ap_str (st:=s) rfl _ _ 26 rfl Tryz.underlying26 rfl rfl HB.out ul1 ?_;intro v2 w2 hn;clear hk;have hk:=hn.cellb hb;replace HB:=zh hn;clear hn)|(at_builtin;refine ap_str (st:=s2) rfl _ _ 26 rfl Tryz.underlying26 rfl rfl HB.out ul1 ?_;intro v2 w2 hn;clear hk;have hk:=hn.cellb hb;replace HB:=zh hn;clear hn)|(at_builtin;refine ap_lit1 rfl _ _ 26 26 rfl Tryz.underlying26 Tryz.underlying26 rfl rfl HB.out ul1 ?_;intro v3 w3 hn;clear hk;have hk:=hn.cellb hb;replace HB:=zh hn;clear hn))
   go_ret2
   exact gives_of HB.out HR.out
theorem encCopyBoth (b:Nat)(c:Int)(A_l:Option Addr)(c_l:Nat)(l:List Int)(w:World)(hc0:w.cell? ⟨b,0,none⟩=some (.int .u8 c))(hc1:w.cell? ⟨b,1,none⟩=some (.slice A_l l.length c_l))(hr_l:RdI .u16 w (.slice A_l l.length c_l) l)(hl_l:l.length<=100)(hg_l:∀y∈l,0<=y/\y < 65536)(R:List Int)(HR:Hid (R=msgB 87 ([c]++b16 l.length++l.flatMap b16))):
 Calls Tryz.prog 281 #[.pointer (some ⟨b,0,none⟩),.slice none 0 0] w (Gives w R):=by
 have hb:b < w.heap.size:=lt_of_cell hc0
 have hk:True:=trivial
 have HR_l:=zh hr_l
 clear hr_l
 have HG_l:=zh hg_l
 clear hg_l
 have hm_l:∀y∈l,(b16 y).length<=2:=fun _ _=>Nat.le_refl _
 have HM_l:=zh hm_l
 clear hm_l
 have HB:=zh (Buf.nil w)
 go_enter Tryz.func281,Tryz.ntmps281
 go_wp2_with (first|(go_at_call 139;refine(begin_any _ _ _ _ HB.out (by simp)).mono ?_;rintro e w1 ⟨v1,rfl,hn⟩;clear hk;have hk:=hn.cellb hb;replace HB:=zh hn;clear hn)|(go_at_call 140;refine(appendU16 _ _ _ _ (by omega) (by omega) HB.out ul1).mono ?_;rintro e w1 ⟨v1,rfl,hn⟩;clear hk;have hk:=hn.cellb hb;replace HB:=zh hn;clear hn)|(go_at_call 145;refine(appendU32 _ _ _ _ (by omega) (by omega) HB.out ul1).mono ?_;rintro e w1 ⟨v1,rfl,hn⟩;clear hk;have hk:=hn.cellb hb;replace HB:=zh hn;clear hn)|(at_builtin;refine ap_lit1 rfl _ _ 26 26 rfl Tryz.underlying26 Tryz.underlying26 rfl rfl HB.out ul1 ?_;intro v3 w3 hn;clear hk;have hk:=hn.cellb hb;replace HB:=zh hn;clear hn))
 obtain⟨PRE0,HB',HP0⟩:∃P,Hid (Buf (Lt w.heap.size) w _ _ P)/\Hid (P=_):=⟨_,HB,zh rfl⟩
 clear HB
 have hpl0:PRE0.length<=3000:=by rw [HP0.out];simp only [List.length_append,List.length_cons,List.length_nil,sby_length,b16_len,b32_len];omega
 go_loopw [1,41] (fun v i wr=>∃k:Nat,k<=l.length/\i=.int .i64 k/\Hid (Buf (Lt w.heap.size) w wr v (PRE0++(l.take k).flatMap b16))) (fun _ i _=>l.length - (intOf i).toNat)
 case atStart=>exact⟨0,Nat.zero_le _,rfl,by simpa using HB'⟩
 case round=>
  clear HB'
  obtain⟨k,hk1,rfl,HB⟩:=hrel
  clear hk
  have hk:=HB.out.cellb hb
  by_cases hlt:k < l.length
  ·have hfl:=flat_take_len b16 2 k l HM_l.out
   obtain⟨b1,o1,rfl,hcell⟩:=(HR_l.out.ext HB.out.bel).at_ hlt
   rw [getD_at hlt]at hcell
   have h1:=HG_l.out _ (List.getElem_mem hlt)
   obtain⟨x,hx⟩:∃x,x=l[k]:=⟨_,rfl⟩
   rw [<-hx]at hcell h1
   have HX:=zh hx
   clear hx
   go_wp2_with (go_at_call 140;refine(appendU16 _ _ _ _ (by omega) (by omega) HB.out ul1).mono ?_;rintro e w1 ⟨v1,rfl,hn⟩;replace HB:=zh hn;clear hn)
   go_roundw
   case rel=>
    refine⟨k+1,by omega,by go_num,?_⟩
    rw [take_flat b16 l k hlt,<-List.append_assoc,<-HX.out]
    exact HB
   case measure=>simp [intOf];omega
  ·obtain rfl:k=l.length:=by omega
   have hfl0:=flat_len b16 2 l HM_l.out
   rw [List.take_length]at HB
   go_wp2_with (first|(go_at_call 143;refine(finish1 _ 87 _ ([c]++b16 l.length++l.flatMap b16) _ HB.out (by rw [HP0.out];simp only [txt,List.append_assoc,List.cons_append,List.nil_append]) ul3).mono ?_;rintro e w1 ⟨v1,rfl,hn⟩;clear HB;have HB:=zh hn;clear hn)|(go_at_call 139;refine(begin_any _ _ _ _ HB.out (by simp)).mono ?_;rintro e w1 ⟨v1,rfl,hn⟩;clear hk;have hk:=hn.cellb hb;replace HB:=zh hn;clear hn)|(go_at_call 140;refine(appendU16 _ _ _ _ (by omega) (by omega) HB.out ul1).mono ?_;rintro e w1 ⟨v1,rfl,hn⟩;clear hk;have hk:=hn.cellb hb;replace HB:=zh hn;clear hn)|(go_at_call 145;refine(appendU32 _ _ _ _ (by omega) (by omega) HB.out ul1).mono ?_;rintro e w1 ⟨v1,rfl,hn⟩;clear hk;have hk:=hn.cellb hb;replace HB:=zh hn;clear hn)|(at_builtin;refine ap_lit1 rfl _ _ 26 26 rfl Tryz.underlying26 Tryz.underlying26 rfl rfl HB.out ul1 ?_;intro v3 w3 hn;clear hk;have hk:=hn.cellb hb;replace HB:=zh hn;clear hn))
   go_ret2
   exact gives_of HB.out HR.out
theorem encCopyIn (b:Nat)(c:Int)(A_l:Option Addr)(c_l:Nat)(l:List Int)(w:World)(hc0:w.cell? ⟨b,0,none⟩=some (.int .u8 c))(hc1:w.cell? ⟨b,1,none⟩=some (.slice A_l l.length c_l))(hr_l:RdI .u16 w (.slice A_l l.length c_l) l)(hl_l:l.length<=100)(hg_l:∀y∈l,0<=y/\y < 65536)(R:List Int)(HR:Hid (R=msgB 71 ([c]++b16 l.length++l.flatMap b16))):
 Calls Tryz.prog 284 #[.pointer (some ⟨b,0,none⟩),.slice none 0 0] w (Gives w R):=by
 have hb:b < w.heap.size:=lt_of_cell hc0
 have hk:True:=trivial
 have HR_l:=zh hr_l
 clear hr_l
 have HG_l:=zh hg_l
 clear hg_l
 have hm_l:∀y∈l,(b16 y).length<=2:=fun _ _=>Nat.le_refl _
 have HM_l:=zh hm_l
 clear hm_l
 have HB:=zh (Buf.nil w)
 go_enter Tryz.func284,Tryz.ntmps284
 go_wp2_with (first|(go_at_call 139;refine(begin_any _ _ _ _ HB.out (by simp)).mono ?_;rintro e w1 ⟨v1,rfl,hn⟩;clear hk;have hk:=hn.cellb hb;replace HB:=zh hn;clear hn)|(go_at_call 140;refine(appendU16 _ _ _ _ (by omega) (by omega) HB.out ul1).mono ?_;rintro e w1 ⟨v1,rfl,hn⟩;clear hk;have hk:=hn.cellb hb;replace HB:=zh hn;clear hn)|(go_at_call 145;refine(appendU32 _ _ _ _ (by omega) (by omega) HB.out ul1).mono ?_;rintro e w1 ⟨v1,rfl,hn⟩;clear hk;have hk:=hn.cellb hb;replace HB:=zh hn;clear hn)|(at_builtin;refine ap_lit1 rfl _ _ 26 26 rfl Tryz.underlying26 Tryz.underlying26 rfl rfl HB.out ul1 ?_;intro v3 w3 hn;clear hk;have hk:=hn.cellb hb;replace HB:=zh hn;clear hn))
 obtain⟨PRE0,HB',HP0⟩:∃P,Hid (Buf (Lt w.heap.size) w _ _ P)/\Hid (P=_):=⟨_,HB,zh rfl⟩
 clear HB
 have hpl0:PRE0.length<=3000:=by rw [HP0.out];simp only [List.length_append,List.length_cons,List.length_nil,sby_length,b16_len,b32_len];omega
 go_loopw [1,41] (fun v i wr=>∃k:Nat,k<=l.length/\i=.int .i64 k/\Hid (Buf (Lt w.heap.size) w wr v (PRE0++(l.take k).flatMap b16))) (fun _ i _=>l.length - (intOf i).toNat)
 case atStart=>exact⟨0,Nat.zero_le _,rfl,by simpa using HB'⟩
 case round=>
  clear HB'
  obtain⟨k,hk1,rfl,HB⟩:=hrel
  clear hk
  have hk:=HB.out.cellb hb
  by_cases hlt:k < l.length
  ·have hfl:=flat_take_len b16 2 k l HM_l.out
   obtain⟨b1,o1,rfl,hcell⟩:=(HR_l.out.ext HB.out.bel).at_ hlt
   rw [getD_at hlt]at hcell
   have h1:=HG_l.out _ (List.getElem_mem hlt)
   obtain⟨x,hx⟩:∃x,x=l[k]:=⟨_,rfl⟩
   rw [<-hx]at hcell h1
   have HX:=zh hx
   clear hx
   go_wp2_with (go_at_call 140;refine(appendU16 _ _ _ _ (by omega) (by omega) HB.out ul1).mono ?_;rintro e w1 ⟨v1,rfl,hn⟩;replace HB:=zh hn;clear hn)
   go_roundw
   case rel=>
    refine⟨k+1,by omega,by go_num,?_⟩
    rw [take_flat b16 l k hlt,<-List.append_assoc,<-HX.out]
    exact HB
   case measure=>simp [intOf];omega
  ·obtain rfl:k=l.length:=by omega
   have hfl0:=flat_len b16 2 l HM_l.out
   rw [List.take_length]at HB
   go_wp2_with (first|(go_at_call 143;refine(finish1 _ 71 _ ([c]++b16 l.length++l.flatMap b16) _ HB.out (by rw [HP0.out];simp only [txt,List.append_assoc,List.cons_append,List.nil_append]) ul3).mono ?_;rintro e w1 ⟨v1,rfl,hn⟩;clear HB;have HB:=zh hn;clear hn)|(go_at_call 139;refine(begin_any _ _ _ _ HB.out (by simp)).mono ?_;rintro e w1 ⟨v1,rfl,hn⟩;clear hk;have hk:=hn.cellb hb;replace HB:=zh hn;clear hn)|(go_at_call 140;refine(appendU16 _ _ _ _ (by omega) (by omega) HB.out ul1).mono ?_;rintro e w1 ⟨v1,rfl,hn⟩;clear hk;have hk:=hn.cellb hb;replace HB:=zh hn;clear hn)|(go_at_call 145;refine(appendU32 _ _ _ _ (by omega) (by omega) HB.out ul1).mono ?_;rintro e w1 ⟨v1,rfl,hn⟩;clear hk;have hk:=hn.cellb hb;replace HB:=zh hn;clear hn)|(at_builtin;refine ap_lit1 rfl _ _ 26 26 rfl Tryz.underlying26 Tryz.underlying26 rfl rfl HB.out ul1 ?_;intro v3 w3 hn;clear hk;have hk:=hn.cellb hb;replace HB:=zh hn;clear hn))
   go_ret2
   exact gives_of HB.out HR.out
theorem encCopyOut (b:Nat)(c:Int)(A_l:Option Addr)(c_l:Nat)(l:List Int)(w:World)(hc0:w.cell? ⟨b,0,none⟩=some (.int .u8 c))(hc1:w.cell? ⟨b,1,none⟩=some (.slice A_l l.length c_l))(hr_l:RdI .u16 w (.slice A_l l.length c_l) l)(hl_l:l.length<=100)(hg_l:∀y∈l,0<=y/\y < 65536)(R:List Int)(HR:Hid (R=msgB 72 ([c]++b16 l.length++l.flatMap b16))):
 Calls Tryz.prog 287 #[.pointer (some ⟨b,0,none⟩),.slice none 0 0] w (Gives w R):=by
 have hb:b < w.heap.size:=lt_of_cell hc0
 have hk:True:=trivial
 have HR_l:=zh hr_l
 clear hr_l
 have HG_l:=zh hg_l
 clear hg_l
 have hm_l:∀y∈l,(b16 y).length<=2:=fun _ _=>Nat.le_refl _
 have HM_l:=zh hm_l
 clear hm_l
 have HB:=zh (Buf.nil w)
 go_enter Tryz.func287,Tryz.ntmps287
 go_wp2_with (first|(go_at_call 139;refine(begin_any _ _ _ _ HB.out (by simp)).mono ?_;rintro e w1 ⟨v1,rfl,hn⟩;clear hk;have hk:=hn.cellb hb;replace HB:=zh hn;clear hn)|(go_at_call 140;refine(appendU16 _ _ _ _ (by omega) (by omega) HB.out ul1).mono ?_;rintro e w1 ⟨v1,rfl,hn⟩;clear hk;have hk:=hn.cellb hb;replace HB:=zh hn;clear hn)|(go_at_call 145;refine(appendU32 _ _ _ _ (by omega) (by omega) HB.out ul1).mono ?_;rintro e w1 ⟨v1,rfl,hn⟩;clear hk;have hk:=hn.cellb hb;replace HB:=zh hn;clear hn)|(at_builtin;refine ap_lit1 rfl _ _ 26 26 rfl Tryz.underlying26 Tryz.underlying26 rfl rfl HB.out ul1 ?_;intro v3 w3 hn;clear hk;have hk:=hn.cellb hb;replace HB:=zh hn;clear hn))
 obtain⟨PRE0,HB',HP0⟩:∃P,Hid (Buf (Lt w.heap.size) w _ _ P)/\Hid (P=_):=⟨_,HB,zh rfl⟩
 clear HB
 have hpl0:PRE0.length<=3000:=by rw [HP0.out];simp only [List.length_append,List.length_cons,List.length_nil,sby_length,b16_len,b32_len];omega
 go_loopw [1,41] (fun v i wr=>∃k:Nat,k<=l.length/\i=.int .i64 k/\Hid (Buf (Lt w.heap.size) w wr v (PRE0++(l.take k).flatMap b16))) (fun _ i _=>l.length - (intOf i).toNat)
 case atStart=>exact⟨0,Nat.zero_le _,rfl,by simpa using HB'⟩
 case round=>
  clear HB'
  obtain⟨k,hk1,rfl,HB⟩:=hrel
  clear hk
  have hk:=HB.out.cellb hb
  by_cases hlt:k < l.length
  ·have hfl:=flat_take_len b16 2 k l HM_l.out
   obtain⟨b1,o1,rfl,hcell⟩:=(HR_l.out.ext HB.out.bel).at_ hlt
   rw [getD_at hlt]at hcell
   have h1:=HG_l.out _ (List.getElem_mem hlt)
   obtain⟨x,hx⟩:∃x,x=l[k]:=⟨_,rfl⟩
   rw [<-hx]at hcell h1
   have HX:=zh hx
   clear hx
   go_wp2_with (go_at_call 140;refine(appendU16 _ _ _ _ (by omega) (by omega) HB.out ul1).mono ?_;rintro e w1 ⟨v1,rfl,hn⟩;replace HB:=zh hn;clear hn)
   go_roundw
   case rel=>
    refine⟨k+1,by omega,by go_num,?_⟩
    rw [take_flat b16 l k hlt,<-List.append_assoc,<-HX.out]
    exact HB
   case measure=>simp [intOf];omega
  ·obtain rfl:k=l.length:=by omega
   have hfl0:=flat_len b16 2 l HM_l.out
   rw [List.take_length]at HB
   go_wp2_with (first|(go_at_call 143;refine(finish1 _ 72 _ ([c]++b16 l.length++l.flatMap b16) _ HB.out (by rw [HP0.out];simp only [txt,List.append_assoc,List.cons_append,List.nil_append]) ul3).mono ?_;rintro e w1 ⟨v1,rfl,hn⟩;clear HB;have HB:=zh hn;clear hn)|(go_at_call 139;refine(begin_any _ _ _ _ HB.out (by simp)).mono ?_;rintro e w1 ⟨v1,rfl,hn⟩;clear hk;have hk:=hn.cellb hb;replace HB:=zh hn;clear hn)|(go_at_call 140;refine(appendU16 _ _ _ _ (by omega) (by omega) HB.out ul1).mono ?_;rintro e w1 ⟨v1,rfl,hn⟩;clear hk;have hk:=hn.cellb hb;replace HB:=zh hn;clear hn)|(go_at_call 145;refine(appendU32 _ _ _ _ (by omega) (by omega) HB.out ul1).mono ?_;rintro e w1 ⟨v1,rfl,hn⟩;clear hk;have hk:=hn.cellb hb;replace HB:=zh hn;clear hn)|(at_builtin;refine ap_lit1 rfl _ _ 26 26 rfl Tryz.underlying26 Tryz.underlying26 rfl rfl HB.out ul1 ?_;intro v3 w3 hn;clear hk;have hk:=hn.cellb hb;replace HB:=zh hn;clear hn))
   go_ret2
   exact gives_of HB.out HR.out
theorem encParameterDescription (b:Nat)(A_l:Option Addr)(c_l:Nat)(l:List Int)(w:World)(hc0:w.cell? ⟨b,0,none⟩=some (.slice A_l l.length c_l))(hr_l:RdI .u32 w (.slice A_l l.length c_l) l)(hl_l:l.length<=100)(hg_l:∀y∈l,0<=y/\y < 4294967296)(R:List Int)(HR:Hid (R=msgB 116 (b16 l.length++l.flatMap b32))):
 Calls Tryz.prog 324 #[.pointer (some ⟨b,0,none⟩),.slice none 0 0] w (Gives w R):=by
 have hb:b < w.heap.size:=lt_of_cell hc0
 have hk:True:=trivial
 have HR_l:=zh hr_l
 clear hr_l
 have HG_l:=zh hg_l
 clear hg_l
 have hm_l:∀y∈l,(b32 y).length<=4:=fun _ _=>Nat.le_refl _
 have HM_l:=zh hm_l
 clear hm_l
 have HB:=zh (Buf.nil w)
 go_enter Tryz.func324,Tryz.ntmps324
 go_wp2_with (first|(go_at_call 139;refine(begin_any _ _ _ _ HB.out (by simp)).mono ?_;rintro e w1 ⟨v1,rfl,hn⟩;clear hk;have hk:=hn.cellb hb;replace HB:=zh hn;clear hn)|(go_at_call 140;refine(appendU16 _ _ _ _ (by omega) (by omega) HB.out ul1).mono ?_;rintro e w1 ⟨v1,rfl,hn⟩;clear hk;have hk:=hn.cellb hb;replace HB:=zh hn;clear hn)|(go_at_call 145;refine(appendU32 _ _ _ _ (by omega) (by omega) HB.out ul1).mono ?_;rintro e w1 ⟨v1,rfl,hn⟩;clear hk;have hk:=hn.cellb hb;replace HB:=zh hn;clear hn)|(at_builtin;refine ap_lit1 rfl _ _ 26 26 rfl Tryz.underlying26 Tryz.underlying26 rfl rfl HB.out ul1 ?_;intro v3 w3 hn;clear hk;have hk:=hn.cellb hb;replace HB:=zh hn;clear hn))
 obtain⟨PRE0,HB',HP0⟩:∃P,Hid (Buf (Lt w.heap.size) w _ _ P)/\Hid (P=_):=⟨_,HB,zh rfl⟩
 clear HB
 have hpl0:PRE0.length<=3000:=by rw [HP0.out];simp only [List.length_append,List.length_cons,List.length_nil,sby_length,b16_len,b32_len];omega
 go_loopw [1,34] (fun v i wr=>∃k:Nat,k<=l.length/\i=.int .i64 k/\Hid (Buf (Lt w.heap.size) w wr v (PRE0++(l.take k).flatMap b32))) (fun _ i _=>l.length - (intOf i).toNat)
 case atStart=>exact⟨0,Nat.zero_le _,rfl,by simpa using HB'⟩
 case round=>
  clear HB'
  obtain⟨k,hk1,rfl,HB⟩:=hrel
  clear hk
  have hk:=HB.out.cellb hb
  by_cases hlt:k < l.length
  ·have hfl:=flat_take_len b32 4 k l HM_l.out
   obtain⟨b1,o1,rfl,hcell⟩:=(HR_l.out.ext HB.out.bel).at_ hlt
   rw [getD_at hlt]at hcell
   have h1:=HG_l.out _ (List.getElem_mem hlt)
   obtain⟨x,hx⟩:∃x,x=l[k]:=⟨_,rfl⟩
   rw [<-hx]at hcell h1
   have HX:=zh hx
   clear hx
   go_wp2_with (go_at_call 145;refine(appendU32 _ _ _ _ (by omega) (by omega) HB.out ul1).mono ?_;rintro e w1 ⟨v1,rfl,hn⟩;replace HB:=zh hn;clear hn)
   go_roundw
   case rel=>
    refine⟨k+1,by omega,by go_num,?_⟩
    rw [take_flat b32 l k hlt,<-List.append_assoc,<-HX.out]
    exact HB
   case measure=>simp [intOf];omega
  ·obtain rfl:k=l.length:=by omega
   have hfl0:=flat_len b32 4 l HM_l.out
   rw [List.take_length]at HB
   go_wp2_with (first|(go_at_call 143;refine(finish1 _ 116 _ (b16 l.length++l.flatMap b32) _ HB.out (by rw [HP0.out];simp only [txt,List.append_assoc,List.cons_append,List.nil_append]) ul3).mono ?_;rintro e w1 ⟨v1,rfl,hn⟩;clear HB;have HB:=zh hn;clear hn)|(go_at_call 139;refine(begin_any _ _ _ _ HB.out (by simp)).mono ?_;rintro e w1 ⟨v1,rfl,hn⟩;clear hk;have hk:=hn.cellb hb;replace HB:=zh hn;clear hn)|(go_at_call 140;refine(appendU16 _ _ _ _ (by omega) (by omega) HB.out ul1).mono ?_;rintro e w1 ⟨v1,rfl,hn⟩;clear hk;have hk:=hn.cellb hb;replace HB:=zh hn;clear hn)|(go_at_call 145;refine(appendU32 _ _ _ _ (by omega) (by omega) HB.out ul1).mono ?_;rintro e w1 ⟨v1,rfl,hn⟩;clear hk;have hk:=hn.cellb hb;replace HB:=zh hn;clear hn)|(at_builtin;refine ap_lit1 rfl _ _ 26 26 rfl Tryz.underlying26 Tryz.underlying26 rfl rfl HB.out ul1 ?_;intro v3 w3 hn;clear hk;have hk:=hn.cellb hb;replace HB:=zh hn;clear hn))
   go_ret2
   exact gives_of HB.out HR.out
theorem encDataRow (b:Nat)(A_l:Option Addr)(c_l:Nat)(l:List (Option (List Int)))(w:World)(hc0:w.cell? ⟨b,0,none⟩=some (.slice A_l l.length c_l))(hr_l:Rd1 isOpt w (.slice A_l l.length c_l) l)(hl_l:l.length<=100)(hg_l:∀y∈l,∀d,y=some d->d.length<=300)(R:List Int)(HR:Hid (R=msgB 68 (b16 l.length++l.flatMap optB))):
 Calls Tryz.prog 290 #[.pointer (some ⟨b,0,none⟩),.slice none 0 0] w (Gives w R):=by
 have hb:b < w.heap.size:=lt_of_cell hc0
 have hk:True:=trivial
 have HR_l:=zh hr_l
 clear hr_l
 have HG_l:=zh hg_l
 clear hg_l
 have hm_l:∀y∈l,(optB y).length<=304:=fun y hy=>by cases y with|none=>simp [optB,b32_len]|some d=>have:=HG_l.out _ hy d rfl;simp only [optB,List.length_append,b32_len];omega
 have HM_l:=zh hm_l
 clear hm_l
 have HB:=zh (Buf.nil w)
 go_enter Tryz.func290,Tryz.ntmps290
 go_wp2_with (first|(go_at_call 139;refine(begin_any _ _ _ _ HB.out (by simp)).mono ?_;rintro e w1 ⟨v1,rfl,hn⟩;clear hk;have hk:=hn.cellb hb;replace HB:=zh hn;clear hn)|(go_at_call 140;refine(appendU16 _ _ _ _ (by omega) (by omega) HB.out ul1).mono ?_;rintro e w1 ⟨v1,rfl,hn⟩;clear hk;have hk:=hn.cellb hb;replace HB:=zh hn;clear hn)|(go_at_call 145;refine(appendU32 _ _ _ _ (by omega) (by omega) HB.out ul1).mono ?_;rintro e w1 ⟨v1,rfl,hn⟩;clear hk;have hk:=hn.cellb hb;replace HB:=zh hn;clear hn)|(at_builtin;refine ap_lit1 rfl _ _ 26 26 rfl Tryz.underlying26 Tryz.underlying26 rfl rfl HB.out ul1 ?_;intro v3 w3 hn;clear hk;have hk:=hn.cellb hb;replace HB:=zh hn;clear hn))
 obtain⟨PRE0,HB',HP0⟩:∃P,Hid (Buf (Lt w.heap.size) w _ _ P)/\Hid (P=_):=⟨_,HB,zh rfl⟩
 clear HB
 have hpl0:PRE0.length<=3000:=by rw [HP0.out];simp only [List.length_append,List.length_cons,List.length_nil,sby_length,b16_len,b32_len];omega
 go_loopw [1,34] (fun v i wr=>∃k:Nat,k<=l.length/\i=.int .i64 k/\Hid (Buf (Lt w.heap.size) w wr v (PRE0++(l.take k).flatMap optB))) (fun _ i _=>l.length - (intOf i).toNat)
 case atStart=>exact⟨0,Nat.zero_le _,rfl,by simpa using HB'⟩
 case round=>
  clear HB'
  obtain⟨k,hk1,rfl,HB⟩:=hrel
  clear hk
  have hk:=HB.out.cellb hb
  by_cases hlt:k < l.length
  ·have hfl:=flat_take_len optB 304 k l HM_l.out
   obtain⟨b1,o1,u,rfl,hcell0,hu⟩:=HR_l.out.at_ hlt
   have hcell:=Ext.cell HB.out.bel hcell0
   clear hcell0
   have h1:=HG_l.out _ (List.getElem_mem hlt)
   obtain⟨x,hx⟩:∃x,x=l[k]:=⟨_,rfl⟩
   rw [<-hx]at hu h1
   have HX:=zh hx
   clear hx
   cases x with
   | none=>
     clear h1
     have hu':u=.slice none 0 0:=hu
     subst hu'
     have hq:=fun wx=>Lib.run_eql_slice_nil (P:=Tryz.prog) wx 26 5 none 0 0 0 0 Tryz.underlying26
     go_wp2_with (go_at_call 142;refine(appendI32 _ _ _ _ HB.out ul1).mono ?_;rintro e w1 ⟨v1,rfl,hn⟩;replace HB:=zh hn;clear hn)
     go_roundw
     case rel=>
      refine⟨k+1,by omega,by go_num,?_⟩
      rw [take_flat optB l k hlt,<-List.append_assoc,<-HX.out]
      exact HB
     case measure=>simp [intOf];omega
   | some d=>
     have h2:=h1 d rfl
     clear h1
     obtain⟨a1,c1,hu',hd⟩:=hu
     subst hu'
     have HD:=zh hd
     clear hd
     have hq:=fun wx=>Lib.run_eql_slice_nil (P:=Tryz.prog) wx 26 5 (some a1) d.length c1 0 0 Tryz.underlying26
     go_wp2_with (first|(go_at_call 142;refine(appendI32 _ _ _ _ HB.out ul1).mono ?_;rintro e w1 ⟨v1,rfl,hn⟩;replace HB:=zh hn;clear hn)|(at_builtin;refine ap_row (ys:=d) rfl _ _ 26 26 rfl Tryz.underlying26 Tryz.underlying26 rfl HB.out rfl (HD.out.ext HB.out.bel) ul1 ?_;intro v4 w4 hn;replace HB:=zh hn;clear hn))
     go_roundw
     case rel=>
      refine⟨k+1,by omega,by go_num,?_⟩
      rw [take_flat optB l k hlt,<-List.append_assoc,<-HX.out]
      exact(by simpa only [optB,List.append_assoc]using HB)
     case measure=>simp [intOf];omega
  ·obtain rfl:k=l.length:=by omega
   have hfl0:=flat_len optB 304 l HM_l.out
   rw [List.take_length]at HB
   go_wp2_with (first|(go_at_call 143;refine(finish1 _ 68 _ (b16 l.length++l.flatMap optB) _ HB.out (by rw [HP0.out];simp only [txt,List.append_assoc,List.cons_append,List.nil_append]) ul3).mono ?_;rintro e w1 ⟨v1,rfl,hn⟩;clear HB;have HB:=zh hn;clear hn)|(go_at_call 139;refine(begin_any _ _ _ _ HB.out (by simp)).mono ?_;rintro e w1 ⟨v1,rfl,hn⟩;clear hk;have hk:=hn.cellb hb;replace HB:=zh hn;clear hn)|(go_at_call 140;refine(appendU16 _ _ _ _ (by omega) (by omega) HB.out ul1).mono ?_;rintro e w1 ⟨v1,rfl,hn⟩;clear hk;have hk:=hn.cellb hb;replace HB:=zh hn;clear hn)|(go_at_call 145;refine(appendU32 _ _ _ _ (by omega) (by omega) HB.out ul1).mono ?_;rintro e w1 ⟨v1,rfl,hn⟩;clear hk;have hk:=hn.cellb hb;replace HB:=zh hn;clear hn)|(at_builtin;refine ap_lit1 rfl _ _ 26 26 rfl Tryz.underlying26 Tryz.underlying26 rfl rfl HB.out ul1 ?_;intro v3 w3 hn;clear hk;have hk:=hn.cellb hb;replace HB:=zh hn;clear hn))
   go_ret2
   exact gives_of HB.out HR.out
theorem encAuthSASL (b:Nat)(A_l:Option Addr)(c_l:Nat)(l:List (ByteArray))(w:World)(hc0:w.cell? ⟨b,0,none⟩=some (.slice A_l l.length c_l))(hr_l:Rd1 isStr w (.slice A_l l.length c_l) l)(hl_l:l.length<=100)(hg_l:∀y∈l,y.size<=300)(R:List Int)(HR:Hid (R=msgB 82 (b32 10++l.flatMap txt++ [0]))):
 Calls Tryz.prog 266 #[.pointer (some ⟨b,0,none⟩),.slice none 0 0] w (Gives w R):=by
 have hb:b < w.heap.size:=lt_of_cell hc0
 have hk:True:=trivial
 have HR_l:=zh hr_l
 clear hr_l
 have HG_l:=zh hg_l
 clear hg_l
 have hm_l:∀y∈l,(txt y).length<=301:=fun y hy=>by have:=HG_l.out _ hy;rw [txt_len];omega
 have HM_l:=zh hm_l
 clear hm_l
 have HB:=zh (Buf.nil w)
 go_enter Tryz.func266,Tryz.ntmps266
 go_wp2_with (first|(go_at_call 139;refine(begin_any _ _ _ _ HB.out (by simp)).mono ?_;rintro e w1 ⟨v1,rfl,hn⟩;clear hk;have hk:=hn.cellb hb;replace HB:=zh hn;clear hn)|(go_at_call 140;refine(appendU16 _ _ _ _ (by omega) (by omega) HB.out ul1).mono ?_;rintro e w1 ⟨v1,rfl,hn⟩;clear hk;have hk:=hn.cellb hb;replace HB:=zh hn;clear hn)|(go_at_call 145;refine(appendU32 _ _ _ _ (by omega) (by omega) HB.out ul1).mono ?_;rintro e w1 ⟨v1,rfl,hn⟩;clear hk;have hk:=hn.cellb hb;replace HB:=zh hn;clear hn)|(at_builtin;refine ap_lit1 rfl _ _ 26 26 rfl Tryz.underlying26 Tryz.underlying26 rfl rfl HB.out ul1 ?_;intro v3 w3 hn;clear hk;have hk:=hn.cellb hb;replace HB:=zh hn;clear hn))
 obtain⟨PRE0,HB',HP0⟩:∃P,Hid (Buf (Lt w.heap.size) w _ _ P)/\Hid (P=_):=⟨_,HB,zh rfl⟩
 clear HB
 have hpl0:PRE0.length<=3000:=by rw [HP0.out];simp only [List.length_append,List.length_cons,List.length_nil,sby_length,b16_len,b32_len];omega
 go_loopw [1,21] (fun v i wr=>∃k:Nat,k<=l.length/\i=.int .i64 k/\Hid (Buf (Lt w.heap.size) w wr v (PRE0++(l.take k).flatMap txt))) (fun _ i _=>l.length - (intOf i).toNat)
 case atStart=>exact⟨0,Nat.zero_le _,rfl,by simpa using HB'⟩
 case round=>
  clear HB'
  obtain⟨k,hk1,rfl,HB⟩:=hrel
  clear hk
  have hk:=HB.out.cellb hb
  by_cases hlt:k < l.length
  ·have hfl:=flat_take_len txt 301 k l HM_l.out
   obtain⟨b1,o1,u,rfl,hcell,hu⟩:=(HR_l.out.ext HB.out.bel (fun _ _ h=>h)).at_ hlt
   have h1:=HG_l.out _ (List.getElem_mem hlt)
   obtain⟨x,hx⟩:∃x,x=l[k]:=⟨_,rfl⟩
   rw [<-hx]at hu h1
   have HX:=zh hx
   clear hx
   have hu':u=.string x:=hu
   subst hu'
   clear hu
   have hcv:=run_bytes x
   go_wp2_with (first|(at_builtin;refine ap_conv (st:=x) rfl _ _ 26 26 rfl Tryz.underlying26 Tryz.underlying26 rfl rfl HB.out ul1 ?_;intro v5 w5 hn;replace HB:=zh hn;clear hn)|(at_builtin;refine ap_lit1 rfl _ _ 26 26 rfl Tryz.underlying26 Tryz.underlying26 rfl rfl HB.out ul1 ?_;intro v3 w3 hn;replace HB:=zh hn;clear hn))
   go_roundw
   case rel=>
    refine⟨k+1,by omega,by go_num,?_⟩
    rw [take_flat txt l k hlt,<-List.append_assoc,<-HX.out]
    exact(by simpa only [txt,List.append_assoc]using HB)
   case measure=>simp [intOf];omega
  ·obtain rfl:k=l.length:=by omega
   have hfl0:=flat_len txt 301 l HM_l.out
   rw [List.take_length]at HB
   go_wp2_with (first|(go_at_call 143;refine(finish1 _ 82 _ (b32 10++l.flatMap txt++ [0]) _ HB.out (by rw [HP0.out];simp only [txt,List.append_assoc,List.cons_append,List.nil_append]) ul3).mono ?_;rintro e w1 ⟨v1,rfl,hn⟩;clear HB;have HB:=zh hn;clear hn)|(go_at_call 139;refine(begin_any _ _ _ _ HB.out (by simp)).mono ?_;rintro e w1 ⟨v1,rfl,hn⟩;clear hk;have hk:=hn.cellb hb;replace HB:=zh hn;clear hn)|(go_at_call 140;refine(appendU16 _ _ _ _ (by omega) (by omega) HB.out ul1).mono ?_;rintro e w1 ⟨v1,rfl,hn⟩;clear hk;have hk:=hn.cellb hb;replace HB:=zh hn;clear hn)|(go_at_call 145;refine(appendU32 _ _ _ _ (by omega) (by omega) HB.out ul1).mono ?_;rintro e w1 ⟨v1,rfl,hn⟩;clear hk;have hk:=hn.cellb hb;replace HB:=zh hn;clear hn)|(at_builtin;refine ap_lit1 rfl _ _ 26 26 rfl Tryz.underlying26 Tryz.underlying26 rfl rfl HB.out ul1 ?_;intro v3 w3 hn;clear hk;have hk:=hn.cellb hb;replace HB:=zh hn;clear hn))
   go_ret2
   exact gives_of HB.out HR.out
end Go.Proofs.YtdenjanihikolaaGreatDoor
