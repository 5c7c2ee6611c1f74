/- Values that are known by their parts, for regions whose order is open. -/
import Derived.Test.YtdenjanihikolaaGreatDoorRqA0
import Derived.Test.YtdenjanihikolaaGreatDoorRqA1
import Derived.Test.YtdenjanihikolaaGreatDoorRqBase
import Derived.Test.YtdenjanihikolaaGreatDoorRqDok
import Derived.Test.YtdenjanihikolaaGreatDoorRqEncd
namespace Go.Proofs.YtdenjanihikolaaGreatDoor
set_option linter.unusedVariables false
set_option linter.unusedSimpArgs false
set_option maxRecDepth 100000
set_option maxHeartbeats 4000000
open Go.RowKit
theorem encBind (b:Nat)(s:ByteArray)(s2:ByteArray)(A_l:Option Addr)(c_l:Nat)(l:List Int)(A_m:Option Addr)(c_m:Nat)(m:List (Option (List Int)))(A_n:Option Addr)(c_n:Nat)(n:List Int)(w:World)(hc0:w.cell? ⟨b,0,none⟩=some (.string s))(hc1:w.cell? ⟨b,1,none⟩=some (.string s2))(hc2:w.cell? ⟨b,2,none⟩=some (.slice A_l l.length c_l))(hc3:w.cell? ⟨b,3,none⟩=some (.slice A_m m.length c_m))(hc4:w.cell? ⟨b,4,none⟩=some (.slice A_n n.length c_n))(hs_s:s.size<=1000)(hs_s2:s2.size<=1000)(hr_l:RdI .i16 w (.slice A_l l.length c_l) l)(hl_l:l.length<=100)(hr_m:Rd1 isOpt w (.slice A_m m.length c_m) m)(hl_m:m.length<=100)(hg_m:∀y∈m,∀d,y=some d->d.length<=300)(hr_n:RdI .i16 w (.slice A_n n.length c_n) n)(hl_n:n.length<=100)(R:List Int)(HR:Hid (R=msgB 66 (txt s++txt s2++b16 l.length++l.flatMap b16++b16 m.length++m.flatMap optB++b16 n.length++n.flatMap b16))):
 Calls Tryz.prog 134 #[.pointer (some ⟨b,0,none⟩),.slice none 0 0] w (Gives w R):=by
 have hb:b < w.heap.size:=lt_of_cell hc0
 have hk:True:=trivial
 have HR_l:=zh hr_l
 clear hr_l
 have hm_l:∀y∈l,(b16 y).length<=2:=fun _ _=>Nat.le_refl _
 have HM_l:=zh hm_l
 clear hm_l
 have HR_m:=zh hr_m
 clear hr_m
 have HG_m:=zh hg_m
 clear hg_m
 have hm_m:∀y∈m,(optB y).length<=304:=fun y hy=>by cases y with|none=>simp [optB,b32_len]|some d=>have:=HG_m.out _ hy d rfl;simp only [optB,List.length_append,b32_len];omega
 have HM_m:=zh hm_m
 clear hm_m
 have HR_n:=zh hr_n
 clear hr_n
 have hm_n:∀y∈n,(b16 y).length<=2:=fun _ _=>Nat.le_refl _
 have HM_n:=zh hm_n
 clear hm_n
 have HB:=zh (Buf.nil w)
 go_enter Tryz.func134,Tryz.ntmps134
 go_wp2_with (first|(go_at_call 139;refine(begin_any _ _ _ _ HB.out (by simp)).mono ?_;rintro e w1 ⟨v1,rfl,hn⟩;clear hk;have hk:=hn.cellb hb;replace HB:=zh hn;clear hn)|(go_at_call 140;refine(appendU16 _ _ _ _ (by omega) (by omega) HB.out ul1).mono ?_;rintro e w1 ⟨v1,rfl,hn⟩;clear hk;have hk:=hn.cellb hb;replace HB:=zh hn;clear hn)|(go_at_call 145;refine(appendU32 _ _ _ _ (by omega) (by omega) HB.out ul1).mono ?_;rintro e w1 ⟨v1,rfl,hn⟩;clear hk;have hk:=hn.cellb hb;replace HB:=zh hn;clear hn)|(at_builtin;refine ap_str (st:=s) rfl _ _ 26 rfl Tryz.underlying26 rfl rfl HB.out ul1 ?_;intro v2 w2 hn;clear hk;have hk:=hn.cellb hb;replace HB:=zh hn;clear hn)|(at_builtin;refine ap_str (st:=s2) rfl _ _ 26 rfl Tryz.underlying26 rfl rfl HB.out ul1 ?_;intro v2 w2 hn;clear hk;have hk:=hn.cellb hb;replace HB:=zh hn;clear hn)|(at_builtin;refine ap_lit1 rfl _ _ 26 26 rfl Tryz.underlying26 Tryz.underlying26 rfl rfl HB.out ul1 ?_;intro v3 w3 hn;clear hk;have hk:=hn.cellb hb;replace HB:=zh hn;clear hn))
 obtain⟨PRE0,HB',HP0⟩:∃P,Hid (Buf (Lt w.heap.size) w _ _ P)/\Hid (P=_):=⟨_,HB,zh rfl⟩
 clear HB
 have hpl0:PRE0.length<=3000:=by rw [HP0.out];simp only [List.length_append,List.length_cons,List.length_nil,sby_length,b16_len,b32_len];omega
 go_loopw [1,56] (fun v i wr=>∃k:Nat,k<=l.length/\i=.int .i64 k/\Hid (Buf (Lt w.heap.size) w wr v (PRE0++(l.take k).flatMap b16))) (fun _ i _=>l.length - (intOf i).toNat)
 case atStart=>exact⟨0,Nat.zero_le _,rfl,by simpa using HB'⟩
 case round=>
  clear HB'
  obtain⟨k,hk1,rfl,HB⟩:=hrel
  clear hk
  have hk:=HB.out.cellb hb
  by_cases hlt:k < l.length
  ·have hfl:=flat_take_len b16 2 k l HM_l.out
   obtain⟨b1,o1,rfl,hcell⟩:=(HR_l.out.ext HB.out.bel).at_ hlt
   rw [getD_at hlt]at hcell
   obtain⟨x,hx⟩:∃x,x=l[k]:=⟨_,rfl⟩
   rw [<-hx]at hcell
   have HX:=zh hx
   clear hx
   go_wp2_with (go_at_call 141;refine(appendI16 _ _ _ _ HB.out ul1).mono ?_;rintro e w1 ⟨v1,rfl,hn⟩;replace HB:=zh hn;clear hn)
   go_roundw
   case rel=>
    refine⟨k+1,by omega,by go_num,?_⟩
    rw [take_flat b16 l k hlt,<-List.append_assoc,<-HX.out]
    exact HB
   case measure=>simp [intOf];omega
  ·obtain rfl:k=l.length:=by omega
   have hfl0:=flat_len b16 2 l HM_l.out
   rw [List.take_length]at HB
   go_wp2_with (first|(go_at_call 139;refine(begin_any _ _ _ _ HB.out (by simp)).mono ?_;rintro e w1 ⟨v1,rfl,hn⟩;clear hk;have hk:=hn.cellb hb;replace HB:=zh hn;clear hn)|(go_at_call 140;refine(appendU16 _ _ _ _ (by omega) (by omega) HB.out ul1).mono ?_;rintro e w1 ⟨v1,rfl,hn⟩;clear hk;have hk:=hn.cellb hb;replace HB:=zh hn;clear hn)|(go_at_call 145;refine(appendU32 _ _ _ _ (by omega) (by omega) HB.out ul1).mono ?_;rintro e w1 ⟨v1,rfl,hn⟩;clear hk;have hk:=hn.cellb hb;replace HB:=zh hn;clear hn)|(at_builtin;refine ap_str (st:=s) rfl _ _ 26 rfl Tryz.underlying26 rfl rfl HB.out ul1 ?_;intro v2 w2 hn;clear hk;have hk:=hn.cellb hb;replace HB:=zh hn;clear hn)|(at_builtin;refine ap_str (st:=s2) rfl _ _ 26 rfl Tryz.underlying26 rfl rfl HB.out ul1 ?_;intro v2 w2 hn;clear hk;have hk:=hn.cellb hb;replace HB:=zh hn;clear hn)|(at_builtin;refine ap_lit1 rfl _ _ 26 26 rfl Tryz.underlying26 Tryz.underlying26 rfl rfl HB.out ul1 ?_;intro v3 w3 hn;clear hk;have hk:=hn.cellb hb;replace HB:=zh hn;clear hn))
   obtain⟨PRE1,HB',HP1⟩:∃P,Hid (Buf (Lt w.heap.size) w _ _ P)/\Hid (P=_):=⟨_,HB,zh rfl⟩
   clear HB
   have hpl1:PRE1.length<=43000:=by rw [HP1.out];simp only [List.length_append,List.length_cons,List.length_nil,sby_length,b16_len,b32_len];omega
   go_loopw [1,84] (fun v i wr=>∃k:Nat,k<=m.length/\i=.int .i64 k/\Hid (Buf (Lt w.heap.size) w wr v (PRE1++(m.take k).flatMap optB))) (fun _ i _=>m.length - (intOf i).toNat)
   case atStart=>exact⟨0,Nat.zero_le _,rfl,by simpa using HB'⟩
   case round=>
    clear HB'
    obtain⟨k,hk1,rfl,HB⟩:=hrel
    clear hk
    have hk:=HB.out.cellb hb
    by_cases hlt:k < m.length
    ·have hfl:=flat_take_len optB 304 k m HM_m.out
     obtain⟨b1,o1,u,rfl,hcell0,hu⟩:=HR_m.out.at_ hlt
     have hcell:=Ext.cell HB.out.bel hcell0
     clear hcell0
     have h1:=HG_m.out _ (List.getElem_mem hlt)
     obtain⟨x,hx⟩:∃x,x=m[k]:=⟨_,rfl⟩
     rw [<-hx]at hu h1
     have HX:=zh hx
     clear hx
     cases x with
     | none=>
       clear h1
       have hu':u=.slice none 0 0:=hu
       subst hu'
       have hq:=fun wx=>Lib.run_eql_slice_nil (P:=Tryz.prog) wx 26 5 none 0 0 0 0 Tryz.underlying26
       go_wp2_with (go_at_call 142;refine(appendI32 _ _ _ _ HB.out ul1).mono ?_;rintro e w1 ⟨v1,rfl,hn⟩;replace HB:=zh hn;clear hn)
       go_roundw
       case rel=>
        refine⟨k+1,by omega,by go_num,?_⟩
        rw [take_flat optB m k hlt,<-List.append_assoc,<-HX.out]
        exact HB
       case measure=>simp [intOf];omega
     | some d=>
       have h2:=h1 d rfl
       clear h1
       obtain⟨a1,c1,hu',hd⟩:=hu
       subst hu'
       have HD:=zh hd
       clear hd
       have hq:=fun wx=>Lib.run_eql_slice_nil (P:=Tryz.prog) wx 26 5 (some a1) d.length c1 0 0 Tryz.underlying26
       go_wp2_with (first|(go_at_call 142;refine(appendI32 _ _ _ _ HB.out ul1).mono ?_;rintro e w1 ⟨v1,rfl,hn⟩;replace HB:=zh hn;clear hn)|(at_builtin;refine ap_row (ys:=d) rfl _ _ 26 26 rfl Tryz.underlying26 Tryz.underlying26 rfl HB.out rfl (HD.out.ext HB.out.bel) ul1 ?_;intro v4 w4 hn;replace HB:=zh hn;clear hn))
       go_roundw
       case rel=>
        refine⟨k+1,by omega,by go_num,?_⟩
        rw [take_flat optB m k hlt,<-List.append_assoc,<-HX.out]
        exact(by simpa only [optB,List.append_assoc]using HB)
       case measure=>simp [intOf];omega
    ·obtain rfl:k=m.length:=by omega
     have hfl1:=flat_len optB 304 m HM_m.out
     rw [List.take_length]at HB
     go_wp2_with (first|(go_at_call 139;refine(begin_any _ _ _ _ HB.out (by simp)).mono ?_;rintro e w1 ⟨v1,rfl,hn⟩;clear hk;have hk:=hn.cellb hb;replace HB:=zh hn;clear hn)|(go_at_call 140;refine(appendU16 _ _ _ _ (by omega) (by omega) HB.out ul1).mono ?_;rintro e w1 ⟨v1,rfl,hn⟩;clear hk;have hk:=hn.cellb hb;replace HB:=zh hn;clear hn)|(go_at_call 145;refine(appendU32 _ _ _ _ (by omega) (by omega) HB.out ul1).mono ?_;rintro e w1 ⟨v1,rfl,hn⟩;clear hk;have hk:=hn.cellb hb;replace HB:=zh hn;clear hn)|(at_builtin;refine ap_str (st:=s) rfl _ _ 26 rfl Tryz.underlying26 rfl rfl HB.out ul1 ?_;intro v2 w2 hn;clear hk;have hk:=hn.cellb hb;replace HB:=zh hn;clear hn)|(at_builtin;refine ap_str (st:=s2) rfl _ _ 26 rfl Tryz.underlying26 rfl rfl HB.out ul1 ?_;intro v2 w2 hn;clear hk;have hk:=hn.cellb hb;replace HB:=zh hn;clear hn)|(at_builtin;refine ap_lit1 rfl _ _ 26 26 rfl Tryz.underlying26 Tryz.underlying26 rfl rfl HB.out ul1 ?_;intro v3 w3 hn;clear hk;have hk:=hn.cellb hb;replace HB:=zh hn;clear hn))
     obtain⟨PRE2,HB',HP2⟩:∃P,Hid (Buf (Lt w.heap.size) w _ _ P)/\Hid (P=_):=⟨_,HB,zh rfl⟩
     clear HB
     have hpl2:PRE2.length<=83000:=by rw [HP2.out];simp only [List.length_append,List.length_cons,List.length_nil,sby_length,b16_len,b32_len];omega
     go_loopw [1,121] (fun v i wr=>∃k:Nat,k<=n.length/\i=.int .i64 k/\Hid (Buf (Lt w.heap.size) w wr v (PRE2++(n.take k).flatMap b16))) (fun _ i _=>n.length - (intOf i).toNat)
     case atStart=>exact⟨0,Nat.zero_le _,rfl,by simpa using HB'⟩
     case round=>
      clear HB'
      obtain⟨k,hk1,rfl,HB⟩:=hrel
      clear hk
      have hk:=HB.out.cellb hb
      by_cases hlt:k < n.length
      ·have hfl:=flat_take_len b16 2 k n HM_n.out
       obtain⟨b1,o1,rfl,hcell⟩:=(HR_n.out.ext HB.out.bel).at_ hlt
       rw [getD_at hlt]at hcell
       obtain⟨x,hx⟩:∃x,x=n[k]:=⟨_,rfl⟩
       rw [<-hx]at hcell
       have HX:=zh hx
       clear hx
       go_wp2_with (go_at_call 141;refine(appendI16 _ _ _ _ HB.out ul1).mono ?_;rintro e w1 ⟨v1,rfl,hn⟩;replace HB:=zh hn;clear hn)
       go_roundw
       case rel=>
        refine⟨k+1,by omega,by go_num,?_⟩
        rw [take_flat b16 n k hlt,<-List.append_assoc,<-HX.out]
        exact HB
       case measure=>simp [intOf];omega
      ·obtain rfl:k=n.length:=by omega
       have hfl2:=flat_len b16 2 n HM_n.out
       rw [List.take_length]at HB
       go_wp2_with (first|(go_at_call 143;refine(finish1 _ 66 _ (txt s++txt s2++b16 l.length++l.flatMap b16++b16 m.length++m.flatMap optB++b16 n.length++n.flatMap b16) _ HB.out (by rw [HP2.out,HP1.out,HP0.out];simp only [txt,List.append_assoc,List.cons_append,List.nil_append]) ul3).mono ?_;rintro e w1 ⟨v1,rfl,hn⟩;clear HB;have HB:=zh hn;clear hn)|(go_at_call 139;refine(begin_any _ _ _ _ HB.out (by simp)).mono ?_;rintro e w1 ⟨v1,rfl,hn⟩;clear hk;have hk:=hn.cellb hb;replace HB:=zh hn;clear hn)|(go_at_call 140;refine(appendU16 _ _ _ _ (by omega) (by omega) HB.out ul1).mono ?_;rintro e w1 ⟨v1,rfl,hn⟩;clear hk;have hk:=hn.cellb hb;replace HB:=zh hn;clear hn)|(go_at_call 145;refine(appendU32 _ _ _ _ (by omega) (by omega) HB.out ul1).mono ?_;rintro e w1 ⟨v1,rfl,hn⟩;clear hk;have hk:=hn.cellb hb;replace HB:=zh hn;clear hn)|(at_builtin;refine ap_str (st:=s) rfl _ _ 26 rfl Tryz.underlying26 rfl rfl HB.out ul1 ?_;intro v2 w2 hn;clear hk;have hk:=hn.cellb hb;replace HB:=zh hn;clear hn)|(at_builtin;refine ap_str (st:=s2) rfl _ _ 26 rfl Tryz.underlying26 rfl rfl HB.out ul1 ?_;intro v2 w2 hn;clear hk;have hk:=hn.cellb hb;replace HB:=zh hn;clear hn)|(at_builtin;refine ap_lit1 rfl _ _ 26 26 rfl Tryz.underlying26 Tryz.underlying26 rfl rfl HB.out ul1 ?_;intro v3 w3 hn;clear hk;have hk:=hn.cellb hb;replace HB:=zh hn;clear hn))
       go_ret2
       exact gives_of HB.out HR.out
theorem encFunctionCall (b:Nat)(f:Int)(A_l:Option Addr)(c_l:Nat)(l:List Int)(A_m:Option Addr)(c_m:Nat)(m:List (Option (List Int)))(r:Int)(w:World)(hc0:w.cell? ⟨b,0,none⟩=some (.int .u32 f))(hc1:w.cell? ⟨b,1,none⟩=some (.slice A_l l.length c_l))(hc2:w.cell? ⟨b,2,none⟩=some (.slice A_m m.length c_m))(hc3:w.cell? ⟨b,3,none⟩=some (.int .u16 r))(h0_f:0<=f)(h1_f:f < 4294967296)(hr_l:RdI .u16 w (.slice A_l l.length c_l) l)(hl_l:l.length<=100)(hg_l:∀y∈l,0<=y/\y < 65536)(hr_m:Rd1 isOpt w (.slice A_m m.length c_m) m)(hl_m:m.length<=100)(hg_m:∀y∈m,∀d,y=some d->d.length<=300)(h0_r:0<=r)(h1_r:r < 65536)(R:List Int)(HR:Hid (R=msgB 70 (b32 f++b16 l.length++l.flatMap b16++b16 m.length++m.flatMap optB++b16 r))):
 Calls Tryz.prog 170 #[.pointer (some ⟨b,0,none⟩),.slice none 0 0] w (Gives w R):=by
 have hb:b < w.heap.size:=lt_of_cell hc0
 have hk:True:=trivial
 have HR_l:=zh hr_l
 clear hr_l
 have HG_l:=zh hg_l
 clear hg_l
 have hm_l:∀y∈l,(b16 y).length<=2:=fun _ _=>Nat.le_refl _
 have HM_l:=zh hm_l
 clear hm_l
 have HR_m:=zh hr_m
 clear hr_m
 have HG_m:=zh hg_m
 clear hg_m
 have hm_m:∀y∈m,(optB y).length<=304:=fun y hy=>by cases y with|none=>simp [optB,b32_len]|some d=>have:=HG_m.out _ hy d rfl;simp only [optB,List.length_append,b32_len];omega
 have HM_m:=zh hm_m
 clear hm_m
 have HB:=zh (Buf.nil w)
 go_enter Tryz.func170,Tryz.ntmps170
 go_wp2_with (first|(go_at_call 139;refine(begin_any _ _ _ _ HB.out (by simp)).mono ?_;rintro e w1 ⟨v1,rfl,hn⟩;clear hk;have hk:=hn.cellb hb;replace HB:=zh hn;clear hn)|(go_at_call 140;refine(appendU16 _ _ _ _ (by omega) (by omega) HB.out ul1).mono ?_;rintro e w1 ⟨v1,rfl,hn⟩;clear hk;have hk:=hn.cellb hb;replace HB:=zh hn;clear hn)|(go_at_call 145;refine(appendU32 _ _ _ _ (by omega) (by omega) HB.out ul1).mono ?_;rintro e w1 ⟨v1,rfl,hn⟩;clear hk;have hk:=hn.cellb hb;replace HB:=zh hn;clear hn)|(at_builtin;refine ap_lit1 rfl _ _ 26 26 rfl Tryz.underlying26 Tryz.underlying26 rfl rfl HB.out ul1 ?_;intro v3 w3 hn;clear hk;have hk:=hn.cellb hb;replace HB:=zh hn;clear hn))
 obtain⟨PRE0,HB',HP0⟩:∃P,Hid (Buf (Lt w.heap.size) w _ _ P)/\Hid (P=_):=⟨_,HB,zh rfl⟩
 clear HB
 have hpl0:PRE0.length<=3000:=by rw [HP0.out];simp only [List.length_append,List.length_cons,List.length_nil,sby_length,b16_len,b32_len];omega
 go_loopw [1,42] (fun v i wr=>∃k:Nat,k<=l.length/\i=.int .i64 k/\Hid (Buf (Lt w.heap.size) w wr v (PRE0++(l.take k).flatMap b16))) (fun _ i _=>l.length - (intOf i).toNat)
 case atStart=>exact⟨0,Nat.zero_le _,rfl,by simpa using HB'⟩
 case round=>
  clear HB'
  obtain⟨k,hk1,rfl,HB⟩:=hrel
  clear hk
  have hk:=HB.out.cellb hb
  by_cases hlt:k < l.length
  ·have hfl:=flat_take_len b16 2 k l HM_l.out
   obtain⟨b1,o1,rfl,hcell⟩:=(HR_l.out.ext HB.out.bel).at_ hlt
   rw [getD_at hlt]at hcell
   have h1:=HG_l.out _ (List.getElem_mem hlt)
   obtain⟨x,hx⟩:∃x,x=l[k]:=⟨_,rfl⟩
   rw [<-hx]at hcell h1
   have HX:=zh hx
   clear hx
   go_wp2_with (go_at_call 140;refine(appendU16 _ _ _ _ (by omega) (by omega) HB.out ul1).mono ?_;rintro e w1 ⟨v1,rfl,hn⟩;replace HB:=zh hn;clear hn)
   go_roundw
   case rel=>
    refine⟨k+1,by omega,by go_num,?_⟩
    rw [take_flat b16 l k hlt,<-List.append_assoc,<-HX.out]
    exact HB
   case measure=>simp [intOf];omega
  ·obtain rfl:k=l.length:=by omega
   have hfl0:=flat_len b16 2 l HM_l.out
   rw [List.take_length]at HB
   go_wp2_with (first|(go_at_call 139;refine(begin_any _ _ _ _ HB.out (by simp)).mono ?_;rintro e w1 ⟨v1,rfl,hn⟩;clear hk;have hk:=hn.cellb hb;replace HB:=zh hn;clear hn)|(go_at_call 140;refine(appendU16 _ _ _ _ (by omega) (by omega) HB.out ul1).mono ?_;rintro e w1 ⟨v1,rfl,hn⟩;clear hk;have hk:=hn.cellb hb;replace HB:=zh hn;clear hn)|(go_at_call 145;refine(appendU32 _ _ _ _ (by omega) (by omega) HB.out ul1).mono ?_;rintro e w1 ⟨v1,rfl,hn⟩;clear hk;have hk:=hn.cellb hb;replace HB:=zh hn;clear hn)|(at_builtin;refine ap_lit1 rfl _ _ 26 26 rfl Tryz.underlying26 Tryz.underlying26 rfl rfl HB.out ul1 ?_;intro v3 w3 hn;clear hk;have hk:=hn.cellb hb;replace HB:=zh hn;clear hn))
   obtain⟨PRE1,HB',HP1⟩:∃P,Hid (Buf (Lt w.heap.size) w _ _ P)/\Hid (P=_):=⟨_,HB,zh rfl⟩
   clear HB
   have hpl1:PRE1.length<=43000:=by rw [HP1.out];simp only [List.length_append,List.length_cons,List.length_nil,sby_length,b16_len,b32_len];omega
   go_loopw [1,70] (fun v i wr=>∃k:Nat,k<=m.length/\i=.int .i64 k/\Hid (Buf (Lt w.heap.size) w wr v (PRE1++(m.take k).flatMap optB))) (fun _ i _=>m.length - (intOf i).toNat)
   case atStart=>exact⟨0,Nat.zero_le _,rfl,by simpa using HB'⟩
   case round=>
    clear HB'
    obtain⟨k,hk1,rfl,HB⟩:=hrel
    clear hk
    have hk:=HB.out.cellb hb
    by_cases hlt:k < m.length
    ·have hfl:=flat_take_len optB 304 k m HM_m.out
     obtain⟨b1,o1,u,rfl,hcell0,hu⟩:=HR_m.out.at_ hlt
     have hcell:=Ext.cell HB.out.bel hcell0
     clear hcell0
     have h1:=HG_m.out _ (List.getElem_mem hlt)
     obtain⟨x,hx⟩:∃x,x=m[k]:=⟨_,rfl⟩
     rw [<-hx]at hu h1
     have HX:=zh hx
     clear hx
     cases x with
     | none=>
       clear h1
       have hu':u=.slice none 0 0:=hu
       subst hu'
       have hq:=fun wx=>Lib.run_eql_slice_nil (P:=Tryz.prog) wx 26 5 none 0 0 0 0 Tryz.underlying26
       go_wp2_with (go_at_call 142;refine(appendI32 _ _ _ _ HB.out ul1).mono ?_;rintro e w1 ⟨v1,rfl,hn⟩;replace HB:=zh hn;clear hn)
       go_roundw
       case rel=>
        refine⟨k+1,by omega,by go_num,?_⟩
        rw [take_flat optB m k hlt,<-List.append_assoc,<-HX.out]
        exact HB
       case measure=>simp [intOf];omega
     | some d=>
       have h2:=h1 d rfl
       clear h1
       obtain⟨a1,c1,hu',hd⟩:=hu
       subst hu'
       have HD:=zh hd
       clear hd
       have hq:=fun wx=>Lib.run_eql_slice_nil (P:=Tryz.prog) wx 26 5 (some a1) d.length c1 0 0 Tryz.underlying26
       go_wp2_with (first|(go_at_call 142;refine(appendI32 _ _ _ _ HB.out ul1).mono ?_;rintro e w1 ⟨v1,rfl,hn⟩;replace HB:=zh hn;clear hn)|(at_builtin;refine ap_row (ys:=d) rfl _ _ 26 26 rfl Tryz.underlying26 Tryz.underlying26 rfl HB.out rfl (HD.out.ext HB.out.bel) ul1 ?_;intro v4 w4 hn;replace HB:=zh hn;clear hn))
       go_roundw
       case rel=>
        refine⟨k+1,by omega,by go_num,?_⟩
        rw [take_flat optB m k hlt,<-List.append_assoc,<-HX.out]
        exact(by simpa only [optB,List.append_assoc]using HB)
       case measure=>simp [intOf];omega
    ·obtain rfl:k=m.length:=by omega
     have hfl1:=flat_len optB 304 m HM_m.out
     rw [List.take_length]at HB
     go_wp2_with (first|(go_at_call 143;refine(finish1 _ 70 _ (b32 f++b16 l.length++l.flatMap b16++b16 m.length++m.flatMap optB++b16 r) _ HB.out (by rw [HP1.out,HP0.out];simp only [txt,List.append_assoc,List.cons_append,List.nil_append]) ul3).mono ?_;rintro e w1 ⟨v1,rfl,hn⟩;clear HB;have HB:=zh hn;clear hn)|(go_at_call 139;refine(begin_any _ _ _ _ HB.out (by simp)).mono ?_;rintro e w1 ⟨v1,rfl,hn⟩;clear hk;have hk:=hn.cellb hb;replace HB:=zh hn;clear hn)|(go_at_call 140;refine(appendU16 _ _ _ _ (by omega) (by omega) HB.out ul1).mono ?_;rintro e w1 ⟨v1,rfl,hn⟩;clear hk;have hk:=hn.cellb hb;replace HB:=zh hn;clear hn)|(go_at_call 145;refine(appendU32 _ _ _ _ (by omega) (by omega) HB.out ul1).mono ?_;rintro e w1 ⟨v1,rfl,hn⟩;clear hk;have hk:=hn.cellb hb;replace HB:=zh hn;clear hn)|(at_builtin;refine ap_lit1 rfl _ _ 26 26 rfl Tryz.underlying26 Tryz.underlying26 rfl rfl HB.out ul1 ?_;intro v3 w3 hn;clear hk;have hk:=hn.cellb hb;replace HB:=zh hn;clear hn))
     go_ret2
     exact gives_of HB.out HR.out
theorem encFuncResNil (b:Nat)(w:World)(hc0:w.cell? ⟨b,0,none⟩=some (.slice none 0 0))(R:List Int)(HR:Hid (R=msgB 86 (b32 (-1)))):
 Calls Tryz.prog 318 #[.pointer (some ⟨b,0,none⟩),.slice none 0 0] w (Gives w R):=by
 have hb:b < w.heap.size:=lt_of_cell hc0
 have hk:True:=trivial
 have HB:=zh (Buf.nil w)
 have hq:=fun wx=>Lib.run_eql_slice_nil (P:=Tryz.prog) wx 26 5 none 0 0 0 0 Tryz.underlying26
 go_enter Tryz.func318,Tryz.ntmps318
 go_wp2_with (first|(go_at_call 139;refine(begin_any _ _ _ _ HB.out (by simp)).mono ?_;rintro e w1 ⟨v1,rfl,hn⟩;clear hk;have hk:=hn.cellb hb;replace HB:=zh hn;clear hn)|(go_at_call 142;refine(appendI32 _ _ _ _ HB.out ul1).mono ?_;rintro e w1 ⟨v1,rfl,hn⟩;clear hk;have hk:=hn.cellb hb;replace HB:=zh hn;clear hn)|(go_at_call 143;refine(finish1 _ 86 _ (b32 (-1)) _ HB.out (by simp only [List.append_assoc,List.cons_append,List.nil_append]) (by rw [b32_len];omega)).mono ?_;rintro e w1 ⟨v1,rfl,hn⟩;clear HB;have HB:=zh hn;clear hn))
 go_ret2
 exact gives_of HB.out HR.out
theorem encFuncRes (b:Nat)(a:Addr)(c:Nat)(d:List Int)(w:World)(hc0:w.cell? ⟨b,0,none⟩=some (.slice (some a) d.length c))(hd:RdB w (.slice (some a) d.length c) d)(hl:d.length<=1000)(R:List Int)(HR:Hid (R=msgB 86 (b32 d.length++d))):
 Calls Tryz.prog 318 #[.pointer (some ⟨b,0,none⟩),.slice none 0 0] w (Gives w R):=by
 have hb:b < w.heap.size:=lt_of_cell hc0
 have hk:True:=trivial
 have HD:=zh hd
 clear hd
 have HB:=zh (Buf.nil w)
 have hq:=fun wx=>Lib.run_eql_slice_nil (P:=Tryz.prog) wx 26 5 (some a) d.length c 0 0 Tryz.underlying26
 go_enter Tryz.func318,Tryz.ntmps318
 go_wp2_with (first|(go_at_call 139;refine(begin_any _ _ _ _ HB.out (by simp)).mono ?_;rintro e w1 ⟨v1,rfl,hn⟩;clear hk;have hk:=hn.cellb hb;replace HB:=zh hn;clear hn)|(go_at_call 142;refine(appendI32 _ _ _ _ HB.out ul1).mono ?_;rintro e w1 ⟨v1,rfl,hn⟩;clear hk;have hk:=hn.cellb hb;replace HB:=zh hn;clear hn)|(at_builtin;refine ap_row (ys:=d) rfl _ _ 26 26 rfl Tryz.underlying26 Tryz.underlying26 rfl HB.out rfl (HD.out.ext HB.out.bel) ul1 ?_;intro v4 w4 hn;clear hk;have hk:=hn.cellb hb;replace HB:=zh hn;clear hn)|(go_at_call 143;refine(finish1 _ 86 _ (b32 d.length++d) _ HB.out (by simp only [List.append_assoc,List.cons_append,List.nil_append]) (by simp only [List.length_append,b32_len];omega)).mono ?_;rintro e w1 ⟨v1,rfl,hn⟩;clear HB;have HB:=zh hn;clear hn))
 go_ret2
 exact gives_of HB.out HR.out
theorem encRowDescription (b:Nat)(A_l:Option Addr)(c_l:Nat)(l:List Fd)(w:World)(hc0:w.cell? ⟨b,0,none⟩=some (.slice A_l l.length c_l))(hr_l:RdM 7 isFd w (.slice A_l l.length c_l) l)(hl_l:l.length<=100)
 (hg_l:∀y∈l,y.name.length<=300/\(0<=y.tab/\y.tab < 4294967296)/\(0<=y.col/\y.col < 65536)/\(0<=y.typ/\y.typ < 4294967296)) (R:List Int) (HR:Hid (R=msgB 84 (b16 l.length++l.flatMap fdB))):
 Calls Tryz.prog 333 #[.pointer (some ⟨b,0,none⟩),.slice none 0 0] w (Gives w R):=by
 have hb:b < w.heap.size:=lt_of_cell hc0
 have hk:True:=trivial
 have HR_l:=zh hr_l
 clear hr_l
 have HG_l:=zh hg_l
 clear hg_l
 have hm_l:∀y∈l,(fdB y).length<=321:=fun y hy=>by have:=(HG_l.out _ hy).1;simp only [fdB,List.length_append,List.length_cons,List.length_nil,b32_len,b16_len];omega
 have HM_l:=zh hm_l
 clear hm_l
 have HB:=zh (Buf.nil w)
 go_enter Tryz.func333,Tryz.ntmps333
 go_wp2_with (first|(go_at_call 139;refine(begin_any _ _ _ _ HB.out (by simp)).mono ?_;rintro e w1 ⟨v1,rfl,hn⟩;clear hk;have hk:=hn.cellb hb;replace HB:=zh hn;clear hn)|(go_at_call 140;refine(appendU16 _ _ _ _ (by omega) (by omega) HB.out ul1).mono ?_;rintro e w1 ⟨v1,rfl,hn⟩;clear hk;have hk:=hn.cellb hb;replace HB:=zh hn;clear hn))
 obtain⟨PRE0,HB',HP0⟩:∃P,Hid (Buf (Lt w.heap.size) w _ _ P)/\Hid (P=_):=⟨_,HB,zh rfl⟩
 clear HB
 have hpl0:PRE0.length<=3000:=by rw [HP0.out];simp only [List.length_append,List.length_cons,List.length_nil,sby_length,b16_len,b32_len];omega
 go_loopw [1,34] (fun v i wr=>∃k:Nat,k<=l.length/\i=.int .i64 k/\Hid (Buf (Lt w.heap.size) w wr v (PRE0++(l.take k).flatMap fdB))) (fun _ i _=>l.length - (intOf i).toNat)
 case atStart=>exact⟨0,Nat.zero_le _,rfl,by simpa using HB'⟩
 case round=>
  clear HB'
  obtain⟨k,hk1,rfl,HB⟩:=hrel
  clear hk
  by_cases hlt:k < l.length
  ·have hfl:=flat_take_len fdB 321 k l HM_l.out
   obtain⟨b1,o1,f,rfl,hcell0,hu⟩:=HR_l.out.at_ hlt
   obtain⟨h1,h2,h3,h4⟩:=HG_l.out _ (List.getElem_mem hlt)
   obtain⟨x,hx⟩:∃x,x=l[k]:=⟨_,rfl⟩
   rw [<-hx]at hu h1 h2 h3 h4
   have HX:=zh hx
   clear hx
   obtain⟨⟨An,cn,f0,hd⟩,f1,f2,f3,f4,f5,f6⟩:=hu
   have HD:=zh hd
   clear hd
   have e0:=Ext.cell HB.out.bel (hcell0 0 (by omega))
   have e1:=Ext.cell HB.out.bel (hcell0 1 (by omega))
   have e2:=Ext.cell HB.out.bel (hcell0 2 (by omega))
   have e3:=Ext.cell HB.out.bel (hcell0 3 (by omega))
   have e4:=Ext.cell HB.out.bel (hcell0 4 (by omega))
   have e5:=Ext.cell HB.out.bel (hcell0 5 (by omega))
   have e6:=Ext.cell HB.out.bel (hcell0 6 (by omega))
   rw [f0,Nat.add_zero]at e0
   rw [f1]at e1
   rw [f2]at e2
   rw [f3]at e3
   rw [f4]at e4
   rw [f5]at e5
   rw [f6]at e6
   clear hcell0 f0 f1 f2 f3 f4 f5 f6
   have HF:=zh (fun o=>Buf.box HB.out o)
   have hcs:True:=trivial
   go_wp2_with (first|(at_builtin;refine ap_row (ys:=x.name) rfl _ _ 26 26 rfl Tryz.underlying26 Tryz.underlying26 rfl (HF.out _) rfl (HD.out.ext ((HB.out.unbox (HF.out _)).bel)) (by simp only [List.length_append];omega) ?_;clear e0 e1 e2 e3 e4 e5 e6;intro v4 w4 hn;clear hcs;have hcs:=hn.boxed;have HN:=zh hn;clear hn)|(at_builtin;refine ap_lit1 rfl _ _ 26 26 rfl Tryz.underlying26 Tryz.underlying26 rfl rfl HN.out (by simp only [List.length_append];omega) ?_;intro v3 w3 hn;clear hcs;have hcs:=hn.boxed;replace HN:=zh hn;clear hn)|(go_at_call 145;refine(appendU32 _ _ _ _ (by omega) (by omega) HN.out (by simp only [List.length_append,List.length_cons,List.length_nil,b16_len,b32_len];omega)).mono ?_;rintro e w1 ⟨v1,rfl,hn⟩;clear hcs;have hcs:=hn.boxed;replace HN:=zh hn;clear hn)|(go_at_call 140;refine(appendU16 _ _ _ _ (by omega) (by omega) HN.out (by simp only [List.length_append,List.length_cons,List.length_nil,b16_len,b32_len];omega)).mono ?_;rintro e w1 ⟨v1,rfl,hn⟩;clear hcs;have hcs:=hn.boxed;replace HN:=zh hn;clear hn)|(go_at_call 141;refine(appendI16 _ _ _ _ HN.out (by simp only [List.length_append,List.length_cons,List.length_nil,b16_len,b32_len];omega)).mono ?_;rintro e w1 ⟨v1,rfl,hn⟩;clear hcs;have hcs:=hn.boxed;replace HN:=zh hn;clear hn)|(go_at_call 142;refine(appendI32 _ _ _ _ HN.out (by simp only [List.length_append,List.length_cons,List.length_nil,b16_len,b32_len];omega)).mono ?_;rintro e w1 ⟨v1,rfl,hn⟩;clear hcs;have hcs:=hn.boxed;replace HN:=zh hn;clear hn))
   go_roundw
   case rel=>
    refine⟨k+1,by omega,by go_num,?_⟩
    rw [take_flat fdB l k hlt,<-List.append_assoc,<-HX.out]
    have hz:=HB.out.unbox HN.out
    exact zh (by simpa only [fdB,List.append_assoc]using hz)
   case measure=>simp [intOf];omega
  ·have hk:=HB.out.cellb hb
   obtain rfl:k=l.length:=by omega
   have hfl0:=flat_len fdB 321 l HM_l.out
   rw [List.take_length]at HB
   go_wp2_with (go_at_call 143;refine(finish1 _ 84 _ (b16 l.length++l.flatMap fdB) _ HB.out (by rw [HP0.out];simp only [txt,List.append_assoc,List.cons_append,List.nil_append]) ul3).mono ?_;rintro e w1 ⟨v1,rfl,hn⟩;clear HB;have HB:=zh hn;clear hn)
   go_ret2
   exact gives_of HB.out HR.out
theorem ans35 (a b:ByteArray)(n:Int)(v4 v5 v6 v7 v8 v9 v11 v12:Value)(ws:List ByteArray)(A10:Option Addr)(c10:Nat)(w w1:World)(bk:Nat)(HW:Hid (Rd1 isStr w (.slice A10 ws.length c10) ws))(hlw:ws.length<=5)(hgw:∀y∈ws,y.size<=200)(hx:Ext w w1)(hbk:w.heap.size<=bk)(hblk:w1.heap[bk]?=some (.cells #[.slice none 0 0] 193 (0,0)))(R:List Int)(HR:Hid (R=msgB 82 (b32 10++ws.flatMap txt++ [0]))):
 Calls Tryz.prog 60 #[.iface 191 (.pointer (some ⟨bk,0,none⟩)),.agg #[.int .i64 35,.string a,.string b,.int .u32 n,v4,v5,v6,v7,v8,v9,.slice A10 ws.length c10,v11,v12],.bool true] w1 (Ans 191 266 bk w R):=by
 have n185:=no185 191
 have n189:=no189 191
 have y191:=yes191
 obtain⟨W2,hW2⟩:∃W2,W2=w1.alloc (.cells #[.int .i64 35,.string a,.string b,.int .u32 n,v4,v5,v6,v7,v8,v9,.slice A10 ws.length c10,v11,v12] 31):=⟨_,rfl⟩
 have X1:Hid (Ext w1 W2):=zh (by rw [hW2];exact ext_alloc w1 _)
 have XW:Hid (Ext w W2):=zh (hx.trans X1.out)
 have HB:Hid (W2.heap[bk]?=some (.cells #[.slice none 0 0] 193 (0,0))):=zh ((X1.out.block _ (zl hblk)).trans hblk)
 have HO:Hid (W2.heap[w1.heap.size]?=some (.cells #[.int .i64 35,.string a,.string b,.int .u32 n,v4,v5,v6,v7,v8,v9,.slice A10 ws.length c10,v11,v12] 31 (0,0))):=zh (by rw [hW2];exact heap_alloc_new _ _)
 have HBK:=zh hbk
 clear hx hbk hblk
 have hz0:=zc HB.out 0 (.slice none 0 0) rfl
 have hy0:=free_slot HB.out 0
 have hb3:=zc HO.out 3 (.int .u32 n) rfl
 have hb10:=zc HO.out 10 (.slice A10 ws.length c10) rfl
 go_enter Tryz.func60,Tryz.ntmps60
 go_wp2_with (first|(go_at_call 54;rw [<-hW2];clear hW2;refine(let54 n _).mono ?_;rintro e w54 ⟨rfl,hw54⟩;rw [hw54];clear hw54)|(go_at_call 67;refine(cloneS ws A10 c10 _ (HW.out.ext XW.out (fun _ _ h=>h)) (by omega)).mono ?_;rintro e w2 ⟨A2,c2,rfl,hx2,hk2⟩;have HX2:=zh hx2;have HK2:=zh hk2;clear hx2 hk2;have BB:=zh ((HX2.out.block _ (zl HB.out)).trans HB.out);clear hz0 hy0;have hz0:=zc BB.out 0 (.slice none 0 0) rfl;have hy0:=free_slot BB.out 0))
 go_ret2
 have EB:=((HX2.out.but (b:=bk)).set 0 (.slice A2 ws.length c2))
 have SS:=(slot_setCell (j:=0) (u:=.slice A2 ws.length c2) BB.out)
 refine⟨rfl,EB.ext XW.out HBK.out,?_⟩
 have KK:=HK2.out.at_ bk _ (zl HB.out) (((Ext.refl w2).but (b:=bk)).set 0 (.slice A2 ws.length c2))
 exact encAuthSASL _ A2 c2 ws _ (zc SS 0 (.slice A2 ws.length c2) rfl) KK (by omega) (fun y hy=>by have:=hgw y hy;omega) R HR
theorem ans52 (a b:ByteArray)(n:Int)(v4 v5 v6 v8 v9 v10 v11 v12:Value)(ty:List Int)(A7:Option Addr)(c7:Nat)(w w1:World)(bk:Nat)(HT:Hid (RdI .u32 w (.slice A7 ty.length c7) ty))(hlt:ty.length<=20)(hgt:∀y∈ty,0<=y/\y < 4294967296)(hx:Ext w w1)(hbk:w.heap.size<=bk)(hblk:w1.heap[bk]?=some (.cells #[.slice none 0 0] 227 (0,0)))(R:List Int)(HR:Hid (R=msgB 116 (b16 ty.length++ty.flatMap b32))):
 Calls Tryz.prog 60 #[.iface 225 (.pointer (some ⟨bk,0,none⟩)),.agg #[.int .i64 52,.string a,.string b,.int .u32 n,v4,v5,v6,.slice A7 ty.length c7,v8,v9,v10,v11,v12],.bool true] w1 (Ans 225 324 bk w R):=by
 have n185:=no185 225
 have n189:=no189 225
 have n191:=no191 225
 have n194:=no194 225
 have n196:=no196 225
 have n198:=no198 225
 have n200:=no200 225
 have n203:=no203 225
 have n206:=no206 225
 have n208:=no208 225
 have n210:=no210 225
 have n213:=no213 225
 have n217:=no217 225
 have n219:=no219 225
 have n222:=no222 225
 have y225:=yes225
 obtain⟨W2,hW2⟩:∃W2,W2=w1.alloc (.cells #[.int .i64 52,.string a,.string b,.int .u32 n,v4,v5,v6,.slice A7 ty.length c7,v8,v9,v10,v11,v12] 31):=⟨_,rfl⟩
 have X1:Hid (Ext w1 W2):=zh (by rw [hW2];exact ext_alloc w1 _)
 have XW:Hid (Ext w W2):=zh (hx.trans X1.out)
 have HB:Hid (W2.heap[bk]?=some (.cells #[.slice none 0 0] 227 (0,0))):=zh ((X1.out.block _ (zl hblk)).trans hblk)
 have HO:Hid (W2.heap[w1.heap.size]?=some (.cells #[.int .i64 52,.string a,.string b,.int .u32 n,v4,v5,v6,.slice A7 ty.length c7,v8,v9,v10,v11,v12] 31 (0,0))):=zh (by rw [hW2];exact heap_alloc_new _ _)
 have HBK:=zh hbk
 clear hx hbk hblk
 have hz0:=zc HB.out 0 (.slice none 0 0) rfl
 have hy0:=free_slot HB.out 0
 have hb3:=zc HO.out 3 (.int .u32 n) rfl
 have hb7:=zc HO.out 7 (.slice A7 ty.length c7) rfl
 go_enter Tryz.func60,Tryz.ntmps60
 go_wp2_with (first|(go_at_call 54;rw [<-hW2];clear hW2;refine(let54 n _).mono ?_;rintro e w54 ⟨rfl,hw54⟩;rw [hw54];clear hw54)|(go_at_call 59;refine(cloneI ty A7 c7 _ (HT.out.ext XW.out) (by omega)).mono ?_;rintro e w2 ⟨A2,c2,rfl,hx2,hk2⟩;have HX2:=zh hx2;have HK2:=zh hk2;clear hx2 hk2;have BB:=zh ((HX2.out.block _ (zl HB.out)).trans HB.out);clear hz0 hy0;have hz0:=zc BB.out 0 (.slice none 0 0) rfl;have hy0:=free_slot BB.out 0))
 go_ret2
 have EB:=((HX2.out.but (b:=bk)).set 0 (.slice A2 ty.length c2))
 have SS:=(slot_setCell (j:=0) (u:=.slice A2 ty.length c2) BB.out)
 refine⟨rfl,EB.ext XW.out HBK.out,?_⟩
 have KK:=HK2.out.at_ bk _ (zl HB.out) (((Ext.refl w2).but (b:=bk)).set 0 (.slice A2 ty.length c2))
 exact encParameterDescription _ A2 c2 ty _ (zc SS 0 (.slice A2 ty.length c2) rfl) KK (by omega) hgt R HR
theorem ans49 (a b:ByteArray)(n:Int)(v4 v5 v6 v7 v9 v10 v11 v12:Value)(x1:Bool)(x2:List Int)(A8:Option Addr)(c8:Nat)(w w1:World)(bk:Nat)(HV:Hid (RdM 2 isVal w (.slice A8 1 c8) [(x1,x2)]))(hgx:x2.length<=200)(hx:Ext w w1)(hbk:w.heap.size<=bk)(hblk:w1.heap[bk]?=some (.cells #[.slice none 0 0] 221 (0,0)))(R:List Int)(HR:Hid (R=msgB 86 (optB (optV (x1,x2))))):
 Calls Tryz.prog 60 #[.iface 219 (.pointer (some ⟨bk,0,none⟩)),.agg #[.int .i64 49,.string a,.string b,.int .u32 n,v4,v5,v6,v7,.slice A8 1 c8,v9,v10,v11,v12],.bool true] w1 (Ans 219 318 bk w R):=by
 obtain⟨b1,o1,f,rfl,hcell,hv⟩:=HV.out.at_ (k:=0) (by simp)
 have hf0:f 0=.bool x1:=hv.1
 obtain⟨Ax,cx,hf1,hrd⟩:∃A c,f 1=.slice A x2.length c/\RdB w (.slice A x2.length c) x2:=hv.2
 have hg0:=hcell 0 (by omega)
 have hg1:=hcell 1 (by omega)
 rw [hf0]at hg0
 rw [hf1]at hg1
 simp only [Nat.zero_mul,Nat.add_zero]at hg0 hg1
 have HD:=zh hrd
 have HG0:=zh hg0
 have HG1:=zh hg1
 clear hrd hf0 hf1 hcell hv hg0 hg1
 have n185:=no185 219
 have n189:=no189 219
 have n191:=no191 219
 have n194:=no194 219
 have n196:=no196 219
 have n198:=no198 219
 have n200:=no200 219
 have n203:=no203 219
 have n206:=no206 219
 have n208:=no208 219
 have n210:=no210 219
 have n213:=no213 219
 have n217:=no217 219
 have y219:=yes219
 obtain⟨W2,hW2⟩:∃W2,W2=w1.alloc (.cells #[.int .i64 49,.string a,.string b,.int .u32 n,v4,v5,v6,v7,.slice (some ⟨b1,o1,none⟩) 1 c8,v9,v10,v11,v12] 31):=⟨_,rfl⟩
 have X1:Hid (Ext w1 W2):=zh (by rw [hW2];exact ext_alloc w1 _)
 have XW:Hid (Ext w W2):=zh (hx.trans X1.out)
 have HB:Hid (W2.heap[bk]?=some (.cells #[.slice none 0 0] 221 (0,0))):=zh ((X1.out.block _ (zl hblk)).trans hblk)
 have HO:Hid (W2.heap[w1.heap.size]?=some (.cells #[.int .i64 49,.string a,.string b,.int .u32 n,v4,v5,v6,v7,.slice (some ⟨b1,o1,none⟩) 1 c8,v9,v10,v11,v12] 31 (0,0))):=zh (by rw [hW2];exact heap_alloc_new _ _)
 have HBK:=zh hbk
 clear hx hbk hblk
 have hz0:=zc HB.out 0 (.slice none 0 0) rfl
 have hy0:=free_slot HB.out 0
 have hb3:=zc HO.out 3 (.int .u32 n) rfl
 have hb8:=zc HO.out 8 (.slice (some ⟨b1,o1,none⟩) 1 c8) rfl
 have hd0:=XW.out.cell HG0.out
 have hd1:=XW.out.cell HG1.out
 go_enter Tryz.func60,Tryz.ntmps60
 go_wp2_with (first|(go_at_call 54;rw [<-hW2];clear hW2;refine(let54 n _).mono ?_;rintro e w54 ⟨rfl,hw54⟩;rw [hw54];clear hw54)|(go_at_call 66;refine(oneK (x1,x2) Ax cx _ (HD.out.ext XW.out) (by simp only [];omega)).mono ?_;rintro e w2 ⟨A2,n2,c2,rfl,hx2,hk2⟩;have HX2:=zh hx2;have HK2:=zh hk2;clear hx2 hk2;have BB:=zh ((HX2.out.block _ (zl HB.out)).trans HB.out);clear hz0 hy0;have hz0:=zc BB.out 0 (.slice none 0 0) rfl;have hy0:=free_slot BB.out 0))
 go_ret2
 have EB:=((HX2.out.but (b:=bk)).set 0 (.slice A2 n2 c2))
 have SS:=(slot_setCell (j:=0) (u:=.slice A2 n2 c2) BB.out)
 refine⟨rfl,EB.ext XW.out HBK.out,?_⟩
 have KK:=HK2.out.at_ bk _ (zl HB.out) (((Ext.refl w2).but (b:=bk)).set 0 (.slice A2 n2 c2))
 cases x1
 ·obtain⟨a9,c9,hu,hr9⟩:=KK
  rw [hu]at SS hr9⊢
  exact encFuncRes _ a9 c9 x2 _ (zc SS 0 _ rfl) hr9 (by omega) R HR
 ·have hu:Value.slice A2 n2 c2=.slice none 0 0:=KK
  rw [hu]at SS⊢
  exact encFuncResNil _ _ (zc SS 0 _ rfl) R HR
open Go.RowKit Og
def slA:Value->Option Addr
 | .slice a _ _=>a
 | _=>none
def slC:Value->Nat
 | .slice _ _ c=>c
 | _=>0
def agAt (i:Nat):Value->Value
 | .agg cs=>cs.getD i undef
 | v=>v
def PR (R:Value->World->Prop) (n:Nat) (W1:World) (u:Value) (x:World):Prop:=
 u=.slice (slA u) n (slC u)/\∀w3:World,(∀k,W1.heap.size<=k->k < x.heap.size->w3.heap[k]?=x.heap[k]?)->R (.slice (slA u) n (slC u)) w3
theorem PR.ext {R:Value->World->Prop} {n:Nat} {W1 x y:World} {u:Value} (h:PR R n W1 u x)(hx:Ext x y):PR R n W1 u y:=
 ⟨h.1,fun w3 h3=>h.2 w3 fun k h1 h2=>(h3 k h1 (Nat.lt_of_lt_of_le h2 hx.size)).trans (hx.block k h2)⟩
theorem PR.of {R:Value->World->Prop} {n:Nat} {W1 x y:World} {A:Option Addr} {c:Nat} (h:Keeps x y (R (.slice A n c)))(hx:Ext W1 x):PR R n W1 (.slice A n c) y:=
 ⟨rfl,fun w3 h3=>h w3 fun k h1 h2=>h3 k (Nat.le_trans hx.size h1) h2⟩
def spR (R:Value->World->Prop) (n:Nat) (W1:World):Sp Ext:=⟨PR R n W1,fun _ _ _ h k=>PR.ext k h⟩
end Go.Proofs.YtdenjanihikolaaGreatDoor
