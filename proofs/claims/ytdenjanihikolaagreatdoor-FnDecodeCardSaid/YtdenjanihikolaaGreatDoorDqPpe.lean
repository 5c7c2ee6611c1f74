/- Whether a message is proper: what is proper is said to be so. -/
import Derived.Test.YtdenjanihikolaaGreatDoorDqA0
import Derived.Test.YtdenjanihikolaaGreatDoorDqPpc
namespace Go.Proofs.YtdenjanihikolaaGreatDoor
set_option linter.unusedVariables false
set_option linter.unusedSimpArgs false
set_option maxRecDepth 100000
open Go.RowKit
/-- The answer is yes. -/
def Yes (w:World):Ending->World->Prop:=fun e w'=>e=.returned (.bool true)/\Ext w w'
theorem ret_yes {q:Bool} (h:q=true):(Ending.returned (.bool q))=.returned (.bool true):=by rw [h]
theorem plainQ_in {s:ByteArray} (h:plainP s):plainQ s=true:=decide_eq_true h
theorem isEmpty_ne {x:ByteArray} (h:x.size≠0):x.toList.isEmpty=false:=by
 cases e:x.toList.isEmpty
 ·rfl
 ·refine absurd ?_ h
  rw [List.isEmpty_iff]at e
  have:=congrArg List.length e
  rwa [ByteArray.toList_eq,Array.length_toList,List.length_nil]at this
theorem known26T (kd:Int)(w:World)(hk:knownK kd):Calls Tryz.prog 26 #[.int .i64 kd] w (Yes w):=by
 unfold knownK at hk
 go_enter Tryz.func26,Tryz.ntmps26
 go_wp2
 all_goals first
  | (exfalso;omega)
  | (go_ret;refine⟨?_,Ext.refl _⟩;first|rfl|(refine ret_yes ?_;simp <;> omega))
set_option maxHeartbeats 400000 in
theorem shorts52T (l:List Int)(A_l:Option Addr)(c_l:Nat)(most:Int)(w:World)(hr:RdI .i64 w (.slice A_l l.length c_l) l)(hl:l.length<=2147483647)(hmost:(l.length:Int)<=most)(hall:∀y∈l, -32768<=y/\y<=32767):Calls Tryz.prog 52 #[.slice A_l l.length c_l,.int .i64 most] w (Yes w):=by
 have HR:=zh hr
 have HA:=zh hall
 clear hr hall
 go_enter Tryz.func52,Tryz.ntmps52
 go_wp2
 go_loopw [9] (fun i wr=>∃k:Nat,k<=l.length/\i=.int .i64 k/\Hid (Ext w wr)) (fun i _=>l.length - (intOf i).toNat)
 case atStart=>exact⟨0,Nat.zero_le _,rfl,zh (Ext.refl _)⟩
 case round=>
  obtain⟨k,hk1,rfl,HE⟩:=hrel
  by_cases hlt:k < l.length
  ·have hy:=HA.out _ (List.getElem_mem hlt)
   obtain⟨b1,o1,rfl,hcell⟩:=HR.out.at_ hlt
   replace hcell:=HE.out.cell hcell
   rw [getD_at hlt]at hcell
   obtain⟨x,hx⟩:∃x,x=l[k]:=⟨_,rfl⟩
   rw [<-hx]at hcell hy
   clear hx
   obtain⟨hy1,hy2⟩:=hy
   go_wp2
   all_goals first
    | (go_roundw
       case rel=>exact⟨k+1,by omega,by go_num,HE⟩
       case measure=>simp [intOf];omega)
    | (exfalso;omega)
  ·obtain rfl:k=l.length:=by omega
   go_wp2
   all_goals first
    | (go_ret;refine⟨?_,HE.out⟩;first|rfl|(refine ret_yes ?_;simp;omega))
    | (exfalso;omega)
set_option maxHeartbeats 400000 in
theorem formats30T (l:List Int)(A_l:Option Addr)(c_l:Nat)(w:World)(hr:RdI .i64 w (.slice A_l l.length c_l) l)(hl:l.length<=2147483647)(hl20:l.length<=20)(hall:∀y∈l,(y=0∨y=1)):Calls Tryz.prog 30 #[.slice A_l l.length c_l] w (Yes w):=by
 have HR:=zh hr
 have HA:=zh hall
 clear hr hall
 go_enter Tryz.func30,Tryz.ntmps30
 go_wp2
 go_loopw [7] (fun i wr=>∃k:Nat,k<=l.length/\i=.int .i64 k/\Hid (Ext w wr)) (fun i _=>l.length - (intOf i).toNat)
 case atStart=>exact⟨0,Nat.zero_le _,rfl,zh (Ext.refl _)⟩
 case round=>
  obtain⟨k,hk1,rfl,HE⟩:=hrel
  by_cases hlt:k < l.length
  ·have hy:=HA.out _ (List.getElem_mem hlt)
   obtain⟨b1,o1,rfl,hcell⟩:=HR.out.at_ hlt
   replace hcell:=HE.out.cell hcell
   rw [getD_at hlt]at hcell
   obtain⟨x,hx⟩:∃x,x=l[k]:=⟨_,rfl⟩
   rw [<-hx]at hcell hy
   clear hx
   rcases hy with rfl|rfl
   all_goals go_wp2
   all_goals first
    | (go_roundw
       case rel=>exact⟨k+1,by omega,by go_num,HE⟩
       case measure=>simp [intOf];omega)
    | (exfalso;omega)
  ·obtain rfl:k=l.length:=by omega
   go_wp2_with (go_at_call 52;refine(shorts52T l _ _ 20 _ (RdI.ext HR.out HE.out) hl (by omega) (fun y hy=>by have:=HA.out y hy;omega)).mono ?_;rintro e w1 ⟨rfl,hbx⟩;have HE2:=HE;replace HE:=zh (HE2.out.trans hbx);clear hbx)
   go_ret
   exact⟨rfl,HE.out⟩
set_option maxHeartbeats 400000 in
theorem values28T (l:List (Bool×List Int))(A_l:Option Addr)(c_l:Nat)(most:Int)(w:World)(hr:RdM 2 isVal w (.slice A_l l.length c_l) l)(hl:l.length<=2147483647)(hmost:(l.length:Int)<=most)(hall:∀y∈l,y.2.length<=200/\(y.1=true->y.2.length=0)):Calls Tryz.prog 28 #[.slice A_l l.length c_l,.int .i64 most] w (Yes w):=by
 have HR:=zh hr
 have HA:=zh hall
 clear hr hall
 go_enter Tryz.func28,Tryz.ntmps28
 go_wp2
 go_loopw [9] (fun i wr=>∃k:Nat,k<=l.length/\i=.int .i64 k/\Hid (Ext w wr)) (fun i _=>l.length - (intOf i).toNat)
 case atStart=>exact⟨0,Nat.zero_le _,rfl,zh (Ext.refl _)⟩
 case round=>
  obtain⟨k,hk1,rfl,HE⟩:=hrel
  by_cases hlt:k < l.length
  ·have hy:=HA.out _ (List.getElem_mem hlt)
   obtain⟨b1,o1,f,rfl,hcell,hv⟩:=HR.out.at_ hlt
   obtain⟨x,hx⟩:∃x,x=l[k]:=⟨_,rfl⟩
   rw [<-hx]at hv hy
   obtain⟨hf0,A1,c1,hf1,hrd⟩:=hv
   have hd0:=HE.out.cell (hcell 0 (by omega))
   rw [hf0,Nat.add_zero]at hd0
   have hd1:=HE.out.cell (hcell 1 (by omega))
   rw [hf1]at hd1
   obtain⟨x1,x2⟩:=x
   obtain⟨hy1,hy2⟩:=hy
   replace hy1:x2.length<=200:=hy1
   replace hy2:x1=true->x2.length=0:=hy2
   clear hx hcell hf0 hf1 hrd
   have HE0:=HE
   replace HE:=zh (HE0.out.alloc (.cells #[.bool x1,.slice A1 x2.length c1] 59))
   cases x1
   ·clear hy2
    go_wp2
    all_goals first
     | (go_roundw
        case rel=>exact⟨k+1,by omega,by go_num,HE⟩
        case measure=>simp [intOf];omega)
     | (exfalso;omega)
   have hy3:=zh (hy2 rfl)
   have hy4:¬(0 < x2.length):=by have:=hy3.out;omega
   have hy5:¬((0:Int) < (x2.length:Int)):=by omega
   clear hy2
   go_wp2
   all_goals first
    | (go_roundw
       case rel=>exact⟨k+1,by omega,by go_num,HE⟩
       case measure=>simp [intOf];omega)
    | (exfalso;omega)
  ·obtain rfl:k=l.length:=by omega
   go_wp2
   all_goals first
    | (go_ret;refine⟨?_,HE.out⟩;first|rfl|(refine ret_yes ?_;simp;omega))
    | (exfalso;omega)
set_option maxHeartbeats 400000 in
theorem columns29T (l:List Sf)(A_l:Option Addr)(c_l:Nat)(w:World)(hr:RdM 7 isSf w (.slice A_l l.length c_l) l)(hl:l.length<=2147483647)(hnm:∀y∈l,y.name.size<=2147483647)(hl20:l.length<=20)(hall:∀y∈l,plainP y.name/\0<=y.col/\y.col<=32767/\ -32768<=y.siz/\y.siz<=32767/\ -2147483648<=y.mdf/\y.mdf < 2147483648/\0<=y.fmt/\y.fmt<=1):Calls Tryz.prog 29 #[.slice A_l l.length c_l] w (Yes w):=by
 have HR:=zh hr
 have HA:=zh hall
 clear hr hall
 go_enter Tryz.func29,Tryz.ntmps29
 go_wp2
 go_loopw [7] (fun i wr=>∃k:Nat,k<=l.length/\i=.int .i64 k/\Hid (Ext w wr)) (fun i _=>l.length - (intOf i).toNat)
 case atStart=>exact⟨0,Nat.zero_le _,rfl,zh (Ext.refl _)⟩
 case round=>
  obtain⟨k,hk1,rfl,HE⟩:=hrel
  by_cases hlt:k < l.length
  ·have hy:=HA.out _ (List.getElem_mem hlt)
   obtain⟨b1,o1,f,rfl,hcell,hv⟩:=HR.out.at_ hlt
   have hsz:=hnm _ (List.getElem_mem hlt)
   obtain⟨x,hx⟩:∃x,x=l[k]:=⟨_,rfl⟩
   rw [<-hx]at hv hsz hy
   obtain⟨hf0,hf1,hf2,hf3,hf4,hf5,hf6⟩:=hv
   obtain⟨hy0,hy1,hy2,hy3,hy4,hy5,hy6,hy7,hy8⟩:=hy
   have hd0:=HE.out.cell (hcell 0 (by omega))
   rw [hf0,Nat.add_zero]at hd0
   have hd1:=HE.out.cell (hcell 1 (by omega))
   rw [hf1]at hd1
   have hd2:=HE.out.cell (hcell 2 (by omega))
   rw [hf2]at hd2
   have hd3:=HE.out.cell (hcell 3 (by omega))
   rw [hf3]at hd3
   have hd4:=HE.out.cell (hcell 4 (by omega))
   rw [hf4]at hd4
   have hd5:=HE.out.cell (hcell 5 (by omega))
   rw [hf5]at hd5
   have hd6:=HE.out.cell (hcell 6 (by omega))
   rw [hf6]at hd6
   clear hx hcell hf0 hf1 hf2 hf3 hf4 hf5 hf6
   have HE0:=HE
   replace HE:=zh (HE0.out.alloc (.cells #[.string x.name,.int .u32 x.tab,.int .i64 x.col,.int .u32 x.typ,.int .i64 x.siz,.int .i64 x.mdf,.int .i64 x.fmt] 63))
   have hq:plainQ x.name=true:=plainQ_in hy0
   clear hy0
   go_wp2_with (go_at_call 27;refine(plain27 x.name hsz _).mono ?_;rintro e w1 ⟨rfl,rfl⟩;rw [hq])
   all_goals first
    | (go_roundw
       case rel=>exact⟨k+1,by omega,by go_num,HE⟩
       case measure=>simp [intOf];omega)
    | (exfalso;omega)
  ·obtain rfl:k=l.length:=by omega
   go_wp2
   all_goals first
    | (go_ret;refine⟨?_,HE.out⟩;first|rfl|(refine ret_yes ?_;simp;omega))
    | (exfalso;omega)
theorem digits53T (s:ByteArray)(hs:s.size<=2147483647)(hd:digP s)(w:World):Calls Tryz.prog 53 #[.string s] w (Yes w):=by
 have HD:=zh hd
 clear hd
 go_enter Tryz.func53,Tryz.ntmps53
 go_wp2
 go_loopw [6] (fun i wr=>∃k:Nat,k<=s.size/\i=.int .i64 k/\wr=w) (fun i _=>s.size - (intOf i).toNat)
 case atStart=>exact⟨0,Nat.zero_le _,rfl,rfl⟩
 case round=>
  obtain⟨k,hk1,rfl,rfl⟩:=hrel
  by_cases hlt:k < s.size
  ·obtain⟨hd1,hd2⟩:=HD.out.2.2.1 k hlt
   go_wp2
   all_goals first
    | (go_roundw
       case rel=>exact⟨k+1,by omega,by go_num,by first|rfl|trivial⟩
       case measure=>simp [intOf];omega)
    | (exfalso;omega)
  ·obtain rfl:k=s.size:=by omega
   have hne:s.size≠0:=HD.out.1
   have hpos:(0:Int) < (s.size:Int):=by omega
   have hpos':0 < s.size:=by omega
   have e3:s.toList.isEmpty=false:=isEmpty_ne hne
   have h9:(s.size:Int)<=9:=by have:=HD.out.2.1;omega
   have h9':decide ((s.size:Int)<=9)=true:=decide_eq_true h9
   have e4:((s[0].toNat:Int) != 48)=true:=by have:=HD.out.2.2.2 hpos';simpa using this
   go_wp2
   go_ret
   exact⟨rfl,Ext.refl _⟩
set_option maxHeartbeats 1000000 in
theorem pairsMT (l:List (ByteArray×ByteArray))(A_l:Option Addr)(c_l:Nat)(w:World)(hr:RdM 2 isPr w (.slice A_l l.length c_l) l)(hl:l.length<=2147483647)(hs:∀y∈l,y.1.size<=2147483647/\y.2.size<=2147483647)(hP:pairsP false true l):Calls Tryz.prog 31 #[.slice A_l l.length c_l,.bool false,.bool true] w (Yes w):=by
 have HR:=zh hr
 have HP:=zh hP
 clear hr hP
 go_enter Tryz.func31,Tryz.ntmps31
 go_wp2
 go_loopw [11] (fun i wr=>∃k:Nat,k<=l.length/\i=.int .i64 k/\Hid (Ext w wr)) (fun i _=>l.length - (intOf i).toNat)
 case atStart=>exact⟨0,Nat.zero_le _,rfl,zh (Ext.refl _)⟩
 case round=>
  obtain⟨k,hk1,rfl,HE⟩:=hrel
  by_cases hlt:k < l.length
  ·obtain⟨b1,o1,f,rfl,hcell,hv⟩:=HR.out.at_ hlt
   have hsz:=hs _ (List.getElem_mem hlt)
   have hpo:=HP.out.2.1 _ (List.getElem_mem hlt)
   obtain⟨⟨x1,x2⟩,hx⟩:∃x,x=l[k]:=⟨_,rfl⟩
   rw [<-hx]at hv hsz hpo
   have hf0:f 0=.string x1:=hv.1
   have hf1:f 1=.string x2:=hv.2
   replace hsz:x1.size<=2147483647/\x2.size<=2147483647:=hsz
   have hd0:=HE.out.cell (hcell 0 (by omega))
   rw [hf0,Nat.add_zero]at hd0
   have hd1:=HE.out.cell (hcell 1 (by omega))
   rw [hf1]at hd1
   have HX:=zh hx
   clear hx hcell hf0 hf1 hv
   obtain⟨ho1,ho2,ho3,ho4,ho5⟩:=hpo
   have hp1:plainQ x1=true:=plainQ_in ho1
   have hp2:plainQ x2=true:=plainQ_in ho2
   have e3:x1.toList.isEmpty=false:=isEmpty_ne ho3
   clear ho1 ho2 ho3 ho4 ho5
   have HE0:=HE
   replace HE:=zh (HE0.out.alloc (.cells #[.string x1,.string x2] 48))
   have Hp1:∀(q:Bool),plainQ x1=q->∀w,Calls Tryz.prog 27 #[.string x1] w (fun e w'=>e=.returned (.bool q)/\w'=w):=fun q hq w=>by rw [<-hq];exact plain27 x1 hsz.1 w
   have Hp2:∀(q:Bool),plainQ x2=q->∀w,Calls Tryz.prog 27 #[.string x2] w (fun e w'=>e=.returned (.bool q)/\w'=w):=fun q hq w=>by rw [<-hq];exact plain27 x2 hsz.2 w
   by_cases h6:k=0
   ·have h6':decide ((0:Int) < (k:Int))=false:=decide_eq_false (by omega)
    have h6'':decide (0 < k)=false:=decide_eq_false (by omega)
    have hk0:Hid (k=0):=zh h6
    clear h6
    go_wp2
    go_quiet (first|(go_at_call_of 27 x1;exact Calls.quiet_of_same (Hp1 _ hp1 _))|(go_at_call_of 27 x2;exact Calls.quiet_of_same (Hp2 _ hp2 _)))
    go_wp2
    go_roundw
    case rel=>
     exact⟨k+1,by omega,by go_num,zh (HE.out.drewN nq)⟩
    case measure=>simp only [intOf];omega
   ·obtain⟨m,rfl⟩:∃m,k=m+1:=⟨k - 1,by omega⟩
    obtain⟨b2,o2,g,hbo,hcell2,hv2⟩:=HR.out.at_ (show m < l.length by omega)
    obtain⟨rfl,rfl⟩:b1=b2/\o1=o2:=by simpa using hbo
    have e7':=HP.out.2.2 m hlt
    obtain⟨⟨y1,y2⟩,hy⟩:∃y,y=l[m]:=⟨_,rfl⟩
    rw [<-hy]at hv2 e7'
    have hh:=HX.out
    rw [<-hh]at e7'
    have e7:Op.bytesLess y1.toList x1.toList=true:=e7'
    have hg0:g 0=.string y1:=hv2.1
    have hd2:=HE.out.cell (hcell2 0 (by omega))
    rw [hg0,Nat.add_zero]at hd2
    clear hy hcell2 hv2 hg0 hbo e7' hh
    have h6':(0:Int) < ((m+1:Nat):Int):=by omega
    go_wp2
    go_quiet (first|(go_at_call_of 27 x1;exact Calls.quiet_of_same (Hp1 _ hp1 _))|(go_at_call_of 27 x2;exact Calls.quiet_of_same (Hp2 _ hp2 _)))
    go_wp2
    go_roundw
    case rel=>
     exact⟨m+1+1,by omega,by go_num,zh (HE.out.drewN nq)⟩
    case measure=>simp only [intOf];omega
  ·obtain rfl:k=l.length:=by omega
   have h20:l.length<=20:=HP.out.1
   go_wp2
   all_goals first
    | (go_ret;refine⟨?_,HE.out⟩;first|rfl|(refine ret_yes ?_;simp;omega))
    | (exfalso;omega)
set_option maxHeartbeats 1000000 in
theorem pairsST (l:List (ByteArray×ByteArray))(A_l:Option Addr)(c_l:Nat)(w:World)(hr:RdM 2 isPr w (.slice A_l l.length c_l) l)(hl:l.length<=2147483647)(hs:∀y∈l,y.1.size<=2147483647/\y.2.size<=2147483647)(hP:pairsP true false l):Calls Tryz.prog 31 #[.slice A_l l.length c_l,.bool true,.bool false] w (Yes w):=by
 have HR:=zh hr
 have HP:=zh hP
 clear hr hP
 go_enter Tryz.func31,Tryz.ntmps31
 go_wp2
 go_loopw [11] (fun i wr=>∃k:Nat,k<=l.length/\i=.int .i64 k/\Hid (Ext w wr)) (fun i _=>l.length - (intOf i).toNat)
 case atStart=>exact⟨0,Nat.zero_le _,rfl,zh (Ext.refl _)⟩
 case round=>
  obtain⟨k,hk1,rfl,HE⟩:=hrel
  by_cases hlt:k < l.length
  ·obtain⟨b1,o1,f,rfl,hcell,hv⟩:=HR.out.at_ hlt
   have hsz:=hs _ (List.getElem_mem hlt)
   have hpo:=HP.out.2.1 _ (List.getElem_mem hlt)
   obtain⟨⟨x1,x2⟩,hx⟩:∃x,x=l[k]:=⟨_,rfl⟩
   rw [<-hx]at hv hsz hpo
   have hf0:f 0=.string x1:=hv.1
   have hf1:f 1=.string x2:=hv.2
   replace hsz:x1.size<=2147483647/\x2.size<=2147483647:=hsz
   have hd0:=HE.out.cell (hcell 0 (by omega))
   rw [hf0,Nat.add_zero]at hd0
   have hd1:=HE.out.cell (hcell 1 (by omega))
   rw [hf1]at hd1
   have HX:=zh hx
   clear hx hcell hf0 hf1 hv
   obtain⟨ho1,ho2,ho3,ho4,ho5⟩:=hpo
   have hp1:plainQ x1=true:=plainQ_in ho1
   have hp2:plainQ x2=true:=plainQ_in ho2
   have e3:x1.toList.isEmpty=false:=isEmpty_ne ho3
   have e4:((x1.size:Int) != 1)=false:=by have:=ho4 (by first|rfl|trivial);simp [this]
   have e5:x2.toList.isEmpty=false:=isEmpty_ne (ho5 (by first|rfl|trivial))
   clear ho1 ho2 ho3 ho4 ho5
   have HE0:=HE
   replace HE:=zh (HE0.out.alloc (.cells #[.string x1,.string x2] 48))
   have Hp1:∀(q:Bool),plainQ x1=q->∀w,Calls Tryz.prog 27 #[.string x1] w (fun e w'=>e=.returned (.bool q)/\w'=w):=fun q hq w=>by rw [<-hq];exact plain27 x1 hsz.1 w
   have Hp2:∀(q:Bool),plainQ x2=q->∀w,Calls Tryz.prog 27 #[.string x2] w (fun e w'=>e=.returned (.bool q)/\w'=w):=fun q hq w=>by rw [<-hq];exact plain27 x2 hsz.2 w
   by_cases h6:k=0
   ·have h6':decide ((0:Int) < (k:Int))=false:=decide_eq_false (by omega)
    have h6'':decide (0 < k)=false:=decide_eq_false (by omega)
    have hk0:Hid (k=0):=zh h6
    clear h6
    go_wp2
    go_quiet (first|(go_at_call_of 27 x1;exact Calls.quiet_of_same (Hp1 _ hp1 _))|(go_at_call_of 27 x2;exact Calls.quiet_of_same (Hp2 _ hp2 _)))
    go_wp2
    go_roundw
    case rel=>
     exact⟨k+1,by omega,by go_num,zh (HE.out.drewN nq)⟩
    case measure=>simp only [intOf];omega
   ·obtain⟨m,rfl⟩:∃m,k=m+1:=⟨k - 1,by omega⟩
    obtain⟨b2,o2,g,hbo,hcell2,hv2⟩:=HR.out.at_ (show m < l.length by omega)
    obtain⟨rfl,rfl⟩:b1=b2/\o1=o2:=by simpa using hbo
    have e7':=HP.out.2.2 m hlt
    obtain⟨⟨y1,y2⟩,hy⟩:∃y,y=l[m]:=⟨_,rfl⟩
    rw [<-hy]at hv2 e7'
    have hh:=HX.out
    rw [<-hh]at e7'
    have e7:Op.bytesLess y1.toList x1.toList=true:=e7'
    have hg0:g 0=.string y1:=hv2.1
    have hd2:=HE.out.cell (hcell2 0 (by omega))
    rw [hg0,Nat.add_zero]at hd2
    clear hy hcell2 hv2 hg0 hbo e7' hh
    have h6':(0:Int) < ((m+1:Nat):Int):=by omega
    go_wp2
    go_quiet (first|(go_at_call_of 27 x1;exact Calls.quiet_of_same (Hp1 _ hp1 _))|(go_at_call_of 27 x2;exact Calls.quiet_of_same (Hp2 _ hp2 _)))
    go_wp2
    go_roundw
    case rel=>
     exact⟨m+1+1,by omega,by go_num,zh (HE.out.drewN nq)⟩
    case measure=>simp only [intOf];omega
  ·obtain rfl:k=l.length:=by omega
   have h20:l.length<=20:=HP.out.1
   go_wp2
   all_goals first
    | (go_ret;refine⟨?_,HE.out⟩;first|rfl|(refine ret_yes ?_;simp;omega))
    | (exfalso;omega)
set_option maxHeartbeats 1000000 in
theorem fields32T (l:List (ByteArray×ByteArray))(A_l:Option Addr)(c_l:Nat)(w:World)(hr:RdM 2 isPr w (.slice A_l l.length c_l) l)(hl:l.length<=2147483647)(hs:∀y∈l,y.1.size<=2147483647/\y.2.size<=2147483647)(hall:∀y∈l,fldP y)(hP:pairsP true false l):Calls Tryz.prog 32 #[.slice A_l l.length c_l] w (Yes w):=by
 have HR:=zh hr
 have HA:=zh hall
 have HP0:=zh hP
 clear hr hall hP
 go_enter Tryz.func32,Tryz.ntmps32
 go_wp2
 go_loopw [9] (fun i wr=>∃k:Nat,k<=l.length/\i=.int .i64 k/\Hid (Ext w wr)) (fun i _=>l.length - (intOf i).toNat)
 case atStart=>exact⟨0,Nat.zero_le _,rfl,zh (Ext.refl _)⟩
 case round=>
  obtain⟨k,hk1,rfl,HE⟩:=hrel
  by_cases hlt:k < l.length
  ·obtain⟨b1,o1,f,rfl,hcell,hv⟩:=HR.out.at_ hlt
   have hsz:=hs _ (List.getElem_mem hlt)
   have hfl:=HA.out _ (List.getElem_mem hlt)
   obtain⟨⟨x1,x2⟩,hx⟩:∃x,x=l[k]:=⟨_,rfl⟩
   rw [<-hx]at hv hsz hfl
   have hf0:f 0=.string x1:=hv.1
   have hf1:f 1=.string x2:=hv.2
   replace hsz:x1.size<=2147483647/\x2.size<=2147483647:=hsz
   have hd0:=HE.out.cell (hcell 0 (by omega))
   rw [hf0,Nat.add_zero]at hd0
   have hd1:=HE.out.cell (hcell 1 (by omega))
   rw [hf1]at hd1
   clear hx hcell hf0 hf1 hv
   obtain⟨⟨j0,hj0,hl0⟩,hdg⟩:=hfl
   have HL0:=zh hl0
   have HDG:=zh hdg
   clear hl0 hdg
   go_wp2
   go_loopw [5,13] (fun b i wi=>∃q:Bool,∃j:Nat,j<=18/\b=.bool q/\i=.int .i64 j/\Hid (Ext (wr.alloc (.cells #[.string x1,.string x2] 48)) wi)/\Hid (j0 < j->q=true)) (fun _ i _=>18 - (intOf i).toNat)
   case atStart=>exact⟨false,0,by omega,rfl,rfl,zh (Ext.refl _),zh (fun h=>absurd h (Nat.not_lt_zero _))⟩
   case round=>
    obtain⟨q,j,hj,rfl,rfl,HI,HQ⟩:=hrel
    have hc0:=box_at HI.out 0 (.string x1) rfl
    have hc1:=box_at HI.out 1 (.string x2) rfl
    by_cases hj18:j < 18
    ·cases q
     ·have hle:j<=j0:=by
       by_cases hh:j<=j0
       ·exact hh
       ·exact absurd (HQ.out (by omega)) (by decide)
      go_wp2
      go_quiet (fail)
      go_wp2
      go_roundw
      case rel=>
       refine⟨_,j+1,by omega,rfl,by go_num,zh (HI.out.drewN nq),zh (fun h=>?_)⟩
       obtain rfl:j=j0:=by omega
       have:=HL0.out
       simpa using this
      case measure=>simp only [intOf];omega
     ·go_wp2
      go_quiet (fail)
      go_wp2
      go_roundw
      case rel=>exact⟨true,j+1,by omega,rfl,by go_num,zh (HI.out.drewN nq),zh (fun _=>by first|trivial|rfl)⟩
      case measure=>simp only [intOf];omega
    ·obtain rfl:j=18:=by omega
     replace HE:=zh ((HE.out.alloc (.cells #[.string x1,.string x2] 48)).trans HI.out)
     cases q
     ·exact absurd (HQ.out hj0) (by decide)
     ·by_cases hP:x1.toList=[80]∨x1.toList=[112]∨x1.toList=[76]
      ·have HP:=zh hP
       clear hP
       go_wp2_with (go_at_call 53;refine(digits53T x2 hsz.2 (HDG.out HP.out) _).mono ?_;rintro e w1 ⟨rfl,hbx⟩;have HE2:=HE;replace HE:=zh (HE2.out.trans hbx);clear hbx)
       all_goals first
        | (go_roundw
           case rel=>exact⟨k+1,by omega,by go_num,HE⟩
           case measure=>simp only [intOf];omega)
        | (exfalso;have:=HP.out;simp_all;done)
      ·have h1:(x1.toList == [80])=false:=beq_eq_false_iff_ne.2 fun h=>hP (.inl h)
       have h2:(x1.toList == [112])=false:=beq_eq_false_iff_ne.2 fun h=>hP (.inr (.inl h))
       have h3:(x1.toList == [76])=false:=beq_eq_false_iff_ne.2 fun h=>hP (.inr (.inr h))
       have HP:=zh hP
       clear hP
       go_wp2
       go_roundw
       case rel=>exact⟨k+1,by omega,by go_num,HE⟩
       case measure=>simp only [intOf];omega
  ·obtain rfl:k=l.length:=by omega
   go_wp2_with (go_at_call 31;refine(pairsST l _ _ _ (RdM.ext HR.out HE.out (fun _ _ h=>h)) hl hs HP0.out).mono ?_;rintro e w1 ⟨rfl,hbx⟩;have HE2:=HE;replace HE:=zh (HE2.out.trans hbx);clear hbx)
   go_ret
   exact⟨rfl,HE.out⟩
/-- The answer is whether P holds. -/
def Says (w:World) (P:Prop):Ending->World->Prop:=fun e w'=>∃x:Bool,e=.returned (.bool x)/\(x=true↔P)/\Ext w w'
theorem says {f:Nat} {vs:Array Value} {w:World} {P:Prop} (h1:Calls Tryz.prog f vs w (Said w P))(h2:P->Calls Tryz.prog f vs w (Yes w)):Calls Tryz.prog f vs w (Says w P):=by
 by_cases h:P
 ·refine(h2 h).mono ?_
  rintro e w1 ⟨rfl,hx⟩
  exact⟨true,rfl,⟨fun _=>h,fun _=>rfl⟩,hx⟩
 ·refine h1.mono ?_
  rintro e w1 ⟨x,rfl,hb,hx⟩
  exact⟨x,rfl,⟨hb,fun hh=>absurd hh h⟩,hx⟩
theorem formats30X (l:List Int)(A_l:Option Addr)(c_l:Nat)(w:World)(hr:RdI .i64 w (.slice A_l l.length c_l) l)(hl:l.length<=2147483647):Calls Tryz.prog 30 #[.slice A_l l.length c_l] w (Says w (fmtP l)):=
 says (formats30 l A_l c_l w hr hl) (fun h=>formats30T l A_l c_l w hr hl h.1 h.2)
theorem pairsMX (l:List (ByteArray×ByteArray))(A_l:Option Addr)(c_l:Nat)(w:World)(hr:RdM 2 isPr w (.slice A_l l.length c_l) l)(hl:l.length<=2147483647)(hs:∀y∈l,y.1.size<=2147483647/\y.2.size<=2147483647):Calls Tryz.prog 31 #[.slice A_l l.length c_l,.bool false,.bool true] w (Says w (pairsP false true l)):=
 says (pairsM l A_l c_l w hr hl hs) (fun h=>pairsMT l A_l c_l w hr hl hs h)
theorem fields32X (l:List (ByteArray×ByteArray))(A_l:Option Addr)(c_l:Nat)(w:World)(hr:RdM 2 isPr w (.slice A_l l.length c_l) l)(hl:l.length<=2147483647)(hs:∀y∈l,y.1.size<=2147483647/\y.2.size<=2147483647):Calls Tryz.prog 32 #[.slice A_l l.length c_l] w (Says w ((∀y∈l,fldP y)/\pairsP true false l)):=
 says (fields32 l A_l c_l w hr hl hs) (fun h=>fields32T l A_l c_l w hr hl hs h.1 h.2)
set_option maxHeartbeats 4000000 in
theorem proper11aT (a b:ByteArray)(kd n:Int)(A4 A5 A6 A7 A8 A9 A10 A11:Option Addr)(c4 c5 c6 c7 c8 c9 c10 c11:Nat)(lf lr ty d:List Int)(vls:List (Bool×List Int))(ws:List ByteArray)(ps:List (ByteArray×ByteArray))(fs:List Sf)(w:World)(hkd:kd≠35)
 (h4:RdI .i64 w (.slice A4 lf.length c4) lf) (h5:RdI .i64 w (.slice A5 lr.length c5) lr) (h7:RdM 2 isVal w (.slice A7 vls.length c7) vls) (h9:Rd1 isStr w (.slice A9 ws.length c9) ws) (h10:RdM 2 isPr w (.slice A10 ps.length c10) ps) (h11:RdM 7 isSf w (.slice A11 fs.length c11) fs)
 (sa:a.size<=2147483647) (sb:b.size<=2147483647) (s4:lf.length<=2147483647) (s5:lr.length<=2147483647) (s6:ty.length<=2147483647) (s7:vls.length<=2147483647) (s8:d.length<=2147483647) (s9:ws.length<=2147483647) (s9':∀y∈ws,y.size<=2147483647) (s10:ps.length<=2147483647) (s10':∀y∈ps,y.1.size<=2147483647/\y.2.size<=2147483647) (s11:fs.length<=2147483647) (s11':∀y∈fs,y.name.size<=2147483647) (hpp:properP kd a b n lf lr ty vls d ws ps fs):
 Calls Tryz.prog 11 #[.agg #[.int .i64 kd,.string a,.string b,.int .u32 n,.slice A4 lf.length c4,.slice A5 lr.length c5,.slice A6 ty.length c6,.slice A7 vls.length c7,.slice A8 d.length c8,.slice A9 ws.length c9,.slice A10 ps.length c10,.slice A11 fs.length c11]] w (Yes w):=by
 have H4:=zh (h4.ext (ext_alloc w (.cells #[.int .i64 kd,.string a,.string b,.int .u32 n,.slice A4 lf.length c4,.slice A5 lr.length c5,.slice A6 ty.length c6,.slice A7 vls.length c7,.slice A8 d.length c8,.slice A9 ws.length c9,.slice A10 ps.length c10,.slice A11 fs.length c11] 37)))
 have H5:=zh (h5.ext (ext_alloc w (.cells #[.int .i64 kd,.string a,.string b,.int .u32 n,.slice A4 lf.length c4,.slice A5 lr.length c5,.slice A6 ty.length c6,.slice A7 vls.length c7,.slice A8 d.length c8,.slice A9 ws.length c9,.slice A10 ps.length c10,.slice A11 fs.length c11] 37)))
 have H7:=zh (h7.ext (ext_alloc w (.cells #[.int .i64 kd,.string a,.string b,.int .u32 n,.slice A4 lf.length c4,.slice A5 lr.length c5,.slice A6 ty.length c6,.slice A7 vls.length c7,.slice A8 d.length c8,.slice A9 ws.length c9,.slice A10 ps.length c10,.slice A11 fs.length c11] 37)) (isVal.ext (ext_alloc w (.cells #[.int .i64 kd,.string a,.string b,.int .u32 n,.slice A4 lf.length c4,.slice A5 lr.length c5,.slice A6 ty.length c6,.slice A7 vls.length c7,.slice A8 d.length c8,.slice A9 ws.length c9,.slice A10 ps.length c10,.slice A11 fs.length c11] 37))))
 have H9:=zh (h9.ext (ext_alloc w (.cells #[.int .i64 kd,.string a,.string b,.int .u32 n,.slice A4 lf.length c4,.slice A5 lr.length c5,.slice A6 ty.length c6,.slice A7 vls.length c7,.slice A8 d.length c8,.slice A9 ws.length c9,.slice A10 ps.length c10,.slice A11 fs.length c11] 37)) (fun _ _ h=>h))
 have H10:=zh (h10.ext (ext_alloc w (.cells #[.int .i64 kd,.string a,.string b,.int .u32 n,.slice A4 lf.length c4,.slice A5 lr.length c5,.slice A6 ty.length c6,.slice A7 vls.length c7,.slice A8 d.length c8,.slice A9 ws.length c9,.slice A10 ps.length c10,.slice A11 fs.length c11] 37)) (fun _ _ h=>h))
 have H11:=zh (h11.ext (ext_alloc w (.cells #[.int .i64 kd,.string a,.string b,.int .u32 n,.slice A4 lf.length c4,.slice A5 lr.length c5,.slice A6 ty.length c6,.slice A7 vls.length c7,.slice A8 d.length c8,.slice A9 ws.length c9,.slice A10 ps.length c10,.slice A11 fs.length c11] 37)) (fun _ _ h=>h))
 have S9:=zh s9'
 have S10:=zh s10'
 have S11:=zh s11'
 clear h4 h5 h7 h9 h10 h11 s9' s10' s11'
 have HE:=zh (Ext.refl (w.alloc (.cells #[.int .i64 kd,.string a,.string b,.int .u32 n,.slice A4 lf.length c4,.slice A5 lr.length c5,.slice A6 ty.length c6,.slice A7 vls.length c7,.slice A8 d.length c8,.slice A9 ws.length c9,.slice A10 ps.length c10,.slice A11 fs.length c11] 37)))
 have hx0:True:=trivial
 have hx1:True:=trivial
 have hx2:True:=trivial
 have hx3:True:=trivial
 have hx4:True:=trivial
 have hx5:True:=trivial
 have hx6:True:=trivial
 have hx7:True:=trivial
 have hx8:True:=trivial
 have hx9:True:=trivial
 have hx10:True:=trivial
 have hx11:True:=trivial
 have Hpa:∀(q:Bool),plainQ a=q->∀w,Calls Tryz.prog 27 #[.string a] w (fun e w'=>e=.returned (.bool q)/\w'=w):=fun q hq w=>by rw [<-hq];exact plain27 a sa w
 have Hpb:∀(q:Bool),plainQ b=q->∀w,Calls Tryz.prog 27 #[.string b] w (fun e w'=>e=.returned (.bool q)/\w'=w):=fun q hq w=>by rw [<-hq];exact plain27 b sb w
 have HPP:=zh hpp
 clear hpp
 have HK0:knownK kd:=HPP.out.known
 unfold knownK at HK0
 have hd5:(d.length:Int)<=500:=by have:=HPP.out.data;omega
 have ht2:(ty.length:Int)<=20:=by have:=HPP.out.types;omega
 have hpa:plainQ a=true:=plainQ_in HPP.out.pa
 have hpb:plainQ b=true:=plainQ_in HPP.out.pb
 go_enter Tryz.func11,Tryz.ntmps11
 go_wp2_with (first|(go_at_call 26;refine(known26T kd _ HPP.out.known).mono ?_;rintro e w1 ⟨rfl,hbx⟩;have HE2:=HE;replace HE:=zh (HE2.out.trans hbx);clear HE2 hbx;clear hx0 hx1 hx2 hx3 hx4 hx5 hx6 hx7 hx8 hx9 hx10 hx11;obtain⟨hx0,hx1,hx2,hx3,hx4,hx5,hx6,hx7,hx8,hx9,hx10,hx11⟩:=box12 HE.out)|(go_at_call_of 27 a;refine(Hpa _ hpa _).mono ?_;rintro e w1 ⟨rfl,rfl⟩)|(go_at_call_of 27 b;refine(Hpb _ hpb _).mono ?_;rintro e w1 ⟨rfl,rfl⟩)|(go_at_call 28;refine(values28T vls A7 c7 20 _ (H7.out.ext HE.out (isVal.ext HE.out)) s7 (by have:=HPP.out.vals.1;omega) HPP.out.vals.2).mono ?_;rintro e w1 ⟨rfl,hbx⟩;have HE2:=HE;replace HE:=zh (HE2.out.trans hbx);clear HE2 hbx;clear hx0 hx1 hx2 hx3 hx4 hx5 hx6 hx7 hx8 hx9 hx10 hx11;obtain⟨hx0,hx1,hx2,hx3,hx4,hx5,hx6,hx7,hx8,hx9,hx10,hx11⟩:=box12 HE.out)|(go_at_call 29;refine(columns29T fs A11 c11 _ (H11.out.ext HE.out (fun _ _ h=>h)) s11 S11.out HPP.out.cols.1 HPP.out.cols.2).mono ?_;rintro e w1 ⟨rfl,hbx⟩;have HE2:=HE;replace HE:=zh (HE2.out.trans hbx);clear HE2 hbx;clear hx0 hx1 hx2 hx3 hx4 hx5 hx6 hx7 hx8 hx9 hx10 hx11;obtain⟨hx0,hx1,hx2,hx3,hx4,hx5,hx6,hx7,hx8,hx9,hx10,hx11⟩:=box12 HE.out)|(go_at_call_of 30 A4;refine(formats30X lf A4 c4 _ (H4.out.ext HE.out) s4).mono ?_;rintro e w1 ⟨bo,rfl,hbo,hbx⟩;have HE2:=HE;replace HE:=zh (HE2.out.trans hbx);clear HE2;have HF:=zh hbo;clear hbo hbx;clear hx0 hx1 hx2 hx3 hx4 hx5 hx6 hx7 hx8 hx9 hx10 hx11;obtain⟨hx0,hx1,hx2,hx3,hx4,hx5,hx6,hx7,hx8,hx9,hx10,hx11⟩:=box12 HE.out;cases bo)|(go_at_call_of 30 A5;refine(formats30X lr A5 c5 _ (H5.out.ext HE.out) s5).mono ?_;rintro e w1 ⟨bo,rfl,hbo,hbx⟩;have HE2:=HE;replace HE:=zh (HE2.out.trans hbx);clear HE2;have HR:=zh hbo;clear hbo hbx;clear hx0 hx1 hx2 hx3 hx4 hx5 hx6 hx7 hx8 hx9 hx10 hx11;obtain⟨hx0,hx1,hx2,hx3,hx4,hx5,hx6,hx7,hx8,hx9,hx10,hx11⟩:=box12 HE.out;cases bo)|(go_at_call 31;refine(pairsMX ps A10 c10 _ (H10.out.ext HE.out (fun _ _ h=>h)) s10 S10.out).mono ?_;rintro e w1 ⟨bo,rfl,hbo,hbx⟩;have HE2:=HE;replace HE:=zh (HE2.out.trans hbx);clear HE2;have HP:=zh hbo;clear hbo hbx;clear hx0 hx1 hx2 hx3 hx4 hx5 hx6 hx7 hx8 hx9 hx10 hx11;obtain⟨hx0,hx1,hx2,hx3,hx4,hx5,hx6,hx7,hx8,hx9,hx10,hx11⟩:=box12 HE.out;cases bo)|(go_at_call 32;refine(fields32X ps A10 c10 _ (H10.out.ext HE.out (fun _ _ h=>h)) s10 S10.out).mono ?_;rintro e w1 ⟨bo,rfl,hbo,hbx⟩;have HE2:=HE;replace HE:=zh (HE2.out.trans hbx);clear HE2;have HP:=zh hbo;clear hbo hbx;clear hx0 hx1 hx2 hx3 hx4 hx5 hx6 hx7 hx8 hx9 hx10 hx11;obtain⟨hx0,hx1,hx2,hx3,hx4,hx5,hx6,hx7,hx8,hx9,hx10,hx11⟩:=box12 HE.out;cases bo))
 all_goals first
  | (go_ret
     refine⟨?_,(ext_alloc w _).trans HE.out⟩
     first
      | rfl
      | (refine ret_yes ?_
         have q1:=HPP.out.k1;have q2:=HPP.out.k2;have q9:=fun h=>(HPP.out.k9 h).2.2;have q18:=fun h=>(HPP.out.k18 h).1;have q18':=fun h=>(HPP.out.k18 h).2.1;have q35:=fun h=>(HPP.out.k35 h).1;have q35':=fun h=>(HPP.out.k35 h).2.1;have q42:=fun h=>(HPP.out.k42 h).1;have q49:=HPP.out.k49;have q56:=HPP.out.k56
         go_light
         try simp only [beq_iff_eq,beq_eq_false_iff_ne,ne_eq,bne_iff_ne,bne_eq_false_iff_eq,Bool.or_eq_true,Bool.or_eq_false_iff,Bool.and_eq_true,Bool.and_eq_false_iff,decide_eq_true_eq,decide_eq_false_iff_not]at *
         first|omega|(simp <;> omega)))
  | (exfalso
     have q1:=HPP.out.k1;have q2:=HPP.out.k2;have q9:=fun h=>(HPP.out.k9 h).2.2;have q18:=fun h=>(HPP.out.k18 h).1;have q18':=fun h=>(HPP.out.k18 h).2.1;have q35:=fun h=>(HPP.out.k35 h).1;have q35':=fun h=>(HPP.out.k35 h).2.1;have q42:=fun h=>(HPP.out.k42 h).1;have q49:=HPP.out.k49;have q56:=HPP.out.k56
     go_light
     try simp only [beq_iff_eq,beq_eq_false_iff_ne,ne_eq,bne_iff_ne,bne_eq_false_iff_eq,Bool.or_eq_true,Bool.or_eq_false_iff,Bool.and_eq_true,Bool.and_eq_false_iff,decide_eq_true_eq,decide_eq_false_iff_not]at *
     first
      | omega
      | exact absurd (HF.out.2 (HPP.out.k0 (by omega)).1) (by decide)
      | exact absurd (HR.out.2 (HPP.out.k0 (by omega)).2) (by decide)
      | exact absurd (HF.out.2 (HPP.out.k9 (by omega)).1) (by decide)
      | exact absurd (HR.out.2 (HPP.out.k9 (by omega)).2.1) (by decide)
      | exact absurd (HF.out.2 (HPP.out.k42 (by omega)).2) (by decide)
      | exact absurd (HP.out.2 (HPP.out.k18 (by omega)).2.2) (by decide)
      | exact absurd (HP.out.2 (HPP.out.k47 (by omega))) (by decide))
set_option maxHeartbeats 4000000 in
theorem proper11bT (a b:ByteArray)(n:Int)(A4 A5 A6 A7 A8 A9 A10 A11:Option Addr)(c4 c5 c6 c7 c8 c9 c10 c11:Nat)(lf lr ty d:List Int)(vls:List (Bool×List Int))(ws:List ByteArray)(ps:List (ByteArray×ByteArray))(fs:List Sf)(w:World)
 (h4:RdI .i64 w (.slice A4 lf.length c4) lf) (h5:RdI .i64 w (.slice A5 lr.length c5) lr) (h7:RdM 2 isVal w (.slice A7 vls.length c7) vls) (h9:Rd1 isStr w (.slice A9 ws.length c9) ws) (h10:RdM 2 isPr w (.slice A10 ps.length c10) ps) (h11:RdM 7 isSf w (.slice A11 fs.length c11) fs)
 (sa:a.size<=2147483647) (sb:b.size<=2147483647) (s4:lf.length<=2147483647) (s5:lr.length<=2147483647) (s6:ty.length<=2147483647) (s7:vls.length<=2147483647) (s8:d.length<=2147483647) (s9:ws.length<=2147483647) (s9':∀y∈ws,y.size<=2147483647) (s10:ps.length<=2147483647) (s10':∀y∈ps,y.1.size<=2147483647/\y.2.size<=2147483647) (s11:fs.length<=2147483647) (s11':∀y∈fs,y.name.size<=2147483647) (hpp:properP 35 a b n lf lr ty vls d ws ps fs):
 Calls Tryz.prog 11 #[.agg #[.int .i64 35,.string a,.string b,.int .u32 n,.slice A4 lf.length c4,.slice A5 lr.length c5,.slice A6 ty.length c6,.slice A7 vls.length c7,.slice A8 d.length c8,.slice A9 ws.length c9,.slice A10 ps.length c10,.slice A11 fs.length c11]] w (Yes w):=by
 have H4:=zh (h4.ext (ext_alloc w (.cells #[.int .i64 35,.string a,.string b,.int .u32 n,.slice A4 lf.length c4,.slice A5 lr.length c5,.slice A6 ty.length c6,.slice A7 vls.length c7,.slice A8 d.length c8,.slice A9 ws.length c9,.slice A10 ps.length c10,.slice A11 fs.length c11] 37)))
 have H5:=zh (h5.ext (ext_alloc w (.cells #[.int .i64 35,.string a,.string b,.int .u32 n,.slice A4 lf.length c4,.slice A5 lr.length c5,.slice A6 ty.length c6,.slice A7 vls.length c7,.slice A8 d.length c8,.slice A9 ws.length c9,.slice A10 ps.length c10,.slice A11 fs.length c11] 37)))
 have H7:=zh (h7.ext (ext_alloc w (.cells #[.int .i64 35,.string a,.string b,.int .u32 n,.slice A4 lf.length c4,.slice A5 lr.length c5,.slice A6 ty.length c6,.slice A7 vls.length c7,.slice A8 d.length c8,.slice A9 ws.length c9,.slice A10 ps.length c10,.slice A11 fs.length c11] 37)) (isVal.ext (ext_alloc w (.cells #[.int .i64 35,.string a,.string b,.int .u32 n,.slice A4 lf.length c4,.slice A5 lr.length c5,.slice A6 ty.length c6,.slice A7 vls.length c7,.slice A8 d.length c8,.slice A9 ws.length c9,.slice A10 ps.length c10,.slice A11 fs.length c11] 37))))
 have H9:=zh (h9.ext (ext_alloc w (.cells #[.int .i64 35,.string a,.string b,.int .u32 n,.slice A4 lf.length c4,.slice A5 lr.length c5,.slice A6 ty.length c6,.slice A7 vls.length c7,.slice A8 d.length c8,.slice A9 ws.length c9,.slice A10 ps.length c10,.slice A11 fs.length c11] 37)) (fun _ _ h=>h))
 have H10:=zh (h10.ext (ext_alloc w (.cells #[.int .i64 35,.string a,.string b,.int .u32 n,.slice A4 lf.length c4,.slice A5 lr.length c5,.slice A6 ty.length c6,.slice A7 vls.length c7,.slice A8 d.length c8,.slice A9 ws.length c9,.slice A10 ps.length c10,.slice A11 fs.length c11] 37)) (fun _ _ h=>h))
 have H11:=zh (h11.ext (ext_alloc w (.cells #[.int .i64 35,.string a,.string b,.int .u32 n,.slice A4 lf.length c4,.slice A5 lr.length c5,.slice A6 ty.length c6,.slice A7 vls.length c7,.slice A8 d.length c8,.slice A9 ws.length c9,.slice A10 ps.length c10,.slice A11 fs.length c11] 37)) (fun _ _ h=>h))
 have S9:=zh s9'
 have S10:=zh s10'
 have S11:=zh s11'
 clear h4 h5 h7 h9 h10 h11 s9' s10' s11'
 have HE:=zh (Ext.refl (w.alloc (.cells #[.int .i64 35,.string a,.string b,.int .u32 n,.slice A4 lf.length c4,.slice A5 lr.length c5,.slice A6 ty.length c6,.slice A7 vls.length c7,.slice A8 d.length c8,.slice A9 ws.length c9,.slice A10 ps.length c10,.slice A11 fs.length c11] 37)))
 have hx0:True:=trivial
 have hx1:True:=trivial
 have hx2:True:=trivial
 have hx3:True:=trivial
 have hx4:True:=trivial
 have hx5:True:=trivial
 have hx6:True:=trivial
 have hx7:True:=trivial
 have hx8:True:=trivial
 have hx9:True:=trivial
 have hx10:True:=trivial
 have hx11:True:=trivial
 have Hpa:∀(q:Bool),plainQ a=q->∀w,Calls Tryz.prog 27 #[.string a] w (fun e w'=>e=.returned (.bool q)/\w'=w):=fun q hq w=>by rw [<-hq];exact plain27 a sa w
 have Hpb:∀(q:Bool),plainQ b=q->∀w,Calls Tryz.prog 27 #[.string b] w (fun e w'=>e=.returned (.bool q)/\w'=w):=fun q hq w=>by rw [<-hq];exact plain27 b sb w
 have HPP:=zh hpp
 clear hpp
 have hw1:1<=ws.length:=(HPP.out.k35 rfl).1
 have hw5:ws.length<=5:=(HPP.out.k35 rfl).2.1
 have hd5:(d.length:Int)<=500:=by have:=HPP.out.data;omega
 have ht2:(ty.length:Int)<=20:=by have:=HPP.out.types;omega
 have hpa:plainQ a=true:=plainQ_in HPP.out.pa
 have hpb:plainQ b=true:=plainQ_in HPP.out.pb
 go_enter Tryz.func11,Tryz.ntmps11
 go_wp2_with (first|(go_at_call 26;refine(known26T 35 _ HPP.out.known).mono ?_;rintro e w1 ⟨rfl,hbx⟩;have HE2:=HE;replace HE:=zh (HE2.out.trans hbx);clear HE2 hbx;clear hx0 hx1 hx2 hx3 hx4 hx5 hx6 hx7 hx8 hx9 hx10 hx11;obtain⟨hx0,hx1,hx2,hx3,hx4,hx5,hx6,hx7,hx8,hx9,hx10,hx11⟩:=box12 HE.out)|(go_at_call_of 27 a;refine(Hpa _ hpa _).mono ?_;rintro e w1 ⟨rfl,rfl⟩)|(go_at_call_of 27 b;refine(Hpb _ hpb _).mono ?_;rintro e w1 ⟨rfl,rfl⟩)|(go_at_call 28;refine(values28T vls A7 c7 20 _ (H7.out.ext HE.out (isVal.ext HE.out)) s7 (by have:=HPP.out.vals.1;omega) HPP.out.vals.2).mono ?_;rintro e w1 ⟨rfl,hbx⟩;have HE2:=HE;replace HE:=zh (HE2.out.trans hbx);clear HE2 hbx;clear hx0 hx1 hx2 hx3 hx4 hx5 hx6 hx7 hx8 hx9 hx10 hx11;obtain⟨hx0,hx1,hx2,hx3,hx4,hx5,hx6,hx7,hx8,hx9,hx10,hx11⟩:=box12 HE.out)|(go_at_call 29;refine(columns29T fs A11 c11 _ (H11.out.ext HE.out (fun _ _ h=>h)) s11 S11.out HPP.out.cols.1 HPP.out.cols.2).mono ?_;rintro e w1 ⟨rfl,hbx⟩;have HE2:=HE;replace HE:=zh (HE2.out.trans hbx);clear HE2 hbx;clear hx0 hx1 hx2 hx3 hx4 hx5 hx6 hx7 hx8 hx9 hx10 hx11;obtain⟨hx0,hx1,hx2,hx3,hx4,hx5,hx6,hx7,hx8,hx9,hx10,hx11⟩:=box12 HE.out)|(go_at_call_of 30 A4;refine(formats30X lf A4 c4 _ (H4.out.ext HE.out) s4).mono ?_;rintro e w1 ⟨bo,rfl,hbo,hbx⟩;have HE2:=HE;replace HE:=zh (HE2.out.trans hbx);clear HE2;have HF:=zh hbo;clear hbo hbx;clear hx0 hx1 hx2 hx3 hx4 hx5 hx6 hx7 hx8 hx9 hx10 hx11;obtain⟨hx0,hx1,hx2,hx3,hx4,hx5,hx6,hx7,hx8,hx9,hx10,hx11⟩:=box12 HE.out;cases bo)|(go_at_call_of 30 A5;refine(formats30X lr A5 c5 _ (H5.out.ext HE.out) s5).mono ?_;rintro e w1 ⟨bo,rfl,hbo,hbx⟩;have HE2:=HE;replace HE:=zh (HE2.out.trans hbx);clear HE2;have HR:=zh hbo;clear hbo hbx;clear hx0 hx1 hx2 hx3 hx4 hx5 hx6 hx7 hx8 hx9 hx10 hx11;obtain⟨hx0,hx1,hx2,hx3,hx4,hx5,hx6,hx7,hx8,hx9,hx10,hx11⟩:=box12 HE.out;cases bo)|(go_at_call 31;refine(pairsMX ps A10 c10 _ (H10.out.ext HE.out (fun _ _ h=>h)) s10 S10.out).mono ?_;rintro e w1 ⟨bo,rfl,hbo,hbx⟩;have HE2:=HE;replace HE:=zh (HE2.out.trans hbx);clear HE2;have HP:=zh hbo;clear hbo hbx;clear hx0 hx1 hx2 hx3 hx4 hx5 hx6 hx7 hx8 hx9 hx10 hx11;obtain⟨hx0,hx1,hx2,hx3,hx4,hx5,hx6,hx7,hx8,hx9,hx10,hx11⟩:=box12 HE.out;cases bo)|(go_at_call 32;refine(fields32X ps A10 c10 _ (H10.out.ext HE.out (fun _ _ h=>h)) s10 S10.out).mono ?_;rintro e w1 ⟨bo,rfl,hbo,hbx⟩;have HE2:=HE;replace HE:=zh (HE2.out.trans hbx);clear HE2;have HP:=zh hbo;clear hbo hbx;clear hx0 hx1 hx2 hx3 hx4 hx5 hx6 hx7 hx8 hx9 hx10 hx11;obtain⟨hx0,hx1,hx2,hx3,hx4,hx5,hx6,hx7,hx8,hx9,hx10,hx11⟩:=box12 HE.out;cases bo))
 go_loopw [120] (fun i wr=>∃k:Nat,k<=ws.length/\i=.int .i64 k/\Hid (Ext (w.alloc (.cells #[.int .i64 35,.string a,.string b,.int .u32 n,.slice A4 lf.length c4,.slice A5 lr.length c5,.slice A6 ty.length c6,.slice A7 vls.length c7,.slice A8 d.length c8,.slice A9 ws.length c9,.slice A10 ps.length c10,.slice A11 fs.length c11] 37)) wr)) (fun i _=>ws.length - (intOf i).toNat)
 case atStart=>exact⟨0,Nat.zero_le _,rfl,HE⟩
 case round=>
  obtain⟨k,hk1,rfl,HE2⟩:=hrel
  clear hx0 hx1 hx2 hx3 hx4 hx5 hx6 hx7 hx8 hx9 hx10 hx11
  obtain⟨hx0,hx1,hx2,hx3,hx4,hx5,hx6,hx7,hx8,hx9,hx10,hx11⟩:=box12 HE2.out
  by_cases hlt:k < ws.length
  ·obtain⟨b1,o1,u,rfl,hcell,hu⟩:=H9.out.at_ hlt
   replace hcell:=HE2.out.cell hcell
   have hsz:=S9.out _ (List.getElem_mem hlt)
   have hy:=(HPP.out.k35 rfl).2.2 _ (List.getElem_mem hlt)
   obtain⟨x,hx⟩:∃x,x=ws[k]:=⟨_,rfl⟩
   rw [<-hx]at hu hsz hy
   rw [show u=.string x from hu]at hcell
   clear hx hu
   have Hpx:∀(q:Bool),plainQ x=q->∀w,Calls Tryz.prog 27 #[.string x] w (fun e w'=>e=.returned (.bool q)/\w'=w):=fun q hq w=>by rw [<-hq];exact plain27 x hsz w
   have hpx:plainQ x=true:=plainQ_in hy.1
   have e3:x.toList.isEmpty=false:=isEmpty_ne hy.2
   go_wp2_with (go_at_call 27;refine(Hpx _ hpx _).mono ?_;rintro e w1 ⟨rfl,rfl⟩)
   go_roundw
   case rel=>exact⟨k+1,by omega,by go_num,HE2⟩
   case measure=>simp only [intOf];omega
  ·obtain rfl:k=ws.length:=by omega
   go_wp2
   all_goals first
    | (go_ret;refine⟨?_,(ext_alloc w _).trans HE2.out⟩;first|rfl|(refine ret_yes ?_;simp <;> omega))
    | (exfalso;omega)
theorem proper11T (a b:ByteArray)(kd n:Int)(A4 A5 A6 A7 A8 A9 A10 A11:Option Addr)(c4 c5 c6 c7 c8 c9 c10 c11:Nat)(lf lr ty d:List Int)(vls:List (Bool×List Int))(ws:List ByteArray)(ps:List (ByteArray×ByteArray))(fs:List Sf)(w:World)
 (h4:RdI .i64 w (.slice A4 lf.length c4) lf) (h5:RdI .i64 w (.slice A5 lr.length c5) lr) (h7:RdM 2 isVal w (.slice A7 vls.length c7) vls) (h9:Rd1 isStr w (.slice A9 ws.length c9) ws) (h10:RdM 2 isPr w (.slice A10 ps.length c10) ps) (h11:RdM 7 isSf w (.slice A11 fs.length c11) fs)
 (sa:a.size<=2147483647) (sb:b.size<=2147483647) (s4:lf.length<=2147483647) (s5:lr.length<=2147483647) (s6:ty.length<=2147483647) (s7:vls.length<=2147483647) (s8:d.length<=2147483647) (s9:ws.length<=2147483647) (s9':∀y∈ws,y.size<=2147483647) (s10:ps.length<=2147483647) (s10':∀y∈ps,y.1.size<=2147483647/\y.2.size<=2147483647) (s11:fs.length<=2147483647) (s11':∀y∈fs,y.name.size<=2147483647) (hpp:properP kd a b n lf lr ty vls d ws ps fs):
 Calls Tryz.prog 11 #[.agg #[.int .i64 kd,.string a,.string b,.int .u32 n,.slice A4 lf.length c4,.slice A5 lr.length c5,.slice A6 ty.length c6,.slice A7 vls.length c7,.slice A8 d.length c8,.slice A9 ws.length c9,.slice A10 ps.length c10,.slice A11 fs.length c11]] w (Yes w):=by
 by_cases h:kd=35
 ·subst h
  exact proper11bT a b n A4 A5 A6 A7 A8 A9 A10 A11 c4 c5 c6 c7 c8 c9 c10 c11 lf lr ty d vls ws ps fs w h4 h5 h7 h9 h10 h11 sa sb s4 s5 s6 s7 s8 s9 s9' s10 s10' s11 s11' hpp
 ·exact proper11aT a b kd n A4 A5 A6 A7 A8 A9 A10 A11 c4 c5 c6 c7 c8 c9 c10 c11 lf lr ty d vls ws ps fs w h h4 h5 h7 h9 h10 h11 sa sb s4 s5 s6 s7 s8 s9 s9' s10 s10' s11 s11' hpp
end Go.Proofs.YtdenjanihikolaaGreatDoor
