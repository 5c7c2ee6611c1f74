/- A map of pointers into one struct, laid by a literal whose entries go in an open order. -/
import Derived.Test.YtdenjanihikolaaGreatDoorRqA0
import Derived.Test.YtdenjanihikolaaGreatDoorRqA1
import Derived.Test.YtdenjanihikolaaGreatDoorRqWrd
import Derived.ProofKit
import Derived.Deep.Slices
import Derived.Maps.RangeWalk
import Derived.Maps.StringElems
import Derived.Sort.KeysCollected
import Derived.Sort.OwnSorted
import Derived.WalkKit
import Derived.Test.YtdenjanihikolaaGreatDoorRqBase
import Derived.Sort.Walk0
import Derived.Lib.Strings
import Derived.Test.YtdenjanihikolaaGreatDoorRqOg
namespace Go.Proofs.YtdenjanihikolaaGreatDoor
set_option linter.unusedVariables false
set_option linter.unusedSimpArgs false
set_option maxRecDepth 100000
set_option maxHeartbeats 4000000
open Go.RowKit
def Said (w:World) (P:Prop):Ending->World->Prop:=fun e w'=>∃x:Bool,e=.returned (.bool x)/\(x=true->P)/\Ext w w'
theorem all_take {α:Type} {P:α->Prop} (l:List α)(k:Nat)(h:k < l.length)(h1:∀y∈l.take k,P y)(h2:P l[k]):∀y∈l.take (k+1),P y:=by
 intro y hy
 rw [List.take_succ_eq_append_getElem h,List.mem_append]at hy
 rcases hy with hy|hy
 ·exact h1 y hy
 ·rw [List.mem_singleton]at hy
  rw [hy];exact h2
theorem fit3 (nul:Bool)(A:Option Addr)(n c:Nat)(w:World):Calls Tryz.prog 49 #[.agg #[.bool nul,.slice A n c]] w (Said w (n<=2147483647)):=by
 go_enter Tryz.func49,Tryz.ntmps49
 go_wp2
 all_goals(go_ret;refine⟨_,rfl,?_,ext_alloc _ _⟩;first|(intro h;cases h;done)|(intro _;omega))
theorem fit6 (a b:ByteArray)(w:World):Calls Tryz.prog 50 #[.agg #[.string a,.string b]] w (Said w (a.size<=2147483647/\b.size<=2147483647)):=by
 go_enter Tryz.func50,Tryz.ntmps50
 go_wp2
 all_goals(go_ret;refine⟨_,rfl,?_,ext_alloc _ _⟩;first|(intro h;cases h;done)|(intro _;omega))
theorem fit8 (a:ByteArray)(v1 v2 v3 v4 v5 v6:Value)(w:World):Calls Tryz.prog 51 #[.agg #[.string a,v1,v2,v3,v4,v5,v6]] w (Said w (a.size<=2147483647)):=by
 go_enter Tryz.func51,Tryz.ntmps51
 go_wp2
 all_goals(go_ret;refine⟨_,rfl,?_,ext_alloc _ _⟩;first|(intro h;cases h;done)|(intro _;omega))
theorem fit4 (l:List ByteArray)(A_l:Option Addr)(c_l:Nat)(w:World)(hr:Rd1 isStr w (.slice A_l l.length c_l) l):Calls Tryz.prog 23 #[.slice A_l l.length c_l] w (Said w (l.length<=2147483647/\∀y∈l,y.size<=2147483647)):=by
 have HR:=zh hr
 clear hr
 by_cases hbig:l.length<=2147483647
 ·go_enter Tryz.func23,Tryz.ntmps23
  go_wp2
  go_loopw [10] (fun i wr=>∃k:Nat,k<=l.length/\i=.int .i64 k/\Hid (Ext w wr)/\Hid (∀y∈l.take k,y.size<=2147483647)) (fun i _=>l.length - (intOf i).toNat)
  case atStart=>exact⟨0,Nat.zero_le _,rfl,zh zr,zh (by simp)⟩
  case round=>
   obtain⟨k,hk1,rfl,HE,HY⟩:=hrel
   by_cases hlt:k < l.length
   ·obtain⟨b1,o1,u,rfl,hcell,hu⟩:=HR.out.at_ hlt
    replace hcell:=HE.out.cell hcell
    obtain⟨x,hx⟩:∃x,x=l[k]:=⟨_,rfl⟩
    rw [<-hx]at hu
    rw [show u=.string x from hu]at hcell
    have HX:=zh hx
    clear hx hu
    go_wp2
    ·go_ret
     exact⟨_,rfl,fun h=>by(cases h;done),HE.out⟩
    ·go_roundw
     case rel=>
      refine⟨k+1,by omega,by go_num,HE,zh (all_take l k hlt HY.out ?_)⟩
      rw [<-HX.out]
      omega
     case measure=>simp [intOf];omega
   ·obtain rfl:k=l.length:=by omega
    go_wp2
    go_ret
    exact⟨_,rfl,fun _=>⟨hbig,by have:=HY.out;rwa [List.take_length]at this⟩,HE.out⟩
 ·go_enter Tryz.func23,Tryz.ntmps23
  go_wp2
  go_ret
  exact⟨_,rfl,fun h=>by(cases h;done),zr⟩
theorem fit2 (l:List (Bool×List Int))(A_l:Option Addr)(c_l:Nat)(w:World)(hr:RdM 2 isVal w (.slice A_l l.length c_l) l):Calls Tryz.prog 22 #[.slice A_l l.length c_l] w (Said w (l.length<=2147483647/\∀y∈l,y.2.length<=2147483647)):=by
 have HR:=zh hr
 clear hr
 by_cases hbig:l.length<=2147483647
 ·go_enter Tryz.func22,Tryz.ntmps22
  go_wp2
  go_loopw [10] (fun i wr=>∃k:Nat,k<=l.length/\i=.int .i64 k/\Hid (Ext w wr)/\Hid (∀y∈l.take k,y.2.length<=2147483647)) (fun i _=>l.length - (intOf i).toNat)
  case atStart=>exact⟨0,Nat.zero_le _,rfl,zh zr,zh (by simp)⟩
  case round=>
   obtain⟨k,hk1,rfl,HE,HY⟩:=hrel
   by_cases hlt:k < l.length
   ·obtain⟨b1,o1,f,rfl,hcell,hv⟩:=HR.out.at_ hlt
    obtain⟨x,hx⟩:∃x,x=l[k]:=⟨_,rfl⟩
    rw [<-hx]at hv
    obtain⟨hf0,A1,c1,hf1,hrd⟩:=hv
    have hd0:=HE.out.cell (hcell 0 (by omega))
    rw [hf0,Nat.add_zero]at hd0
    have hd1:=HE.out.cell (hcell 1 (by omega))
    rw [hf1]at hd1
    have HX:=zh hx
    clear hx hcell hf0 hf1
    go_wp2_with (go_at_call 49;refine(fit3 x.1 A1 x.2.length c1 _).mono ?_;rintro e w1 ⟨bo,rfl,hbo,hbx⟩;replace HE:=zh ((HE.out.alloc _).trans hbx);have HBO:=zh hbo;clear hbo hbx;cases bo)
    ·go_ret
     exact⟨_,rfl,fun h=>by(cases h;done),HE.out⟩
    ·go_roundw
     case rel=>
      refine⟨k+1,by omega,by go_num,HE,zh (all_take l k hlt HY.out ?_)⟩
      rw [<-HX.out]
      exact HBO.out (by first|trivial|rfl)
     case measure=>simp [intOf];omega
   ·obtain rfl:k=l.length:=by omega
    go_wp2
    go_ret
    exact⟨_,rfl,fun _=>⟨hbig,by have:=HY.out;rwa [List.take_length]at this⟩,HE.out⟩
 ·go_enter Tryz.func22,Tryz.ntmps22
  go_wp2
  go_ret
  exact⟨_,rfl,fun h=>by(cases h;done),zr⟩
theorem fit5 (l:List (ByteArray×ByteArray))(A_l:Option Addr)(c_l:Nat)(w:World)(hr:RdM 2 isPr w (.slice A_l l.length c_l) l):Calls Tryz.prog 24 #[.slice A_l l.length c_l] w (Said w (l.length<=2147483647/\∀y∈l,y.1.size<=2147483647/\y.2.size<=2147483647)):=by
 have HR:=zh hr
 clear hr
 by_cases hbig:l.length<=2147483647
 ·go_enter Tryz.func24,Tryz.ntmps24
  go_wp2
  go_loopw [10] (fun i wr=>∃k:Nat,k<=l.length/\i=.int .i64 k/\Hid (Ext w wr)/\Hid (∀y∈l.take k,y.1.size<=2147483647/\y.2.size<=2147483647)) (fun i _=>l.length - (intOf i).toNat)
  case atStart=>exact⟨0,Nat.zero_le _,rfl,zh zr,zh (by simp)⟩
  case round=>
   obtain⟨k,hk1,rfl,HE,HY⟩:=hrel
   by_cases hlt:k < l.length
   ·obtain⟨b1,o1,f,rfl,hcell,hv⟩:=HR.out.at_ hlt
    obtain⟨x,hx⟩:∃x,x=l[k]:=⟨_,rfl⟩
    rw [<-hx]at hv
    obtain⟨hf0,hf1⟩:=hv
    have hd0:=HE.out.cell (hcell 0 (by omega))
    rw [hf0,Nat.add_zero]at hd0
    have hd1:=HE.out.cell (hcell 1 (by omega))
    rw [hf1]at hd1
    have HX:=zh hx
    clear hx hcell hf0 hf1
    go_wp2_with (go_at_call 50;refine(fit6 x.1 x.2 _).mono ?_;rintro e w1 ⟨bo,rfl,hbo,hbx⟩;replace HE:=zh ((HE.out.alloc _).trans hbx);have HBO:=zh hbo;clear hbo hbx;cases bo)
    ·go_ret
     exact⟨_,rfl,fun h=>by(cases h;done),HE.out⟩
    ·go_roundw
     case rel=>
      refine⟨k+1,by omega,by go_num,HE,zh (all_take l k hlt HY.out ?_)⟩
      rw [<-HX.out]
      exact HBO.out (by first|trivial|rfl)
     case measure=>simp [intOf];omega
   ·obtain rfl:k=l.length:=by omega
    go_wp2
    go_ret
    exact⟨_,rfl,fun _=>⟨hbig,by have:=HY.out;rwa [List.take_length]at this⟩,HE.out⟩
 ·go_enter Tryz.func24,Tryz.ntmps24
  go_wp2
  go_ret
  exact⟨_,rfl,fun h=>by(cases h;done),zr⟩
theorem fit7 (l:List Sf)(A_l:Option Addr)(c_l:Nat)(w:World)(hr:RdM 7 isSf w (.slice A_l l.length c_l) l):Calls Tryz.prog 25 #[.slice A_l l.length c_l] w (Said w (l.length<=2147483647/\∀y∈l,y.name.size<=2147483647)):=by
 have HR:=zh hr
 clear hr
 by_cases hbig:l.length<=2147483647
 ·go_enter Tryz.func25,Tryz.ntmps25
  go_wp2
  go_loopw [10] (fun i wr=>∃k:Nat,k<=l.length/\i=.int .i64 k/\Hid (Ext w wr)/\Hid (∀y∈l.take k,y.name.size<=2147483647)) (fun i _=>l.length - (intOf i).toNat)
  case atStart=>exact⟨0,Nat.zero_le _,rfl,zh zr,zh (by simp)⟩
  case round=>
   obtain⟨k,hk1,rfl,HE,HY⟩:=hrel
   by_cases hlt:k < l.length
   ·obtain⟨b1,o1,f,rfl,hcell,hv⟩:=HR.out.at_ hlt
    obtain⟨x,hx⟩:∃x,x=l[k]:=⟨_,rfl⟩
    rw [<-hx]at hv
    obtain⟨hf0,hf1,hf2,hf3,hf4,hf5,hf6⟩:=hv
    have hd0:=HE.out.cell (hcell 0 (by omega))
    rw [hf0,Nat.add_zero]at hd0
    have hd1:=HE.out.cell (hcell 1 (by omega))
    rw [hf1]at hd1
    have hd2:=HE.out.cell (hcell 2 (by omega))
    rw [hf2]at hd2
    have hd3:=HE.out.cell (hcell 3 (by omega))
    rw [hf3]at hd3
    have hd4:=HE.out.cell (hcell 4 (by omega))
    rw [hf4]at hd4
    have hd5:=HE.out.cell (hcell 5 (by omega))
    rw [hf5]at hd5
    have hd6:=HE.out.cell (hcell 6 (by omega))
    rw [hf6]at hd6
    have HX:=zh hx
    clear hx hcell hf0 hf1 hf2 hf3 hf4 hf5 hf6
    go_wp2_with (go_at_call 51;refine(fit8 x.name _ _ _ _ _ _ _).mono ?_;rintro e w1 ⟨bo,rfl,hbo,hbx⟩;replace HE:=zh ((HE.out.alloc _).trans hbx);have HBO:=zh hbo;clear hbo hbx;cases bo)
    ·go_ret
     exact⟨_,rfl,fun h=>by(cases h;done),HE.out⟩
    ·go_roundw
     case rel=>
      refine⟨k+1,by omega,by go_num,HE,zh (all_take l k hlt HY.out ?_)⟩
      rw [<-HX.out]
      exact HBO.out (by first|trivial|rfl)
     case measure=>simp [intOf];omega
   ·obtain rfl:k=l.length:=by omega
    go_wp2
    go_ret
    exact⟨_,rfl,fun _=>⟨hbig,by have:=HY.out;rwa [List.take_length]at this⟩,HE.out⟩
 ·go_enter Tryz.func25,Tryz.ntmps25
  go_wp2
  go_ret
  exact⟨_,rfl,fun h=>by(cases h;done),zr⟩
open Go Go.RowKit Go.ChangeShapes Go.WideShapes Go.Deep
section
variable {H : Type} {enc : TypeId × Value → H} {w : World} {sp : Nat → Bool} {held : Bool}
theorem addr_plain {w:World} {a:Addr} {v:Value} (h:w.cell? a=some v):a=⟨a.block,a.off,none⟩:=by
 cases a with
 | mk b o s=>
   cases s with
   | none=>rfl
   | some q=>
     simp only [World.cell?]at h
     split at h <;> simp at h
theorem getD_take_lt (zs:List Int)(len j:Nat)(h:j < len):(zs.take len).getD j 0=zs.getD j 0:=by
 simp [List.getD,List.getElem?_take,h]
theorem rdI_of {t e:TypeId} {k:IntKind} {fuel:Nat} {v:Value} {x:DataW H×List MemPlace} (ht:Tryz.prog.underlying t=some (.slice e))(he:Tryz.prog.underlying e=some (.int k))(hc:Tryz.prog.cellsOf e=1)
 (h:DataW.trod enc Tryz.prog w 0 sp held fuel t [v]=some x):∃xs A c,v=.slice A (List.length xs) c/\RdI k w (.slice A (List.length xs) c) xs/\∀n∈xs,(Lit.int k n).wf=true:=by
 rcases open_ints ht he hc h with ⟨hv,_⟩|⟨a,len,cap,zs,hv,_,hl,hm,hz,_,hcell,hw⟩
 ·have hv':v=.slice none 0 0:=by simpa using hv
  exact⟨[],none,0,hv',⟨none,0,rfl,Nat.le_refl _,by unfold maxLen;omega,fun h=>absurd h (Nat.lt_irrefl 0)⟩,fun n hn=>by simp at hn⟩
 ·have hv':v=.slice (some a) len cap:=by simpa using hv
  have hle:len<=zs.length:=by rw [hz];split <;> omega
  have hlen:(zs.take len).length=len:=by simp;omega
  refine⟨zs.take len,some a,cap,by rw [hlen];exact hv',?_,fun n hn=>hw n (List.mem_of_mem_take hn)⟩
  refine⟨some a,cap,rfl,by rw [hlen];exact hl,hm,fun hp=>?_⟩
  rw [hlen]at hp
  have h0:=hcell 0 (by omega)
  have ha:a=⟨a.block,a.off,none⟩:=by
   have e0:a.add 0=a:=by simp [Addr.add]
   rw [e0]at h0
   exact addr_plain h0
  refine⟨a.block,a.off,by rw [<-ha],fun j hj=>?_⟩
  rw [hlen]at hj
  have:=hcell j (by omega)
  rw [getD_take_lt _ _ _ hj,<-add_lit0,<-ha]
  exact this
theorem rdB_of {t e:TypeId} {fuel:Nat} {v:Value} {x:DataW H×List MemPlace} (ht:Tryz.prog.underlying t=some (.slice e))(he:Tryz.prog.underlying e=some (.int .u8))(hc:Tryz.prog.cellsOf e=1)
 (h:DataW.trod enc Tryz.prog w 0 sp held fuel t [v]=some x):∃xs A c,v=.slice A (List.length xs) c/\RdB w (.slice A (List.length xs) c) xs/\∀n∈xs,0<=n/\n < 256:=by
 obtain⟨xs,A,c,h1,h2,h3⟩:=rdI_of ht he hc h
 refine⟨xs,A,c,h1,h2,fun n hn=>?_⟩
 have:=h3 n hn
 simp only [Lit.wf,Bool.and_eq_true,decide_eq_true_eq]at this
 have e1:IntKind.u8.min=0:=rfl
 have e2:IntKind.u8.max=255:=rfl
 omega
theorem rdM_in {α:Type} [Inhabited α] {size:Nat} (hpos:0 < size) {R:World->α->(Nat->Value)->Prop} {Q:α->Prop} {t e:TypeId} {fuel:Nat} {v:Value} {x:DataW H×List MemPlace} (ht:Tryz.prog.underlying t=some (.slice e))(hc:Tryz.prog.cellsOf e=size)
 (hel:∀n cs' y,cs'.length=size->DataW.trod enc Tryz.prog w 0 sp held n e cs'=some y->∃x:α,R w x (fun k=>cs'.getD k undef)/\Q x)
 (h:DataW.trod enc Tryz.prog w 0 sp held fuel t [v]=some x):∃(l:List α) (A:Option Addr) (c:Nat),v=.slice A l.length c/\RdM size R w (.slice A l.length c) l/\∀x∈l,Q x:=by
 rcases open_slice ht h with ⟨hv,_⟩|⟨a,len,cap,m,n,D,Pl,hv,_,hl,hm,hmm,_,hx⟩
 ·have hv':v=.slice none 0 0:=by simpa using hv
  exact⟨[],none,0,hv',⟨none,0,rfl,Nat.le_refl _,by unfold maxLen;omega,fun h=>absurd h (Nat.lt_irrefl 0)⟩,fun n hn=>by simp at hn⟩
 ·have hv':v=.slice (some a) len cap:=by simpa using hv
  have hlm:len<=m:=by rw [hmm];split <;> omega
  have each:∀i,i < len->∃q:α×(Nat->Value),(∀k,k < size->w.cell? ((a.add (i * size)).add k)=some (q.2 k))/\R w q.1 q.2/\Q q.1:=by
   intro i hi
   obtain⟨cs',h1,h2⟩:=hx i (by omega)
   rw [hc]at h1
   obtain⟨_,hlen,hcell⟩:=World.cells?_some h1
   obtain⟨x,hR,hQ⟩:=hel n cs' _ hlen h2
   refine⟨(x,fun k=>cs'.getD k undef),fun k hk=>?_,hR,hQ⟩
   rw [hcell k hk]
   simp [List.getD,List.getElem?_eq_getElem (show k < cs'.length by omega)]
  obtain⟨q,hq⟩:=choose_lt each
  have hlen:((List.range len).map fun i=>(q i).1).length=len:=by simp
  refine⟨(List.range len).map fun i=>(q i).1,some a,cap,by rw [hlen];exact hv',?_,?_⟩
  ·refine⟨some a,cap,rfl,by rw [hlen];exact hl,hm,fun hp=>?_⟩
   rw [hlen]at hp
   have h0:=(hq 0 hp).1 0 hpos
   have ha:a=⟨a.block,a.off,none⟩:=by
    have e0:(a.add (0 * size)).add 0=a:=by simp [Addr.add]
    rw [e0]at h0
    exact addr_plain h0
   refine⟨a.block,a.off,by rw [<-ha],fun j hj=>?_⟩
   have hj':j < len:=by simpa using hj
   refine⟨(q j).2,fun k hk=>?_,?_⟩
   ·have h1:=(hq j hj').1 k hk
    rw [ha,add_lit0,add_lit0]at h1
    exact h1
   ·simpa using (hq j hj').2.1
  ·intro x hxm
   obtain⟨i,hi,rfl⟩:=List.mem_map.1 hxm
   exact(hq i (List.mem_range.1 hi)).2.2
end
theorem cl3:Tryz.prog.cellsOf 3=1:=by kernel_rfl
theorem cl4:Tryz.prog.cellsOf 4=1:=by kernel_rfl
theorem cl5:Tryz.prog.cellsOf 5=1:=by kernel_rfl
theorem cl9:Tryz.prog.cellsOf 9=1:=by kernel_rfl
theorem cl22:Tryz.prog.cellsOf 22=1:=by kernel_rfl
theorem cl23:Tryz.prog.cellsOf 23=1:=by kernel_rfl
theorem cl24:Tryz.prog.cellsOf 24=1:=by kernel_rfl
theorem cl25:Tryz.prog.cellsOf 25=1:=by kernel_rfl
theorem cl26:Tryz.prog.cellsOf 26=1:=by kernel_rfl
theorem cl27:Tryz.prog.cellsOf 27=1:=by kernel_rfl
theorem cl28:Tryz.prog.cellsOf 28=1:=by kernel_rfl
theorem cl29:Tryz.prog.cellsOf 29=1:=by kernel_rfl
theorem cl31:Tryz.prog.cellsOf 31=13:=by kernel_rfl
theorem cl58:Tryz.prog.cellsOf 58=2:=by kernel_rfl
theorem cl60:Tryz.prog.cellsOf 60=2:=by kernel_rfl
theorem cl62:Tryz.prog.cellsOf 62=7:=by kernel_rfl
section
variable {H : Type} {enc : TypeId × Value → H} {w : World} {sp : Nat → Bool} {held : Bool}
instance:Inhabited Sf:=⟨⟨ByteArray.empty,0,0,0,0,0,0⟩⟩
theorem bool_of {fuel:Nat} {v:Value} {x:DataW H×List MemPlace} (h:DataW.trod enc Tryz.prog w 0 sp held fuel 4 [v]=some x):∃b,v=.bool b:=by
 cases fuel with
 | zero=>simp [DataW.trod]at h
 | succ n=>
   unfold DataW.trod at h
   rw [Tryz.underlying4]at h
   split at h <;> simp_all
theorem str_of {fuel:Nat} {v:Value} {x:DataW H×List MemPlace} (h:DataW.trod enc Tryz.prog w 0 sp held fuel 9 [v]=some x):∃s,v=.string s:=by
 obtain⟨s,h1,_⟩:=DataW.trod_string Tryz.underlying9 h
 exact⟨s,by simpa using h1⟩
theorem num_of {t:Nat} {k:IntKind} {fuel:Nat} {v:Value} {x:DataW H×List MemPlace} (ht:Tryz.prog.underlying t=some (.int k))(h:DataW.trod enc Tryz.prog w 0 sp held fuel t [v]=some x):∃n,v=.int k n/\(Lit.int k n).wf=true:=by
 obtain⟨n,h1,_,h3⟩:=DataW.trod_int ht h
 exact⟨n,by simpa using h1,h3⟩
theorem u32_wf {n:Int} (h:(Lit.int .u32 n).wf=true):0<=n/\n < 4294967296:=by
 simp only [Lit.wf,Bool.and_eq_true,decide_eq_true_eq]at h
 have e1:IntKind.u32.min=0:=rfl
 have e2:IntKind.u32.max=4294967295:=rfl
 omega
theorem i64_wf {n:Int} (h:(Lit.int .i64 n).wf=true): -9223372036854775808<=n/\n<=9223372036854775807:=by
 simp only [Lit.wf,Bool.and_eq_true,decide_eq_true_eq]at h
 have e1:IntKind.i64.min= -9223372036854775808:=rfl
 have e2:IntKind.i64.max=9223372036854775807:=rfl
 omega
theorem val_el (n:Nat)(cs':List Value)(y:DataW H×List MemPlace)(hl:cs'.length=2)(h:DataW.trod enc Tryz.prog w 0 sp held n 58 cs'=some y):∃x:Bool×List Int,isVal w x (fun k=>cs'.getD k undef)/\∀z∈x.2,0<=z/\z < 256:=by
 obtain⟨xs,m,_,_,_,hxl,hf⟩:=DataW.trod_struct Tryz.underlying58 h
 have hxl':xs.length=2:=hxl
 match cs',hl with
 | [c0,c1],_=>
   have u0:DataW.trod enc Tryz.prog w 0 sp held m 4 (([c0,c1].drop 0).take (Tryz.prog.cellsOf 4))=xs[0]?:=hf 0 _ rfl
   have u1:DataW.trod enc Tryz.prog w 0 sp held m 26 (([c0,c1].drop 1).take (Tryz.prog.cellsOf 26))=xs[1]?:=hf 1 _ rfl
   rw [List.getElem?_eq_getElem (by omega)]at u0 u1
   simp only [cl4,cl26,List.drop,List.take]at u0 u1
   obtain⟨b,rfl⟩:=bool_of u0
   obtain⟨zs,A,c,rfl,hr,hw⟩:=rdB_of Tryz.underlying26 Tryz.underlying5 cl5 u1
   exact⟨(b,zs),⟨rfl,A,c,rfl,hr⟩,hw⟩
theorem pr_el (n:Nat)(cs':List Value)(y:DataW H×List MemPlace)(hl:cs'.length=2)(h:DataW.trod enc Tryz.prog w 0 sp held n 60 cs'=some y):∃x:ByteArray×ByteArray,isPr w x (fun k=>cs'.getD k undef)/\True:=by
 obtain⟨xs,m,_,_,_,hxl,hf⟩:=DataW.trod_struct Tryz.underlying60 h
 have hxl':xs.length=2:=hxl
 match cs',hl with
 | [c0,c1],_=>
   have u0:DataW.trod enc Tryz.prog w 0 sp held m 9 (([c0,c1].drop 0).take (Tryz.prog.cellsOf 9))=xs[0]?:=hf 0 _ rfl
   have u1:DataW.trod enc Tryz.prog w 0 sp held m 9 (([c0,c1].drop 1).take (Tryz.prog.cellsOf 9))=xs[1]?:=hf 1 _ rfl
   rw [List.getElem?_eq_getElem (by omega)]at u0 u1
   simp only [cl9,List.drop,List.take]at u0 u1
   obtain⟨s0,rfl⟩:=str_of u0
   obtain⟨s1,rfl⟩:=str_of u1
   exact⟨(s0,s1),⟨rfl,rfl⟩,trivial⟩
theorem fld_el (n:Nat)(cs':List Value)(y:DataW H×List MemPlace)(hl:cs'.length=7)(h:DataW.trod enc Tryz.prog w 0 sp held n 62 cs'=some y):∃x:Sf,isSf w x (fun k=>cs'.getD k undef)/\0<=x.tab/\x.tab < 4294967296/\0<=x.typ/\x.typ < 4294967296:=by
 obtain⟨xs,m,_,_,_,hxl,hf⟩:=DataW.trod_struct Tryz.underlying62 h
 have hxl':xs.length=7:=hxl
 match cs',hl with
 | [c0,c1,c2,c3,c4,c5,c6],_=>
   have u0:DataW.trod enc Tryz.prog w 0 sp held m 9 (([c0,c1,c2,c3,c4,c5,c6].drop 0).take (Tryz.prog.cellsOf 9))=xs[0]?:=hf 0 _ rfl
   have u1:DataW.trod enc Tryz.prog w 0 sp held m 22 (([c0,c1,c2,c3,c4,c5,c6].drop 1).take (Tryz.prog.cellsOf 22))=xs[1]?:=hf 1 _ rfl
   have u2:DataW.trod enc Tryz.prog w 0 sp held m 3 (([c0,c1,c2,c3,c4,c5,c6].drop 2).take (Tryz.prog.cellsOf 3))=xs[2]?:=hf 2 _ rfl
   have u3:DataW.trod enc Tryz.prog w 0 sp held m 22 (([c0,c1,c2,c3,c4,c5,c6].drop 3).take (Tryz.prog.cellsOf 22))=xs[3]?:=hf 3 _ rfl
   have u4:DataW.trod enc Tryz.prog w 0 sp held m 3 (([c0,c1,c2,c3,c4,c5,c6].drop 4).take (Tryz.prog.cellsOf 3))=xs[4]?:=hf 4 _ rfl
   have u5:DataW.trod enc Tryz.prog w 0 sp held m 3 (([c0,c1,c2,c3,c4,c5,c6].drop 5).take (Tryz.prog.cellsOf 3))=xs[5]?:=hf 5 _ rfl
   have u6:DataW.trod enc Tryz.prog w 0 sp held m 3 (([c0,c1,c2,c3,c4,c5,c6].drop 6).take (Tryz.prog.cellsOf 3))=xs[6]?:=hf 6 _ rfl
   rw [List.getElem?_eq_getElem (by omega)]at u0 u1 u2 u3 u4 u5 u6
   simp only [cl9,cl22,cl3,List.drop,List.take]at u0 u1 u2 u3 u4 u5 u6
   obtain⟨s0,rfl⟩:=str_of u0
   obtain⟨n1,rfl,w1⟩:=num_of Tryz.underlying22 u1
   obtain⟨n2,rfl,w2⟩:=num_of Tryz.underlying3 u2
   obtain⟨n3,rfl,w3⟩:=num_of Tryz.underlying22 u3
   obtain⟨n4,rfl,w4⟩:=num_of Tryz.underlying3 u4
   obtain⟨n5,rfl,w5⟩:=num_of Tryz.underlying3 u5
   obtain⟨n6,rfl,w6⟩:=num_of Tryz.underlying3 u6
   have a1:=u32_wf w1
   have a3:=u32_wf w3
   exact⟨⟨s0,n1,n2,n3,n4,n5,n6⟩,⟨rfl,rfl,rfl,rfl,rfl,rfl,rfl⟩,a1.1,a1.2,a3.1,a3.2⟩
theorem rdS_of {fuel:Nat} {v:Value} {x:DataW H×List MemPlace} (h:DataW.trod enc Tryz.prog w 0 sp held fuel 27 [v]=some x):∃(l:List ByteArray) (A:Option Addr) (c:Nat),v=.slice A l.length c/\Rd1 isStr w (.slice A l.length c) l:=by
 rcases open_strings Tryz.underlying27 Tryz.underlying9 cl9 h with ⟨hv,_⟩|⟨a,len,cap,ss,hv,_,hl,hm,hz,_,hcell,_⟩
 ·have hv':v=.slice none 0 0:=by simpa using hv
  exact⟨[],none,0,hv',⟨none,0,rfl,Nat.le_refl _,by unfold maxLen;omega,fun h=>absurd h (Nat.lt_irrefl 0)⟩⟩
 ·have hv':v=.slice (some a) len cap:=by simpa using hv
  have hle:len<=ss.length:=by rw [hz];split <;> omega
  have hlen:(ss.take len).length=len:=by simp;omega
  refine⟨ss.take len,some a,cap,by rw [hlen];exact hv',?_⟩
  refine⟨some a,cap,rfl,by rw [hlen];exact hl,hm,fun hp=>?_⟩
  rw [hlen]at hp
  have h0:=hcell 0 (by omega)
  have ha:a=⟨a.block,a.off,none⟩:=by
   have e0:a.add 0=a:=by simp [Addr.add]
   rw [e0]at h0
   exact addr_plain h0
  refine⟨a.block,a.off,by rw [<-ha],fun j hj=>?_⟩
  have hj':j < len:=by rw [hlen]at hj;exact hj
  have h1:=hcell j (by omega)
  rw [ha,add_lit0]at h1
  refine⟨_,h1,?_⟩
  show Value.string _=Value.string _
  congr 1
  simp [List.getD,List.getElem?_eq_getElem (show j < ss.length by omega)]
structure MsgIn (w:World) (v:Value) (a b:ByteArray) (kd n mm:Int) (A5 A6 A7 A8 A9 A10 A11 A12:Option Addr) (c5 c6 c7 c8 c9 c10 c11 c12:Nat) (lf lr ty d:List Int) (vls:List (Bool×List Int)) (ws:List ByteArray) (ps:List (ByteArray×ByteArray)) (fs:List Sf):Prop where
 val:v=.agg #[.int .i64 kd,.string a,.string b,.int .u32 n,.int .u32 mm,.slice A5 lf.length c5,.slice A6 lr.length c6,.slice A7 ty.length c7,.slice A8 vls.length c8,.slice A9 d.length c9,.slice A10 ws.length c10,.slice A11 ps.length c11,.slice A12 fs.length c12]
 rf:RdI .i64 w (.slice A5 lf.length c5) lf
 rr:RdI .i64 w (.slice A6 lr.length c6) lr
 rt:RdI .u32 w (.slice A7 ty.length c7) ty
 rv:RdM 2 isVal w (.slice A8 vls.length c8) vls
 rd:RdB w (.slice A9 d.length c9) d
 rw:Rd1 isStr w (.slice A10 ws.length c10) ws
 rp:RdM 2 isPr w (.slice A11 ps.length c11) ps
 rl:RdM 7 isSf w (.slice A12 fs.length c12) fs
 n:0<=n/\n < 4294967296
 kd: -9223372036854775808<=kd/\kd<=9223372036854775807
 ty:∀y∈ty,0<=y/\y < 4294967296
 d:∀y∈d,0<=y/\y < 256
 vls:∀x∈vls,∀z∈x.2,0<=z/\z < 256
 fs:∀x∈fs,0<=x.tab/\x.tab < 4294967296/\0<=x.typ/\x.typ < 4294967296
theorem open_msg {base:Nat} {v:Value} {dd:DataW H} {pp:List MemPlace} (hok:Value.okWide Tryz.prog w .any base 31 v)(hT:DataW.Trod enc Tryz.prog w 0 sp held 31 v dd pp):
 ∃a b kd n mm A5 A6 A7 A8 A9 A10 A11 A12 c5 c6 c7 c8 c9 c10 c11 c12 lf lr ty d vls ws ps fs,MsgIn w v a b kd n mm A5 A6 A7 A8 A9 A10 A11 A12 c5 c6 c7 c8 c9 c10 c11 c12 lf lr ty d vls ws ps fs:=by
 obtain⟨fuel,hv⟩:=hT
 obtain⟨xs,m,_,_,hl,hxl,hf⟩:=DataW.trod_struct Tryz.underlying31 hv
 have hxl':xs.length=13:=hxl
 rw [cl31]at hl
 obtain⟨cs,rfl,_⟩:=okWide_struct Tryz.underlying31 hok
 obtain⟨l⟩:=cs
 have hl':l.length=13:=hl
 match l,hl' with
 | [g0,g1,g2,g3,g4,g5,g6,g7,g8,g9,g10,g11,g12],_=>
   have u0:DataW.trod enc Tryz.prog w 0 sp held m 3 (([g0,g1,g2,g3,g4,g5,g6,g7,g8,g9,g10,g11,g12].drop 0).take (Tryz.prog.cellsOf 3))=xs[0]?:=hf 0 _ rfl
   have u1:DataW.trod enc Tryz.prog w 0 sp held m 9 (([g0,g1,g2,g3,g4,g5,g6,g7,g8,g9,g10,g11,g12].drop 1).take (Tryz.prog.cellsOf 9))=xs[1]?:=hf 1 _ rfl
   have u2:DataW.trod enc Tryz.prog w 0 sp held m 9 (([g0,g1,g2,g3,g4,g5,g6,g7,g8,g9,g10,g11,g12].drop 2).take (Tryz.prog.cellsOf 9))=xs[2]?:=hf 2 _ rfl
   have u3:DataW.trod enc Tryz.prog w 0 sp held m 22 (([g0,g1,g2,g3,g4,g5,g6,g7,g8,g9,g10,g11,g12].drop 3).take (Tryz.prog.cellsOf 22))=xs[3]?:=hf 3 _ rfl
   have u4:DataW.trod enc Tryz.prog w 0 sp held m 22 (([g0,g1,g2,g3,g4,g5,g6,g7,g8,g9,g10,g11,g12].drop 4).take (Tryz.prog.cellsOf 22))=xs[4]?:=hf 4 _ rfl
   have u5:DataW.trod enc Tryz.prog w 0 sp held m 23 (([g0,g1,g2,g3,g4,g5,g6,g7,g8,g9,g10,g11,g12].drop 5).take (Tryz.prog.cellsOf 23))=xs[5]?:=hf 5 _ rfl
   have u6:DataW.trod enc Tryz.prog w 0 sp held m 23 (([g0,g1,g2,g3,g4,g5,g6,g7,g8,g9,g10,g11,g12].drop 6).take (Tryz.prog.cellsOf 23))=xs[6]?:=hf 6 _ rfl
   have u7:DataW.trod enc Tryz.prog w 0 sp held m 24 (([g0,g1,g2,g3,g4,g5,g6,g7,g8,g9,g10,g11,g12].drop 7).take (Tryz.prog.cellsOf 24))=xs[7]?:=hf 7 _ rfl
   have u8:DataW.trod enc Tryz.prog w 0 sp held m 25 (([g0,g1,g2,g3,g4,g5,g6,g7,g8,g9,g10,g11,g12].drop 8).take (Tryz.prog.cellsOf 25))=xs[8]?:=hf 8 _ rfl
   have u9:DataW.trod enc Tryz.prog w 0 sp held m 26 (([g0,g1,g2,g3,g4,g5,g6,g7,g8,g9,g10,g11,g12].drop 9).take (Tryz.prog.cellsOf 26))=xs[9]?:=hf 9 _ rfl
   have u10:DataW.trod enc Tryz.prog w 0 sp held m 27 (([g0,g1,g2,g3,g4,g5,g6,g7,g8,g9,g10,g11,g12].drop 10).take (Tryz.prog.cellsOf 27))=xs[10]?:=hf 10 _ rfl
   have u11:DataW.trod enc Tryz.prog w 0 sp held m 28 (([g0,g1,g2,g3,g4,g5,g6,g7,g8,g9,g10,g11,g12].drop 11).take (Tryz.prog.cellsOf 28))=xs[11]?:=hf 11 _ rfl
   have u12:DataW.trod enc Tryz.prog w 0 sp held m 29 (([g0,g1,g2,g3,g4,g5,g6,g7,g8,g9,g10,g11,g12].drop 12).take (Tryz.prog.cellsOf 29))=xs[12]?:=hf 12 _ rfl
   rw [List.getElem?_eq_getElem (by omega)]at u0 u1 u2 u3 u4 u5 u6 u7 u8 u9 u10 u11 u12
   simp only [Value.cells,cl3,cl9,cl22,cl23,cl24,cl25,cl26,cl27,cl28,cl29,List.drop,List.take]at u0 u1 u2 u3 u4 u5 u6 u7 u8 u9 u10 u11 u12
   obtain⟨kd,rfl,w0⟩:=num_of Tryz.underlying3 u0
   obtain⟨a,rfl⟩:=str_of u1
   obtain⟨b,rfl⟩:=str_of u2
   obtain⟨n,rfl,w3⟩:=num_of Tryz.underlying22 u3
   obtain⟨mm,rfl,w4⟩:=num_of Tryz.underlying22 u4
   obtain⟨lf,A5,c5,rfl,r5,_⟩:=rdI_of Tryz.underlying23 Tryz.underlying3 cl3 u5
   obtain⟨lr,A6,c6,rfl,r6,_⟩:=rdI_of Tryz.underlying23 Tryz.underlying3 cl3 u6
   obtain⟨ty,A7,c7,rfl,r7,w7⟩:=rdI_of Tryz.underlying24 Tryz.underlying22 cl22 u7
   obtain⟨vls,A8,c8,rfl,r8,w8⟩:=rdM_in (by decide) Tryz.underlying25 cl58 (Q:=fun x:Bool×List Int=>∀z∈x.2,0<=z/\z < 256) (R:=isVal) val_el u8
   obtain⟨d,A9,c9,rfl,r9,w9⟩:=rdB_of Tryz.underlying26 Tryz.underlying5 cl5 u9
   obtain⟨ws,A10,c10,rfl,r10⟩:=rdS_of u10
   obtain⟨ps,A11,c11,rfl,r11,_⟩:=rdM_in (by decide) Tryz.underlying28 cl60 (Q:=fun x:ByteArray×ByteArray=>True) (R:=isPr) pr_el u11
   obtain⟨fs,A12,c12,rfl,r12,w12⟩:=rdM_in (by decide) Tryz.underlying29 cl62 (Q:=fun x:Sf=>0<=x.tab/\x.tab < 4294967296/\0<=x.typ/\x.typ < 4294967296) (R:=isSf) fld_el u12
   exact⟨a,b,kd,n,mm,A5,A6,A7,A8,A9,A10,A11,A12,c5,c6,c7,c8,c9,c10,c11,c12,lf,lr,ty,d,vls,ws,ps,fs,rfl,r5,r6,r7,r8,r9,r10,r11,r12,u32_wf w3,i64_wf w0,fun y hy=>u32_wf (w7 y hy),w9,w8,w12⟩
end
open Go.RowKit Go.Maps Go.Sort
theorem lawS:Keyed Tryz.prog 9:=string_keyed Tryz.underlying9
theorem info9s:(Tryz.prog.info? 9).map (fun i=>(i.zero,i.size,i.bytes))=some (some (.string ⟨#[]⟩),1,16):=by kernel_rfl
def SortS:Prop:=∀(blk off cap:Nat) (ss:List (List UInt8)) (w:World),Holds encStr w blk off ss.toArray->blk < w.heap.size->ss.length < 4611686018427387904->
    Calls Tryz.prog 195 #[.slice (some ⟨blk,off,none⟩) ss.length cap] w fun e w'=>e=.returned (.tuple #[])/\∃n os,w'=grow (putRow encStr (Sort.ahead w n) blk off (ss.mergeSort fun x y=>decide (x<=y)).toArray) os
theorem names193 (hsort:SortS)(D0:DataW Unit)(b n:Nat)(w:World)(hown:w.ownsMap Tryz.prog 9 (plainElem Tryz.prog 9) b n D0)(hpos:strKeys D0≠[])(hmax:Maps.size D0<=1000):
 Calls Tryz.prog 193 #[.map (some b)] w fun e w'=>∃(g cap:Nat) (ss:List (List UInt8)),e=.returned (.slice (some ⟨g,0,none⟩) ss.length cap)/\ss.Perm (strKeys D0)/\
  w'.ownsRow w.heap.size 9 1 (.slice (some ⟨g,0,none⟩) ss.length cap) ss.length ((ss.mergeSort (fun x y=>decide (x<=y))).map encStr)/\Below w.heap.size w w':=by
 obtain⟨i0,hi,hz0,hz1,hz2⟩:=info_parts info9s
 have hbl:=hown.lt
 have HS:=zh hsort
 clear hsort
 go_enter Tryz.func193,Tryz.ntmps193
 go_wp2_with (first
  | (at_range;refine wpList_range_own _ rfl _ 150 rfl 9 9 lawS Tryz.underlying150 _ b n _ rfl hown ?_;intro w0 hrg0 hg0 hs0)
  | go_in)
 go_frame
 go_loopw [3] (fun v wr=>∃(left:Lit->Bool) (cnt:Nat) (ss:List (List UInt8)),wr.ranges Tryz.prog 9 (plainElem Tryz.prog 9) b w.heap.size n D0 left cnt/\ss.length+cnt<=Maps.size D0/\
  wr.ownsRow w.heap.size 9 1 v ss.length (ss.map encStr)/\Collected D0 left ss/\Below w.heap.size w wr)
  (fun _ wr=>wr.rangeLeft b w.heap.size)
 case atStart=>
  exact⟨_,_,[],hrg0,by simp,World.ownsRow_nil _ _ _ _,Collected.start D0,(Below.refl _ _).grown hg0 (Nat.le_refl _) (fun j hj=>by cases hj)⟩
 case round=>
  obtain⟨left,cnt,ss,hrg,hcs,hrow,hC,hnx⟩:=hrel
  go_wp2_with (first
   | (at_next;refine wpList_next_ranges _ rfl _ rfl 9 lawS (plainElem Tryz.prog 9) encStr (Value.string) (fun key kl hk=>by obtain⟨x,hx,_⟩:=Maps.keyOf_str Tryz.underlying9 hk;exact⟨x,hx⟩) (fun v y hv=>by obtain⟨c,rfl,_⟩:=plainElem_string_inv Tryz.underlying9 hv;exact⟨c,rfl⟩) b w.heap.size n _ _ _ rfl hrg ?_ ?_)
   | go_in)
  ·intro hc0 hl0
   have hP:=hC.perm hown lawS Tryz.underlying9 hl0
   rcases hrow.2 with ⟨hnil,hn0⟩|⟨g,cap,cur,rfl,hbase,hb,h1,h2,h3,h4⟩
   ·exfalso
    have hss:ss=[]:=List.eq_nil_of_length_eq_zero hn0
    rw [hss]at hP
    exact hpos (List.perm_nil.1 hP.symm)
   have hH:Holds encStr wr g 0 ss.toArray:=holds_of_block hb (by simpa using h4)
   have hgl:g < wr.heap.size:=(Array.getElem?_eq_some_iff.1 hb).1
   have hc:=zh (HS.out g 0 cap ss wr hH hgl (by omega))
   have HF:=zh (And.intro hP (And.intro (fun (n:Nat) (os:Array Obj)=>ownsRow_sorted (os:=os) (n:=n) (ts:=ss.mergeSort (fun x y=>decide (x<=y))) (by simp) hbase hb h1 h2 h3) (fun (n:Nat) (os:Array Obj)=>hnx.grown (grownBy_sorted (n:=n) (os:=os) (ss.mergeSort (fun x y=>decide (x<=y))).toArray) hnx.size (fun j hj=>by cases hj;exact hbase))))
   clear hP hH hgl hrow hb h1 h2 h3 h4
   go_wp2_with (go_at_call 195;refine hc.out.mono ?_;rintro e w' ⟨rfl,nn,os,rfl⟩)
   go_ret
   exact⟨g,cap,ss,rfl,HF.out.1,HF.out.2.1 nn os,HF.out.2.2 nn os⟩
  ·intro x c kl yd yp w2 cnt2 hkey hlk hv hat hrg2 hlt hg2 hs2 hen
   obtain⟨x',ex,rfl,_⟩:=Maps.keyOf_str Tryz.underlying9 hkey
   obtain rfl:x=x':=encStr_inj ex
   have hrow2:=hrow.kept hg2 (Or.inr (row_ne_iter hrow hrg).symm)
   clear hs2
   go_wp2_with (first
    | (at_builtin;refine wpList_append_own _ rfl _ _ 27 rfl w.heap.size 9 i0 (.string ⟨#[]⟩) 1 16 Tryz.underlying27 hi hz0 hz1 hz2 rfl (by decide) _ _ _ rfl (hrow2.alloc _) ⟨w2.heap.size,0,none⟩ 1 1 [encStr x] rfl rfl (cell_one_new _ _ _) (by simp [Value.oneCell',encStr]) (by unfold maxLen;omega) (by omega) (by have:=hnx.size;have:=hg2.size;simp;omega) ?_;intro v' w3 hown' hg3 hnil3;go_frame)
    | go_in)
   have hrg3:=(hrg2.alloc _).kept hg3 (row_ne_low hrow2 hbl) (row_ne_iter hrow2 hrg2)
   go_roundw
   case rel=>
    refine⟨_,cnt2,ss++ [x],hrg3,by simp;omega,by simpa using hown',hC.step hlk hat,?_⟩
    exact((hnx.grown hg2 hnx.size (fun j hj=>by cases hj;exact Nat.le_refl _)).alloc (by have:=hnx.size;have:=hg2.size;omega) _).grown hg3 (by have:=hnx.size;have:=hg2.size;simp;omega) (fun j hj=>(hrow2.lt j hj).1)
   case measure=>rw [hrg3.left_eq,hrg.left_eq];exact hlt
def kb (s:ByteArray):List UInt8:=s.data.toList
def mapFrom (D:DataW Unit) (ps:List (ByteArray×ByteArray)):DataW Unit:=ps.foldl (fun D p=>D.put (.string (kb p.1)) (.lit (.string (kb p.2)))) D
def mapOf (ps:List (ByteArray×ByteArray)):DataW Unit:=mapFrom (.map []) ps
theorem mapOf_snoc (ps:List (ByteArray×ByteArray))(p:ByteArray×ByteArray):mapOf (ps++ [p])=(mapOf ps).put (.string (kb p.1)) (.lit (.string (kb p.2))):=by
 simp [mapOf,mapFrom,List.foldl_append]
theorem has_from:∀(ps:List (ByteArray×ByteArray)) (D:DataW Unit),IsMap D->∀x,has (mapFrom D ps) (.string x)=(has D (.string x) || ps.any fun p=>kb p.1 == x)
 | [],D,h,x=>by simp [mapFrom]
 | p :: ps,D,h,x=>by
   have h1:=has_from ps (D.put (.string (kb p.1)) (.lit (.string (kb p.2)))) (h.put _ _) x
   show has (mapFrom (D.put _ _) ps) _=_
   rw [h1]
   by_cases e:kb p.1=x
   ·subst e
    rw [has_put_same h (show WideAt.IsKeyLit (.string (kb p.1))from trivial)]
    simp
   ·rw [has_put_other (by simpa using Ne.symm e)]
    have e2:(kb p.1 == x)=false:=beq_eq_false_iff_ne.2 e
    simp [e2]
theorem at_from_old:∀(ps:List (ByteArray×ByteArray)) (D:DataW Unit) (x:List UInt8),(∀p∈ps,kb p.1≠x)->∀z,(mapFrom D ps).atKey (.string x) z=D.atKey (.string x) z
 | [],D,x,_,z=>rfl
 | p :: ps,D,x,h,z=>by
   show(mapFrom (D.put _ _) ps).atKey _ _=_
   rw [at_from_old ps _ x (fun q hq=>h q (by simp [hq])) z,atKey_put_other (by simpa using Ne.symm (h p (by simp)))]
theorem at_from:∀(ps:List (ByteArray×ByteArray)) (D:DataW Unit),IsMap D->ps.Pairwise (fun p q=>kb p.1≠kb q.1)->∀p∈ps,∀z,(mapFrom D ps).atKey (.string (kb p.1)) z=.lit (.string (kb p.2))
 | [],D,_,_,p,hp,z=>by simp at hp
 | q :: ps,D,h,hpw,p,hp,z=>by
   show(mapFrom (D.put _ _) ps).atKey _ _=_
   obtain⟨h1,h2⟩:=List.pairwise_cons.1 hpw
   rcases List.mem_cons.1 hp with rfl|hp
   ·rw [at_from_old ps _ _ (fun r hr=>Ne.symm (h1 r hr)),atKey_put_same h (show WideAt.IsKeyLit (.string (kb p.1))from trivial)]
   ·exact at_from ps _ (h.put _ _) h2 p hp z
def Srt (ps:List (ByteArray×ByteArray)):Prop:=ps.Pairwise fun p q=>kb p.1 < kb q.1
theorem Srt.ne {ps:List (ByteArray×ByteArray)} (h:Srt ps):ps.Pairwise (fun p q=>kb p.1≠kb q.1):=h.imp fun {p q} hl e=>by
 rw [e]at hl
 exact List.lt_irrefl _ hl
theorem srt_of (ps:List (ByteArray×ByteArray))(h:∀j (h:j+1 < ps.length),Op.bytesLess ps[j].1.toList ps[j+1].1.toList=true):Srt ps:=by
 have hadj:∀j (h:j+1 < ps.length),kb ps[j].1 < kb ps[j+1].1:=by
  intro j hj
  have h1:=h j hj
  rw [bytesLess_eq,ByteArray.toList_eq,ByteArray.toList_eq]at h1
  exact of_decide_eq_true h1
 refine List.pairwise_iff_getElem.2 fun i j hi hj hij=>?_
 induction j with
 | zero=>omega
 | succ j ih=>
   by_cases e:i=j
   ·subst e;exact hadj i hj
   ·exact List.lt_trans (ih (by omega) (by omega)) (hadj j hj)
theorem names_of {ps:List (ByteArray×ByteArray)} (h:Srt ps) {b n:Nat} {w:World} (hown:w.ownsMap Tryz.prog 9 (plainElem Tryz.prog 9) b n (mapOf ps)) {ss:List (List UInt8)} (hp:ss.Perm (strKeys (mapOf ps))):(ss.mergeSort fun x y=>decide (x<=y))=ps.map fun p=>kb p.1:=by
 have hn:(ps.map fun p=>kb p.1).Nodup:=List.pairwise_map.2 h.ne
 have hC:Collected (mapOf ps) (fun _=>false) (ps.map fun p=>kb p.1):=by
  refine⟨hn,fun x=>?_⟩
  rw [show has (mapOf ps) (.string x)=_ from has_from ps _ isMap_empty x]
  simp [has_eq,List.any_eq_true]
 have h1:=hp.trans (hC.perm hown lawS Tryz.underlying9 fun _=>rfl).symm
 have h2:=mergeSort_of_perm h1
 have h3:(ps.map fun p=>kb p.1).Pairwise fun x y=>leB x y=true:=List.pairwise_map.2 (h.imp fun {p q} hl=>by
  simp only [leB,decide_eq_true_eq]
  exact List.le_of_lt hl)
 have h4:=List.mergeSort_of_pairwise h3
 rw [h4]at h2
 exact h2
open Go.RowKit Go.Maps Og
def rdP (eb:Nat):Value->Option (DataW Unit×List MemPlace)
 | .pointer none=>some (.nil,[])
 | .pointer (some ⟨b,j,none⟩)=>if b=eb then some (.lit (.int .i64 j),[])else none
 | _=>none
theorem rdP_at (eb j:Nat):rdP eb (.pointer (some ⟨eb,j,none⟩))=some (.lit (.int .i64 j),[]):=if_pos rfl
theorem rdP_lit {eb:Nat} {v:Value} {j:Nat} {ps:List MemPlace} (h:rdP eb v=some (.lit (.int .i64 j),ps)):v=.pointer (some ⟨eb,j,none⟩):=by
 unfold rdP at h
 split at h
 ·cases h
 ·rename_i b k
  split at h
  ·rename_i e
   subst e
   simp only [Option.some.injEq,Prod.mk.injEq,DataW.lit.injEq,Lit.int.injEq,true_and]at h
   have:k=j:=by omega
   rw [this]
  ·cases h
 ·cases h
theorem rdP_nil {eb:Nat} {v:Value} {ps:List MemPlace} (h:rdP eb v=some (.nil,ps)):v=.pointer none:=by
 unfold rdP at h
 split at h
 ·rfl
 ·split at h
  ·cases h
  ·cases h
 ·cases h
def pick (L:Nat->Bool) (c:Int) (z:DataW Unit):List (Nat×Int×Nat)->DataW Unit
 | []=>z
 | e :: r=>if (L e.1 && e.2.1 == c)=true then .lit (.int .i64 e.2.2)else pick L c z r
def Apart (tab:List (Nat×Int×Nat)):Prop:=tab.Pairwise fun e f=>e.1≠f.1/\e.2.1≠f.2.1
theorem pick_off {L:Nat->Bool} {c:Int} {z:DataW Unit} {i:Nat} :∀{tab:List (Nat×Int×Nat)},(∀e∈tab,e.1≠i)->pick (updB L i) c z tab=pick L c z tab
 | [],_=>rfl
 | e :: r,h=>by
   have h1:updB L i e.1=L e.1:=by
    have:=h e (by simp)
    simp [updB,this]
   unfold pick
   rw [h1,pick_off (fun f hf=>h f (by simp [hf]))]
theorem pick_upd {L:Nat->Bool} {c:Int} {z:DataW Unit} {e:Nat×Int×Nat} :∀{tab:List (Nat×Int×Nat)},Apart tab->e∈tab->pick (updB L e.1) c z tab=if e.2.1=c then .lit (.int .i64 e.2.2)else pick L c z tab
 | [],_,h=>by simp at h
 | f :: r,ha,h=>by
   obtain⟨h1,h2⟩:=List.pairwise_cons.1 ha
   rcases List.mem_cons.1 h with rfl|h
   ·unfold pick
    rw [pick_off (fun g hg=>Ne.symm (h1 g hg).1)]
    have e1:updB L e.1 e.1=true:=by simp [updB]
    rw [e1]
    by_cases e2:e.2.1=c
    ·simp [e2]
    ·have e3:(e.2.1 == c)=false:=beq_eq_false_iff_ne.2 e2
     simp [e2,e3]
   ·have hne:=h1 e h
    have e1:updB L e.1 f.1=L f.1:=by simp [updB,hne.1]
    unfold pick
    rw [e1,pick_upd h2 h]
    by_cases e2:e.2.1=c
    ·have e3:(f.2.1 == c)=false:=beq_eq_false_iff_ne.2 (fun e4=>hne.2 (e4.trans e2.symm))
     simp [e2,e3]
    ·simp [e2]
theorem pick_none {c:Int} {z:DataW Unit} :∀{tab:List (Nat×Int×Nat)} {L:Nat->Bool},(∀e∈tab,L e.1=false)->pick L c z tab=z
 | [],_,_=>rfl
 | e :: r,L,h=>by
   unfold pick
   rw [h e (by simp),pick_none (fun f hf=>h f (by simp [hf]))]
   simp
def doneN (L:Nat->Bool):Nat:=(List.range 100).countP L
theorem count_upd {L:Nat->Bool} {i:Nat} (h:L i=false):∀l:List Nat,l.countP (updB L i)≥l.countP L+(if i∈l then 1 else 0)
 | []=>by simp
 | a :: r=>by
   have h1:=count_upd h r
   by_cases e:a=i
   ·subst e
    have e1:updB L a a=true:=by simp [updB]
    rw [List.countP_cons_of_pos e1,List.countP_cons_of_neg (by simp [h])]
    simp
    have:=List.countP_mono_left (l:=r) (p:=L) (q:=updB L a) (fun x _ hx=>by simp [updB,hx])
    omega
   ·have e1:updB L i a=L a:=by simp [updB,e]
    have e2:(i∈a :: r)↔i∈r:=by simp [Ne.symm e]
    rw [List.countP_cons,List.countP_cons,e1]
    simp only [e2]
    omega
theorem doneN_upd {L:Nat->Bool} {i:Nat} (h:L i=false)(hi:i < 100):doneN L+1<=doneN (updB L i):=by
 have h1:=count_upd h (List.range 100)
 rw [if_pos (List.mem_range.2 hi)]at h1
 exact h1
theorem doneN_mono {L:Nat->Bool} {i:Nat} :doneN L<=doneN (updB L i):=List.countP_mono_left fun x _ hx=>by simp [updB,hx]
theorem doneN_le {L:Nat->Bool} :doneN L<=100:=by
 have:=List.countP_le_length (p:=L) (l:=List.range 100)
 simpa [doneN]using this
def MapOwn (eb:Nat) (tab:List (Nat×Int×Nat)) (L:Nat->Bool) (b:Nat) (w:World):Prop:=
 ∃n D,n<=doneN L/\w.ownsMap Tryz.prog 5 (rdP eb) b n D/\IsMap D/\∀(c:Int) (z:DataW Unit),D.atKey (.int .u8 c) z=pick L c z tab
theorem lawB:Keyed Tryz.prog 5:=int_keyed Tryz.underlying5
theorem MapOwn.start {eb:Nat} {tab:List (Nat×Int×Nat)} {L:Nat->Bool} (w:World)(h:∀e∈tab,L e.1=false):MapOwn eb tab L w.heap.size (w.alloc (.map #[] 0)):=
 ⟨0,.map [],Nat.zero_le _,World.ownsMap_made w _ _ _,isMap_empty,fun c z=>by rw [pick_none h];rfl⟩
theorem MapOwn.off {eb:Nat} {tab:List (Nat×Int×Nat)} {L:Nat->Bool} {b:Nat} {w:World} (h:MapOwn eb tab L b w)(i:Nat)(hi:∀e∈tab,e.1≠i):MapOwn eb tab (updB L i) b w:=by
 obtain⟨n,D,h1,h2,h3,h4⟩:=h
 exact⟨n,D,Nat.le_trans h1 doneN_mono,h2,h3,fun c z=>by rw [pick_off hi];exact h4 c z⟩
theorem keyB {c:Int} (h:0<=c/\c < 256):keyOf Tryz.prog 5 (.int .u8 c)=some (.int .u8 c):=by
 rw [keyOf_int Tryz.underlying5]
 have hw:(Lit.int .u8 c).wf=true:=by
  show(decide ((0:Int)<=c) && decide (c<=255))=true
  simp;omega
 simp [mapKey,Tryz.underlying5,hw]
theorem MapOwn.put {eb:Nat} {tab:List (Nat×Int×Nat)} {L:Nat->Bool} {b:Nat} {w:World} (h:MapOwn eb tab L b w) {t et:TypeId} (ht:Tryz.prog.underlying t=some (.map 5 et))(ha:Apart tab) {e:Nat×Int×Nat} (he:e∈tab)(hL:L e.1=false)(hi:e.1 < 100)(hc:0<=e.2.1/\e.2.1 < 256):
 ∃w',(Instr.mapUpdate t (.map (some b)) (.int .u8 e.2.1) (.pointer (some ⟨eb,e.2.2,none⟩))).run Tryz.prog w=.ok () w'/\MapOwn eb tab (updB L e.1) b w'/\w.grownBy w' (some b):=by
 obtain⟨n,D,h1,h2,h3,h4⟩:=h
 obtain⟨w',hr,ho,hg⟩:=h2.update lawB ht (by have:=doneN_le (L:=L);unfold maxLen;omega) (keyB hc) (rdP_at eb e.2.2)
 refine⟨w',hr,⟨n+1,_,Nat.le_trans (by omega) (doneN_upd hL hi),ho,h3.put _ _,fun c z=>?_⟩,hg⟩
 rw [pick_upd ha he]
 by_cases e2:e.2.1=c
 ·subst e2
  rw [if_pos rfl,atKey_put_same h3 (show WideAt.IsKeyLit (.int .u8 e.2.1)from trivial)]
 ·rw [if_neg e2,atKey_put_other (by simpa using Ne.symm e2),h4]
theorem wp_ins {ops:Array Oper} {rest:List Oper} {o:Oper} {a:Act} {Q:Exit->Act->World->Prop} {w:World} {eb:Nat} {tab:List (Nat×Int×Nat)} {L:Nat->Bool} {b:Nat} (h:MapOwn eb tab L b w)(hg:o.guard=none)(m x v:Operand)(t et:TypeId)(hop:o.op=Op.insert t m x v)(ht:Tryz.prog.underlying t=some (.map 5 et))(ha:Apart tab) {i:Nat} {c:Int} {j:Nat} (he:(i,c,j)∈tab)(hL:L i=false)(hi:i < 100)(hc:0<=c/\c < 256)
 (hm:a.eval m=.map (some b)) (hx:a.eval x=.int .u8 c) (hv:a.eval v=.pointer (some ⟨eb,j,none⟩))
 (hK:∀w',MapOwn eb tab (updB L i) b w'->w.grownBy w' (some b)->wpList Tryz.prog ops Q rest (a.put o.dst undef) w'):wpList Tryz.prog ops Q (o :: rest) a w:=by
 refine wpList_plain hg fun K' hK'=>?_
 obtain⟨w',hrun,r1,r2⟩:=h.put ht ha he hL hi hc
 unfold Oper.wp
 simp [execOp,hop,hm,hx,hv,hrun,Result.andThen]
 exact hK' _ _ (hK w' r1 r2)
theorem MapOwn.look {eb:Nat} {tab:List (Nat×Int×Nat)} {L:Nat->Bool} {b:Nat} {w:World} (h:MapOwn eb tab L b w) {t et:TypeId} (ht:Tryz.prog.underlying t=some (.map 5 et))(hz:(zeroValue et).run Tryz.prog w=.ok (.pointer none) w) {c:Int} (hc:0<=c/\c < 256):
 (∀j,(∀z,pick L c z tab=.lit (.int .i64 (j:Nat)))->(Instr.lookup t (.map (some b)) (.int .u8 c) false).run Tryz.prog w=.ok (.pointer (some ⟨eb,j,none⟩)) w)/\((∀z,pick L c z tab=z)->(Instr.lookup t (.map (some b)) (.int .u8 c) false).run Tryz.prog w=.ok (.pointer none) w):=by
 obtain⟨n,D,h1,h2,h3,h4⟩:=h
 obtain⟨v,ps,hr,hv⟩:=h2.lookup lawB ht hz (zd:=.nil) (zp:=[]) rfl (keyB hc)
 rw [h4]at hv
 refine⟨fun j hj=>?_,fun hj=>?_⟩
 ·rw [hj]at hv
  rw [hr,rdP_lit hv]
 ·rw [hj]at hv
  rw [hr,rdP_nil hv]
end Go.Proofs.YtdenjanihikolaaGreatDoor
