/- Encode and Bytes, by kind: those with rows. -/
import Derived.Test.YtdenjanihikolaaGreatDoorDqA0
import Derived.Test.YtdenjanihikolaaGreatDoorDqWrd
import Derived.ProofKit
import Derived.Deep.Slices
import Derived.Test.YtdenjanihikolaaGreatDoorDqMke
import Derived.Laws.IdiomCopy
import Derived.Test.YtdenjanihikolaaGreatDoorDqBdb
import Derived.Test.YtdenjanihikolaaGreatDoorDqTa
import Derived.Test.YtdenjanihikolaaGreatDoorDqBdf
import Derived.Test.YtdenjanihikolaaGreatDoorDqPpc
import Derived.Test.YtdenjanihikolaaGreatDoorDqBase
namespace Go.Proofs.YtdenjanihikolaaGreatDoor
set_option linter.unusedVariables false
set_option linter.unusedSimpArgs false
set_option maxRecDepth 100000
open Go.RowKit
theorem letter0 (w:World):Calls Tryz.prog 35 #[.int .i64 0] w (fun e w'=>e=.returned (.int .u8 66)/\w'=w):=by
 go_enter Tryz.func35,Tryz.ntmps35
 go_wp2
 go_ret
 exact⟨rfl,rfl⟩
theorem letter1 (w:World):Calls Tryz.prog 35 #[.int .i64 1] w (fun e w'=>e=.returned (.int .u8 0)/\w'=w):=by
 go_enter Tryz.func35,Tryz.ntmps35
 go_wp2
 go_ret
 exact⟨rfl,rfl⟩
theorem letter2 (w:World):Calls Tryz.prog 35 #[.int .i64 2] w (fun e w'=>e=.returned (.int .u8 67)/\w'=w):=by
 go_enter Tryz.func35,Tryz.ntmps35
 go_wp2
 go_ret
 exact⟨rfl,rfl⟩
theorem letter3 (w:World):Calls Tryz.prog 35 #[.int .i64 3] w (fun e w'=>e=.returned (.int .u8 100)/\w'=w):=by
 go_enter Tryz.func35,Tryz.ntmps35
 go_wp2
 go_ret
 exact⟨rfl,rfl⟩
theorem letter4 (w:World):Calls Tryz.prog 35 #[.int .i64 4] w (fun e w'=>e=.returned (.int .u8 99)/\w'=w):=by
 go_enter Tryz.func35,Tryz.ntmps35
 go_wp2
 go_ret
 exact⟨rfl,rfl⟩
theorem letter5 (w:World):Calls Tryz.prog 35 #[.int .i64 5] w (fun e w'=>e=.returned (.int .u8 102)/\w'=w):=by
 go_enter Tryz.func35,Tryz.ntmps35
 go_wp2
 go_ret
 exact⟨rfl,rfl⟩
theorem letter6 (w:World):Calls Tryz.prog 35 #[.int .i64 6] w (fun e w'=>e=.returned (.int .u8 68)/\w'=w):=by
 go_enter Tryz.func35,Tryz.ntmps35
 go_wp2
 go_ret
 exact⟨rfl,rfl⟩
theorem letter7 (w:World):Calls Tryz.prog 35 #[.int .i64 7] w (fun e w'=>e=.returned (.int .u8 69)/\w'=w):=by
 go_enter Tryz.func35,Tryz.ntmps35
 go_wp2
 go_ret
 exact⟨rfl,rfl⟩
theorem letter8 (w:World):Calls Tryz.prog 35 #[.int .i64 8] w (fun e w'=>e=.returned (.int .u8 72)/\w'=w):=by
 go_enter Tryz.func35,Tryz.ntmps35
 go_wp2
 go_ret
 exact⟨rfl,rfl⟩
theorem letter9 (w:World):Calls Tryz.prog 35 #[.int .i64 9] w (fun e w'=>e=.returned (.int .u8 70)/\w'=w):=by
 go_enter Tryz.func35,Tryz.ntmps35
 go_wp2
 go_ret
 exact⟨rfl,rfl⟩
theorem letter10 (w:World):Calls Tryz.prog 35 #[.int .i64 10] w (fun e w'=>e=.returned (.int .u8 0)/\w'=w):=by
 go_enter Tryz.func35,Tryz.ntmps35
 go_wp2
 go_ret
 exact⟨rfl,rfl⟩
theorem letter11 (w:World):Calls Tryz.prog 35 #[.int .i64 11] w (fun e w'=>e=.returned (.int .u8 112)/\w'=w):=by
 go_enter Tryz.func35,Tryz.ntmps35
 go_wp2
 go_ret
 exact⟨rfl,rfl⟩
theorem letter12 (w:World):Calls Tryz.prog 35 #[.int .i64 12] w (fun e w'=>e=.returned (.int .u8 80)/\w'=w):=by
 go_enter Tryz.func35,Tryz.ntmps35
 go_wp2
 go_ret
 exact⟨rfl,rfl⟩
theorem letter13 (w:World):Calls Tryz.prog 35 #[.int .i64 13] w (fun e w'=>e=.returned (.int .u8 112)/\w'=w):=by
 go_enter Tryz.func35,Tryz.ntmps35
 go_wp2
 go_ret
 exact⟨rfl,rfl⟩
theorem letter14 (w:World):Calls Tryz.prog 35 #[.int .i64 14] w (fun e w'=>e=.returned (.int .u8 81)/\w'=w):=by
 go_enter Tryz.func35,Tryz.ntmps35
 go_wp2
 go_ret
 exact⟨rfl,rfl⟩
theorem letter15 (w:World):Calls Tryz.prog 35 #[.int .i64 15] w (fun e w'=>e=.returned (.int .u8 112)/\w'=w):=by
 go_enter Tryz.func35,Tryz.ntmps35
 go_wp2
 go_ret
 exact⟨rfl,rfl⟩
theorem letter16 (w:World):Calls Tryz.prog 35 #[.int .i64 16] w (fun e w'=>e=.returned (.int .u8 112)/\w'=w):=by
 go_enter Tryz.func35,Tryz.ntmps35
 go_wp2
 go_ret
 exact⟨rfl,rfl⟩
theorem letter17 (w:World):Calls Tryz.prog 35 #[.int .i64 17] w (fun e w'=>e=.returned (.int .u8 0)/\w'=w):=by
 go_enter Tryz.func35,Tryz.ntmps35
 go_wp2
 go_ret
 exact⟨rfl,rfl⟩
theorem letter18 (w:World):Calls Tryz.prog 35 #[.int .i64 18] w (fun e w'=>e=.returned (.int .u8 0)/\w'=w):=by
 go_enter Tryz.func35,Tryz.ntmps35
 go_wp2
 go_ret
 exact⟨rfl,rfl⟩
theorem letter19 (w:World):Calls Tryz.prog 35 #[.int .i64 19] w (fun e w'=>e=.returned (.int .u8 83)/\w'=w):=by
 go_enter Tryz.func35,Tryz.ntmps35
 go_wp2
 go_ret
 exact⟨rfl,rfl⟩
theorem letter20 (w:World):Calls Tryz.prog 35 #[.int .i64 20] w (fun e w'=>e=.returned (.int .u8 88)/\w'=w):=by
 go_enter Tryz.func35,Tryz.ntmps35
 go_wp2
 go_ret
 exact⟨rfl,rfl⟩
theorem letter30 (w:World):Calls Tryz.prog 35 #[.int .i64 30] w (fun e w'=>e=.returned (.int .u8 82)/\w'=w):=by
 go_enter Tryz.func35,Tryz.ntmps35
 go_wp2
 go_ret
 exact⟨rfl,rfl⟩
theorem letter31 (w:World):Calls Tryz.prog 35 #[.int .i64 31] w (fun e w'=>e=.returned (.int .u8 82)/\w'=w):=by
 go_enter Tryz.func35,Tryz.ntmps35
 go_wp2
 go_ret
 exact⟨rfl,rfl⟩
theorem letter32 (w:World):Calls Tryz.prog 35 #[.int .i64 32] w (fun e w'=>e=.returned (.int .u8 82)/\w'=w):=by
 go_enter Tryz.func35,Tryz.ntmps35
 go_wp2
 go_ret
 exact⟨rfl,rfl⟩
theorem letter33 (w:World):Calls Tryz.prog 35 #[.int .i64 33] w (fun e w'=>e=.returned (.int .u8 82)/\w'=w):=by
 go_enter Tryz.func35,Tryz.ntmps35
 go_wp2
 go_ret
 exact⟨rfl,rfl⟩
theorem letter34 (w:World):Calls Tryz.prog 35 #[.int .i64 34] w (fun e w'=>e=.returned (.int .u8 82)/\w'=w):=by
 go_enter Tryz.func35,Tryz.ntmps35
 go_wp2
 go_ret
 exact⟨rfl,rfl⟩
theorem letter35 (w:World):Calls Tryz.prog 35 #[.int .i64 35] w (fun e w'=>e=.returned (.int .u8 82)/\w'=w):=by
 go_enter Tryz.func35,Tryz.ntmps35
 go_wp2
 go_ret
 exact⟨rfl,rfl⟩
theorem letter36 (w:World):Calls Tryz.prog 35 #[.int .i64 36] w (fun e w'=>e=.returned (.int .u8 82)/\w'=w):=by
 go_enter Tryz.func35,Tryz.ntmps35
 go_wp2
 go_ret
 exact⟨rfl,rfl⟩
theorem letter37 (w:World):Calls Tryz.prog 35 #[.int .i64 37] w (fun e w'=>e=.returned (.int .u8 82)/\w'=w):=by
 go_enter Tryz.func35,Tryz.ntmps35
 go_wp2
 go_ret
 exact⟨rfl,rfl⟩
theorem letter38 (w:World):Calls Tryz.prog 35 #[.int .i64 38] w (fun e w'=>e=.returned (.int .u8 75)/\w'=w):=by
 go_enter Tryz.func35,Tryz.ntmps35
 go_wp2
 go_ret
 exact⟨rfl,rfl⟩
theorem letter39 (w:World):Calls Tryz.prog 35 #[.int .i64 39] w (fun e w'=>e=.returned (.int .u8 50)/\w'=w):=by
 go_enter Tryz.func35,Tryz.ntmps35
 go_wp2
 go_ret
 exact⟨rfl,rfl⟩
theorem letter40 (w:World):Calls Tryz.prog 35 #[.int .i64 40] w (fun e w'=>e=.returned (.int .u8 51)/\w'=w):=by
 go_enter Tryz.func35,Tryz.ntmps35
 go_wp2
 go_ret
 exact⟨rfl,rfl⟩
theorem letter41 (w:World):Calls Tryz.prog 35 #[.int .i64 41] w (fun e w'=>e=.returned (.int .u8 67)/\w'=w):=by
 go_enter Tryz.func35,Tryz.ntmps35
 go_wp2
 go_ret
 exact⟨rfl,rfl⟩
theorem letter42 (w:World):Calls Tryz.prog 35 #[.int .i64 42] w (fun e w'=>e=.returned (.int .u8 87)/\w'=w):=by
 go_enter Tryz.func35,Tryz.ntmps35
 go_wp2
 go_ret
 exact⟨rfl,rfl⟩
theorem letter43 (w:World):Calls Tryz.prog 35 #[.int .i64 43] w (fun e w'=>e=.returned (.int .u8 71)/\w'=w):=by
 go_enter Tryz.func35,Tryz.ntmps35
 go_wp2
 go_ret
 exact⟨rfl,rfl⟩
theorem letter44 (w:World):Calls Tryz.prog 35 #[.int .i64 44] w (fun e w'=>e=.returned (.int .u8 72)/\w'=w):=by
 go_enter Tryz.func35,Tryz.ntmps35
 go_wp2
 go_ret
 exact⟨rfl,rfl⟩
theorem letter45 (w:World):Calls Tryz.prog 35 #[.int .i64 45] w (fun e w'=>e=.returned (.int .u8 68)/\w'=w):=by
 go_enter Tryz.func35,Tryz.ntmps35
 go_wp2
 go_ret
 exact⟨rfl,rfl⟩
theorem letter46 (w:World):Calls Tryz.prog 35 #[.int .i64 46] w (fun e w'=>e=.returned (.int .u8 73)/\w'=w):=by
 go_enter Tryz.func35,Tryz.ntmps35
 go_wp2
 go_ret
 exact⟨rfl,rfl⟩
theorem letter47 (w:World):Calls Tryz.prog 35 #[.int .i64 47] w (fun e w'=>e=.returned (.int .u8 69)/\w'=w):=by
 go_enter Tryz.func35,Tryz.ntmps35
 go_wp2
 go_ret
 exact⟨rfl,rfl⟩
theorem letter48 (w:World):Calls Tryz.prog 35 #[.int .i64 48] w (fun e w'=>e=.returned (.int .u8 78)/\w'=w):=by
 go_enter Tryz.func35,Tryz.ntmps35
 go_wp2
 go_ret
 exact⟨rfl,rfl⟩
theorem letter49 (w:World):Calls Tryz.prog 35 #[.int .i64 49] w (fun e w'=>e=.returned (.int .u8 86)/\w'=w):=by
 go_enter Tryz.func35,Tryz.ntmps35
 go_wp2
 go_ret
 exact⟨rfl,rfl⟩
theorem letter50 (w:World):Calls Tryz.prog 35 #[.int .i64 50] w (fun e w'=>e=.returned (.int .u8 110)/\w'=w):=by
 go_enter Tryz.func35,Tryz.ntmps35
 go_wp2
 go_ret
 exact⟨rfl,rfl⟩
theorem letter51 (w:World):Calls Tryz.prog 35 #[.int .i64 51] w (fun e w'=>e=.returned (.int .u8 65)/\w'=w):=by
 go_enter Tryz.func35,Tryz.ntmps35
 go_wp2
 go_ret
 exact⟨rfl,rfl⟩
theorem letter52 (w:World):Calls Tryz.prog 35 #[.int .i64 52] w (fun e w'=>e=.returned (.int .u8 116)/\w'=w):=by
 go_enter Tryz.func35,Tryz.ntmps35
 go_wp2
 go_ret
 exact⟨rfl,rfl⟩
theorem letter53 (w:World):Calls Tryz.prog 35 #[.int .i64 53] w (fun e w'=>e=.returned (.int .u8 83)/\w'=w):=by
 go_enter Tryz.func35,Tryz.ntmps35
 go_wp2
 go_ret
 exact⟨rfl,rfl⟩
theorem letter54 (w:World):Calls Tryz.prog 35 #[.int .i64 54] w (fun e w'=>e=.returned (.int .u8 49)/\w'=w):=by
 go_enter Tryz.func35,Tryz.ntmps35
 go_wp2
 go_ret
 exact⟨rfl,rfl⟩
theorem letter55 (w:World):Calls Tryz.prog 35 #[.int .i64 55] w (fun e w'=>e=.returned (.int .u8 115)/\w'=w):=by
 go_enter Tryz.func35,Tryz.ntmps35
 go_wp2
 go_ret
 exact⟨rfl,rfl⟩
theorem letter56 (w:World):Calls Tryz.prog 35 #[.int .i64 56] w (fun e w'=>e=.returned (.int .u8 90)/\w'=w):=by
 go_enter Tryz.func35,Tryz.ntmps35
 go_wp2
 go_ret
 exact⟨rfl,rfl⟩
theorem letter57 (w:World):Calls Tryz.prog 35 #[.int .i64 57] w (fun e w'=>e=.returned (.int .u8 84)/\w'=w):=by
 go_enter Tryz.func35,Tryz.ntmps35
 go_wp2
 go_ret
 exact⟨rfl,rfl⟩
open Go Go.RowKit Go.ChangeShapes Go.WideShapes Go.Deep
section
variable {H : Type} {enc : TypeId × Value → H} {w : World} {sp : Nat → Bool} {held : Bool}
theorem addr_plain {w:World} {a:Addr} {v:Value} (h:w.cell? a=some v):a=⟨a.block,a.off,none⟩:=by
 cases a with
 | mk b o s=>
   cases s with
   | none=>rfl
   | some q=>
     simp only [World.cell?]at h
     split at h <;> simp at h
theorem getD_take_lt (zs:List Int)(len j:Nat)(h:j < len):(zs.take len).getD j 0=zs.getD j 0:=by
 simp [List.getD,List.getElem?_take,h]
/-- a slice of numbers that came in -/
theorem rdI_of {t e:TypeId} {k:IntKind} {fuel:Nat} {v:Value} {x:DataW H×List MemPlace} (ht:Tryz.prog.underlying t=some (.slice e))(he:Tryz.prog.underlying e=some (.int k))(hc:Tryz.prog.cellsOf e=1)
 (h:DataW.trod enc Tryz.prog w 0 sp held fuel t [v]=some x):∃xs A c,v=.slice A (List.length xs) c/\RdI k w (.slice A (List.length xs) c) xs/\∀n∈xs,(Lit.int k n).wf=true:=by
 rcases open_ints ht he hc h with ⟨hv,_⟩|⟨a,len,cap,zs,hv,_,hl,hm,hz,_,hcell,hw⟩
 ·have hv':v=.slice none 0 0:=by simpa using hv
  exact⟨[],none,0,hv',⟨none,0,rfl,Nat.le_refl _,by unfold maxLen;omega,fun h=>absurd h (Nat.lt_irrefl 0)⟩,fun n hn=>by simp at hn⟩
 ·have hv':v=.slice (some a) len cap:=by simpa using hv
  have hle:len<=zs.length:=by rw [hz];split <;> omega
  have hlen:(zs.take len).length=len:=by simp;omega
  refine⟨zs.take len,some a,cap,by rw [hlen];exact hv',?_,fun n hn=>hw n (List.mem_of_mem_take hn)⟩
  refine⟨some a,cap,rfl,by rw [hlen];exact hl,hm,fun hp=>?_⟩
  rw [hlen]at hp
  have h0:=hcell 0 (by omega)
  have ha:a=⟨a.block,a.off,none⟩:=by
   have e0:a.add 0=a:=by simp [Addr.add]
   rw [e0]at h0
   exact addr_plain h0
  refine⟨a.block,a.off,by rw [<-ha],fun j hj=>?_⟩
  rw [hlen]at hj
  have:=hcell j (by omega)
  rw [getD_take_lt _ _ _ hj,<-add_lit0,<-ha]
  exact this
theorem rdB_of {t e:TypeId} {fuel:Nat} {v:Value} {x:DataW H×List MemPlace} (ht:Tryz.prog.underlying t=some (.slice e))(he:Tryz.prog.underlying e=some (.int .u8))(hc:Tryz.prog.cellsOf e=1)
 (h:DataW.trod enc Tryz.prog w 0 sp held fuel t [v]=some x):∃xs A c,v=.slice A (List.length xs) c/\RdB w (.slice A (List.length xs) c) xs/\∀n∈xs,0<=n/\n < 256:=by
 obtain⟨xs,A,c,h1,h2,h3⟩:=rdI_of ht he hc h
 refine⟨xs,A,c,h1,h2,fun n hn=>?_⟩
 have:=h3 n hn
 simp only [Lit.wf,Bool.and_eq_true,decide_eq_true_eq]at this
 have e1:IntKind.u8.min=0:=rfl
 have e2:IntKind.u8.max=255:=rfl
 omega
/-- a slice of structs that came in -/
theorem rdM_in {α:Type} [Inhabited α] {size:Nat} (hpos:0 < size) {R:World->α->(Nat->Value)->Prop} {Q:α->Prop} {t e:TypeId} {fuel:Nat} {v:Value} {x:DataW H×List MemPlace} (ht:Tryz.prog.underlying t=some (.slice e))(hc:Tryz.prog.cellsOf e=size)
 (hel:∀n cs' y,cs'.length=size->DataW.trod enc Tryz.prog w 0 sp held n e cs'=some y->∃x:α,R w x (fun k=>cs'.getD k undef)/\Q x)
 (h:DataW.trod enc Tryz.prog w 0 sp held fuel t [v]=some x):∃(l:List α) (A:Option Addr) (c:Nat),v=.slice A l.length c/\RdM size R w (.slice A l.length c) l/\∀x∈l,Q x:=by
 rcases open_slice ht h with ⟨hv,_⟩|⟨a,len,cap,m,n,D,Pl,hv,_,hl,hm,hmm,_,hx⟩
 ·have hv':v=.slice none 0 0:=by simpa using hv
  exact⟨[],none,0,hv',⟨none,0,rfl,Nat.le_refl _,by unfold maxLen;omega,fun h=>absurd h (Nat.lt_irrefl 0)⟩,fun n hn=>by simp at hn⟩
 ·have hv':v=.slice (some a) len cap:=by simpa using hv
  have hlm:len<=m:=by rw [hmm];split <;> omega
  have each:∀i,i < len->∃q:α×(Nat->Value),(∀k,k < size->w.cell? ((a.add (i * size)).add k)=some (q.2 k))/\R w q.1 q.2/\Q q.1:=by
   intro i hi
   obtain⟨cs',h1,h2⟩:=hx i (by omega)
   rw [hc]at h1
   obtain⟨_,hlen,hcell⟩:=World.cells?_some h1
   obtain⟨x,hR,hQ⟩:=hel n cs' _ hlen h2
   refine⟨(x,fun k=>cs'.getD k undef),fun k hk=>?_,hR,hQ⟩
   rw [hcell k hk]
   simp [List.getD,List.getElem?_eq_getElem (show k < cs'.length by omega)]
  obtain⟨q,hq⟩:=choose_lt each
  have hlen:((List.range len).map fun i=>(q i).1).length=len:=by simp
  refine⟨(List.range len).map fun i=>(q i).1,some a,cap,by rw [hlen];exact hv',?_,?_⟩
  ·refine⟨some a,cap,rfl,by rw [hlen];exact hl,hm,fun hp=>?_⟩
   rw [hlen]at hp
   have h0:=(hq 0 hp).1 0 hpos
   have ha:a=⟨a.block,a.off,none⟩:=by
    have e0:(a.add (0 * size)).add 0=a:=by simp [Addr.add]
    rw [e0]at h0
    exact addr_plain h0
   refine⟨a.block,a.off,by rw [<-ha],fun j hj=>?_⟩
   have hj':j < len:=by simpa using hj
   refine⟨(q j).2,fun k hk=>?_,?_⟩
   ·have h1:=(hq j hj').1 k hk
    rw [ha,add_lit0,add_lit0]at h1
    exact h1
   ·simpa using (hq j hj').2.1
  ·intro x hxm
   obtain⟨i,hi,rfl⟩:=List.mem_map.1 hxm
   exact(hq i (List.mem_range.1 hi)).2.2
end
theorem cl3:Tryz.prog.cellsOf 3=1:=by kernel_rfl
theorem cl4:Tryz.prog.cellsOf 4=1:=by kernel_rfl
theorem cl5:Tryz.prog.cellsOf 5=1:=by kernel_rfl
theorem cl9:Tryz.prog.cellsOf 9=1:=by kernel_rfl
theorem cl22:Tryz.prog.cellsOf 22=1:=by kernel_rfl
theorem cl23:Tryz.prog.cellsOf 23=1:=by kernel_rfl
theorem cl24:Tryz.prog.cellsOf 24=1:=by kernel_rfl
theorem cl25:Tryz.prog.cellsOf 25=1:=by kernel_rfl
theorem cl26:Tryz.prog.cellsOf 26=1:=by kernel_rfl
theorem cl27:Tryz.prog.cellsOf 27=1:=by kernel_rfl
theorem cl28:Tryz.prog.cellsOf 28=1:=by kernel_rfl
theorem cl29:Tryz.prog.cellsOf 29=1:=by kernel_rfl
theorem cl31:Tryz.prog.cellsOf 31=13:=by kernel_rfl
theorem cl58:Tryz.prog.cellsOf 58=2:=by kernel_rfl
theorem cl60:Tryz.prog.cellsOf 60=2:=by kernel_rfl
theorem cl62:Tryz.prog.cellsOf 62=7:=by kernel_rfl
section
variable {H : Type} {enc : TypeId × Value → H} {w : World} {sp : Nat → Bool} {held : Bool}
instance:Inhabited Sf:=⟨⟨ByteArray.empty,0,0,0,0,0,0⟩⟩
theorem bool_of {fuel:Nat} {v:Value} {x:DataW H×List MemPlace} (h:DataW.trod enc Tryz.prog w 0 sp held fuel 4 [v]=some x):∃b,v=.bool b:=by
 cases fuel with
 | zero=>simp [DataW.trod]at h
 | succ n=>
   unfold DataW.trod at h
   rw [Tryz.underlying4]at h
   split at h <;> simp_all
theorem str_of {fuel:Nat} {v:Value} {x:DataW H×List MemPlace} (h:DataW.trod enc Tryz.prog w 0 sp held fuel 9 [v]=some x):∃s,v=.string s:=by
 obtain⟨s,h1,_⟩:=DataW.trod_string Tryz.underlying9 h
 exact⟨s,by simpa using h1⟩
theorem num_of {t:Nat} {k:IntKind} {fuel:Nat} {v:Value} {x:DataW H×List MemPlace} (ht:Tryz.prog.underlying t=some (.int k))(h:DataW.trod enc Tryz.prog w 0 sp held fuel t [v]=some x):∃n,v=.int k n/\(Lit.int k n).wf=true:=by
 obtain⟨n,h1,_,h3⟩:=DataW.trod_int ht h
 exact⟨n,by simpa using h1,h3⟩
theorem u32_wf {n:Int} (h:(Lit.int .u32 n).wf=true):0<=n/\n < 4294967296:=by
 simp only [Lit.wf,Bool.and_eq_true,decide_eq_true_eq]at h
 have e1:IntKind.u32.min=0:=rfl
 have e2:IntKind.u32.max=4294967295:=rfl
 omega
theorem i64_wf {n:Int} (h:(Lit.int .i64 n).wf=true): -9223372036854775808<=n/\n<=9223372036854775807:=by
 simp only [Lit.wf,Bool.and_eq_true,decide_eq_true_eq]at h
 have e1:IntKind.i64.min= -9223372036854775808:=rfl
 have e2:IntKind.i64.max=9223372036854775807:=rfl
 omega
theorem val_el (n:Nat)(cs':List Value)(y:DataW H×List MemPlace)(hl:cs'.length=2)(h:DataW.trod enc Tryz.prog w 0 sp held n 58 cs'=some y):∃x:Bool×List Int,isVal w x (fun k=>cs'.getD k undef)/\∀z∈x.2,0<=z/\z < 256:=by
 obtain⟨xs,m,_,_,_,hxl,hf⟩:=DataW.trod_struct Tryz.underlying58 h
 have hxl':xs.length=2:=hxl
 match cs',hl with
 | [c0,c1],_=>
   have u0:DataW.trod enc Tryz.prog w 0 sp held m 4 (([c0,c1].drop 0).take (Tryz.prog.cellsOf 4))=xs[0]?:=hf 0 _ rfl
   have u1:DataW.trod enc Tryz.prog w 0 sp held m 26 (([c0,c1].drop 1).take (Tryz.prog.cellsOf 26))=xs[1]?:=hf 1 _ rfl
   rw [List.getElem?_eq_getElem (by omega)]at u0 u1
   simp only [cl4,cl26,List.drop,List.take]at u0 u1
   obtain⟨b,rfl⟩:=bool_of u0
   obtain⟨zs,A,c,rfl,hr,hw⟩:=rdB_of Tryz.underlying26 Tryz.underlying5 cl5 u1
   exact⟨(b,zs),⟨rfl,A,c,rfl,hr⟩,hw⟩
theorem pr_el (n:Nat)(cs':List Value)(y:DataW H×List MemPlace)(hl:cs'.length=2)(h:DataW.trod enc Tryz.prog w 0 sp held n 60 cs'=some y):∃x:ByteArray×ByteArray,isPr w x (fun k=>cs'.getD k undef)/\True:=by
 obtain⟨xs,m,_,_,_,hxl,hf⟩:=DataW.trod_struct Tryz.underlying60 h
 have hxl':xs.length=2:=hxl
 match cs',hl with
 | [c0,c1],_=>
   have u0:DataW.trod enc Tryz.prog w 0 sp held m 9 (([c0,c1].drop 0).take (Tryz.prog.cellsOf 9))=xs[0]?:=hf 0 _ rfl
   have u1:DataW.trod enc Tryz.prog w 0 sp held m 9 (([c0,c1].drop 1).take (Tryz.prog.cellsOf 9))=xs[1]?:=hf 1 _ rfl
   rw [List.getElem?_eq_getElem (by omega)]at u0 u1
   simp only [cl9,List.drop,List.take]at u0 u1
   obtain⟨s0,rfl⟩:=str_of u0
   obtain⟨s1,rfl⟩:=str_of u1
   exact⟨(s0,s1),⟨rfl,rfl⟩,trivial⟩
theorem fld_el (n:Nat)(cs':List Value)(y:DataW H×List MemPlace)(hl:cs'.length=7)(h:DataW.trod enc Tryz.prog w 0 sp held n 62 cs'=some y):∃x:Sf,isSf w x (fun k=>cs'.getD k undef)/\0<=x.tab/\x.tab < 4294967296/\0<=x.typ/\x.typ < 4294967296:=by
 obtain⟨xs,m,_,_,_,hxl,hf⟩:=DataW.trod_struct Tryz.underlying62 h
 have hxl':xs.length=7:=hxl
 match cs',hl with
 | [c0,c1,c2,c3,c4,c5,c6],_=>
   have u0:DataW.trod enc Tryz.prog w 0 sp held m 9 (([c0,c1,c2,c3,c4,c5,c6].drop 0).take (Tryz.prog.cellsOf 9))=xs[0]?:=hf 0 _ rfl
   have u1:DataW.trod enc Tryz.prog w 0 sp held m 22 (([c0,c1,c2,c3,c4,c5,c6].drop 1).take (Tryz.prog.cellsOf 22))=xs[1]?:=hf 1 _ rfl
   have u2:DataW.trod enc Tryz.prog w 0 sp held m 3 (([c0,c1,c2,c3,c4,c5,c6].drop 2).take (Tryz.prog.cellsOf 3))=xs[2]?:=hf 2 _ rfl
   have u3:DataW.trod enc Tryz.prog w 0 sp held m 22 (([c0,c1,c2,c3,c4,c5,c6].drop 3).take (Tryz.prog.cellsOf 22))=xs[3]?:=hf 3 _ rfl
   have u4:DataW.trod enc Tryz.prog w 0 sp held m 3 (([c0,c1,c2,c3,c4,c5,c6].drop 4).take (Tryz.prog.cellsOf 3))=xs[4]?:=hf 4 _ rfl
   have u5:DataW.trod enc Tryz.prog w 0 sp held m 3 (([c0,c1,c2,c3,c4,c5,c6].drop 5).take (Tryz.prog.cellsOf 3))=xs[5]?:=hf 5 _ rfl
   have u6:DataW.trod enc Tryz.prog w 0 sp held m 3 (([c0,c1,c2,c3,c4,c5,c6].drop 6).take (Tryz.prog.cellsOf 3))=xs[6]?:=hf 6 _ rfl
   rw [List.getElem?_eq_getElem (by omega)]at u0 u1 u2 u3 u4 u5 u6
   simp only [cl9,cl22,cl3,List.drop,List.take]at u0 u1 u2 u3 u4 u5 u6
   obtain⟨s0,rfl⟩:=str_of u0
   obtain⟨n1,rfl,w1⟩:=num_of Tryz.underlying22 u1
   obtain⟨n2,rfl,w2⟩:=num_of Tryz.underlying3 u2
   obtain⟨n3,rfl,w3⟩:=num_of Tryz.underlying22 u3
   obtain⟨n4,rfl,w4⟩:=num_of Tryz.underlying3 u4
   obtain⟨n5,rfl,w5⟩:=num_of Tryz.underlying3 u5
   obtain⟨n6,rfl,w6⟩:=num_of Tryz.underlying3 u6
   have a1:=u32_wf w1
   have a3:=u32_wf w3
   exact⟨⟨s0,n1,n2,n3,n4,n5,n6⟩,⟨rfl,rfl,rfl,rfl,rfl,rfl,rfl⟩,a1.1,a1.2,a3.1,a3.2⟩
/-- a slice of texts that came in -/
theorem rdS_of {fuel:Nat} {v:Value} {x:DataW H×List MemPlace} (h:DataW.trod enc Tryz.prog w 0 sp held fuel 27 [v]=some x):∃(l:List ByteArray) (A:Option Addr) (c:Nat),v=.slice A l.length c/\Rd1 isStr w (.slice A l.length c) l:=by
 rcases open_strings Tryz.underlying27 Tryz.underlying9 cl9 h with ⟨hv,_⟩|⟨a,len,cap,ss,hv,_,hl,hm,hz,_,hcell,_⟩
 ·have hv':v=.slice none 0 0:=by simpa using hv
  exact⟨[],none,0,hv',⟨none,0,rfl,Nat.le_refl _,by unfold maxLen;omega,fun h=>absurd h (Nat.lt_irrefl 0)⟩⟩
 ·have hv':v=.slice (some a) len cap:=by simpa using hv
  have hle:len<=ss.length:=by rw [hz];split <;> omega
  have hlen:(ss.take len).length=len:=by simp;omega
  refine⟨ss.take len,some a,cap,by rw [hlen];exact hv',?_⟩
  refine⟨some a,cap,rfl,by rw [hlen];exact hl,hm,fun hp=>?_⟩
  rw [hlen]at hp
  have h0:=hcell 0 (by omega)
  have ha:a=⟨a.block,a.off,none⟩:=by
   have e0:a.add 0=a:=by simp [Addr.add]
   rw [e0]at h0
   exact addr_plain h0
  refine⟨a.block,a.off,by rw [<-ha],fun j hj=>?_⟩
  have hj':j < len:=by rw [hlen]at hj;exact hj
  have h1:=hcell j (by omega)
  rw [ha,add_lit0]at h1
  refine⟨_,h1,?_⟩
  show Value.string _=Value.string _
  congr 1
  simp [List.getD,List.getElem?_eq_getElem (show j < ss.length by omega)]
/-- What a message of the thin package is, read. -/
structure MsgIn (w:World) (v:Value) (a b:ByteArray) (kd n mm:Int) (A5 A6 A7 A8 A9 A10 A11 A12:Option Addr) (c5 c6 c7 c8 c9 c10 c11 c12:Nat) (lf lr ty d:List Int) (vls:List (Bool×List Int)) (ws:List ByteArray) (ps:List (ByteArray×ByteArray)) (fs:List Sf):Prop where
 val:v=.agg #[.int .i64 kd,.string a,.string b,.int .u32 n,.int .u32 mm,.slice A5 lf.length c5,.slice A6 lr.length c6,.slice A7 ty.length c7,.slice A8 vls.length c8,.slice A9 d.length c9,.slice A10 ws.length c10,.slice A11 ps.length c11,.slice A12 fs.length c12]
 rf:RdI .i64 w (.slice A5 lf.length c5) lf
 rr:RdI .i64 w (.slice A6 lr.length c6) lr
 rt:RdI .u32 w (.slice A7 ty.length c7) ty
 rv:RdM 2 isVal w (.slice A8 vls.length c8) vls
 rd:RdB w (.slice A9 d.length c9) d
 rw:Rd1 isStr w (.slice A10 ws.length c10) ws
 rp:RdM 2 isPr w (.slice A11 ps.length c11) ps
 rl:RdM 7 isSf w (.slice A12 fs.length c12) fs
 n:0<=n/\n < 4294967296
 kd: -9223372036854775808<=kd/\kd<=9223372036854775807
 ty:∀y∈ty,0<=y/\y < 4294967296
 d:∀y∈d,0<=y/\y < 256
 vls:∀x∈vls,∀z∈x.2,0<=z/\z < 256
 fs:∀x∈fs,0<=x.tab/\x.tab < 4294967296/\0<=x.typ/\x.typ < 4294967296
theorem open_msg {base:Nat} {v:Value} {dd:DataW H} {pp:List MemPlace} (hok:Value.okWide Tryz.prog w .any base 31 v)(hT:DataW.Trod enc Tryz.prog w 0 sp held 31 v dd pp):
 ∃a b kd n mm A5 A6 A7 A8 A9 A10 A11 A12 c5 c6 c7 c8 c9 c10 c11 c12 lf lr ty d vls ws ps fs,MsgIn w v a b kd n mm A5 A6 A7 A8 A9 A10 A11 A12 c5 c6 c7 c8 c9 c10 c11 c12 lf lr ty d vls ws ps fs:=by
 obtain⟨fuel,hv⟩:=hT
 obtain⟨xs,m,_,_,hl,hxl,hf⟩:=DataW.trod_struct Tryz.underlying31 hv
 have hxl':xs.length=13:=hxl
 rw [cl31]at hl
 obtain⟨cs,rfl,_⟩:=okWide_struct Tryz.underlying31 hok
 obtain⟨l⟩:=cs
 have hl':l.length=13:=hl
 match l,hl' with
 | [g0,g1,g2,g3,g4,g5,g6,g7,g8,g9,g10,g11,g12],_=>
   have u0:DataW.trod enc Tryz.prog w 0 sp held m 3 (([g0,g1,g2,g3,g4,g5,g6,g7,g8,g9,g10,g11,g12].drop 0).take (Tryz.prog.cellsOf 3))=xs[0]?:=hf 0 _ rfl
   have u1:DataW.trod enc Tryz.prog w 0 sp held m 9 (([g0,g1,g2,g3,g4,g5,g6,g7,g8,g9,g10,g11,g12].drop 1).take (Tryz.prog.cellsOf 9))=xs[1]?:=hf 1 _ rfl
   have u2:DataW.trod enc Tryz.prog w 0 sp held m 9 (([g0,g1,g2,g3,g4,g5,g6,g7,g8,g9,g10,g11,g12].drop 2).take (Tryz.prog.cellsOf 9))=xs[2]?:=hf 2 _ rfl
   have u3:DataW.trod enc Tryz.prog w 0 sp held m 22 (([g0,g1,g2,g3,g4,g5,g6,g7,g8,g9,g10,g11,g12].drop 3).take (Tryz.prog.cellsOf 22))=xs[3]?:=hf 3 _ rfl
   have u4:DataW.trod enc Tryz.prog w 0 sp held m 22 (([g0,g1,g2,g3,g4,g5,g6,g7,g8,g9,g10,g11,g12].drop 4).take (Tryz.prog.cellsOf 22))=xs[4]?:=hf 4 _ rfl
   have u5:DataW.trod enc Tryz.prog w 0 sp held m 23 (([g0,g1,g2,g3,g4,g5,g6,g7,g8,g9,g10,g11,g12].drop 5).take (Tryz.prog.cellsOf 23))=xs[5]?:=hf 5 _ rfl
   have u6:DataW.trod enc Tryz.prog w 0 sp held m 23 (([g0,g1,g2,g3,g4,g5,g6,g7,g8,g9,g10,g11,g12].drop 6).take (Tryz.prog.cellsOf 23))=xs[6]?:=hf 6 _ rfl
   have u7:DataW.trod enc Tryz.prog w 0 sp held m 24 (([g0,g1,g2,g3,g4,g5,g6,g7,g8,g9,g10,g11,g12].drop 7).take (Tryz.prog.cellsOf 24))=xs[7]?:=hf 7 _ rfl
   have u8:DataW.trod enc Tryz.prog w 0 sp held m 25 (([g0,g1,g2,g3,g4,g5,g6,g7,g8,g9,g10,g11,g12].drop 8).take (Tryz.prog.cellsOf 25))=xs[8]?:=hf 8 _ rfl
   have u9:DataW.trod enc Tryz.prog w 0 sp held m 26 (([g0,g1,g2,g3,g4,g5,g6,g7,g8,g9,g10,g11,g12].drop 9).take (Tryz.prog.cellsOf 26))=xs[9]?:=hf 9 _ rfl
   have u10:DataW.trod enc Tryz.prog w 0 sp held m 27 (([g0,g1,g2,g3,g4,g5,g6,g7,g8,g9,g10,g11,g12].drop 10).take (Tryz.prog.cellsOf 27))=xs[10]?:=hf 10 _ rfl
   have u11:DataW.trod enc Tryz.prog w 0 sp held m 28 (([g0,g1,g2,g3,g4,g5,g6,g7,g8,g9,g10,g11,g12].drop 11).take (Tryz.prog.cellsOf 28))=xs[11]?:=hf 11 _ rfl
   have u12:DataW.trod enc Tryz.prog w 0 sp held m 29 (([g0,g1,g2,g3,g4,g5,g6,g7,g8,g9,g10,g11,g12].drop 12).take (Tryz.prog.cellsOf 29))=xs[12]?:=hf 12 _ rfl
   rw [List.getElem?_eq_getElem (by omega)]at u0 u1 u2 u3 u4 u5 u6 u7 u8 u9 u10 u11 u12
   simp only [Value.cells,cl3,cl9,cl22,cl23,cl24,cl25,cl26,cl27,cl28,cl29,List.drop,List.take]at u0 u1 u2 u3 u4 u5 u6 u7 u8 u9 u10 u11 u12
   obtain⟨kd,rfl,w0⟩:=num_of Tryz.underlying3 u0
   obtain⟨a,rfl⟩:=str_of u1
   obtain⟨b,rfl⟩:=str_of u2
   obtain⟨n,rfl,w3⟩:=num_of Tryz.underlying22 u3
   obtain⟨mm,rfl,w4⟩:=num_of Tryz.underlying22 u4
   obtain⟨lf,A5,c5,rfl,r5,_⟩:=rdI_of Tryz.underlying23 Tryz.underlying3 cl3 u5
   obtain⟨lr,A6,c6,rfl,r6,_⟩:=rdI_of Tryz.underlying23 Tryz.underlying3 cl3 u6
   obtain⟨ty,A7,c7,rfl,r7,w7⟩:=rdI_of Tryz.underlying24 Tryz.underlying22 cl22 u7
   obtain⟨vls,A8,c8,rfl,r8,w8⟩:=rdM_in (by decide) Tryz.underlying25 cl58 (Q:=fun x:Bool×List Int=>∀z∈x.2,0<=z/\z < 256) (R:=isVal) val_el u8
   obtain⟨d,A9,c9,rfl,r9,w9⟩:=rdB_of Tryz.underlying26 Tryz.underlying5 cl5 u9
   obtain⟨ws,A10,c10,rfl,r10⟩:=rdS_of u10
   obtain⟨ps,A11,c11,rfl,r11,_⟩:=rdM_in (by decide) Tryz.underlying28 cl60 (Q:=fun x:ByteArray×ByteArray=>True) (R:=isPr) pr_el u11
   obtain⟨fs,A12,c12,rfl,r12,w12⟩:=rdM_in (by decide) Tryz.underlying29 cl62 (Q:=fun x:Sf=>0<=x.tab/\x.tab < 4294967296/\0<=x.typ/\x.typ < 4294967296) (R:=isSf) fld_el u12
   exact⟨a,b,kd,n,mm,A5,A6,A7,A8,A9,A10,A11,A12,c5,c6,c7,c8,c9,c10,c11,c12,lf,lr,ty,d,vls,ws,ps,fs,rfl,r5,r6,r7,r8,r9,r10,r11,r12,u32_wf w3,i64_wf w0,fun y hy=>u32_wf (w7 y hy),w9,w8,w12⟩
end
open Go.RowKit Og
set_option maxHeartbeats 1000000 in
theorem body9 (a b:ByteArray)(n:Int)(vf vr vt vv vd vw vp vl:Value)(w:World)(hn:0<=n/\n < 4294967296)(lf:List Int)(hrf:RdI .i64 w vf lf)(hlf:lf.length<=4294967296)(vls:List (Bool×List Int))(hrv:RdM 2 isVal w vv vls)(hlv:vls.length<=1000)(hmv:∀y∈vls,y.2.length<=2000)(lr:List Int)(A_l:Option Addr)(c_l:Nat)(hvl:vr=.slice A_l lr.length c_l)(hr:RdI .i64 w (.slice A_l lr.length c_l) lr)(hl:lr.length<=4294967296)(R:List Int)(hE:(numB n 4++(numB (lf.length:Int) 2++lf.flatMap fun n=>numB n 2)++(numB (vls.length:Int) 2++vls.flatMap fun x=>valB x.1 x.2)++lr.flatMap fun n=>numB n 2)=R):
 Calls Tryz.prog 16 #[.agg #[.int .i64 9,.string a,.string b,.int .u32 n,vf,vr,vt,vv,vd,vw,vp,vl]] w (Gave w R):=by
 subst hvl
 have hwn:wrap64 n=n:=by unfold wrap64;omega
 have HRf:=zh (hrf.ext (ext_alloc w (.cells #[.int .i64 9,.string a,.string b,.int .u32 n,vf,.slice A_l lr.length c_l,vt,vv,vd,vw,vp,vl] 37)))
 clear hrf
 have hflf:=flat_len (fun n=>numB n 2) 2 lf fun y _=>Nat.le_of_eq (numB_len y 2)
 have hfv:=flat_len (fun x:Bool×List Int=>valB x.1 x.2) 2004 vls fun y hy=>Nat.le_trans (valB_len y) (by have:=hmv y hy;omega)
 have HRv:=zh (hrv.ext (ext_alloc w (.cells #[.int .i64 9,.string a,.string b,.int .u32 n,vf,.slice A_l lr.length c_l,vt,vv,vd,vw,vp,vl] 37)) (isVal.ext (ext_alloc w (.cells #[.int .i64 9,.string a,.string b,.int .u32 n,vf,.slice A_l lr.length c_l,vt,vv,vd,vw,vp,vl] 37))))
 clear hrv
 have HMv:=zh hmv
 clear hmv
 have HRl:=zh (hr.ext (ext_alloc w (.cells #[.int .i64 9,.string a,.string b,.int .u32 n,vf,.slice A_l lr.length c_l,vt,vv,vd,vw,vp,vl] 37)))
 clear hr
 have HF:=zh (show∀y∈lr,((fun n=>numB n 2) y).length<=2 from fun y _=>Nat.le_of_eq (numB_len y 2))
 have hx3:True:=trivial
 have hx4:True:=trivial
 have hx5:True:=trivial
 have hx7:True:=trivial
 have h0:=Wr.start1 w (.cells #[.int .i64 9,.string a,.string b,.int .u32 n,vf,.slice A_l lr.length c_l,vt,vv,vd,vw,vp,vl] 37)
 have hc:=h0.cell
 have HB:=zh h0
 clear h0
 have HE:=zh hE
 clear hE
 go_enter Tryz.func16,Tryz.ntmps16
 go_wp2_with (first|(go_at_call 36;refine(number_w 4 (by omega) _ HB.out (by first|omega|(simp only [List.length_append,List.length_nil,List.length_cons,txt,sby_length,numB_len,sfB] <;> omega))).mono ?_;rintro e w1 ⟨rfl,v1,hn⟩;clear hc;have hc:=hn.cell;clear hx3;have hx3:=box_at hn.buf.bel 3 (.int .u32 n) rfl;clear hx4;have hx4:=box_at hn.buf.bel 4 (vf) rfl;clear hx5;have hx5:=box_at hn.buf.bel 5 (.slice A_l lr.length c_l) rfl;clear hx7;have hx7:=box_at hn.buf.bel 7 (vv) rfl;replace HB:=zh hn;clear hn)|(go_at_call 39;refine(shorts_w lf HB.out HRf.out (by first|omega|(simp only [List.length_append,List.length_nil,List.length_cons,txt,sby_length,numB_len,sfB] <;> omega))).mono ?_;rintro e w1 ⟨rfl,v1,hn⟩;clear hc;have hc:=hn.cell;clear hx3;have hx3:=box_at hn.buf.bel 3 (.int .u32 n) rfl;clear hx4;have hx4:=box_at hn.buf.bel 4 (vf) rfl;clear hx5;have hx5:=box_at hn.buf.bel 5 (.slice A_l lr.length c_l) rfl;clear hx7;have hx7:=box_at hn.buf.bel 7 (vv) rfl;replace HB:=zh hn;clear hn;clear HRf)|(go_at_call 40;refine(values_w vls HB.out HRv.out HMv.out (by first|omega|(simp only [List.length_append,List.length_nil,List.length_cons,txt,sby_length,numB_len,sfB] <;> omega))).mono ?_;rintro e w1 ⟨rfl,v1,hn⟩;clear hc;have hc:=hn.cell;clear hx3;have hx3:=box_at hn.buf.bel 3 (.int .u32 n) rfl;clear hx4;have hx4:=box_at hn.buf.bel 4 (vf) rfl;clear hx5;have hx5:=box_at hn.buf.bel 5 (.slice A_l lr.length c_l) rfl;clear hx7;have hx7:=box_at hn.buf.bel 7 (vv) rfl;replace HB:=zh hn;clear hn))
 obtain⟨PRE0,HB',HP0⟩:∃P,Hid (Wr (Lt (w.alloc (.cells #[.int .i64 9,.string a,.string b,.int .u32 n,vf,.slice A_l lr.length c_l,vt,vv,vd,vw,vp,vl] 37)).heap.size) (w.alloc (.cells #[.int .i64 9,.string a,.string b,.int .u32 n,vf,.slice A_l lr.length c_l,vt,vv,vd,vw,vp,vl] 37)) _ (w.heap.size+1+1) _ (P))/\Hid (P=numB n 4++(numB (lf.length:Int) 2++lf.flatMap fun n=>numB n 2)++(numB (vls.length:Int) 2++vls.flatMap fun x=>valB x.1 x.2)):=⟨_,HB,zh rfl⟩
 clear HB
 have hpl0:PRE0.length<=8603000000:=by rw [HP0.out];first|omega|(simp only [List.length_append,List.length_nil,List.length_cons,txt,sby_length,numB_len,sfB] <;> omega)
 go_loopw [113] (fun i wr=>∃k:Nat,k<=lr.length/\i=.int .i64 k/\∃v',Hid (Wr (Lt (w.alloc (.cells #[.int .i64 9,.string a,.string b,.int .u32 n,vf,.slice A_l lr.length c_l,vt,vv,vd,vw,vp,vl] 37)).heap.size) (w.alloc (.cells #[.int .i64 9,.string a,.string b,.int .u32 n,vf,.slice A_l lr.length c_l,vt,vv,vd,vw,vp,vl] 37)) wr (w.heap.size+1+1) v' (PRE0++(lr.take k).flatMap (fun n=>numB n 2)))) (fun i _=>lr.length - (intOf i).toNat)
 case atStart=>exact⟨0,Nat.zero_le _,rfl,_,by simpa using HB'⟩
 case round=>
  clear HB' hc hx3 hx4 hx5 hx7
  obtain⟨k,hk1,rfl,v2,HB⟩:=hrel
  by_cases hlt:k < lr.length
  ·have hfl:=flat_take_len (fun n=>numB n 2) 2 k lr HF.out
   obtain⟨b1,o1,rfl,hcell⟩:=(HRl.out.ext HB.out.buf.bel).at_ hlt
   rw [getD_at hlt]at hcell
   obtain⟨x,hx⟩:∃x,x=lr[k]:=⟨_,rfl⟩
   rw [<-hx]at hcell
   have HX:=zh hx
   clear hx
   go_wp2_with (go_at_call 36;refine(number_w 2 (by omega) _ HB.out (by first|omega|(simp only [List.length_append,List.length_nil,List.length_cons,txt,sby_length,numB_len,sfB] <;> omega))).mono ?_;rintro e w1 ⟨rfl,v1,hn⟩;replace HB:=zh hn;clear hn)
   go_roundw
   case rel=>
    refine⟨k+1,by omega,by go_num,v1,?_⟩
    rw [take_flat _ lr k hlt,<-HX.out]
    have hz:=HB.out
    simp only [List.append_assoc,sfB,prB,erB]at hz⊢
    exact zh hz
   case measure=>simp [intOf];omega
  ·obtain rfl:k=lr.length:=by omega
   have hfl:=flat_len (fun n=>numB n 2) 2 lr HF.out
   rw [List.take_length]at HB
   have hc:=HB.out.cell
   go_wp2
   go_ret
   exact gave_of HB.out (by have hz:=HE.out;subst hz;rw [HP0.out];first|done|(simp only [List.nil_append,List.append_assoc,List.append_nil]))
set_option maxHeartbeats 1000000 in
theorem body35 (a b:ByteArray)(n:Int)(vf vr vt vv vd vw vp vl:Value)(w:World)(ws:List ByteArray)(A_l:Option Addr)(c_l:Nat)(hvl:vw=.slice A_l ws.length c_l)(hr:Rd1 isStr w (.slice A_l ws.length c_l) ws)(hl:ws.length<=1000)(hm:∀y∈ws,y.size<=1000)(R:List Int)(hE:(numB 10 4++ws.flatMap txt++numB 0 1)=R):
 Calls Tryz.prog 16 #[.agg #[.int .i64 35,.string a,.string b,.int .u32 n,vf,vr,vt,vv,vd,vw,vp,vl]] w (Gave w R):=by
 subst hvl
 have HRl:=zh (hr.ext (ext_alloc w (.cells #[.int .i64 35,.string a,.string b,.int .u32 n,vf,vr,vt,vv,vd,.slice A_l ws.length c_l,vp,vl] 37)) (fun _ _ h=>h))
 clear hr
 have HM:=zh hm
 have HF:=zh (show∀y∈ws,(txt y).length<=1001 from fun y hy=>(by have:=hm y hy;simp only [txt,List.length_append,List.length_cons,List.length_nil,sby_length];omega))
 clear hm
 have hx9:True:=trivial
 have h0:=Wr.start1 w (.cells #[.int .i64 35,.string a,.string b,.int .u32 n,vf,vr,vt,vv,vd,.slice A_l ws.length c_l,vp,vl] 37)
 have hc:=h0.cell
 have HB:=zh h0
 clear h0
 have HE:=zh hE
 clear hE
 go_enter Tryz.func16,Tryz.ntmps16
 go_wp2_with (first|(go_at_call 36;refine(number_w 4 (by omega) _ HB.out (by first|omega|(simp only [List.length_append,List.length_nil,List.length_cons,txt,sby_length,numB_len,sfB] <;> omega))).mono ?_;rintro e w1 ⟨rfl,v1,hn⟩;clear hc;have hc:=hn.cell;clear hx9;have hx9:=box_at hn.buf.bel 9 (.slice A_l ws.length c_l) rfl;replace HB:=zh hn;clear hn))
 obtain⟨PRE0,HB',HP0⟩:∃P,Hid (Wr (Lt (w.alloc (.cells #[.int .i64 35,.string a,.string b,.int .u32 n,vf,vr,vt,vv,vd,.slice A_l ws.length c_l,vp,vl] 37)).heap.size) (w.alloc (.cells #[.int .i64 35,.string a,.string b,.int .u32 n,vf,vr,vt,vv,vd,.slice A_l ws.length c_l,vp,vl] 37)) _ (w.heap.size+1+1) _ (P))/\Hid (P=numB 10 4):=⟨_,HB,zh rfl⟩
 clear HB
 have hpl0:PRE0.length<=4:=by rw [HP0.out];first|omega|(simp only [List.length_append,List.length_nil,List.length_cons,txt,sby_length,numB_len,sfB] <;> omega)
 go_loopw [218] (fun i wr=>∃k:Nat,k<=ws.length/\i=.int .i64 k/\∃v',Hid (Wr (Lt (w.alloc (.cells #[.int .i64 35,.string a,.string b,.int .u32 n,vf,vr,vt,vv,vd,.slice A_l ws.length c_l,vp,vl] 37)).heap.size) (w.alloc (.cells #[.int .i64 35,.string a,.string b,.int .u32 n,vf,vr,vt,vv,vd,.slice A_l ws.length c_l,vp,vl] 37)) wr (w.heap.size+1+1) v' (PRE0++(ws.take k).flatMap txt))) (fun i _=>ws.length - (intOf i).toNat)
 case atStart=>exact⟨0,Nat.zero_le _,rfl,_,by simpa using HB'⟩
 case round=>
  clear HB' hc hx9
  obtain⟨k,hk1,rfl,v2,HB⟩:=hrel
  by_cases hlt:k < ws.length
  ·have hfl:=flat_take_len txt 1001 k ws HF.out
   obtain⟨b1,o1,u,rfl,hcell,hu⟩:=HRl.out.at_ hlt
   replace hcell:=HB.out.buf.bel.cell hcell
   have hxl:=HM.out _ (List.getElem_mem hlt)
   obtain⟨x,hx⟩:∃x,x=ws[k]:=⟨_,rfl⟩
   rw [<-hx]at hu hxl
   rw [show u=.string x from hu]at hcell
   have HX:=zh hx
   clear hx hu
   go_wp2_with (go_at_call 38;refine(text_w _ HB.out (by first|omega|(simp only [List.length_append,List.length_nil,List.length_cons,txt,sby_length,numB_len,sfB] <;> omega))).mono ?_;rintro e w1 ⟨rfl,v1,hn⟩;replace HB:=zh hn;clear hn)
   go_roundw
   case rel=>
    refine⟨k+1,by omega,by go_num,v1,?_⟩
    rw [take_flat _ ws k hlt,<-HX.out]
    have hz:=HB.out
    simp only [List.append_assoc,sfB,prB,erB]at hz⊢
    exact zh hz
   case measure=>simp [intOf];omega
  ·obtain rfl:k=ws.length:=by omega
   have hfl:=flat_len txt 1001 ws HF.out
   rw [List.take_length]at HB
   have hc:=HB.out.cell
   go_wp2_with (go_at_call 36;refine(number_w 1 (by omega) _ HB.out (by first|omega|(simp only [List.length_append,List.length_nil,List.length_cons,txt,sby_length,numB_len,sfB] <;> omega))).mono ?_;rintro e w1 ⟨rfl,v1,hn⟩;clear hc;have hc:=hn.cell;replace HB:=zh hn;clear hn)
   go_ret
   exact gave_of HB.out (by have hz:=HE.out;subst hz;rw [HP0.out];first|done|(simp only [List.nil_append,List.append_assoc,List.append_nil]))
set_option maxHeartbeats 1000000 in
theorem body49 (a b:ByteArray)(n:Int)(vf vr vt vv vd vw vp vl:Value)(w:World)(vls:List (Bool×List Int))(A_l:Option Addr)(c_l:Nat)(hvl:vv=.slice A_l vls.length c_l)(hr:RdM 2 isVal w (.slice A_l vls.length c_l) vls)(hl:vls.length<=1000)(hm:∀y∈vls,y.2.length<=2000)(R:List Int)(hE:(vls.flatMap fun x=>valB x.1 x.2)=R):
 Calls Tryz.prog 16 #[.agg #[.int .i64 49,.string a,.string b,.int .u32 n,vf,vr,vt,vv,vd,vw,vp,vl]] w (Gave w R):=by
 subst hvl
 have HRl:=zh (hr.ext (ext_alloc w (.cells #[.int .i64 49,.string a,.string b,.int .u32 n,vf,vr,vt,.slice A_l vls.length c_l,vd,vw,vp,vl] 37)) (isVal.ext (ext_alloc w (.cells #[.int .i64 49,.string a,.string b,.int .u32 n,vf,vr,vt,.slice A_l vls.length c_l,vd,vw,vp,vl] 37))))
 clear hr
 have HM:=zh hm
 have HF:=zh (show∀y∈vls,((fun x:Bool×List Int=>valB x.1 x.2) y).length<=2004 from fun y hy=>Nat.le_trans (valB_len y) (by have:=hm y hy;omega))
 clear hm
 have hx7:True:=trivial
 have h0:=Wr.start1 w (.cells #[.int .i64 49,.string a,.string b,.int .u32 n,vf,vr,vt,.slice A_l vls.length c_l,vd,vw,vp,vl] 37)
 have hc:=h0.cell
 have HB:=zh h0
 clear h0
 have HE:=zh hE
 clear hE
 go_enter Tryz.func16,Tryz.ntmps16
 go_wp2
 obtain⟨PRE0,HB',HP0⟩:∃P,Hid (Wr (Lt (w.alloc (.cells #[.int .i64 49,.string a,.string b,.int .u32 n,vf,vr,vt,.slice A_l vls.length c_l,vd,vw,vp,vl] 37)).heap.size) (w.alloc (.cells #[.int .i64 49,.string a,.string b,.int .u32 n,vf,vr,vt,.slice A_l vls.length c_l,vd,vw,vp,vl] 37)) _ (w.heap.size+1+1) _ (P))/\Hid (P=[]):=⟨_,HB,zh rfl⟩
 clear HB
 have hpl0:PRE0.length<=0:=by rw [HP0.out];first|omega|(simp only [List.length_append,List.length_nil,List.length_cons,txt,sby_length,numB_len,sfB] <;> omega)
 go_loopw [301] (fun i wr=>∃k:Nat,k<=vls.length/\i=.int .i64 k/\∃v',Hid (Wr (Lt (w.alloc (.cells #[.int .i64 49,.string a,.string b,.int .u32 n,vf,vr,vt,.slice A_l vls.length c_l,vd,vw,vp,vl] 37)).heap.size) (w.alloc (.cells #[.int .i64 49,.string a,.string b,.int .u32 n,vf,vr,vt,.slice A_l vls.length c_l,vd,vw,vp,vl] 37)) wr (w.heap.size+1+1) v' (PRE0++(vls.take k).flatMap (fun x:Bool×List Int=>valB x.1 x.2)))) (fun i _=>vls.length - (intOf i).toNat)
 case atStart=>exact⟨0,Nat.zero_le _,rfl,_,by simpa using HB'⟩
 case round=>
  clear HB' hc hx7
  obtain⟨k,hk1,rfl,v2,HB⟩:=hrel
  by_cases hlt:k < vls.length
  ·have hfl:=flat_take_len (fun x:Bool×List Int=>valB x.1 x.2) 2004 k vls HF.out
   obtain⟨b1,o1,f,rfl,hcell,hv⟩:=HRl.out.at_ hlt
   have hxl:=HM.out _ (List.getElem_mem hlt)
   obtain⟨x,hx⟩:∃x,x=vls[k]:=⟨_,rfl⟩
   rw [<-hx]at hv hxl
   obtain⟨hf0,A1,c1,hf1,hrd⟩:=hv
   have HD:=zh hrd
   have hd0:=HB.out.buf.bel.cell (hcell 0 (by omega))
   rw [hf0,Nat.add_zero]at hd0
   have hd1:=HB.out.buf.bel.cell (hcell 1 (by omega))
   rw [hf1]at hd1
   have HX:=zh hx
   clear hx hcell hf0 hf1 hrd
   go_wp2_with (go_at_call 42;refine(value_w x.1 A1 c1 x.2 (HB.out.ext (ext_alloc _ _)) HD.out (by first|omega|(simp only [List.length_append,List.length_nil,List.length_cons,txt,sby_length,numB_len,sfB] <;> omega))).mono ?_;rintro e w1 ⟨rfl,v1,hn⟩;replace HB:=zh hn;clear hn)
   go_roundw
   case rel=>
    refine⟨k+1,by omega,by go_num,v1,?_⟩
    rw [take_flat _ vls k hlt,<-HX.out]
    have hz:=HB.out
    simp only [List.append_assoc,sfB,prB,erB]at hz⊢
    exact zh hz
   case measure=>simp [intOf];omega
  ·obtain rfl:k=vls.length:=by omega
   have hfl:=flat_len (fun x:Bool×List Int=>valB x.1 x.2) 2004 vls HF.out
   rw [List.take_length]at HB
   have hc:=HB.out.cell
   go_wp2
   go_ret
   exact gave_of HB.out (by have hz:=HE.out;subst hz;rw [HP0.out];first|done|(simp only [List.nil_append,List.append_assoc,List.append_nil]))
theorem opt_len {vls:List (Bool×List Int)} (h:∀y∈vls,y.2.length<=200):(vls.flatMap fun x=>valB x.1 x.2).length<=vls.length * 204:=by
 refine flat_len (fun x:Bool×List Int=>valB x.1 x.2) 204 vls fun x hx=>?_
 have:=h x hx
 rw [valB_opt]
 unfold optV optB
 obtain⟨b,d⟩:=x
 cases b <;> simp [b32_len];simp at this;omega
theorem n2_len (l:List Int):(l.flatMap fun n=>numB n 2).length<=l.length * 2:=flat_len _ 2 l fun x _=>by simp [numB_len]
theorem n4_len (l:List Int):(l.flatMap fun n=>numB n 4).length<=l.length * 4:=flat_len _ 4 l fun x _=>by simp [numB_len]
end Go.Proofs.YtdenjanihikolaaGreatDoor
