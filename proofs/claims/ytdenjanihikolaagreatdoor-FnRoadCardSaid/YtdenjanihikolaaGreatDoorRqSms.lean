/- Numbers and texts that a method of decoding reads, by contract. -/
import Derived.Test.YtdenjanihikolaaGreatDoorRqA0
import Derived.Test.YtdenjanihikolaaGreatDoorRqA1
import Derived.Shelf.Sort.Plain
import Derived.Shelf.Strings.Search1
import Derived.Shelf.Small.Strs
import Derived.Test.YtdenjanihikolaaGreatDoorRqFit
import Derived.Lib.EndianBits
import Derived.Test.YtdenjanihikolaaGreatDoorRqEncc
import Derived.Test.YtdenjanihikolaaGreatDoorRqWrd
import Derived.WalkLawsBesides
import Derived.Deep.QuietTactic
import Derived.BigQuiet
import Derived.Deep.RegionWith
import Derived.Deep.Light
namespace Go.Proofs.YtdenjanihikolaaGreatDoor
set_option linter.unusedVariables false
set_option linter.unusedSimpArgs false
set_option maxRecDepth 100000
set_option maxHeartbeats 4000000
open Go.RowKit Go.Maps Go.Sort
open Go.Shelf
def lays190_ren:Go.Shelf.Ren:=⟨fun|190=>195|125=>77|258=>197|128=>89|129=>90|302=>199|303=>200|304=>201|305=>202|306=>203|307=>204|308=>205|309=>206|310=>207|333=>208|329=>98|330=>99|334=>209|335=>210|336=>211|344=>212|n=>n,fun|31=>27|9=>9|3=>3|46=>264|0=>0|51=>22|53=>277|4=>4|183=>269|182=>268|131=>273|5=>5|218=>284|222=>288|228=>296|229=>297|n=>n,fun|n=>n⟩
theorem lays190:Go.Proofs.Lays.n190 Tryz.prog lays190_ren:=
 {mixed:=by kernel_rfl,
  f125:=Tryz.func77.trans (congrArg some (by kernel_rfl)),
  f128:=Tryz.func89.trans (congrArg some (by kernel_rfl)),
  f129:=Tryz.func90.trans (congrArg some (by kernel_rfl)),
  f190:=Tryz.func195.trans (congrArg some (by kernel_rfl)),
  f258:=Tryz.func197.trans (congrArg some (by kernel_rfl)),
  f302:=Tryz.func199.trans (congrArg some (by kernel_rfl)),
  f303:=Tryz.func200.trans (congrArg some (by kernel_rfl)),
  f304:=Tryz.func201.trans (congrArg some (by kernel_rfl)),
  f305:=Tryz.func202.trans (congrArg some (by kernel_rfl)),
  f306:=Tryz.func203.trans (congrArg some (by kernel_rfl)),
  f307:=Tryz.func204.trans (congrArg some (by kernel_rfl)),
  f308:=Tryz.func205.trans (congrArg some (by kernel_rfl)),
  f309:=Tryz.func206.trans (congrArg some (by kernel_rfl)),
  f310:=Tryz.func207.trans (congrArg some (by kernel_rfl)),
  f329:=Tryz.func98.trans (congrArg some (by kernel_rfl)),
  f330:=Tryz.func99.trans (congrArg some (by kernel_rfl)),
  f333:=Tryz.func208.trans (congrArg some (by kernel_rfl)),
  f334:=Tryz.func209.trans (congrArg some (by kernel_rfl)),
  f335:=Tryz.func210.trans (congrArg some (by kernel_rfl)),
  f336:=Tryz.func211.trans (congrArg some (by kernel_rfl)),
  f344:=Tryz.func212.trans (congrArg some (by kernel_rfl)),
  t0:=Tryz.underlying0,
  a0:=Tryz.isAgg0,
  z0:=Tryz.sizeOf0,
  v0:=Tryz.zeroValue0,
  t3:=Tryz.underlying3,
  a3:=Tryz.isAgg3,
  z3:=Tryz.sizeOf3,
  v3:=Tryz.zeroValue3,
  t4:=Tryz.underlying4,
  a4:=Tryz.isAgg4,
  z4:=Tryz.sizeOf4,
  v4:=Tryz.zeroValue4,
  t5:=Tryz.underlying5,
  a5:=Tryz.isAgg5,
  z5:=Tryz.sizeOf5,
  v5:=Tryz.zeroValue5,
  t9:=Tryz.underlying9,
  a9:=Tryz.isAgg9,
  z9:=Tryz.sizeOf9,
  v9:=Tryz.zeroValue9,
  t31:=Tryz.underlying27,
  a31:=Tryz.isAgg27,
  z31:=Tryz.sizeOf27,
  v31:=Tryz.zeroValue27,
  t46:=Tryz.underlying264,
  a46:=Tryz.isAgg264,
  z46:=Tryz.sizeOf264,
  v46:=Tryz.zeroValue264,
  t51:=Tryz.underlying22,
  a51:=Tryz.isAgg22,
  z51:=Tryz.sizeOf22,
  v51:=Tryz.zeroValue22,
  t53:=Tryz.underlying277,
  a53:=Tryz.isAgg277,
  z53:=Tryz.sizeOf277,
  v53:=Tryz.zeroValue277,
  t131:=Tryz.underlying273,
  a131:=Tryz.isAgg273,
  z131:=Tryz.sizeOf273,
  v131:=Tryz.zeroValue273,
  t182:=Tryz.underlying268,
  a182:=Tryz.isAgg268,
  z182:=Tryz.sizeOf268,
  v182:=Tryz.zeroValue268,
  t183:=Tryz.underlying269,
  a183:=Tryz.isAgg269,
  z183:=Tryz.sizeOf269,
  v183:=Tryz.zeroValue269,
  t218:=Tryz.underlying284,
  a218:=Tryz.isAgg284,
  z218:=Tryz.sizeOf284,
  v218:=Tryz.zeroValue284,
  t222:=Tryz.underlying288,
  a222:=Tryz.isAgg288,
  z222:=Tryz.sizeOf288,
  v222:=Tryz.zeroValue288,
  t228:=Tryz.underlying296,
  a228:=Tryz.isAgg296,
  z228:=Tryz.sizeOf296,
  v228:=Tryz.zeroValue296,
  t229:=Tryz.underlying297,
  a229:=Tryz.isAgg297,
  z229:=Tryz.sizeOf297,
  v229:=Tryz.zeroValue297}
def lays137_ren:Go.Shelf.Ren:=⟨fun|137=>194|217=>196|266=>198|n=>n,fun|9=>9|5=>5|3=>3|n=>n,fun|n=>n⟩
theorem lays137:Go.Proofs.Lays.n137 Tryz.prog lays137_ren:=
 {mixed:=by kernel_rfl,
  f137:=Tryz.func194.trans (congrArg some (by kernel_rfl)),
  f217:=Tryz.func196.trans (congrArg some (by kernel_rfl)),
  f266:=Tryz.func198.trans (congrArg some (by kernel_rfl)),
  t3:=Tryz.underlying3,
  a3:=Tryz.isAgg3,
  z3:=Tryz.sizeOf3,
  v3:=Tryz.zeroValue3,
  t5:=Tryz.underlying5,
  a5:=Tryz.isAgg5,
  z5:=Tryz.sizeOf5,
  v5:=Tryz.zeroValue5,
  t9:=Tryz.underlying9,
  a9:=Tryz.isAgg9,
  z9:=Tryz.sizeOf9,
  v9:=Tryz.zeroValue9}
theorem sortS:SortS:=fun blk off cap ss w hH hb hl=>Any.slices_Sort_string lays190 blk off cap ss w hH hb hl
theorem idxS (s:ByteArray)(c:Int)(w:World):Calls Tryz.prog 194 #[.string s,.int .u8 c] w fun e w'=>e=.returned (.int .i64 (Lib.indexByte s.data.toList c.toNat.toUInt8))/\w'=w:=Any.strings_IndexByte lays137 s c w
open Go.RowKit Og
def RdN (bk:Nat) (w:World) (v:Value) (xs:List Int):Prop:=RdB w v xs/\(0 < xs.length->v.ownBlock≠some bk)
theorem RdN.at_ {bk:Nat} {w w':World} {v:Value} {xs:List Int} (h:RdN bk w v xs)(hx:ExtBut bk w w'):RdN bk w' v xs:=by
 refine⟨?_,h.2⟩
 obtain⟨⟨A,c,hv,h1,h2,h3⟩,h4⟩:=h
 refine⟨A,c,hv,h1,h2,fun hn=>?_⟩
 obtain⟨b,off,hA,hc⟩:=h3 hn
 refine⟨b,off,hA,fun j hj=>?_⟩
 have hne:b≠bk:=fun e=>h4 hn (by rw [hv,hA,e];rfl)
 exact(cell_of_heap (hx.block b (lt_of_cell (hc j hj)) hne) _).trans (hc j hj)
theorem RdB.len {w:World} {v:Value} {xs:List Int} (h:RdB w v xs):∃A c,v=.slice A xs.length c:=by
 obtain⟨A,c,hv,_⟩:=h
 exact⟨A,c,hv⟩
theorem RdB.sub {w:World} {A A':Option Addr} {c n l:Nat} {xs:List Int} (h:RdB w (.slice A xs.length c) xs)(hl:l+n<=xs.length)(hA:0 < n->A'=A.map (·.add l))(c':Nat)(hc:n<=c'/\c'<=maxLen):RdB w (.slice A' n c') ((xs.drop l).take n):=by
 obtain⟨A0,c0,hv,h1,h2,h3⟩:=h
 obtain⟨rfl,rfl⟩:A=A0/\c=c0:=by simpa using hv
 have hlen:((xs.drop l).take n).length=n:=by rw [List.length_take,List.length_drop];omega
 refine⟨A',c',by rw [hlen],by omega,hc.2,fun hn=>?_⟩
 rw [hlen]at hn
 obtain⟨b,off,hA0,hcell⟩:=h3 (by omega)
 subst hA0
 refine⟨b,off+l,by rw [hA hn];simp [add_lit0],fun j hj=>?_⟩
 rw [hlen]at hj
 have:=hcell (l+j) (by omega)
 rw [show off+l+j=off+(l+j) by omega,this]
 congr 2
 simp [List.getD,List.getElem?_take,List.getElem?_drop,hj]
theorem RdN.sub {bk:Nat} {w:World} {A A':Option Addr} {c n l:Nat} {xs:List Int} (h:RdN bk w (.slice A xs.length c) xs)(hl:l+n<=xs.length)(hA:0 < n->A'=A.map (·.add l))(c':Nat)(hc:n<=c'/\c'<=maxLen):RdN bk w (.slice A' n c') ((xs.drop l).take n):=by
 refine⟨h.1.sub hl hA c' hc,fun hn=>?_⟩
 have hlen:((xs.drop l).take n).length=n:=by rw [List.length_take,List.length_drop];omega
 rw [hlen]at hn
 have h2:=h.2 (by omega)
 rw [hA hn]
 cases A with
 | none=>simp [Value.ownBlock]
 | some a=>
   simp only [Value.ownBlock,Option.map_some]at h2⊢
   have:(a.add l).block=a.block:=by unfold Addr.add;split <;> rfl
   rw [this]
   exact h2
theorem add_zero_map (A:Option Addr):A.map (·.add 0)=A:=by
 cases A with
 | none=>rfl
 | some a=>obtain⟨b,o,p⟩:=a;cases p <;> simp [Addr.add]
theorem RdB.parts {w:World} {A:Option Addr} {n c:Nat} {xs:List Int} (h:RdB w (.slice A n c) xs):n=xs.length/\xs.length<=c/\c<=maxLen:=by
 obtain⟨A0,c0,hv,h1,h2,_⟩:=h
 obtain⟨rfl,rfl,rfl⟩:A=A0/\n=xs.length/\c=c0:=by simpa using hv
 exact⟨rfl,h1,h2⟩
theorem RdB.take {w:World} {A:Option Addr} {n c:Nat} {xs:List Int} (h:RdB w (.slice A n c) xs)(k:Nat)(hk:k<=n):RdB w (.slice A k c) (xs.take k):=by
 obtain⟨rfl,h1,h2⟩:=h.parts
 have:=h.sub (l:=0) (n:=k) (A':=A) (by omega) (fun _=>(add_zero_map A).symm) c (by omega)
 simpa using this
theorem RdN.take {bk:Nat} {w:World} {A:Option Addr} {n c:Nat} {xs:List Int} (h:RdN bk w (.slice A n c) xs)(k:Nat)(hk:k<=n):RdN bk w (.slice A k c) (xs.take k):=by
 refine⟨h.1.take k hk,fun hn=>?_⟩
 rw [List.length_take]at hn
 have e:(Value.slice A k c).ownBlock=(Value.slice A n c).ownBlock:=by cases A <;> rfl
 rw [e]
 exact h.2 (by omega)
theorem RdN.drop {bk:Nat} {w:World} {A:Option Addr} {n c:Nat} {xs:List Int} (h:RdN bk w (.slice A n c) xs)(k:Nat)(hk:k<=n):RdN bk w (.slice (A.map (·.add k)) (n - k) (c - k)) (xs.drop k):=by
 obtain⟨rfl,h1,h2⟩:=h.1.parts
 have:=h.sub (l:=k) (n:=xs.length - k) (A':=A.map (·.add k)) (by omega) (fun _=>rfl) (c - k) (by omega)
 rwa [List.take_of_length_le (by rw [List.length_drop];omega)]at this
theorem RdN.none {bk:Nat} {w:World} (A:Option Addr)(n c:Nat)(xs:List Int)(hx:xs=[])(hn:n=0)(hc:c<=maxLen):RdN bk w (.slice A n c) xs:=by
 subst hx;subst hn
 exact⟨⟨A,c,rfl,Nat.zero_le _,hc,fun h=>absurd h (Nat.lt_irrefl 0)⟩,fun h=>absurd h (Nat.lt_irrefl 0)⟩
structure Cur (bk:Nat) (w1:World) (bb:Nat) (w:World) (xs:List Int):Prop where
 bel:ExtBut bk w1 w
 lo:w1.heap.size<=bb
 hi:bk < w1.heap.size
 blk:∃A c,w.heap[bb]?=some (.cells #[.slice A xs.length c] 347 (0,0))/\RdN bk w1 (.slice A xs.length c) xs
theorem Cur.ext {bk bb:Nat} {w1 w w':World} {xs:List Int} (h:Cur bk w1 bb w xs)(hx:Ext w w'):Cur bk w1 bb w' xs:=by
 obtain⟨A,c,hb,hr⟩:=h.blk
 exact⟨h.bel.trans hx.but,h.lo,h.hi,A,c,(hx.block bb (zl hb)).trans hb,hr⟩
theorem Cur.but {bk bb:Nat} {w1 w w':World} {xs:List Int} (h:Cur bk w1 bb w xs)(hx:ExtBut bk w w'):Cur bk w1 bb w' xs:=by
 obtain⟨A,c,hb,hr⟩:=h.blk
 refine⟨h.bel.trans hx,h.lo,h.hi,A,c,(hx.block bb (zl hb) ?_).trans hb,hr⟩
 have:=h.lo;have:=h.hi;omega
theorem Cur.set {bk bb:Nat} {w1 w:World} {xs ys:List Int} (h:Cur bk w1 bb w xs) {A:Option Addr} {n c:Nat} (hr:RdN bk w1 (.slice A n c) ys):Cur bk w1 bb (w.setCell ⟨bb,0,none⟩ (.slice A n c)) ys/\ExtBut bb w (w.setCell ⟨bb,0,none⟩ (.slice A n c)):=by
 obtain⟨A0,c0,hb,_⟩:=h.blk
 obtain⟨rfl,_,_⟩:=hr.1.parts
 have hE:ExtBut bb w (w.setCell ⟨bb,0,none⟩ (.slice A ys.length c)):=(Ext.refl w).but.set 0 _
 refine⟨⟨?_,h.lo,h.hi,A,c,slot_setCell hb,hr⟩,hE⟩
 refine⟨h.bel.os,h.bel.tape,h.bel.output,by simpa [World.setCell]using h.bel.size,fun k hk hne=>?_⟩
 have:=h.lo
 exact(heap_setCell_other w ⟨bb,0,none⟩ k _ (by simp only [];omega)).trans (h.bel.block k hk hne)
theorem cur_len {bk bb:Nat} {w1 w:World} {xs:List Int} (h:Cur bk w1 bb w xs):
 Calls Tryz.prog 167 #[.pointer (some ⟨bb,0,none⟩)] w (fun e w'=>e=.returned (.int .i64 xs.length)/\w'=w):=by
 obtain⟨A,c,hb,hr⟩:=h.blk
 have hc:=zc hb 0 _ rfl
 clear hr h
 go_enter Tryz.func167,Tryz.ntmps167
 go_wp2
 go_ret
 exact⟨rfl,rfl⟩
theorem cur_new {bk:Nat} {w1 w:World} {v:Value} {xs:List Int} (h:RdN bk w1 v xs)(hb:bk < w1.heap.size)(hx:ExtBut bk w1 w):
 Calls Tryz.prog 165 #[v] w (fun e w'=>e=.returned (.pointer (some ⟨w.heap.size,0,none⟩))/\Cur bk w1 w.heap.size w' xs/\Ext w w'):=by
 obtain⟨A,c,hv⟩:=h.1.len
 subst hv
 have H:=zh h
 have HX:=zh hx
 clear h hx
 go_enter Tryz.func165,Tryz.ntmps165
 go_wp2
 go_ret
 exact⟨rfl,⟨HX.out.trans (ext_alloc w _).but,HX.out.size,hb,A,c,heap_alloc_new _ _,H.out⟩,ext_alloc w _⟩
def GaveN (bk:Nat) (w1:World) (bb k:Nat) (w:World) (xs:List Int):Ending->World->Prop:=fun e w'=>∃A c,e=.returned (.slice A k c)/\RdN bk w1 (.slice A k c) (xs.take k)/\Cur bk w1 bb w' (xs.drop k)/\ExtBut bb w w'
theorem cur_next {bk bb:Nat} {w1 w:World} {xs:List Int} (h:Cur bk w1 bb w xs)(k:Nat)(hk:k<=xs.length):
 Calls Tryz.prog 168 #[.pointer (some ⟨bb,0,none⟩),.int .i64 k] w (GaveN bk w1 bb k w xs):=by
 obtain⟨A,c,hb,hr⟩:=h.blk
 have hc:=zc hb 0 _ rfl
 have hf:=free_slot hb 0
 obtain⟨_,hn,hm⟩:=hr.1.parts
 have HR:=zh hr
 have H:=zh h
 clear hr h hb
 have hG:GaveN bk w1 bb k w xs=GaveN bk w1 bb k w xs:=rfl
 go_enter Tryz.func168,Tryz.ntmps168
 go_wp2
 all_goals go_ret
 ·have hck:c=k:=by assumption
  have h3:=HR.out.take k hk
  rw [hck]at h3 hm
  obtain⟨h1,h2⟩:=H.out.set (RdN.none (bk:=bk) (w:=w1) A (xs.length - k) 0 (xs.drop k) (List.drop_eq_nil_of_le (by omega)) (by omega) (by omega))
  exact⟨A,k,rfl,h3,h1,h2⟩
 ·obtain⟨h1,h2⟩:=H.out.set (HR.out.drop k hk)
  exact⟨A,c,rfl,HR.out.take k hk,h1,h2⟩
open Go.RowKit
def plainP (s:ByteArray):Prop:=s.size<=200/\∀k (h:k < s.size),(s[k].toNat:Int)≠0
instance (s:ByteArray):Decidable (plainP s):=by unfold plainP;infer_instance
def plainQ (s:ByteArray):Bool:=decide (plainP s)
theorem plainQ_of {s:ByteArray} (h:plainQ s=true):plainP s:=of_decide_eq_true h
theorem nz_step {s:ByteArray} {k:Nat} (hk:k < s.size)(h:∀j (hj:j < s.size),j < k->(s[j].toNat:Int)≠0)(h0:(s[k].toNat:Int)≠0):∀j (hj:j < s.size),j < k+1->(s[j].toNat:Int)≠0:=by
 intro j hj hjk
 by_cases e:j=k
 ·subst e;exact h0
 ·exact h j hj (by omega)
theorem plain27 (s:ByteArray)(hs:s.size<=2147483647)(w:World):Calls Tryz.prog 27 #[.string s] w (fun e w'=>e=.returned (.bool (plainQ s))/\w'=w):=by
 go_enter Tryz.func27,Tryz.ntmps27
 go_wp2
 go_loopw [6] (fun i wr=>∃k:Nat,k<=s.size/\i=.int .i64 k/\wr=w/\Hid (∀j (hj:j < s.size),j < k->(s[j].toNat:Int)≠0)) (fun i _=>s.size - (intOf i).toNat)
 case atStart=>exact⟨0,Nat.zero_le _,rfl,rfl,zh (fun _ _ h=>absurd h (Nat.not_lt_zero _))⟩
 case round=>
  obtain⟨k,hk1,rfl,rfl,HY⟩:=hrel
  by_cases hlt:k < s.size
  ·by_cases hz:(s[k].toNat:Int)=0
   ·have hb:((s[k].toNat:Int) == 0)=true:=by simp [hz]
    go_wp2
    go_ret
    refine⟨?_,rfl⟩
    have:plainQ s=false:=by
     unfold plainQ
     exact decide_eq_false fun h=>h.2 k hlt hz
    rw [this];rfl
   ·have hb:((s[k].toNat:Int) == 0)=false:=beq_eq_false_iff_ne.2 hz
    go_wp2
    go_roundw
    case rel=>exact⟨k+1,by omega,by go_num,by first|rfl|trivial,zh (nz_step hlt HY.out hz)⟩
    case measure=>simp [intOf];omega
  ·obtain rfl:k=s.size:=by omega
   go_wp2
   go_ret
   refine⟨?_,rfl⟩
   have hq:plainQ s=decide ((s.size:Int)<=200):=by
    unfold plainQ
    have h1:plainP s↔(s.size:Int)<=200:=⟨fun h=>by have:=h.1;omega,fun h=>⟨by omega,fun j hj=>HY.out j hj hj⟩⟩
    by_cases h2:(s.size:Int)<=200
    ·rw [decide_eq_true h2];exact decide_eq_true (h1.2 h2)
    ·rw [decide_eq_false h2];exact decide_eq_false fun h=>h2 (h1.1 h)
   rw [hq];rfl
def knownK (k:Int):Prop:=(0<=k/\k<=20)∨(30<=k/\k<=57)
theorem known26 (kd:Int)(w:World):Calls Tryz.prog 26 #[.int .i64 kd] w (Said w (knownK kd)):=by
 go_enter Tryz.func26,Tryz.ntmps26
 go_wp2
 all_goals(go_ret;refine⟨_,rfl,?_,zr⟩;unfold knownK;first|(intro h;cases h;done)|(intro h;simp at h;omega)|(intro h;omega))
theorem shorts52 (l:List Int)(A_l:Option Addr)(c_l:Nat)(most:Int)(w:World)(hr:RdI .i64 w (.slice A_l l.length c_l) l)(hl:l.length<=2147483647):Calls Tryz.prog 52 #[.slice A_l l.length c_l,.int .i64 most] w (Said w (l.length<=most/\∀y∈l, -32768<=y/\y<=32767)):=by
 have HR:=zh hr
 clear hr
 go_enter Tryz.func52,Tryz.ntmps52
 go_wp2
 go_loopw [9] (fun i wr=>∃k:Nat,k<=l.length/\i=.int .i64 k/\Hid (Ext w wr)/\Hid (∀y∈l.take k, -32768<=y/\y<=32767)) (fun i _=>l.length - (intOf i).toNat)
 case atStart=>exact⟨0,Nat.zero_le _,rfl,zh zr,zh (by simp)⟩
 case round=>
  obtain⟨k,hk1,rfl,HE,HY⟩:=hrel
  by_cases hlt:k < l.length
  ·obtain⟨b1,o1,rfl,hcell⟩:=HR.out.at_ hlt
   replace hcell:=HE.out.cell hcell
   rw [getD_at hlt]at hcell
   obtain⟨x,hx⟩:∃x,x=l[k]:=⟨_,rfl⟩
   rw [<-hx]at hcell
   have HX:=zh hx
   clear hx
   go_wp2
   all_goals first
    | (go_ret;exact⟨_,rfl,fun h=>by(cases h;done),HE.out⟩)
    | (go_roundw
       case rel=>
        refine⟨k+1,by omega,by go_num,HE,zh (all_take l k hlt HY.out ?_)⟩
        rw [<-HX.out]
        omega
       case measure=>simp [intOf];omega)
  ·obtain rfl:k=l.length:=by omega
   go_wp2
   go_ret
   exact⟨_,rfl,fun h=>⟨by simp at h;omega,by have:=HY.out;rwa [List.take_length]at this⟩,HE.out⟩
theorem formats30 (l:List Int)(A_l:Option Addr)(c_l:Nat)(w:World)(hr:RdI .i64 w (.slice A_l l.length c_l) l)(hl:l.length<=2147483647):Calls Tryz.prog 30 #[.slice A_l l.length c_l] w (Said w (l.length<=20/\∀y∈l,(y=0∨y=1))):=by
 have HR:=zh hr
 clear hr
 go_enter Tryz.func30,Tryz.ntmps30
 go_wp2
 go_loopw [7] (fun i wr=>∃k:Nat,k<=l.length/\i=.int .i64 k/\Hid (Ext w wr)/\Hid (∀y∈l.take k,(y=0∨y=1))) (fun i _=>l.length - (intOf i).toNat)
 case atStart=>exact⟨0,Nat.zero_le _,rfl,zh zr,zh (by simp)⟩
 case round=>
  obtain⟨k,hk1,rfl,HE,HY⟩:=hrel
  by_cases hlt:k < l.length
  ·obtain⟨b1,o1,rfl,hcell⟩:=HR.out.at_ hlt
   replace hcell:=HE.out.cell hcell
   rw [getD_at hlt]at hcell
   obtain⟨x,hx⟩:∃x,x=l[k]:=⟨_,rfl⟩
   rw [<-hx]at hcell
   have HX:=zh hx
   clear hx
   go_wp2
   all_goals first
    | (go_ret;exact⟨_,rfl,fun h=>by(cases h;done),HE.out⟩)
    | (go_roundw
       case rel=>
        refine⟨k+1,by omega,by go_num,HE,zh (all_take l k hlt HY.out ?_)⟩
        rw [<-HX.out]
        (by_cases e0:x=0 <;> by_cases e1:x=1 <;> first|exact .inl e0|exact .inr e1|(exfalso;simp_all))
       case measure=>simp [intOf];omega)
  ·obtain rfl:k=l.length:=by omega
   go_wp2_with (go_at_call 52;refine(shorts52 l _ _ 20 _ (RdI.ext HR.out HE.out) hl).mono ?_;rintro e w1 ⟨bo,rfl,hbo,hbx⟩;have HBO:=zh hbo;have HE2:=HE;replace HE:=zh (HE2.out.trans hbx);clear hbo hbx)
   go_ret
   exact⟨_,rfl,fun h=>⟨by have:=(HBO.out h).1;omega,by have:=HY.out;rwa [List.take_length]at this⟩,HE.out⟩
theorem values28 (l:List (Bool×List Int))(A_l:Option Addr)(c_l:Nat)(most:Int)(w:World)(hr:RdM 2 isVal w (.slice A_l l.length c_l) l)(hl:l.length<=2147483647):Calls Tryz.prog 28 #[.slice A_l l.length c_l,.int .i64 most] w (Said w (l.length<=most/\∀y∈l,y.2.length<=200/\(y.1=true->y.2.length=0))):=by
 have HR:=zh hr
 clear hr
 go_enter Tryz.func28,Tryz.ntmps28
 go_wp2
 go_loopw [9] (fun i wr=>∃k:Nat,k<=l.length/\i=.int .i64 k/\Hid (Ext w wr)/\Hid (∀y∈l.take k,y.2.length<=200/\(y.1=true->y.2.length=0))) (fun i _=>l.length - (intOf i).toNat)
 case atStart=>exact⟨0,Nat.zero_le _,rfl,zh zr,zh (by simp)⟩
 case round=>
  obtain⟨k,hk1,rfl,HE,HY⟩:=hrel
  by_cases hlt:k < l.length
  ·obtain⟨b1,o1,f,rfl,hcell,hv⟩:=HR.out.at_ hlt
   obtain⟨x,hx⟩:∃x,x=l[k]:=⟨_,rfl⟩
   rw [<-hx]at hv
   obtain⟨hf0,A1,c1,hf1,hrd⟩:=hv
   have hd0:=HE.out.cell (hcell 0 (by omega))
   rw [hf0,Nat.add_zero]at hd0
   have hd1:=HE.out.cell (hcell 1 (by omega))
   rw [hf1]at hd1
   obtain⟨x1,x2⟩:=x
   have HX:=zh hx
   clear hx hcell hf0 hf1 hrd
   have HE0:=HE
   replace HE:=zh (HE0.out.alloc (.cells #[.bool x1,.slice A1 x2.length c1] 59))
   cases x1 <;> go_wp2
   all_goals first
    | (go_ret;exact⟨_,rfl,fun h=>by(cases h;done),HE.out⟩)
    | (go_roundw
       case rel=>
        refine⟨k+1,by omega,by go_num,HE,zh (all_take l k hlt HY.out ?_)⟩
        rw [<-HX.out]
        exact⟨by simp only [];omega,fun h=>by first|(cases h;done)|(simp only [];omega)⟩
       case measure=>simp [intOf];omega)
  ·obtain rfl:k=l.length:=by omega
   go_wp2
   go_ret
   exact⟨_,rfl,fun h=>⟨by simp at h;omega,by have:=HY.out;rwa [List.take_length]at this⟩,HE.out⟩
theorem columns29 (l:List Sf)(A_l:Option Addr)(c_l:Nat)(w:World)(hr:RdM 7 isSf w (.slice A_l l.length c_l) l)(hl:l.length<=2147483647)(hnm:∀y∈l,y.name.size<=2147483647):Calls Tryz.prog 29 #[.slice A_l l.length c_l] w (Said w (l.length<=20/\∀y∈l,plainP y.name/\0<=y.col/\y.col<=32767/\ -32768<=y.siz/\y.siz<=32767/\ -2147483648<=y.mdf/\y.mdf < 2147483648/\0<=y.fmt/\y.fmt<=1)):=by
 have HR:=zh hr
 clear hr
 go_enter Tryz.func29,Tryz.ntmps29
 go_wp2
 go_loopw [7] (fun i wr=>∃k:Nat,k<=l.length/\i=.int .i64 k/\Hid (Ext w wr)/\Hid (∀y∈l.take k,plainP y.name/\0<=y.col/\y.col<=32767/\ -32768<=y.siz/\y.siz<=32767/\ -2147483648<=y.mdf/\y.mdf < 2147483648/\0<=y.fmt/\y.fmt<=1)) (fun i _=>l.length - (intOf i).toNat)
 case atStart=>exact⟨0,Nat.zero_le _,rfl,zh zr,zh (by simp)⟩
 case round=>
  obtain⟨k,hk1,rfl,HE,HY⟩:=hrel
  by_cases hlt:k < l.length
  ·obtain⟨b1,o1,f,rfl,hcell,hv⟩:=HR.out.at_ hlt
   have hsz:=hnm _ (List.getElem_mem hlt)
   obtain⟨x,hx⟩:∃x,x=l[k]:=⟨_,rfl⟩
   rw [<-hx]at hv hsz
   obtain⟨hf0,hf1,hf2,hf3,hf4,hf5,hf6⟩:=hv
   have hd0:=HE.out.cell (hcell 0 (by omega))
   rw [hf0,Nat.add_zero]at hd0
   have hd1:=HE.out.cell (hcell 1 (by omega))
   rw [hf1]at hd1
   have hd2:=HE.out.cell (hcell 2 (by omega))
   rw [hf2]at hd2
   have hd3:=HE.out.cell (hcell 3 (by omega))
   rw [hf3]at hd3
   have hd4:=HE.out.cell (hcell 4 (by omega))
   rw [hf4]at hd4
   have hd5:=HE.out.cell (hcell 5 (by omega))
   rw [hf5]at hd5
   have hd6:=HE.out.cell (hcell 6 (by omega))
   rw [hf6]at hd6
   have HX:=zh hx
   clear hx hcell hf0 hf1 hf2 hf3 hf4 hf5 hf6
   have HE0:=HE
   replace HE:=zh (HE0.out.alloc (.cells #[.string x.name,.int .u32 x.tab,.int .i64 x.col,.int .u32 x.typ,.int .i64 x.siz,.int .i64 x.mdf,.int .i64 x.fmt] 63))
   cases hq:plainQ x.name
   all_goals go_wp2_with (go_at_call 27;refine(plain27 x.name hsz _).mono ?_;rintro e w1 ⟨rfl,rfl⟩;rw [hq])
   all_goals first
    | (go_ret;exact⟨_,rfl,fun h=>by(cases h;done),HE.out⟩)
    | (go_roundw
       case rel=>
        refine⟨k+1,by omega,by go_num,HE,zh (all_take l k hlt HY.out ?_)⟩
        rw [<-HX.out]
        exact⟨plainQ_of hq,by omega,by omega,by omega,by omega,by omega,by omega,by omega,by omega⟩
       case measure=>simp [intOf];omega)
  ·obtain rfl:k=l.length:=by omega
   go_wp2
   go_ret
   exact⟨_,rfl,fun h=>⟨by simp at h;omega,by have:=HY.out;rwa [List.take_length]at this⟩,HE.out⟩
theorem Ext.drewN {w w':World} (h:Ext w w')(n:Nat):Ext w (w'.drewN n):=⟨h.os,h.tape,h.output,h.size,h.block⟩
def prO (single empty:Bool) (y:ByteArray×ByteArray):Prop:=plainP y.1/\plainP y.2/\y.1.size≠0/\(single=true->y.1.size=1)/\(empty=false->y.2.size≠0)
def pairsP (single empty:Bool) (l:List (ByteArray×ByteArray)):Prop:=l.length<=20/\(∀y∈l,prO single empty y)/\∀j (h:j+1 < l.length),Op.bytesLess l[j].1.toList l[j+1].1.toList=true
theorem size_ne {x:ByteArray} (h:x.toList.isEmpty=false):x.size≠0:=by
 intro h0
 have:x=⟨#[]⟩:=by
  cases x with
  | mk d=>
    have:d.size=0:=h0
    rw [Array.eq_empty_of_size_eq_zero this]
 subst this
 rw [ByteArray.toList_eq]at h
 exact absurd h (by decide)
theorem prO_of {single empty:Bool} {x1 x2:ByteArray} (hsz:x1.size<=2147483647/\x2.size<=2147483647)(hp1:plainQ x1=true)(hp2:plainQ x2=true)(e3:x1.toList.isEmpty=false)(e4:if single then((x1.size:Int) != 1)=false else True)(e5:if empty then True else x2.toList.isEmpty=false):prO single empty (x1,x2):=by
 refine⟨plainQ_of hp1,plainQ_of hp2,size_ne e3,?_,?_⟩
 ·intro hs
  subst hs
  simp at e4
  show x1.size=1
  omega
 ·intro hs
  subst hs
  simp only [Bool.false_eq_true,if_false]at e5
  exact size_ne e5
def digP (s:ByteArray):Prop:=s.size≠0/\s.size<=9/\(∀k (h:k < s.size),48<=(s[k].toNat:Int)/\(s[k].toNat:Int)<=57)/\∀h:0 < s.size,(s[0].toNat:Int)≠48
theorem dg_step {s:ByteArray} {k:Nat} (hk:k < s.size)(h:∀j (hj:j < s.size),j < k->48<=(s[j].toNat:Int)/\(s[j].toNat:Int)<=57)(h0:48<=(s[k].toNat:Int)/\(s[k].toNat:Int)<=57):∀j (hj:j < s.size),j < k+1->48<=(s[j].toNat:Int)/\(s[j].toNat:Int)<=57:=by
 intro j hj hjk
 by_cases e:j=k
 ·subst e;exact h0
 ·exact h j hj (by omega)
theorem digits53 (s:ByteArray)(hs:s.size<=2147483647)(w:World):Calls Tryz.prog 53 #[.string s] w (Said w (digP s)):=by
 go_enter Tryz.func53,Tryz.ntmps53
 go_wp2
 go_loopw [6] (fun i wr=>∃k:Nat,k<=s.size/\i=.int .i64 k/\wr=w/\Hid (∀j (hj:j < s.size),j < k->48<=(s[j].toNat:Int)/\(s[j].toNat:Int)<=57)) (fun i _=>s.size - (intOf i).toNat)
 case atStart=>exact⟨0,Nat.zero_le _,rfl,rfl,zh (fun _ _ h=>absurd h (Nat.not_lt_zero _))⟩
 case round=>
  obtain⟨k,hk1,rfl,rfl,HY⟩:=hrel
  by_cases hlt:k < s.size
  ·go_wp2
   all_goals first
    | (go_ret;exact⟨_,rfl,fun h=>by(cases h;done),zr⟩)
    | (go_roundw
       case rel=>exact⟨k+1,by omega,by go_num,by first|rfl|trivial,zh (dg_step hlt HY.out (by constructor <;> omega))⟩
       case measure=>simp [intOf];omega)
  ·obtain rfl:k=s.size:=by omega
   cases e3:s.toList.isEmpty
   ·have hne:s.size≠0:=size_ne e3
    have hpos:(0:Int) < (s.size:Int):=by omega
    have hpos':0 < s.size:=by omega
    by_cases h9:(s.size:Int)<=9
    ·have h9':decide ((s.size:Int)<=9)=true:=decide_eq_true h9
     cases e4:((s[0].toNat:Int) != 48)
     all_goals go_wp2
     all_goals go_ret
     ·exact⟨_,rfl,fun h=>by(cases h;done),zr⟩
     ·exact⟨_,rfl,fun h=>⟨hne,by omega,fun j hj=>HY.out j hj hj,fun _=>by simpa using e4⟩,zr⟩
    ·have h9':decide ((s.size:Int)<=9)=false:=decide_eq_false h9
     go_wp2
     all_goals(go_ret;exact⟨_,rfl,fun h=>by(cases h;done),zr⟩)
   ·go_wp2
    all_goals(go_ret;exact⟨_,rfl,fun h=>by(cases h;done),zr⟩)
theorem pairsM (l:List (ByteArray×ByteArray))(A_l:Option Addr)(c_l:Nat)(w:World)(hr:RdM 2 isPr w (.slice A_l l.length c_l) l)(hl:l.length<=2147483647)(hs:∀y∈l,y.1.size<=2147483647/\y.2.size<=2147483647):Calls Tryz.prog 31 #[.slice A_l l.length c_l,.bool false,.bool true] w (Said w (pairsP false true l)):=by
 have HR:=zh hr
 clear hr
 go_enter Tryz.func31,Tryz.ntmps31
 go_wp2
 go_loopw [11] (fun i wr=>∃k:Nat,k<=l.length/\i=.int .i64 k/\Hid (Ext w wr)/\Hid ((∀y∈l.take k,prO false true y)/\(∀j (h:j+1 < l.length),j+1 < k->Op.bytesLess l[j].1.toList l[j+1].1.toList=true))) (fun i _=>l.length - (intOf i).toNat)
 case atStart=>exact⟨0,Nat.zero_le _,rfl,zh zr,zh ⟨by simp,fun _ _ h=>absurd h (Nat.not_lt_zero _)⟩⟩
 case round=>
  obtain⟨k,hk1,rfl,HE,HY⟩:=hrel
  by_cases hlt:k < l.length
  ·obtain⟨b1,o1,f,rfl,hcell,hv⟩:=HR.out.at_ hlt
   have hsz:=hs _ (List.getElem_mem hlt)
   obtain⟨⟨x1,x2⟩,hx⟩:∃x,x=l[k]:=⟨_,rfl⟩
   rw [<-hx]at hv hsz
   have hf0:f 0=.string x1:=hv.1
   have hf1:f 1=.string x2:=hv.2
   replace hsz:x1.size<=2147483647/\x2.size<=2147483647:=hsz
   have hd0:=HE.out.cell (hcell 0 (by omega))
   rw [hf0,Nat.add_zero]at hd0
   have hd1:=HE.out.cell (hcell 1 (by omega))
   rw [hf1]at hd1
   have HX:=zh hx
   clear hx hcell hf0 hf1 hv
   have HE0:=HE
   replace HE:=zh (HE0.out.alloc (.cells #[.string x1,.string x2] 48))
   have Hp1:∀(q:Bool),plainQ x1=q->∀w,Calls Tryz.prog 27 #[.string x1] w (fun e w'=>e=.returned (.bool q)/\w'=w):=fun q hq w=>by rw [<-hq];exact plain27 x1 hsz.1 w
   have Hp2:∀(q:Bool),plainQ x2=q->∀w,Calls Tryz.prog 27 #[.string x2] w (fun e w'=>e=.returned (.bool q)/\w'=w):=fun q hq w=>by rw [<-hq];exact plain27 x2 hsz.2 w
   cases hp1:plainQ x1
   ·go_wp2
    go_quiet (first|(go_at_call_of 27 x1;exact Calls.quiet_of_same (Hp1 _ hp1 _))|(go_at_call_of 27 x2;exact Calls.quiet_of_same (Hp2 _ hp2 _)))
    go_wp2
    go_ret
    exact⟨_,rfl,fun h=>by(cases h;done),(HE.out.drewN nq)⟩
   cases hp2:plainQ x2
   ·go_wp2
    go_quiet (first|(go_at_call_of 27 x1;exact Calls.quiet_of_same (Hp1 _ hp1 _))|(go_at_call_of 27 x2;exact Calls.quiet_of_same (Hp2 _ hp2 _)))
    go_wp2
    go_ret
    exact⟨_,rfl,fun h=>by(cases h;done),(HE.out.drewN nq)⟩
   cases e3:x1.toList.isEmpty
   case true=>
    go_wp2
    go_quiet (first|(go_at_call_of 27 x1;exact Calls.quiet_of_same (Hp1 _ hp1 _))|(go_at_call_of 27 x2;exact Calls.quiet_of_same (Hp2 _ hp2 _)))
    go_wp2
    go_ret
    exact⟨_,rfl,fun h=>by(cases h;done),(HE.out.drewN nq)⟩
   by_cases h6:k=0
   ·have h6':decide ((0:Int) < (k:Int))=false:=decide_eq_false (by omega)
    have h6'':decide (0 < k)=false:=decide_eq_false (by omega)
    have hk0:Hid (k=0):=zh h6
    clear h6
    go_wp2
    go_quiet (first|(go_at_call_of 27 x1;exact Calls.quiet_of_same (Hp1 _ hp1 _))|(go_at_call_of 27 x2;exact Calls.quiet_of_same (Hp2 _ hp2 _)))
    go_wp2
    go_roundw
    case rel=>
     refine⟨k+1,by omega,by go_num,zh (HE.out.drewN nq),zh ⟨all_take l k hlt HY.out.1 ?_,?_⟩⟩
     ·rw [<-HX.out]
      exact prO_of hsz hp1 hp2 e3 trivial trivial
     ·intro j hj hjk
      have:=hk0.out
      omega
    case measure=>simp only [intOf];omega
   ·obtain⟨m,rfl⟩:∃m,k=m+1:=⟨k - 1,by omega⟩
    obtain⟨b2,o2,g,hbo,hcell2,hv2⟩:=HR.out.at_ (show m < l.length by omega)
    obtain⟨rfl,rfl⟩:b1=b2/\o1=o2:=by simpa using hbo
    obtain⟨⟨y1,y2⟩,hy⟩:∃y,y=l[m]:=⟨_,rfl⟩
    rw [<-hy]at hv2
    have hg0:g 0=.string y1:=hv2.1
    have hd2:=HE.out.cell (hcell2 0 (by omega))
    rw [hg0,Nat.add_zero]at hd2
    have HYY:=zh hy
    clear hy hcell2 hv2 hg0 hbo
    have h6':(0:Int) < ((m+1:Nat):Int):=by omega
    cases e7:Op.bytesLess y1.toList x1.toList
    ·go_wp2
     go_quiet (first|(go_at_call_of 27 x1;exact Calls.quiet_of_same (Hp1 _ hp1 _))|(go_at_call_of 27 x2;exact Calls.quiet_of_same (Hp2 _ hp2 _)))
     go_wp2
     go_ret
     exact⟨_,rfl,fun h=>by(cases h;done),(HE.out.drewN nq)⟩
    go_wp2
    go_quiet (first|(go_at_call_of 27 x1;exact Calls.quiet_of_same (Hp1 _ hp1 _))|(go_at_call_of 27 x2;exact Calls.quiet_of_same (Hp2 _ hp2 _)))
    go_wp2
    go_roundw
    case rel=>
     refine⟨m+1+1,by omega,by go_num,zh (HE.out.drewN nq),zh ⟨all_take l (m+1) hlt HY.out.1 ?_,?_⟩⟩
     ·rw [<-HX.out]
      exact prO_of hsz hp1 hp2 e3 trivial trivial
     ·intro j hj hjk
      by_cases hjm:j=m
      ·subst hjm
       have h1:=HX.out
       have h2:=HYY.out
       rw [<-h1,<-h2]
       exact e7
      ·exact HY.out.2 j hj (by omega)
    case measure=>simp only [intOf];omega
  ·obtain rfl:k=l.length:=by omega
   go_wp2
   go_ret
   exact⟨_,rfl,fun h=>⟨by simp at h;omega,by have:=HY.out.1;rwa [List.take_length]at this,fun j h=>HY.out.2 j h h⟩,HE.out⟩
theorem pairsS (l:List (ByteArray×ByteArray))(A_l:Option Addr)(c_l:Nat)(w:World)(hr:RdM 2 isPr w (.slice A_l l.length c_l) l)(hl:l.length<=2147483647)(hs:∀y∈l,y.1.size<=2147483647/\y.2.size<=2147483647):Calls Tryz.prog 31 #[.slice A_l l.length c_l,.bool true,.bool false] w (Said w (pairsP true false l)):=by
 have HR:=zh hr
 clear hr
 go_enter Tryz.func31,Tryz.ntmps31
 go_wp2
 go_loopw [11] (fun i wr=>∃k:Nat,k<=l.length/\i=.int .i64 k/\Hid (Ext w wr)/\Hid ((∀y∈l.take k,prO true false y)/\(∀j (h:j+1 < l.length),j+1 < k->Op.bytesLess l[j].1.toList l[j+1].1.toList=true))) (fun i _=>l.length - (intOf i).toNat)
 case atStart=>exact⟨0,Nat.zero_le _,rfl,zh zr,zh ⟨by simp,fun _ _ h=>absurd h (Nat.not_lt_zero _)⟩⟩
 case round=>
  obtain⟨k,hk1,rfl,HE,HY⟩:=hrel
  by_cases hlt:k < l.length
  ·obtain⟨b1,o1,f,rfl,hcell,hv⟩:=HR.out.at_ hlt
   have hsz:=hs _ (List.getElem_mem hlt)
   obtain⟨⟨x1,x2⟩,hx⟩:∃x,x=l[k]:=⟨_,rfl⟩
   rw [<-hx]at hv hsz
   have hf0:f 0=.string x1:=hv.1
   have hf1:f 1=.string x2:=hv.2
   replace hsz:x1.size<=2147483647/\x2.size<=2147483647:=hsz
   have hd0:=HE.out.cell (hcell 0 (by omega))
   rw [hf0,Nat.add_zero]at hd0
   have hd1:=HE.out.cell (hcell 1 (by omega))
   rw [hf1]at hd1
   have HX:=zh hx
   clear hx hcell hf0 hf1 hv
   have HE0:=HE
   replace HE:=zh (HE0.out.alloc (.cells #[.string x1,.string x2] 48))
   have Hp1:∀(q:Bool),plainQ x1=q->∀w,Calls Tryz.prog 27 #[.string x1] w (fun e w'=>e=.returned (.bool q)/\w'=w):=fun q hq w=>by rw [<-hq];exact plain27 x1 hsz.1 w
   have Hp2:∀(q:Bool),plainQ x2=q->∀w,Calls Tryz.prog 27 #[.string x2] w (fun e w'=>e=.returned (.bool q)/\w'=w):=fun q hq w=>by rw [<-hq];exact plain27 x2 hsz.2 w
   cases hp1:plainQ x1
   ·go_wp2
    go_quiet (first|(go_at_call_of 27 x1;exact Calls.quiet_of_same (Hp1 _ hp1 _))|(go_at_call_of 27 x2;exact Calls.quiet_of_same (Hp2 _ hp2 _)))
    go_wp2
    go_ret
    exact⟨_,rfl,fun h=>by(cases h;done),(HE.out.drewN nq)⟩
   cases hp2:plainQ x2
   ·go_wp2
    go_quiet (first|(go_at_call_of 27 x1;exact Calls.quiet_of_same (Hp1 _ hp1 _))|(go_at_call_of 27 x2;exact Calls.quiet_of_same (Hp2 _ hp2 _)))
    go_wp2
    go_ret
    exact⟨_,rfl,fun h=>by(cases h;done),(HE.out.drewN nq)⟩
   cases e3:x1.toList.isEmpty
   case true=>
    go_wp2
    go_quiet (first|(go_at_call_of 27 x1;exact Calls.quiet_of_same (Hp1 _ hp1 _))|(go_at_call_of 27 x2;exact Calls.quiet_of_same (Hp2 _ hp2 _)))
    go_wp2
    go_ret
    exact⟨_,rfl,fun h=>by(cases h;done),(HE.out.drewN nq)⟩
   cases e4:((x1.size:Int) != 1)
   case true=>
    go_wp2
    go_quiet (first|(go_at_call_of 27 x1;exact Calls.quiet_of_same (Hp1 _ hp1 _))|(go_at_call_of 27 x2;exact Calls.quiet_of_same (Hp2 _ hp2 _)))
    go_wp2
    go_ret
    exact⟨_,rfl,fun h=>by(cases h;done),(HE.out.drewN nq)⟩
   cases e5:x2.toList.isEmpty
   case true=>
    go_wp2
    go_quiet (first|(go_at_call_of 27 x1;exact Calls.quiet_of_same (Hp1 _ hp1 _))|(go_at_call_of 27 x2;exact Calls.quiet_of_same (Hp2 _ hp2 _)))
    go_wp2
    go_ret
    exact⟨_,rfl,fun h=>by(cases h;done),(HE.out.drewN nq)⟩
   by_cases h6:k=0
   ·have h6':decide ((0:Int) < (k:Int))=false:=decide_eq_false (by omega)
    have h6'':decide (0 < k)=false:=decide_eq_false (by omega)
    have hk0:Hid (k=0):=zh h6
    clear h6
    go_wp2
    go_quiet (first|(go_at_call_of 27 x1;exact Calls.quiet_of_same (Hp1 _ hp1 _))|(go_at_call_of 27 x2;exact Calls.quiet_of_same (Hp2 _ hp2 _)))
    go_wp2
    go_roundw
    case rel=>
     refine⟨k+1,by omega,by go_num,zh (HE.out.drewN nq),zh ⟨all_take l k hlt HY.out.1 ?_,?_⟩⟩
     ·rw [<-HX.out]
      exact prO_of hsz hp1 hp2 e3 e4 e5
     ·intro j hj hjk
      have:=hk0.out
      omega
    case measure=>simp only [intOf];omega
   ·obtain⟨m,rfl⟩:∃m,k=m+1:=⟨k - 1,by omega⟩
    obtain⟨b2,o2,g,hbo,hcell2,hv2⟩:=HR.out.at_ (show m < l.length by omega)
    obtain⟨rfl,rfl⟩:b1=b2/\o1=o2:=by simpa using hbo
    obtain⟨⟨y1,y2⟩,hy⟩:∃y,y=l[m]:=⟨_,rfl⟩
    rw [<-hy]at hv2
    have hg0:g 0=.string y1:=hv2.1
    have hd2:=HE.out.cell (hcell2 0 (by omega))
    rw [hg0,Nat.add_zero]at hd2
    have HYY:=zh hy
    clear hy hcell2 hv2 hg0 hbo
    have h6':(0:Int) < ((m+1:Nat):Int):=by omega
    cases e7:Op.bytesLess y1.toList x1.toList
    ·go_wp2
     go_quiet (first|(go_at_call_of 27 x1;exact Calls.quiet_of_same (Hp1 _ hp1 _))|(go_at_call_of 27 x2;exact Calls.quiet_of_same (Hp2 _ hp2 _)))
     go_wp2
     go_ret
     exact⟨_,rfl,fun h=>by(cases h;done),(HE.out.drewN nq)⟩
    go_wp2
    go_quiet (first|(go_at_call_of 27 x1;exact Calls.quiet_of_same (Hp1 _ hp1 _))|(go_at_call_of 27 x2;exact Calls.quiet_of_same (Hp2 _ hp2 _)))
    go_wp2
    go_roundw
    case rel=>
     refine⟨m+1+1,by omega,by go_num,zh (HE.out.drewN nq),zh ⟨all_take l (m+1) hlt HY.out.1 ?_,?_⟩⟩
     ·rw [<-HX.out]
      exact prO_of hsz hp1 hp2 e3 e4 e5
     ·intro j hj hjk
      by_cases hjm:j=m
      ·subst hjm
       have h1:=HX.out
       have h2:=HYY.out
       rw [<-h1,<-h2]
       exact e7
      ·exact HY.out.2 j hj (by omega)
    case measure=>simp only [intOf];omega
  ·obtain rfl:k=l.length:=by omega
   go_wp2
   go_ret
   exact⟨_,rfl,fun h=>⟨by simp at h;omega,by have:=HY.out.1;rwa [List.take_length]at this,fun j h=>HY.out.2 j h h⟩,HE.out⟩
theorem rd16 (A:Option Addr)(n c:Nat)(x0 x1:Int)(r:List Int)(w:World)(h:RdB w (.slice A n c) (x0 :: x1 :: r))(h0:0<=x0/\x0 < 256)(h1:0<=x1/\x1 < 256):
 Calls Tryz.prog 137 #[.slice A n c] w (fun e w'=>e=.returned (.int .u16 (x0 * 256+x1))/\Ext w w'):=by
 obtain⟨rfl,_,_⟩:=h.parts
 obtain⟨A',c',hv,_,_,h3⟩:=h
 obtain⟨rfl,rfl⟩:A=A'/\c=c':=by simpa using hv
 obtain⟨b1,o1,rfl,hc⟩:=h3 (by simp)
 have hd0:=hc 0 (by simp)
 have hd1:=hc 1 (by simp)
 simp only [List.getD_cons_zero,List.getD_cons_succ,Nat.add_zero]at hd0 hd1
 have w0:IntKind.u16.wrap x0=x0:=by rw [IntKind.wrap_u16];omega
 have w1':IntKind.u16.wrap x1=x1:=by rw [IntKind.wrap_u16];omega
 have w2:IntKind.u16.wrap (x0 * 256)=x0 * 256:=by rw [IntKind.wrap_u16];omega
 have w3:x0 % 65536=x0:=by omega
 have w4:x1 % 65536=x1:=by omega
 have w5:x0 * 256 % 65536=x0 * 256:=by omega
 have hor:bits .or .u16 x1 (x0 * 256)=x1+x0 * 256:=u16_or8 (x:=x0 * 256) (y:=x1) (by omega) (by omega) (by omega) (by omega) (by omega)
 clear h3 hc hv
 go_enter Tryz.func137,Tryz.ntmps137
 go_wp2
 go_quiet (skip)
 go_wp2
 go_ret
 exact⟨by rw [Int.add_comm (x0 * 256)];rfl,(Ext.refl w).drewN nq⟩
theorem rd32 (A:Option Addr)(n c:Nat)(x0 x1 x2 x3:Int)(r:List Int)(w:World)(h:RdB w (.slice A n c) (x0 :: x1 :: x2 :: x3 :: r))(h0:0<=x0/\x0 < 256)(h1:0<=x1/\x1 < 256)(h2:0<=x2/\x2 < 256)(h3:0<=x3/\x3 < 256):
 Calls Tryz.prog 138 #[.slice A n c] w (fun e w'=>e=.returned (.int .u32 (x0 * 16777216+x1 * 65536+x2 * 256+x3))/\Ext w w'):=by
 obtain⟨rfl,_,_⟩:=h.parts
 obtain⟨A',c',hv,_,_,hh⟩:=h
 obtain⟨rfl,rfl⟩:A=A'/\c=c':=by simpa using hv
 obtain⟨b1,o1,rfl,hc⟩:=hh (by simp)
 have hd0:=hc 0 (by simp)
 have hd1:=hc 1 (by simp)
 have hd2:=hc 2 (by simp)
 have hd3:=hc 3 (by simp)
 simp only [List.getD_cons_zero,List.getD_cons_succ,Nat.add_zero]at hd0 hd1 hd2 hd3
 have w0:x0 % 4294967296=x0:=by omega
 have w1:x1 % 4294967296=x1:=by omega
 have w2:x2 % 4294967296=x2:=by omega
 have w3:x3 % 4294967296=x3:=by omega
 have w4:x2 * 256 % 4294967296=x2 * 256:=by omega
 have w5:x1 * 65536 % 4294967296=x1 * 65536:=by omega
 have w6:x0 * 16777216 % 4294967296=x0 * 16777216:=by omega
 have v0:IntKind.u32.wrap x0=x0:=by rw [IntKind.wrap_u32];omega
 have v1:IntKind.u32.wrap x1=x1:=by rw [IntKind.wrap_u32];omega
 have v2:IntKind.u32.wrap x2=x2:=by rw [IntKind.wrap_u32];omega
 have v3:IntKind.u32.wrap x3=x3:=by rw [IntKind.wrap_u32];omega
 have v4:IntKind.u32.wrap (x2 * 256)=x2 * 256:=by rw [IntKind.wrap_u32];omega
 have v5:IntKind.u32.wrap (x1 * 65536)=x1 * 65536:=by rw [IntKind.wrap_u32];omega
 have v6:IntKind.u32.wrap (x0 * 16777216)=x0 * 16777216:=by rw [IntKind.wrap_u32];omega
 have hor:bits .or .u32 x3 (x2 * 256)=x3+x2 * 256:=u32_or8 (x:=x2 * 256) (y:=x3) (by omega) (by omega) (by omega) (by omega) (by omega)
 have hor2:bits .or .u32 (x3+x2 * 256) (x1 * 65536)=x3+x2 * 256+x1 * 65536:=u32_or16 (x:=x1 * 65536) (y:=x3+x2 * 256) (by omega) (by omega) (by omega) (by omega) (by omega)
 have hor3:bits .or .u32 (x3+x2 * 256+x1 * 65536) (x0 * 16777216)=x3+x2 * 256+x1 * 65536+x0 * 16777216:=u32_or24 (x:=x0 * 16777216) (y:=x3+x2 * 256+x1 * 65536) (by omega) (by omega) (by omega) (by omega) (by omega)
 have hs:x0 * 16777216+x1 * 65536+x2 * 256+x3=x3+x2 * 256+x1 * 65536+x0 * 16777216:=by omega
 rw [hs]
 clear hs hh hc hv
 go_enter Tryz.func138,Tryz.ntmps138
 go_wp2
 go_quiet (skip)
 go_wp2
 go_ret
 exact⟨rfl,(Ext.refl w).drewN nq⟩
def GaveT (bk:Nat) (w1:World) (bb:Nat) (w:World) (s:List Int) (r:List Int):Ending->World->Prop:=fun e w'=>∃A c,e=.returned (.tuple #[.slice A (s.length+1) c,.nilIface])/\RdB w' (.slice A (s.length+1) c) (s++ [0])/\Cur bk w1 bb w' r/\ExtBut bb w w'
theorem cur_text {bk bb:Nat} {w1 w:World} {s r:List Int} (h:Cur bk w1 bb w (s++0 :: r))(hs:∀y∈s,y≠0)(hl:(s++0 :: r).length<=1000000):
 Calls Tryz.prog 166 #[.pointer (some ⟨bb,0,none⟩),.int .u8 0] w (GaveT bk w1 bb w s r):=by
 obtain⟨A,c,hb,hr⟩:=h.blk
 have hc:=zc hb 0 _ rfl
 have hf:=free_slot hb 0
 have HR:=zh (hr.at_ h.bel)
 have HR1:=zh hr
 have H:=zh h
 have HS:=zh hs
 obtain⟨hn,hcm,hcx⟩:=hr.1.parts
 have HL:Hid ((s++0 :: r).length=s.length+1+r.length):=zh (by simp;omega)
 have HB:=zh hb
 have HT:Hid (RdB w (.slice A (s.length+1) c) (s++ [0])):=zh (by
  have h1:=HR.out.1.take (s.length+1) (by rw [HL.out];omega)
  have h2:(s++0 :: r).take (s.length+1)=s++ [0]:=by rw [List.take_length_add_append];rfl
  rw [h2]at h1
  exact h1)
 have HDR:Hid (RdN bk w1 (.slice (A.map (·.add (s.length+1))) ((s++0 :: r).length - (s.length+1)) (c - (s.length+1))) r):=zh (by
  have h1:=HR1.out.drop (s.length+1) (by rw [HL.out];omega)
  have h2:(s++0 :: r).drop (s.length+1)=r:=by simp [List.drop_append]
  rw [h2]at h1
  exact h1)
 have HLL:Hid (s.length+1<=(s++0 :: r).length):=zh (by rw [HL.out];omega)
 obtain⟨b1,o1,hA,hcell⟩:∃b1 o1,A=some ⟨b1,o1,none⟩/\∀j,j < (s++0 :: r).length->w.cell? ⟨b1,o1+j,none⟩=some (.int .u8 ((s++0 :: r).getD j 0)):=by
  obtain⟨A',c',hv,_,_,h3⟩:=HR.out.1
  obtain⟨rfl,_⟩:A=A'/\c=c':=by simpa using hv
  exact h3 (by rw [HL.out];omega)
 subst hA
 have HCE:=zh hcell
 obtain⟨N,hN⟩:∃N,N=(s++0 :: r).length:=⟨_,rfl⟩
 rw [<-hN]at hc HDR hn hl HLL HB
 have HN:=zh hN
 have hNl:=HLL.out
 have hcb:s.length+1<=c:=by rw [HL.out]at hcm;omega
 have hNr:Hid (N=s.length+1+r.length):=zh (by rw [HN.out,HL.out])
 clear hr h hb hs hcell hN
 go_enter Tryz.func166,Tryz.ntmps166
 go_wp2
 go_loopw [15] (fun i wr=>∃k:Nat,k<=s.length/\i=.int .i64 k/\wr=w) (fun i _=>s.length - (intOf i).toNat)
 case atStart=>exact⟨0,Nat.zero_le _,rfl,rfl⟩
 case round=>
  obtain⟨k,hk,rfl,rfl⟩:=hrel
  by_cases hlt:k < s.length
  ·have hd:=HCE.out k (by rw [HL.out];omega)
   rw [show (s++0 :: r).getD k 0=s[k] by simp [List.getD,List.getElem?_append_left hlt,List.getElem?_eq_getElem hlt]]at hd
   have hne:=HS.out _ (List.getElem_mem hlt)
   obtain⟨y,hy⟩:∃y,y=s[k]:=⟨_,rfl⟩
   rw [<-hy]at hd hne
   have hnb:(y == 0)=false:=by simpa using hne
   clear hy
   go_wp2
   go_roundw
   case rel=>exact⟨k+1,by omega,by go_num,by first|trivial|rfl⟩
   case measure=>simp only [intOf];omega
  ·obtain rfl:k=s.length:=by omega
   have hd:=HCE.out s.length (by rw [HL.out];omega)
   rw [show (s++0 :: r).getD s.length 0=0 by simp [List.getD]]at hd
   go_wp2_with (at_builtin;refine ap_row (ys:=s++ [0]) rfl _ _ 26 26 rfl Tryz.underlying26 Tryz.underlying26 rfl (Buf.nil _) rfl HT.out (by have:=HLL.out;simp;omega) ?_;intro v2 w2 hnb2;have HBU:=zh hnb2;clear hnb2;have hb2:=(HBU.out.bel.block bb (zl HB.out)).trans HB.out;have hc2:=zc hb2 0 _ rfl;have hf2:=free_slot hb2 0;have HB2:=zh hb2;clear hb2)
   ·go_ret2
    obtain⟨A2,c2,hv2⟩:=HBU.out.len
    have hrn:r=[]:=List.eq_nil_of_length_eq_zero (by rw [HL.out]at hcm;omega)
    obtain⟨h1,h2⟩:=(H.out.ext HBU.out.bel).set (RdN.none (bk:=bk) (w:=w1) (some ⟨b1,o1,none⟩) (N - (s.length+1)) 0 r hrn (by rw [hNr.out,hrn];simp) (by omega))
    have h3:RdN bb w2 v2 (s++ [0]):=⟨HBU.out.rd,fun _ e=>HBU.out.off _ e (zl HB.out)⟩
    have h4:v2=.slice A2 (s.length+1) c2:=by rw [hv2];simp
    subst h4
    exact⟨A2,c2,rfl,(h3.at_ h2).1,h1,HBU.out.bel.but.trans h2⟩
   ·go_ret2
    obtain⟨A2,c2,hv2⟩:=HBU.out.len
    obtain⟨h1,h2⟩:=(H.out.ext HBU.out.bel).set HDR.out
    have h3:RdN bb w2 v2 (s++ [0]):=⟨HBU.out.rd,fun _ e=>HBU.out.off _ e (zl HB.out)⟩
    have h4:v2=.slice A2 (s.length+1) c2:=by rw [hv2];simp
    subst h4
    have h5:=(h3.at_ h2).1
    have h6:=HBU.out.bel.but.trans h2
    simp only [Option.map_some,add_lit0]at h1 h5 h6
    exact⟨A2,c2,rfl,h5,h1,h6⟩
end Go.Proofs.YtdenjanihikolaaGreatDoor
