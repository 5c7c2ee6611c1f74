/- ReadPairs, by contract: the pairs of a body, in the order of their names. -/
import Derived.Test.YtdenjanihikolaaGreatDoorDqA0
import Derived.Test.YtdenjanihikolaaGreatDoorDqA1
import Derived.Lib.ParseIntB
import Derived.Lib.ItoaNum
import Derived.Lib.ItoaMem
import Derived.Test.YtdenjanihikolaaGreatDoorDqPpc
import Derived.Shelf.Small.Bits
import Derived.Shelf.Strconv.Itoa3
import Derived.Test.YtdenjanihikolaaGreatDoorDqBase
import Derived.Shelf.Strconv.ParseIntPublic10
import Derived.Lib.AppendIntMem
import Derived.Deep.DeepCutAuto
import Derived.Deep.CutBlock
import Derived.Deep.Light
import Derived.Maps.RangeWalk
import Derived.WalkKit
import Derived.Test.YtdenjanihikolaaGreatDoorDqErf
import Derived.Test.YtdenjanihikolaaGreatDoorDqOg
import Derived.BigQuiet
import Derived.Test.YtdenjanihikolaaGreatDoorDqDcf
namespace Go.Proofs.YtdenjanihikolaaGreatDoor
set_option linter.unusedVariables false
set_option linter.unusedSimpArgs false
set_option maxRecDepth 100000
open Go.RowKit
def numOf (acc:Nat) (l:List UInt8):Nat:=l.foldl (fun a c=>a * 10+(c.toNat - 48)) acc
def Dig (l:List UInt8):Prop:=∀c∈l,48<=c.toNat/\c.toNat<=57
theorem numOf_snoc (acc:Nat)(l:List UInt8)(c:UInt8):numOf acc (l++ [c])=numOf acc l * 10+(c.toNat - 48):=by
 simp [numOf,List.foldl_append]
theorem numOf_lt:∀(l:List UInt8) (acc:Nat),Dig l->numOf acc l < (acc+1) * 10 ^ l.length
 | [],acc,_=>by simp [numOf]
 | c :: r,acc,h=>by
   have h1:=h c (by simp)
   have h2:=numOf_lt r (acc * 10+(c.toNat - 48)) (fun x hx=>h x (by simp [hx]))
   show numOf (acc * 10+(c.toNat - 48)) r < _
   refine Nat.lt_of_lt_of_le h2 ?_
   rw [List.length_cons,Nat.pow_succ,Nat.mul_comm (10 ^ r.length) 10,<-Nat.mul_assoc]
   exact Nat.mul_le_mul_right _ (by omega)
theorem numOf_ge:∀(l:List UInt8) (acc:Nat),acc<=numOf acc l
 | [],acc=>Nat.le_refl _
 | c :: r,acc=>by
   have h2:=numOf_ge r (acc * 10+(c.toNat - 48))
   show acc<=numOf (acc * 10+(c.toNat - 48)) r
   omega
theorem parse_ok:∀(l:List UInt8) (acc:Nat),Dig l->numOf acc l < 1000000000->Lib.parseUintM (2 ^ 32 - 1) acc l=.ok (numOf acc l)
 | [],acc,_,_=>rfl
 | c :: r,acc,h,hn=>by
   have h1:=h c (by simp)
   have hn2:numOf (acc * 10+(c.toNat - 48)) r < 1000000000:=hn
   have h2:=numOf_ge r (acc * 10+(c.toNat - 48))
   unfold Lib.parseUintM
   rw [if_pos h1,if_neg (by omega),if_neg (by omega)]
   exact parse_ok r _ (fun x hx=>h x (by simp [hx])) hn2
theorem num_pos {c:UInt8} {r:List UInt8} (h:Dig (c :: r))(h0:c.toNat≠48):1<=numOf 0 (c :: r):=by
 have h1:=h c (by simp)
 have h2:=numOf_ge r (0 * 10+(c.toNat - 48))
 show 1<=numOf (0 * 10+(c.toNat - 48)) r
 omega
theorem dec_num:∀(n:Nat) (l:List UInt8),l.length=n->Dig l->l≠[]->(∀c,l.head?=some c->c.toNat≠48)->Lib.decDigits (numOf 0 l)=l:=by
 intro n
 induction n with
 | zero=>intro l hl _ hne;exact absurd (List.eq_nil_of_length_eq_zero hl) hne
 | succ n ih=>
   intro l hl hd hne hh
   obtain⟨r,c,rfl⟩:∃r c,l=r++ [c]:=⟨l.dropLast,l.getLast hne,(List.dropLast_concat_getLast hne).symm⟩
   have hc:=hd c (by simp)
   rw [numOf_snoc]
   by_cases hr:r=[]
   ·subst hr
    have e:numOf 0 []=0:=rfl
    rw [e,Lib.decDigits_one (by omega)]
    have:UInt8.ofNat (48+(0 * 10+(c.toNat - 48)))=c:=by
     rw [show 48+(0 * 10+(c.toNat - 48))=c.toNat by omega]
     simp
    rw [this];rfl
   ·have hdr:Dig r:=fun x hx=>hd x (by simp [hx])
    have hhr:∀x,r.head?=some x->x.toNat≠48:=fun x hx=>hh x (by
     cases r with
     | nil=>exact absurd rfl hr
     | cons a t=>simpa using hx)
    have h1:=ih r (by simpa using hl) hdr hr hhr
    have h2:1<=numOf 0 r:=by
     cases r with
     | nil=>exact absurd rfl hr
     | cons a t=>exact num_pos hdr (hhr a rfl)
    rw [Lib.decDigits,dif_neg (by omega)]
    rw [show (numOf 0 r * 10+(c.toNat - 48)) / 10=numOf 0 r by omega,show 48+(numOf 0 r * 10+(c.toNat - 48)) % 10=c.toNat by omega,h1]
    simp
def numS (s:ByteArray):Int:=(numOf 0 s.data.toList:Int)
theorem dig_of {s:ByteArray} (h:digP s):Dig s.data.toList:=by
 intro c hc
 obtain⟨k,hk,rfl⟩:=List.mem_iff_getElem.1 hc
 have hk2:k < s.size:=by simpa using hk
 have h1:=h.2.2.1 k hk2
 have e:s[k]=s.data.toList[k]:=by simp [ByteArray.getElem_eq_getElem_data]
 rw [e]at h1
 omega
theorem len_of (s:ByteArray):s.data.toList.length=s.size:=by rw [Array.length_toList];rfl
theorem num_facts {s:ByteArray} (h:digP s):Lib.parseIntB 32 s.data.toList=.ok (numS s)/\0 < numS s/\numS s < 1000000000/\Lib.itoa (numS s)=s.data.toList:=by
 have hd:=dig_of h
 have hl:=len_of s
 have hne:s.data.toList≠[]:=fun e=>h.1 (by rw [e]at hl;exact hl.symm)
 have hlt:numOf 0 s.data.toList < 1000000000:=by
  have h1:=numOf_lt s.data.toList 0 hd
  have h2:10 ^ s.data.toList.length<=10 ^ 9:=Nat.pow_le_pow_right (by decide) (by rw [hl];exact h.2.1)
  omega
 have hh:∀c,s.data.toList.head?=some c->c.toNat≠48:=by
  intro c hc
  have hpos:0 < s.size:=Nat.pos_of_ne_zero h.1
  have h1:=h.2.2.2 hpos
  have e:s[0]=s.data.toList[0]'(by rw [hl];exact hpos):=by simp [ByteArray.getElem_eq_getElem_data]
  rw [e]at h1
  rw [List.head?_eq_getElem?,List.getElem?_eq_getElem (by rw [hl];exact hpos)]at hc
  obtain rfl:=Option.some.inj hc
  omega
 have hdec:=dec_num _ _ rfl hd hne hh
 have hp:=parse_ok s.data.toList 0 hd hlt
 have h0:0 < numOf 0 s.data.toList:=by
  cases e:s.data.toList with
  | nil=>exact absurd e hne
  | cons a t=>
    rw [e]at hd hh
    exact num_pos hd (hh a rfl)
 refine⟨?_,by unfold numS;omega,by unfold numS;omega,?_⟩
 ·unfold numS
  cases e:s.data.toList with
  | nil=>exact absurd e hne
  | cons a t=>
    rw [e]at hd hp hlt
    have ha:=hd a (by simp)
    unfold Lib.parseIntB
    simp only []
    rw [if_neg (by omega),show Lib.parseUintB 32 (a :: t)=Lib.parseUintM (2 ^ 32 - 1) 0 (a :: t)from if_neg (by simp),hp]
    simp only []
    rw [if_neg (by intro h;have:=h.2;omega),if_neg (by intro h;omega),if_neg (by omega)]
 ·unfold numS
  rw [Lib.itoa_nonneg,hdec]
open Go.RowKit Go.Sort
open Go.Shelf
def laysM171_ren:Go.Shelf.Ren:=⟨fun|171=>78|243=>91|246=>102|283=>108|284=>109|285=>110|286=>111|129=>90|317=>112|318=>113|319=>114|320=>115|337=>116|338=>117|n=>n,fun|3=>3|9=>9|2=>2|4=>4|171=>299|0=>0|53=>277|37=>26|5=>5|173=>301|212=>309|51=>22|20=>20|213=>310|46=>264|232=>311|233=>312|n=>n,fun|17=>2|18=>3|19=>4|n=>n⟩
theorem laysM171:Go.Proofs.LaysM.n171 Tryz.prog laysM171_ren:=
 {mixed:=by kernel_rfl,
  f129:=Tryz.func90.trans (congrArg some (by kernel_rfl)),
  f171:=Tryz.func78.trans (congrArg some (by kernel_rfl)),
  f243:=Tryz.func91.trans (congrArg some (by kernel_rfl)),
  f246:=Tryz.func102.trans (congrArg some (by kernel_rfl)),
  f283:=Tryz.func108.trans (congrArg some (by kernel_rfl)),
  f284:=Tryz.func109.trans (congrArg some (by kernel_rfl)),
  f285:=Tryz.func110.trans (congrArg some (by kernel_rfl)),
  f286:=Tryz.func111.trans (congrArg some (by kernel_rfl)),
  f317:=Tryz.func112.trans (congrArg some (by kernel_rfl)),
  f318:=Tryz.func113.trans (congrArg some (by kernel_rfl)),
  f319:=Tryz.func114.trans (congrArg some (by kernel_rfl)),
  f320:=Tryz.func115.trans (congrArg some (by kernel_rfl)),
  f337:=Tryz.func116.trans (congrArg some (by kernel_rfl)),
  f338:=Tryz.func117.trans (congrArg some (by kernel_rfl)),
  t0:=Tryz.underlying0,
  a0:=Tryz.isAgg0,
  z0:=Tryz.sizeOf0,
  v0:=Tryz.zeroValue0,
  t2:=Tryz.underlying2,
  a2:=Tryz.isAgg2,
  z2:=Tryz.sizeOf2,
  v2:=Tryz.zeroValue2,
  t3:=Tryz.underlying3,
  a3:=Tryz.isAgg3,
  z3:=Tryz.sizeOf3,
  v3:=Tryz.zeroValue3,
  t4:=Tryz.underlying4,
  a4:=Tryz.isAgg4,
  z4:=Tryz.sizeOf4,
  v4:=Tryz.zeroValue4,
  t5:=Tryz.underlying5,
  a5:=Tryz.isAgg5,
  z5:=Tryz.sizeOf5,
  v5:=Tryz.zeroValue5,
  t9:=Tryz.underlying9,
  a9:=Tryz.isAgg9,
  z9:=Tryz.sizeOf9,
  v9:=Tryz.zeroValue9,
  t20:=Tryz.underlying20,
  a20:=Tryz.isAgg20,
  z20:=Tryz.sizeOf20,
  v20:=Tryz.zeroValue20,
  t37:=Tryz.underlying26,
  a37:=Tryz.isAgg26,
  z37:=Tryz.sizeOf26,
  v37:=Tryz.zeroValue26,
  t46:=Tryz.underlying264,
  a46:=Tryz.isAgg264,
  z46:=Tryz.sizeOf264,
  v46:=Tryz.zeroValue264,
  t51:=Tryz.underlying22,
  a51:=Tryz.isAgg22,
  z51:=Tryz.sizeOf22,
  v51:=Tryz.zeroValue22,
  t53:=Tryz.underlying277,
  a53:=Tryz.isAgg277,
  z53:=Tryz.sizeOf277,
  v53:=Tryz.zeroValue277,
  t171:=Tryz.underlying299,
  a171:=Tryz.isAgg299,
  z171:=Tryz.sizeOf299,
  v171:=Tryz.zeroValue299,
  t173:=Tryz.underlying301,
  a173:=Tryz.isAgg301,
  z173:=Tryz.sizeOf301,
  v173:=Tryz.zeroValue301,
  t212:=Tryz.underlying309,
  a212:=Tryz.isAgg309,
  z212:=Tryz.sizeOf309,
  v212:=Tryz.zeroValue309,
  t213:=Tryz.underlying310,
  a213:=Tryz.isAgg310,
  z213:=Tryz.sizeOf310,
  t232:=Tryz.underlying311,
  a232:=Tryz.isAgg311,
  z232:=Tryz.sizeOf311,
  v232:=Tryz.zeroValue311,
  t233:=Tryz.underlying312,
  a233:=Tryz.isAgg312,
  z233:=Tryz.sizeOf312,
  v233:=Tryz.zeroValue312,
  g17:=by kernel_rfl,
  g18:=by kernel_rfl,
  g19:=by kernel_rfl,
  i0:=by kernel_rfl,
  i2:=by kernel_rfl,
  i3:=by kernel_rfl,
  i4:=by kernel_rfl,
  i5:=by kernel_rfl,
  i9:=by kernel_rfl,
  i20:=by kernel_rfl,
  i37:=by kernel_rfl,
  i46:=by kernel_rfl,
  i51:=by kernel_rfl,
  i53:=by kernel_rfl,
  i171:=by kernel_rfl,
  i173:=by kernel_rfl,
  i212:=by kernel_rfl,
  i232:=by kernel_rfl,
  i233:=by kernel_rfl,
  m17:=by kernel_rfl,
  m18:=by kernel_rfl,
  m19:=by kernel_rfl}
theorem itoaS (n:Int)(h0: -9223372036854775808<=n)(h1:n<=9223372036854775807)(w:World)(htab:Lib.TabIs Tryz.prog w "internal/strconv.uint64pow10" .u64 Lib.pow10Tab):
 Calls Tryz.prog 78 #[.int .i64 n] w fun e w'=>e=.returned (.string ⟨(Lib.itoa n).toArray⟩)/\∃k os,w'=grow (w.drewN k) os:=Any.strconv_Itoa laysM171 n h0 h1 w htab
def laysC174_ren:Go.Shelf.Ren:=⟨fun|174=>75|247=>79|245=>80|287=>92|279=>93|280=>94|281=>95|282=>96|321=>103|322=>104|316=>105|171=>78|205=>106|243=>91|246=>102|283=>108|284=>109|285=>110|286=>111|129=>90|317=>112|318=>113|319=>114|320=>115|337=>116|338=>117|n=>n,fun|9=>9|3=>3|2=>2|75=>75|85=>260|4=>4|167=>278|5=>5|53=>277|175=>279|46=>264|168=>281|37=>26|0=>0|210=>294|21=>21|127=>303|145=>306|143=>304|171=>299|173=>301|212=>309|51=>22|20=>20|213=>310|232=>311|233=>312|80=>313|n=>n,fun|15=>0|16=>1|17=>2|18=>3|19=>4|n=>n⟩
theorem laysC174:Go.Proofs.LaysC.n174 Tryz.prog laysC174_ren:=
 {mixed:=by kernel_rfl,
  f129:=Tryz.func90.trans (congrArg some (by kernel_rfl)),
  f171:=Tryz.func78.trans (congrArg some (by kernel_rfl)),
  f174:=Tryz.func75.trans (congrArg some (by kernel_rfl)),
  f205:=Tryz.func106.trans (congrArg some (by kernel_rfl)),
  f243:=Tryz.func91.trans (congrArg some (by kernel_rfl)),
  f245:=Tryz.func80.trans (congrArg some (by kernel_rfl)),
  f246:=Tryz.func102.trans (congrArg some (by kernel_rfl)),
  f247:=Tryz.func79.trans (congrArg some (by kernel_rfl)),
  f279:=Tryz.func93.trans (congrArg some (by kernel_rfl)),
  f280:=Tryz.func94.trans (congrArg some (by kernel_rfl)),
  f281:=Tryz.func95.trans (congrArg some (by kernel_rfl)),
  f282:=Tryz.func96.trans (congrArg some (by kernel_rfl)),
  f283:=Tryz.func108.trans (congrArg some (by kernel_rfl)),
  f284:=Tryz.func109.trans (congrArg some (by kernel_rfl)),
  f285:=Tryz.func110.trans (congrArg some (by kernel_rfl)),
  f286:=Tryz.func111.trans (congrArg some (by kernel_rfl)),
  f287:=Tryz.func92.trans (congrArg some (by kernel_rfl)),
  f316:=Tryz.func105.trans (congrArg some (by kernel_rfl)),
  f317:=Tryz.func112.trans (congrArg some (by kernel_rfl)),
  f318:=Tryz.func113.trans (congrArg some (by kernel_rfl)),
  f319:=Tryz.func114.trans (congrArg some (by kernel_rfl)),
  f320:=Tryz.func115.trans (congrArg some (by kernel_rfl)),
  f321:=Tryz.func103.trans (congrArg some (by kernel_rfl)),
  f322:=Tryz.func104.trans (congrArg some (by kernel_rfl)),
  f337:=Tryz.func116.trans (congrArg some (by kernel_rfl)),
  f338:=Tryz.func117.trans (congrArg some (by kernel_rfl)),
  t0:=Tryz.underlying0,
  a0:=Tryz.isAgg0,
  z0:=Tryz.sizeOf0,
  v0:=Tryz.zeroValue0,
  t2:=Tryz.underlying2,
  a2:=Tryz.isAgg2,
  z2:=Tryz.sizeOf2,
  v2:=Tryz.zeroValue2,
  t3:=Tryz.underlying3,
  a3:=Tryz.isAgg3,
  z3:=Tryz.sizeOf3,
  v3:=Tryz.zeroValue3,
  t4:=Tryz.underlying4,
  a4:=Tryz.isAgg4,
  z4:=Tryz.sizeOf4,
  v4:=Tryz.zeroValue4,
  t5:=Tryz.underlying5,
  a5:=Tryz.isAgg5,
  z5:=Tryz.sizeOf5,
  v5:=Tryz.zeroValue5,
  t9:=Tryz.underlying9,
  a9:=Tryz.isAgg9,
  z9:=Tryz.sizeOf9,
  v9:=Tryz.zeroValue9,
  t20:=Tryz.underlying20,
  a20:=Tryz.isAgg20,
  z20:=Tryz.sizeOf20,
  v20:=Tryz.zeroValue20,
  t21:=Tryz.underlying21,
  a21:=Tryz.isAgg21,
  z21:=Tryz.sizeOf21,
  v21:=Tryz.zeroValue21,
  t37:=Tryz.underlying26,
  a37:=Tryz.isAgg26,
  z37:=Tryz.sizeOf26,
  v37:=Tryz.zeroValue26,
  t46:=Tryz.underlying264,
  a46:=Tryz.isAgg264,
  z46:=Tryz.sizeOf264,
  v46:=Tryz.zeroValue264,
  t51:=Tryz.underlying22,
  a51:=Tryz.isAgg22,
  z51:=Tryz.sizeOf22,
  v51:=Tryz.zeroValue22,
  t53:=Tryz.underlying277,
  a53:=Tryz.isAgg277,
  z53:=Tryz.sizeOf277,
  v53:=Tryz.zeroValue277,
  t75:=Tryz.underlying75,
  a75:=Tryz.isAgg75,
  z75:=Tryz.sizeOf75,
  v75:=Tryz.zeroValue75,
  t85:=Tryz.underlying260,
  a85:=Tryz.isAgg260,
  z85:=Tryz.sizeOf260,
  v85:=Tryz.zeroValue260,
  t127:=Tryz.underlying303,
  a127:=Tryz.isAgg303,
  z127:=Tryz.sizeOf303,
  v127:=Tryz.zeroValue303,
  t143:=Tryz.underlying304,
  a143:=Tryz.isAgg304,
  z143:=Tryz.sizeOf304,
  v143:=Tryz.zeroValue304,
  t145:=Tryz.underlying306,
  a145:=Tryz.isAgg306,
  z145:=Tryz.sizeOf306,
  v145:=Tryz.zeroValue306,
  t167:=Tryz.underlying278,
  a167:=Tryz.isAgg278,
  z167:=Tryz.sizeOf278,
  v167:=Tryz.zeroValue278,
  t168:=Tryz.underlying281,
  a168:=Tryz.isAgg281,
  z168:=Tryz.sizeOf281,
  v168:=Tryz.zeroValue281,
  t171:=Tryz.underlying299,
  a171:=Tryz.isAgg299,
  z171:=Tryz.sizeOf299,
  v171:=Tryz.zeroValue299,
  t173:=Tryz.underlying301,
  a173:=Tryz.isAgg301,
  z173:=Tryz.sizeOf301,
  v173:=Tryz.zeroValue301,
  t175:=Tryz.underlying279,
  a175:=Tryz.isAgg279,
  z175:=Tryz.sizeOf279,
  v175:=Tryz.zeroValue279,
  t210:=Tryz.underlying294,
  a210:=Tryz.isAgg294,
  z210:=Tryz.sizeOf294,
  v210:=Tryz.zeroValue294,
  t212:=Tryz.underlying309,
  a212:=Tryz.isAgg309,
  z212:=Tryz.sizeOf309,
  v212:=Tryz.zeroValue309,
  t213:=Tryz.underlying310,
  a213:=Tryz.isAgg310,
  z213:=Tryz.sizeOf310,
  t232:=Tryz.underlying311,
  a232:=Tryz.isAgg311,
  z232:=Tryz.sizeOf311,
  v232:=Tryz.zeroValue311,
  t233:=Tryz.underlying312,
  a233:=Tryz.isAgg312,
  z233:=Tryz.sizeOf312,
  v233:=Tryz.zeroValue312,
  g15:=by kernel_rfl,
  g16:=by kernel_rfl,
  g17:=by kernel_rfl,
  g18:=by kernel_rfl,
  g19:=by kernel_rfl,
  t80:=Tryz.underlying313,
  a80:=Tryz.isAgg313,
  z80:=Tryz.sizeOf313,
  v80:=Tryz.zeroValue313,
  i0:=by kernel_rfl,
  i2:=by kernel_rfl,
  i3:=by kernel_rfl,
  i4:=by kernel_rfl,
  i5:=by kernel_rfl,
  i9:=by kernel_rfl,
  i20:=by kernel_rfl,
  i21:=by kernel_rfl,
  i37:=by kernel_rfl,
  i46:=by kernel_rfl,
  i51:=by kernel_rfl,
  i53:=by kernel_rfl,
  i75:=by kernel_rfl,
  i80:=by kernel_rfl,
  i85:=by kernel_rfl,
  i127:=by kernel_rfl,
  i143:=by kernel_rfl,
  i145:=by kernel_rfl,
  i167:=by kernel_rfl,
  i168:=by kernel_rfl,
  i171:=by kernel_rfl,
  i173:=by kernel_rfl,
  i175:=by kernel_rfl,
  i210:=by kernel_rfl,
  i212:=by kernel_rfl,
  i232:=by kernel_rfl,
  i233:=by kernel_rfl,
  m15:=by kernel_rfl,
  m16:=by kernel_rfl,
  m17:=by kernel_rfl,
  m18:=by kernel_rfl,
  m19:=by kernel_rfl,
  c0:=by kernel_rfl,
  c2:=by kernel_rfl,
  c3:=by kernel_rfl,
  c4:=by kernel_rfl,
  c5:=by kernel_rfl,
  c9:=by kernel_rfl,
  c20:=by kernel_rfl,
  c21:=by kernel_rfl,
  c37:=by kernel_rfl,
  c46:=by kernel_rfl,
  c51:=by kernel_rfl,
  c53:=by kernel_rfl,
  c75:=by kernel_rfl,
  c80:=by kernel_rfl,
  c85:=by kernel_rfl,
  c127:=by kernel_rfl,
  c143:=by kernel_rfl,
  c145:=by kernel_rfl,
  c167:=by kernel_rfl,
  c168:=by kernel_rfl,
  c171:=by kernel_rfl,
  c173:=by kernel_rfl,
  c175:=by kernel_rfl,
  c210:=by kernel_rfl,
  c212:=by kernel_rfl,
  c213:=by kernel_rfl,
  c232:=by kernel_rfl,
  c233:=by kernel_rfl}
theorem parseS (s:ByteArray)(hmax:s.size<=9223372036854775806)(v:Int)(h:Lib.parseIntB 32 s.data.toList=.ok v)(w:World):
 Calls Tryz.prog 75 #[.string s,.int .i64 10,.int .i64 32] w fun e w'=>e=.returned (.tuple #[.int .i64 v,.nilIface])/\(w'=w∨∃t,w'=Lib.bytesWorld w 5 t):=
 Any.strconv_ParseInt_10_at32_ok laysC174 s hmax v h w
def Tab (w:World):Prop:=Lib.TabIs Tryz.prog w "internal/strconv.uint64pow10" .u64 Lib.pow10Tab
theorem Tab.ext {w w':World} (h:Tab w)(hx:Ext w w'):Tab w':=Lib.tabBelow_of_tabIs h w' hx
theorem parse75 (s:ByteArray)(h:digP s)(w:World):Calls Tryz.prog 75 #[.string s,.int .i64 10,.int .i64 32] w fun e w'=>e=.returned (.tuple #[.int .i64 (numS s),.nilIface])/\Ext w w':=by
 refine(parseS s (by have:=h.2.1;omega) _ (num_facts h).1 w).mono ?_
 rintro e w' ⟨rfl,hw⟩
 refine⟨rfl,?_⟩
 rcases hw with rfl|⟨t,rfl⟩
 ·exact Ext.refl _
 ·exact Lib.bytesWorld_below _ _ _
theorem itoa78 (s:ByteArray)(h:digP s)(w:World)(ht:Tab w):Calls Tryz.prog 78 #[.int .i64 (numS s)] w fun e w'=>e=.returned (.string s)/\Ext w w':=by
 obtain⟨_,h1,h2,h3⟩:=num_facts h
 refine(itoaS (numS s) (by omega) (by omega) w ht).mono ?_
 rintro e w' ⟨rfl,k,os,rfl⟩
 rw [h3]
 exact⟨by simp,Lib.below_grow _ _ (Nat.le_refl _) _ _⟩
open Go.RowKit Go.Maps Go.Sort
def ls18:List Int:=[83,86,67,77,68,72,80,112,113,87,115,116,99,100,110,70,76,82]
theorem empty_or (s:ByteArray):s=⟨#[]⟩∨(s.toList.isEmpty=false/\s.size≠0):=by
 by_cases h:s.size=0
 ·left
  cases s with
  | mk d=>
    have:d.size=0:=h
    rw [Array.eq_empty_of_size_eq_zero this]
 ·right
  refine⟨?_,h⟩
  rw [ByteArray.toList_eq]
  cases e:s.data.toList with
  | nil=>exact absurd (by rw [<-len_of,e];rfl) h
  | cons a t=>rfl
theorem empty_is:(⟨#[]⟩:ByteArray).toList.isEmpty=true:=by rw [ByteArray.toList_eq];rfl
def errCells (T:Nat->ByteArray):Array Value:= #[.string (T 0),.string (T 1),.string (T 2),.string (T 3),.string (T 4),.string (T 5),.int .i32 (numS (T 6)),.int .i32 (numS (T 7)),.string (T 8),.string (T 9),.string (T 10),.string (T 11),.string (T 12),.string (T 13),.string (T 14),.string (T 15),.int .i32 (numS (T 16)),.string (T 17),.map none]
open Go.RowKit Go.Maps Og
def updT (T:Nat->ByteArray) (j:Nat) (v:ByteArray):Nat->ByteArray:=fun i=>if i=j then v else T i
def numJ (j:Nat):Prop:=j=6∨j=7∨j=16
instance (j:Nat):Decidable (numJ j):=by unfold numJ;infer_instance
def slotC (c:Int):Nat:=ls18.idxOf c
def cOf (x:ByteArray):Int:=((x.data.toList.headD 0).toNat:Int)
def tOf (ps:List (ByteArray×ByteArray)):Nat->ByteArray:=ps.foldl (fun T p=>updT T (slotC (cOf p.1)) p.2) (fun _=>⟨#[]⟩)
theorem tOf_snoc (ps:List (ByteArray×ByteArray))(p:ByteArray×ByteArray):tOf (ps++ [p])=updT (tOf ps) (slotC (cOf p.1)) p.2:=by
 simp [tOf,List.foldl_append]
theorem cases18 {j:Nat} (h:j < 18):j=0∨j=1∨j=2∨j=3∨j=4∨j=5∨j=6∨j=7∨j=8∨j=9∨j=10∨j=11∨j=12∨j=13∨j=14∨j=15∨j=16∨j=17:=by omega
theorem slot_at {j:Nat} (h:j < 18):slotC (ls18.getD j 0)=j:=by
 rcases cases18 h with rfl|rfl|rfl|rfl|rfl|rfl|rfl|rfl|rfl|rfl|rfl|rfl|rfl|rfl|rfl|rfl|rfl|rfl <;> decide
theorem cell_txt (T:Nat->ByteArray) {j:Nat} (h:j < 18)(hn:¬numJ j):(errCells T)[j]?=some (.string (T j)):=by
 rcases cases18 h with rfl|rfl|rfl|rfl|rfl|rfl|rfl|rfl|rfl|rfl|rfl|rfl|rfl|rfl|rfl|rfl|rfl|rfl <;> first|rfl|exact absurd (by decide) hn
theorem cell_num (T:Nat->ByteArray) {j:Nat} (hn:numJ j):(errCells T)[j]?=some (.int .i32 (numS (T j))):=by
 rcases hn with rfl|rfl|rfl <;> rfl
theorem set_txt (T:Nat->ByteArray)(v:ByteArray) {j:Nat} (h:j < 18)(hn:¬numJ j):(errCells T).setIfInBounds j (.string v)=errCells (updT T j v):=by
 rcases cases18 h with rfl|rfl|rfl|rfl|rfl|rfl|rfl|rfl|rfl|rfl|rfl|rfl|rfl|rfl|rfl|rfl|rfl|rfl <;> first|rfl|exact absurd (by decide) hn
theorem set_num (T:Nat->ByteArray)(v:ByteArray) {j:Nat} (hn:numJ j):(errCells T).setIfInBounds j (.int .i32 (numS v))=errCells (updT T j v):=by
 rcases hn with rfl|rfl|rfl <;> rfl
theorem let_of {x:ByteArray} (h:letP x):∃j,j < 18/\cOf x=ls18.getD j 0/\x.size=1:=by
 obtain⟨j,hj,he⟩:=h
 refine⟨j,hj,?_⟩
 have e2:x.data.toList=[UInt8.ofNat (ls18.getD j 0).toNat]:=by
  rw [<-ByteArray.toList_eq,he,ByteArray.toList_eq]
  rcases cases18 hj with rfl|rfl|rfl|rfl|rfl|rfl|rfl|rfl|rfl|rfl|rfl|rfl|rfl|rfl|rfl|rfl|rfl|rfl <;> rfl
 refine⟨?_,?_⟩
 ·unfold cOf
  rw [e2]
  rcases cases18 hj with rfl|rfl|rfl|rfl|rfl|rfl|rfl|rfl|rfl|rfl|rfl|rfl|rfl|rfl|rfl|rfl|rfl|rfl <;> rfl
 ·have h3:=len_of x
  rw [e2]at h3
  exact h3.symm
abbrev Pr:Type:=ByteArray×ByteArray
def nmJ (i:Nat):ByteArray:=⟨#[UInt8.ofNat (ls18.getD i 0).toNat]⟩
def qsOf (T:Nat->ByteArray):List Pr:=(List.range 18).flatMap fun i=>if (T i).size=0 then []else [(nmJ i,T i)]
theorem sby_nm {i:Nat} (h:i < 18):sby (nmJ i)=[ls18.getD i 0]:=by
 rcases cases18 h with rfl|rfl|rfl|rfl|rfl|rfl|rfl|rfl|rfl|rfl|rfl|rfl|rfl|rfl|rfl|rfl|rfl|rfl <;> rfl
theorem name_of {x:ByteArray} (h:letP x) {j:Nat} (hj:slotC (cOf x)=j):x=nmJ j:=by
 obtain⟨i,hi,he⟩:=h
 have e2:x.data.toList=[UInt8.ofNat (ls18.getD i 0).toNat]:=by
  rw [<-ByteArray.toList_eq,he,ByteArray.toList_eq]
  rcases cases18 hi with rfl|rfl|rfl|rfl|rfl|rfl|rfl|rfl|rfl|rfl|rfl|rfl|rfl|rfl|rfl|rfl|rfl|rfl <;> rfl
 have e3:cOf x=ls18.getD i 0:=by
  unfold cOf
  rw [e2]
  rcases cases18 hi with rfl|rfl|rfl|rfl|rfl|rfl|rfl|rfl|rfl|rfl|rfl|rfl|rfl|rfl|rfl|rfl|rfl|rfl <;> rfl
 rw [e3,slot_at hi]at hj
 subst hj
 cases x with
 | mk d=>
   unfold nmJ
   simp only []at e2
   rw [<-Array.toList_inj.1 (show d.toList=(#[UInt8.ofNat (ls18.getD i 0).toNat]).toList from e2)]
def tFrom (T:Nat->ByteArray) (ps:List Pr):Nat->ByteArray:=ps.foldl (fun T p=>updT T (slotC (cOf p.1)) p.2) T
theorem qs_upd (T:Nat->ByteArray) {j:Nat} (hj:j < 18)(v:ByteArray)(hT:(T j).size=0)(hv:v.size≠0):(qsOf (updT T j v)).Perm ((nmJ j,v) :: qsOf T):=by
 unfold qsOf
 have h:∀l:List Nat,l.Nodup->j∈l->(l.flatMap fun i=>if (updT T j v i).size=0 then []else [(nmJ i,updT T j v i)]).Perm ((nmJ j,v) :: l.flatMap fun i=>if (T i).size=0 then []else [(nmJ i,T i)]):=by
  intro l
  induction l with
  | nil=>intro _ h;cases h
  | cons a r ih=>
    intro hn hm
    obtain⟨hn1,hn2⟩:=List.nodup_cons.1 hn
    simp only [List.flatMap_cons]
    by_cases e:a=j
    ·subst e
     have h1:updT T a v a=v:=by simp [updT]
     rw [h1,if_neg hv,if_pos hT,List.nil_append,List.singleton_append]
     have h2:∀s:List Nat,a∉s->(s.flatMap fun i=>if (updT T a v i).size=0 then []else [(nmJ i,updT T a v i)])=s.flatMap fun i=>if (T i).size=0 then []else [(nmJ i,T i)]:=by
      intro s
      induction s with
      | nil=>intro _;rfl
      | cons b t iht=>
        intro hs
        have hb:b≠a:=fun e=>hs (by simp [e])
        have h3:updT T a v b=T b:=by simp [updT,hb]
        simp only [List.flatMap_cons,h3]
        rw [iht fun h=>hs (by simp [h])]
     rw [h2 r hn1]
    ·have hm2:j∈r:=by
      rcases List.mem_cons.1 hm with h|h
      ·exact absurd h.symm e
      ·exact h
     have h1:updT T j v a=T a:=by simp [updT,e]
     rw [h1]
     exact((ih hn2 hm2).append_left _).trans List.perm_middle
 exact h _ List.nodup_range (List.mem_range.2 hj)
theorem qs_from:∀(ps:List Pr) (T:Nat->ByteArray),(∀y∈ps,letP y.1/\y.2.size≠0)->ps.Pairwise (fun p q=>p.1≠q.1)->(∀y∈ps,(T (slotC (cOf y.1))).size=0)->(qsOf (tFrom T ps)).Perm (ps++qsOf T)
 | [],T,_,_,_=>List.Perm.refl _
 | p :: r,T,h,hd,hT=>by
   obtain⟨h1,h2⟩:=List.pairwise_cons.1 hd
   obtain⟨j,hj,hc,_⟩:=let_of (h p (by simp)).1
   have hs:slotC (cOf p.1)=j:=by rw [hc,slot_at hj]
   have hnm:=name_of (h p (by simp)).1 hs
   have h3:=qs_from r (updT T (slotC (cOf p.1)) p.2) (fun y hy=>h y (by simp [hy])) h2 (fun y hy=>by
    have h4:slotC (cOf y.1)≠slotC (cOf p.1):=by
     intro e
     refine h1 y hy ?_
     rw [hs]at e
     rw [hnm,name_of (h y (by simp [hy])).1 e]
    simp only [updT,if_neg h4]
    exact hT y (by simp [hy]))
   refine h3.trans ?_
   have h5:=qs_upd T hj p.2 (by rw [<-hs];exact hT p (by simp)) (h p (by simp)).2
   rw [hs]
   refine(h5.append_left r).trans ?_
   have e:p=(nmJ j,p.2):=by rw [<-hnm]
   rw [List.cons_append]
   conv=>rhs;rw [e]
   exact List.perm_middle
theorem Srt.names {ps:List Pr} (h:Srt ps):ps.Pairwise (fun p q=>p.1≠q.1):=h.ne.imp fun h e=>h (by rw [e])
theorem tFrom_at {Q:Nat->ByteArray->Prop} :∀(ps:List Pr) (T:Nat->ByteArray),(∀i,Q i (T i))->(∀y∈ps,Q (slotC (cOf y.1)) y.2)->∀i,Q i (tFrom T ps i)
 | [],T,hT,_,i=>hT i
 | p :: r,T,hT,hp,i=>by
   refine tFrom_at r _ (fun k=>?_) (fun y hy=>hp y (by simp [hy])) i
   by_cases e:k=slotC (cOf p.1)
   ·have h1:updT T (slotC (cOf p.1)) p.2 k=p.2:=by simp [updT,e]
    show Q k (updT T (slotC (cOf p.1)) p.2 k)
    rw [h1,e];exact hp p (by simp)
   ·have h1:updT T (slotC (cOf p.1)) p.2 k=T k:=by simp [updT,e]
    show Q k (updT T (slotC (cOf p.1)) p.2 k)
    rw [h1];exact hT k
theorem tOf_at {Q:Nat->ByteArray->Prop} (ps:List Pr)(h0:∀i,Q i ⟨#[]⟩)(hp:∀y∈ps,Q (slotC (cOf y.1)) y.2):∀i,Q i (tOf ps i):=tFrom_at ps _ h0 hp
def ltP (p q:Pr):Prop:=kb p.1 < kb q.1
def leP (p q:Pr):Prop:=¬ltP q p
instance (p q:Pr):Decidable (ltP p q):=by unfold ltP;infer_instance
theorem leP_trans {p q r:Pr} (h:leP p q)(h2:leP q r):leP p r:=by
 have h3:kb p.1<=kb q.1:=h
 have h4:kb q.1<=kb r.1:=h2
 exact List.le_trans h3 h4
theorem sort_unique:∀(a b:List Pr),a.Perm b->a.Pairwise leP->b.Pairwise ltP->a=b
 | [],b,h,_,_=>(List.nil_perm.1 h).symm
 | x :: a,[],h,_,_=>absurd h.symm (by simp)
 | x :: a,y :: b,h,ha,hb=>by
   obtain⟨ha1,ha2⟩:=List.pairwise_cons.1 ha
   obtain⟨hb1,hb2⟩:=List.pairwise_cons.1 hb
   have hx:x∈y :: b:=h.subset (by simp)
   have hy:y∈x :: a:=h.symm.subset (by simp)
   have e:x=y:=by
    rcases List.mem_cons.1 hx with e|hx
    ·exact e
    ·rcases List.mem_cons.1 hy with e|hy
     ·exact e.symm
     ·exact absurd (hb1 x hx) (ha1 y hy)
   subst e
   rw [sort_unique a b ((List.perm_cons x).1 h) ha2 hb2]
theorem flat_perm {f:Pr->List Int} {a b:List Pr} (h:a.Perm b):(a.flatMap f).length=(b.flatMap f).length:=(h.flatMap_right f).length_eq
end Go.Proofs.YtdenjanihikolaaGreatDoor
namespace Go.Proofs.YtdenjanihikolaaGreatDoor.Og
set_option linter.unusedVariables false
set_option linter.unusedSimpArgs false
set_option maxRecDepth 100000
open Go
section
variable {P : Program} {R : World → World → Prop}
def Closed (ops:List Oper) (listed:Array Bool):Prop:=∀j o,ops[j]?=some o->listed.getD j false=true->∀d∈deps o,listed.getD d false=true
theorem Closed.start (ops:List Oper)(n:Nat):Closed ops (Array.replicate n false):=fun j o _ h=>by
 rw [getD_replicate_false]at h;cases h
theorem Closed.set {ops:List Oper} {listed:Array Bool} {i:Nat} {o:Oper} (h:Closed ops listed)(ho:ops[i]?=some o)(hd:∀d∈deps o,listed.getD d false=true):Closed ops (listed.setIfInBounds i true):=by
 have mono:∀d,listed.getD d false=true->(listed.setIfInBounds i true).getD d false=true:=by
  intro d hd
  by_cases e:i=d
  ·subst e
   by_cases hs:i < listed.size
   ·simp [Array.getD,hs]
   ·simp [Array.getD,hs]at hd
  ·rw [getD_set_ne false e];exact hd
 intro j x hx hj d hd2
 by_cases e:i=j
 ·subst e
  rw [ho]at hx
  obtain rfl:=Option.some.inj hx
  exact mono d (hd d hd2)
 ·rw [getD_set_ne false e]at hj
  exact mono d (h j x hx hj d hd2)
def clos (ops:List Oper):Nat->List Nat->List Nat
 | 0,S=>S
 | k+1,S=>clos ops k (S++S.flatMap fun j=>match (ops[j]?:Option Oper)with|some o=>deps o|none=>[])
theorem clos_listed {ops:List Oper} {listed:Array Bool} (h:Closed ops listed):∀(k:Nat) (S:List Nat),(∀d∈S,listed.getD d false=true)->∀d∈clos ops k S,listed.getD d false=true
 | 0,S,hS,d,hd=>hS d hd
 | k+1,S,hS,d,hd=>by
   refine clos_listed h k _ (fun e he=>?_) d hd
   rcases List.mem_append.1 he with he|he
   ·exact hS e he
   ·obtain⟨j,hj,hje⟩:=List.mem_flatMap.1 he
    cases ho:(ops[j]?:Option Oper)with
    | none=>rw [ho]at hje;cases hje
    | some o=>rw [ho]at hje;exact h j o ho (hS j hj) e hje
def okOneT (ops hd:List Oper) (o:Oper):Bool:=
 (match o.op with| .select .. =>false|_=>true) &&
 (o.looksAt ops.toArray).all fun t=>(List.range hd.length).all fun j=>
   match (hd[j]?:Option Oper)with
   | some oj=>oj.dst != some t || (deps o).contains j
   | none=>true
def waitT (ops:List Oper) (n:Nat):Bool:=(List.range ops.length).all fun i=>decide (i < n) || match (ops[i]?:Option Oper)with|some o=>(List.range n).all fun j=>(clos ops 4 (deps o)).contains j|none=>true
theorem exec_sameT {ops hd:List Oper} {a0 a:Act} {vs vs':Nat->Value} {done:Nat->Bool} (hall:∀o∈hd,okOneT ops hd o=true)(hdist:distinct hd=true)(hpre:∀(j:Nat) (o:Oper),hd[j]?=some o->ops[j]?=some o)(h:Fits hd a0 vs done a)(i:Nat)(o:Oper)(ho:hd[i]?=some o)
 (hdeps:∀j∈deps o,done j=true) (hvs:∀j,done j=true->vs' j=vs j):
 execOp (putAll vs' 0 hd a0).eval o=execOp a.eval o/\Region.wanted o (yielded ops.toArray (putAll vs' 0 hd a0).tmps)=Region.wanted o (yielded ops.toArray a.tmps):=by
 have hone:=hall o (List.mem_of_getElem? ho)
 simp only [okOneT,Bool.and_eq_true,List.all_eq_true]at hone
 obtain⟨hsel,hlook⟩:=hone
 have slot:∀t∈o.looksAt ops.toArray,(putAll vs' 0 hd a0).tmps[t]?=a.tmps[t]?:=by
  intro t ht
  have hl:=hlook t ht
  by_cases hex:∃(j:Nat) (oj:Oper),hd[j]?=some oj/\oj.dst=some t
  ·obtain⟨j,oj,hj,hjt⟩:=hex
   have hlt:j < hd.length:=(List.getElem?_eq_some_iff.1 hj).1
   have hmem:=hl j (List.mem_range.2 hlt)
   rw [hj]at hmem
   simp only [hjt,bne_self_eq_false,Bool.false_or]at hmem
   have hdj:j∈deps o:=by simpa using hmem
   have hdone:=hdeps j hdj
   rw [putAll_new vs' hd hdist 0 a0 j oj t hj hjt,h.new j oj t hj hdone hjt,Nat.zero_add,hvs j hdone]
  ·have hno:∀(k:Nat) (x:Oper),hd[k]?=some x->x.dst≠some t:=fun k x hx hc=>hex ⟨k,x,hx,hc⟩
   rw [putAll_old vs' t hd 0 a0 hno,h.old t fun j x hx _=>hno j x hx]
 refine⟨execOp_congr o ?_ ?_,?_⟩
 ·intro cs b hc;rw [hc]at hsel;simp at hsel
 ·intro x hx
  cases x with
  | tmp t=>
    have hs:=slot t (List.mem_append_left _ (List.mem_filterMap.2 ⟨.tmp t,by simpa using hx,rfl⟩))
    simp only [Act.eval,Array.getD_eq_getD_getElem?,hs]
  | _=>rfl
 ·unfold Region.wanted
  cases hg:o.guard with
  | none=>rfl
  | some gw=>
    obtain⟨g,want⟩:=gw
    have hy:yielded ops.toArray (putAll vs' 0 hd a0).tmps g=yielded ops.toArray a.tmps g:=by
     unfold yielded
     cases ht:(ops.toArray[g]?).bind (·.dst)with
     | none=>rfl
     | some t=>
       have hs:=slot t (by
        unfold Oper.looksAt
        rw [hg]
        refine List.mem_append_right _ ?_
        show t∈((ops.toArray[g]?).bind fun x=>x.dst).toList
        rw [ht]
        simp)
       simp only [Option.bind_some,hs]
    simp only [hy]
theorem anyT {hd tl:List Oper} {J:World->Prop} {a0:Act} {ss:List (Sp R)} {Q:Exit->Act->World->Prop} (hall:∀o∈hd,okOneT (hd++tl) hd o=true)(hdist:distinct hd=true)(hS:sizeB hd a0.tmps.size=true)(hb:backB (hd++tl)=true)
 (hw:waitT (hd++tl) hd.length=true) (hseq:Region.seqB .any (hd++tl).toArray tl.length hd.length (headDone hd.length tl.length)=true) (hpos:0 < hd.length)
 (hob:oblH P (hd++tl) hd J a0 ss 0 hd)
 (hfin:∀vs w,J w->(∀j,j < hd.length->(ss.getD j (Sp.any R)).p (vs j) w)->wpList P (hd++tl).toArray Q tl (putAll vs 0 hd a0) w):
 ∀(fuel:Nat) (listed:Array Bool) (a:Act) (w:World) (vs:Nat->Value),listed.size=(hd++tl).length->(∀j,hd.length<=j->listed.getD j false=false)->todo (hd++tl).length listed=fuel->J w->Closed (hd++tl) listed->Fits hd a0 vs (fun j=>listed.getD j false) a->
  (∀j,j < hd.length->listed.getD j false=true->(ss.getD j (Sp.any R)).p (valOf ((hd[j]?).bind (·.dst)) (vs j)) w)->
  wpAny P .any (hd++tl).toArray Q fuel listed a w:=by
 have hpre:∀(j:Nat) (o:Oper),hd[j]?=some o->(hd++tl)[j]?=some o:=by
  intro j o hj
  have hlt:=(List.getElem?_eq_some_iff.1 hj).1
  rw [List.getElem?_append_left hlt];exact hj
 have fin:∀(listed:Array Bool) (a:Act) (w:World) (vs:Nat->Value),listed.size=(hd++tl).length->(∀j,hd.length<=j->listed.getD j false=false)->J w->Fits hd a0 vs (fun j=>listed.getD j false) a->
  (∀j,j < hd.length->listed.getD j false=true->(ss.getD j (Sp.any R)).p (valOf ((hd[j]?).bind (·.dst)) (vs j)) w)->
  (∀j,j < hd.length->listed.getD j false=true)->wpAny P .any (hd++tl).toArray Q (todo (hd++tl).length listed) listed a w:=by
  intro listed a w vs hs htl hJ hF hv hdn
  have ha:a=putAll (fun j=>valOf ((hd[j]?).bind (·.dst)) (vs j)) 0 hd a0:=by
   have h1:a.tmps=(putAll (fun j=>valOf ((hd[j]?).bind (·.dst)) (vs j)) 0 hd a0).tmps:=by
    refine Array.ext_getElem? fun t=>?_
    by_cases hex:∃(j:Nat) (oj:Oper),hd[j]?=some oj/\oj.dst=some t
    ·obtain⟨j,oj,hj,hjt⟩:=hex
     have hlt:j < hd.length:=(List.getElem?_eq_some_iff.1 hj).1
     rw [putAll_new _ hd hdist 0 a0 j oj t hj hjt,hF.new j oj t hj (hdn j hlt) hjt,Nat.zero_add,hj]
     simp [valOf,hjt]
    ·have hno:∀(k:Nat) (x:Oper),hd[k]?=some x->x.dst≠some t:=fun k x hx hc=>hex ⟨k,x,hx,hc⟩
     rw [putAll_old _ t hd 0 a0 hno,hF.old t fun j x hx _=>hno j x hx]
   have h2:=hF.defers
   rw [<-putAll_def (fun j=>valOf ((hd[j]?).bind (·.dst)) (vs j)) hd 0 a0]at h2
   cases a
   simp only at h1 h2
   subst h1;subst h2
   rfl
  have hlis:listed=headDone hd.length tl.length:=by
   refine Array.ext_getElem? fun j=>?_
   have hsz:(headDone hd.length tl.length).size=(hd++tl).length:=by simp [headDone]
   rcases Nat.lt_or_ge j (hd++tl).length with hj|hj
   ·have e1:listed[j]?=some (listed.getD j false):=by
     have:j < listed.size:=by omega
     simp [this]
    rw [e1]
    rcases Nat.lt_or_ge j hd.length with hj'|hj'
    ·rw [hdn j hj']
     simp [headDone,List.getElem?_append_left (show j < (List.replicate hd.length true).length by simpa using hj'),hj']
    ·rw [htl j hj']
     have hj2:j - hd.length < tl.length:=by simp at hj;omega
     simp [headDone,List.getElem?_append_right (show(List.replicate hd.length true).length<=j by simpa using hj'),hj2]
   ·rw [Array.getElem?_eq_none (by omega),Array.getElem?_eq_none (by omega)]
  have htd:todo (hd++tl).length listed=tl.length:=by
   rw [hlis]
   unfold todo
   rw [List.length_append,List.range_add,List.countP_append,List.countP_map]
   have e1:List.countP (fun j=> !(headDone hd.length tl.length).getD j true) (List.range hd.length)=0:=by
    refine List.countP_eq_zero.2 fun j hj=>?_
    have hj':=List.mem_range.1 hj
    simp [headDone,List.getElem?_append_left (show j < (List.replicate hd.length true).length by simpa using hj'),hj']
   have e2:List.countP ((fun j=> !(headDone hd.length tl.length).getD j true)∘fun x=>hd.length+x) (List.range tl.length)=(List.range tl.length).length:=by
    refine List.countP_eq_length.2 fun j hj=>?_
    have hj':=List.mem_range.1 hj
    simp [headDone,List.getElem?_append_right,hj']
   rw [e1,e2,List.length_range]
   omega
  rw [htd]
  refine wpAny_of_seq tl hd.length listed a w (fun j=>?_) (by rw [hlis];exact hseq) ?_
  ·rw [List.getElem?_toArray,List.getElem?_append_right (Nat.le_add_right _ _),Nat.add_sub_cancel_left]
  ·rw [ha]
   exact hfin _ w hJ fun j hj=>hv j hj (hdn j hj)
 intro fuel
 induction fuel with
 | zero=>
   intro listed a w vs hs htl ht hJ hcl hF hv
   have hall':∀j,j < (hd++tl).length->listed.getD j true=true:=todo_zero ht
   have hdn:∀j,j < hd.length->listed.getD j false=true:=by
    intro j hj
    have hj2:j < listed.size:=by simp at hs;omega
    have:=hall' j (by simp;omega)
    simpa [Array.getD,hj2]using this
   have:=fin listed a w vs hs htl hJ hF hv hdn
   rwa [ht]at this
 | succ fuel ih=>
   intro listed a w vs hs htl ht hJ hcl hF hv
   by_cases hdn:∀j,j < hd.length->listed.getD j false=true
   ·have:=fin listed a w vs hs htl hJ hF hv hdn
    rwa [ht]at this
   have hnot:∃j,j < hd.length/\listed.getD j false=false:=by
    apply Classical.byContradiction
    intro hc
    apply hdn
    intro j hj
    cases hb':listed.getD j false with
    | true=>rfl
    | false=>exact absurd ⟨j,hj,hb'⟩ hc
   have ready_hd:∀i,i∈Region.ready .any (hd++tl).toArray listed->i < hd.length:=by
    intro i hi
    rcases Nat.lt_or_ge i hd.length with h|h
    ·exact h
    ·exfalso
     obtain⟨j,hj,hjf⟩:=hnot
     rw [mem_ready]at hi
     obtain⟨_,o,ho,hdep⟩:=hi
     have ho':(hd++tl)[i]?=some o:=by simpa using ho
     have hil:=(List.getElem?_eq_some_iff.1 ho').1
     simp only [waitT,List.all_eq_true]at hw
     have:=hw i (List.mem_range.2 hil)
     rw [ho']at this
     simp only [Bool.or_eq_true,decide_eq_true_eq,List.all_eq_true]at this
     have h2:=(this.resolve_left (by omega)) j (List.mem_range.2 hj)
     have h3:j∈clos (hd++tl) 4 (deps o):=by simpa using h2
     have h4:∀d∈deps o,listed.getD d false=true:=by
      intro d hd'
      obtain⟨e,he,rfl⟩:=List.mem_map.1 hd'
      obtain⟨he1,he2⟩:=List.mem_filter.1 he
      exact hdep e (by simpa using he1) he2
     have:=clos_listed hcl 4 _ h4 j h3
     rw [hjf]at this
     cases this
   refine⟨fun hr=>?_,fun i hi=>?_⟩
   ·exfalso
    obtain⟨j,hj,hjf⟩:=hnot
    have:=ready_some hb hs hr j (by simp;omega)
    rw [hjf]at this;cases this
   ·have hih:=ready_hd i hi
    rw [mem_ready]at hi
    obtain⟨hi0,o,ho',hdep⟩:=hi
    have ho2:(hd++tl)[i]?=some o:=by simpa using ho'
    have ho:hd[i]?=some o:=by rwa [List.getElem?_append_left hih]at ho2
    have hdl:∀j∈deps o,listed.getD j false=true:=by
     intro j hj
     obtain⟨e,he,rfl⟩:=List.mem_map.1 hj
     obtain⟨he1,he2⟩:=List.mem_filter.1 he
     exact hdep e (by simpa using he1) he2
    have hi0':listed.getD i false=false:=getD_both hi0
    have hjl:∀j,listed.getD j false=true->j < hd.length:=by
     intro j hj
     rcases Nat.lt_or_ge j hd.length with h|h
     ·exact h
     ·rw [htl j h]at hj;cases hj
    let vs1:Nat->Value:=fun j=>valOf ((hd[j]?).bind (·.dst)) (vs j)
    have hFv1:Fits hd a0 vs1 (fun j=>listed.getD j false) a:=⟨hF.defers,hF.size,hF.old,fun j x d hx hj hxd=>by
     rw [hF.new j x d hx hj hxd]
     simp [vs1,valOf,hx,hxd]⟩
    obtain⟨hex,hwd⟩:=exec_sameT (vs':=vs1) hall hdist hpre hFv1 i o ho hdl (fun _ _=>rfl)
    have hobl:=oblH_at hd 0 hob i o ho vs1 w hJ (fun j hj=>hv j (hjl j (hdl j hj)) (hdl j hj))
    rw [Nat.zero_add]at hobl
    refine step_of (a0:=a0) ho2 (putAll_def _ _ _ _) ?_ hex hwd hobl ?_
    ·intro d hd'
     rw [putAll_size]
     simp only [sizeB,List.all_eq_true]at hS
     have:=hS o (List.mem_of_getElem? ho)
     rw [hd']at this
     simpa using this
    ·intro v w' hJ' hR hp
     have hsi:i < listed.size:=by rw [hs];simp;omega
     refine ih _ _ _ (fun j=>if j=i then v else vs j) (by simpa using hs) ?_ ?_ hJ' (hcl.set ho2 hdl) ?_ ?_
     ·intro j hj
      rw [getD_set_ne false (by omega)]
      exact htl j hj
     ·have:=todo_exact (n:=(hd++tl).length) (by simp;omega) hi0 hsi
      omega
     ·refine hF.put hdist i o ho v hi0' fun j=>?_
      by_cases e:i=j
      ·subst e;simp [Array.getD,hsi]
      ·rw [getD_set_ne false e];simp [Ne.symm e]
     ·intro j hj hjd
      by_cases e:i=j
      ·subst e
       rw [ho]
       simp only [Option.bind_some,if_true]
       exact hp
      ·rw [getD_set_ne false e]at hjd
       have:=(ss.getD j (Sp.any R)).keep _ _ _ hR (hv j hj hjd)
       simpa [Ne.symm e]using this
def headT (hd tl:List Oper) (n:Nat):Bool:=hd.all (okOneT (hd++tl) hd) && distinct hd && sizeB hd n && backB (hd++tl) && waitT (hd++tl) hd.length && Region.seqB .any (hd++tl).toArray tl.length hd.length (headDone hd.length tl.length) && decide (0 < hd.length)
theorem wp_region_tail {l hd tl:List Oper} {id:Nat} {J:World->Prop} {a0:Act} {w0:World} {Q:Exit->Act->World->Prop} (ss:List (Sp R))(hm:P.follows .mixedOrders=true)
 (hl:l=hd++tl) (hB:headT hd tl a0.tmps.size=true) (hJ:J w0.drew)
 (hob:oblH P l hd J a0 ss 0 hd)
 (hfin:∀vs w,J w->(∀j,j < hd.length->(ss.getD j (Sp.any R)).p (vs j) w)->wpList P l.toArray Q tl (putAll vs 0 hd a0) w):
 (Code.region id l.toArray true).wp P Q a0 w0:=by
 subst hl
 simp only [headT,Bool.and_eq_true,decide_eq_true_eq,List.all_eq_true]at hB
 obtain⟨⟨⟨⟨⟨⟨h1,h2⟩,h3⟩,h4⟩,h5⟩,h6⟩,h7⟩:=hB
 refine wp_region_any hm ?_
 have hsz:(hd++tl).toArray.size=(hd++tl).length:=by simp
 have ht:todo (hd++tl).length (Array.replicate (hd++tl).length false)=(hd++tl).length:=by
  unfold todo
  have:List.countP (fun j=> !(Array.replicate (hd++tl).length false).getD j true) (List.range (hd++tl).length)=(List.range (hd++tl).length).length:=by
   refine List.countP_eq_length.2 fun j hj=>?_
   have hj':=List.mem_range.1 hj
   simp at hj'
   simp [Array.getD,hj']
  rw [this,List.length_range]
 rw [hsz]
 refine anyT h1 h2 h3 h4 h5 h6 h7 hob hfin _ _ _ _ (fun _=>undef) (by simp) ?_ ht hJ (Closed.start _ _) ?_ ?_
 ·intro j _;exact getD_replicate_false _ _
 ·refine⟨rfl,rfl,fun _ _=>rfl,fun j o d _ hj=>?_⟩
  rw [getD_replicate_false]at hj;cases hj
 ·intro j _ hj
  rw [getD_replicate_false]at hj;cases hj
theorem wp_region_cutT {l:List Oper} {id:Nat} {J:World->Prop} {a0:Act} {w0:World} {Q:Exit->Act->World->Prop} (n:Nat)(ss:List (Sp R))(hm:P.follows .mixedOrders=true)
 (hB:headT (l.take n) (l.drop n) a0.tmps.size=true) (hJ:J w0.drew)
 (hob:oblH P l (l.take n) J a0 ss 0 (l.take n))
 (hfin:∀vs w,J w->(∀j,j < (l.take n).length->(ss.getD j (Sp.any R)).p (vs j) w)->wpList P l.toArray Q (l.drop n) (putAll vs 0 (l.take n) a0) w):
 (Code.region id l.toArray true).wp P Q a0 w0:=
 wp_region_tail ss hm (List.take_append_drop n l).symm hB hJ hob hfin
end
end Go.Proofs.YtdenjanihikolaaGreatDoor.Og
namespace Go.Proofs.YtdenjanihikolaaGreatDoor
set_option linter.unusedVariables false
set_option linter.unusedSimpArgs false
set_option maxRecDepth 100000
open Go.RowKit Og
def prV (p:Pr):List Value:=[.string p.1,.string p.2]
theorem flat2_len:∀l:List Pr,(l.flatMap prV).length=l.length * 2
 | []=>rfl
 | p :: r=>by rw [List.flatMap_cons,List.length_append,flat2_len r,List.length_cons];simp [prV];omega
theorem flat2_at:∀(l:List Pr) (s:Nat) (h:s < l.length),(l.flatMap prV)[s * 2]?=some (.string l[s].1)/\(l.flatMap prV)[s * 2+1]?=some (.string l[s].2)
 | p :: r,0,_=>⟨rfl,rfl⟩
 | p :: r,s+1,h=>by
   have h1:=flat2_at r s (by simpa using h)
   have e:(p :: r).flatMap prV=.string p.1 :: .string p.2 :: r.flatMap prV:=rfl
   rw [e,show(s+1) * 2=s * 2+1+1 by omega]
   simpa using h1
theorem rws_flat (w:World)(l:List Pr):Rws 2 (isPr w) l (l.flatMap prV):=by
 refine⟨flat2_len l,fun j hj=>?_⟩
 obtain⟨h0,h1⟩:=flat2_at l j hj
 refine⟨fun k=>if k=0 then .string l[j].1 else .string l[j].2,fun k hk=>?_,⟨rfl,rfl⟩⟩
 rcases k with _|_|k
 ·exact h0
 ·exact h1
 ·omega
theorem ltP_iff (p q:Pr):Op.bytesLess p.1.toList q.1.toList=decide (ltP p q):=by
 rw [bytesLess_eq,ByteArray.toList_eq,ByteArray.toList_eq]
 rfl
def slB1:Value->Nat
 | .slice (some a) _ _=>a.block
 | _=>0
def spBox (W:World) (cs:Array Value) (e:Nat):Sp Ext:=⟨fun v x=>v=.slice (some ⟨slB1 v,0,none⟩) 1 1/\W.heap.size<=slB1 v/\x.heap[slB1 v]?=some (.cells cs e (0,0)),fun _ _ _ h k=>⟨k.1,k.2.1,(h.block _ (zl k.2.2)).trans k.2.2⟩⟩
theorem push_all:∀(l:List UInt8) (r:ByteArray),(l.map fun b=>(b.toNat:Int)).foldl (fun r n=>r.push (UInt8.ofNat n.toNat)) r=⟨r.data++l.toArray⟩
 | [],r=>by simp
 | b :: l,r=>by
   rw [List.map_cons,List.foldl_cons,push_all l]
   have e:UInt8.ofNat ((b.toNat:Int).toNat)=b:=by simp
   rw [e]
   cases r with
   | mk d=>simp [ByteArray.push]
theorem str_sby (s:ByteArray):strOf (sby s)=s:=by
 unfold strOf sby
 rw [push_all]
 cases s with
 | mk d=>
   show(⟨#[]++d.toList.toArray⟩:ByteArray)=⟨d⟩
   simp
theorem srt_lt {ps:List Pr} (h:Srt ps):ps.Pairwise ltP:=h
end Go.Proofs.YtdenjanihikolaaGreatDoor
