/- Errors of pairs: the struct that errorOf hands back. -/
import Derived.Test.YtdenjanihikolaaGreatDoorRqA0
import Derived.Test.YtdenjanihikolaaGreatDoorRqA1
import Derived.Shelf.Strconv.ParseIntPublic10
import Derived.Test.YtdenjanihikolaaGreatDoorRqBase
import Derived.Lib.AppendIntMem
import Derived.Test.YtdenjanihikolaaGreatDoorRqErg
import Derived.Maps.RangeWalk
import Derived.WalkKit
import Derived.Deep.DeepCutAuto
import Derived.Deep.CutBlock
import Derived.Deep.Light
import Derived.Test.YtdenjanihikolaaGreatDoorRqStp
import Derived.Test.YtdenjanihikolaaGreatDoorRqMkg
namespace Go.Proofs.YtdenjanihikolaaGreatDoor
set_option linter.unusedVariables false
set_option linter.unusedSimpArgs false
set_option maxRecDepth 100000
set_option maxHeartbeats 4000000
open Go.RowKit Go.Sort
open Go.Shelf
def laysC174_ren:Go.Shelf.Ren:=⟨fun|174=>75|247=>79|245=>80|287=>92|279=>93|280=>94|281=>95|282=>96|321=>103|322=>104|316=>105|171=>78|205=>106|243=>91|246=>102|283=>108|284=>109|285=>110|286=>111|129=>90|317=>112|318=>113|319=>114|320=>115|337=>116|338=>117|n=>n,fun|9=>9|3=>3|2=>2|75=>75|85=>260|4=>4|167=>278|5=>5|53=>277|175=>279|46=>264|168=>281|37=>26|0=>0|210=>294|21=>21|127=>303|145=>306|143=>304|171=>299|173=>301|212=>309|51=>22|20=>20|213=>310|232=>311|233=>312|80=>313|n=>n,fun|15=>0|16=>1|17=>2|18=>3|19=>4|n=>n⟩
theorem laysC174:Go.Proofs.LaysC.n174 Tryz.prog laysC174_ren:=
 {mixed:=by kernel_rfl,
  f129:=Tryz.func90.trans (congrArg some (by kernel_rfl)),
  f171:=Tryz.func78.trans (congrArg some (by kernel_rfl)),
  f174:=Tryz.func75.trans (congrArg some (by kernel_rfl)),
  f205:=Tryz.func106.trans (congrArg some (by kernel_rfl)),
  f243:=Tryz.func91.trans (congrArg some (by kernel_rfl)),
  f245:=Tryz.func80.trans (congrArg some (by kernel_rfl)),
  f246:=Tryz.func102.trans (congrArg some (by kernel_rfl)),
  f247:=Tryz.func79.trans (congrArg some (by kernel_rfl)),
  f279:=Tryz.func93.trans (congrArg some (by kernel_rfl)),
  f280:=Tryz.func94.trans (congrArg some (by kernel_rfl)),
  f281:=Tryz.func95.trans (congrArg some (by kernel_rfl)),
  f282:=Tryz.func96.trans (congrArg some (by kernel_rfl)),
  f283:=Tryz.func108.trans (congrArg some (by kernel_rfl)),
  f284:=Tryz.func109.trans (congrArg some (by kernel_rfl)),
  f285:=Tryz.func110.trans (congrArg some (by kernel_rfl)),
  f286:=Tryz.func111.trans (congrArg some (by kernel_rfl)),
  f287:=Tryz.func92.trans (congrArg some (by kernel_rfl)),
  f316:=Tryz.func105.trans (congrArg some (by kernel_rfl)),
  f317:=Tryz.func112.trans (congrArg some (by kernel_rfl)),
  f318:=Tryz.func113.trans (congrArg some (by kernel_rfl)),
  f319:=Tryz.func114.trans (congrArg some (by kernel_rfl)),
  f320:=Tryz.func115.trans (congrArg some (by kernel_rfl)),
  f321:=Tryz.func103.trans (congrArg some (by kernel_rfl)),
  f322:=Tryz.func104.trans (congrArg some (by kernel_rfl)),
  f337:=Tryz.func116.trans (congrArg some (by kernel_rfl)),
  f338:=Tryz.func117.trans (congrArg some (by kernel_rfl)),
  t0:=Tryz.underlying0,
  a0:=Tryz.isAgg0,
  z0:=Tryz.sizeOf0,
  v0:=Tryz.zeroValue0,
  t2:=Tryz.underlying2,
  a2:=Tryz.isAgg2,
  z2:=Tryz.sizeOf2,
  v2:=Tryz.zeroValue2,
  t3:=Tryz.underlying3,
  a3:=Tryz.isAgg3,
  z3:=Tryz.sizeOf3,
  v3:=Tryz.zeroValue3,
  t4:=Tryz.underlying4,
  a4:=Tryz.isAgg4,
  z4:=Tryz.sizeOf4,
  v4:=Tryz.zeroValue4,
  t5:=Tryz.underlying5,
  a5:=Tryz.isAgg5,
  z5:=Tryz.sizeOf5,
  v5:=Tryz.zeroValue5,
  t9:=Tryz.underlying9,
  a9:=Tryz.isAgg9,
  z9:=Tryz.sizeOf9,
  v9:=Tryz.zeroValue9,
  t20:=Tryz.underlying20,
  a20:=Tryz.isAgg20,
  z20:=Tryz.sizeOf20,
  v20:=Tryz.zeroValue20,
  t21:=Tryz.underlying21,
  a21:=Tryz.isAgg21,
  z21:=Tryz.sizeOf21,
  v21:=Tryz.zeroValue21,
  t37:=Tryz.underlying26,
  a37:=Tryz.isAgg26,
  z37:=Tryz.sizeOf26,
  v37:=Tryz.zeroValue26,
  t46:=Tryz.underlying264,
  a46:=Tryz.isAgg264,
  z46:=Tryz.sizeOf264,
  v46:=Tryz.zeroValue264,
  t51:=Tryz.underlying22,
  a51:=Tryz.isAgg22,
  z51:=Tryz.sizeOf22,
  v51:=Tryz.zeroValue22,
  t53:=Tryz.underlying277,
  a53:=Tryz.isAgg277,
  z53:=Tryz.sizeOf277,
  v53:=Tryz.zeroValue277,
  t75:=Tryz.underlying75,
  a75:=Tryz.isAgg75,
  z75:=Tryz.sizeOf75,
  v75:=Tryz.zeroValue75,
  t85:=Tryz.underlying260,
  a85:=Tryz.isAgg260,
  z85:=Tryz.sizeOf260,
  v85:=Tryz.zeroValue260,
  t127:=Tryz.underlying303,
  a127:=Tryz.isAgg303,
  z127:=Tryz.sizeOf303,
  v127:=Tryz.zeroValue303,
  t143:=Tryz.underlying304,
  a143:=Tryz.isAgg304,
  z143:=Tryz.sizeOf304,
  v143:=Tryz.zeroValue304,
  t145:=Tryz.underlying306,
  a145:=Tryz.isAgg306,
  z145:=Tryz.sizeOf306,
  v145:=Tryz.zeroValue306,
  t167:=Tryz.underlying278,
  a167:=Tryz.isAgg278,
  z167:=Tryz.sizeOf278,
  v167:=Tryz.zeroValue278,
  t168:=Tryz.underlying281,
  a168:=Tryz.isAgg281,
  z168:=Tryz.sizeOf281,
  v168:=Tryz.zeroValue281,
  t171:=Tryz.underlying299,
  a171:=Tryz.isAgg299,
  z171:=Tryz.sizeOf299,
  v171:=Tryz.zeroValue299,
  t173:=Tryz.underlying301,
  a173:=Tryz.isAgg301,
  z173:=Tryz.sizeOf301,
  v173:=Tryz.zeroValue301,
  t175:=Tryz.underlying279,
  a175:=Tryz.isAgg279,
  z175:=Tryz.sizeOf279,
  v175:=Tryz.zeroValue279,
  t210:=Tryz.underlying294,
  a210:=Tryz.isAgg294,
  z210:=Tryz.sizeOf294,
  v210:=Tryz.zeroValue294,
  t212:=Tryz.underlying309,
  a212:=Tryz.isAgg309,
  z212:=Tryz.sizeOf309,
  v212:=Tryz.zeroValue309,
  t213:=Tryz.underlying310,
  a213:=Tryz.isAgg310,
  z213:=Tryz.sizeOf310,
  t232:=Tryz.underlying311,
  a232:=Tryz.isAgg311,
  z232:=Tryz.sizeOf311,
  v232:=Tryz.zeroValue311,
  t233:=Tryz.underlying312,
  a233:=Tryz.isAgg312,
  z233:=Tryz.sizeOf312,
  v233:=Tryz.zeroValue312,
  g15:=by kernel_rfl,
  g16:=by kernel_rfl,
  g17:=by kernel_rfl,
  g18:=by kernel_rfl,
  g19:=by kernel_rfl,
  t80:=Tryz.underlying313,
  a80:=Tryz.isAgg313,
  z80:=Tryz.sizeOf313,
  v80:=Tryz.zeroValue313,
  i0:=by kernel_rfl,
  i2:=by kernel_rfl,
  i3:=by kernel_rfl,
  i4:=by kernel_rfl,
  i5:=by kernel_rfl,
  i9:=by kernel_rfl,
  i20:=by kernel_rfl,
  i21:=by kernel_rfl,
  i37:=by kernel_rfl,
  i46:=by kernel_rfl,
  i51:=by kernel_rfl,
  i53:=by kernel_rfl,
  i75:=by kernel_rfl,
  i80:=by kernel_rfl,
  i85:=by kernel_rfl,
  i127:=by kernel_rfl,
  i143:=by kernel_rfl,
  i145:=by kernel_rfl,
  i167:=by kernel_rfl,
  i168:=by kernel_rfl,
  i171:=by kernel_rfl,
  i173:=by kernel_rfl,
  i175:=by kernel_rfl,
  i210:=by kernel_rfl,
  i212:=by kernel_rfl,
  i232:=by kernel_rfl,
  i233:=by kernel_rfl,
  m15:=by kernel_rfl,
  m16:=by kernel_rfl,
  m17:=by kernel_rfl,
  m18:=by kernel_rfl,
  m19:=by kernel_rfl,
  c0:=by kernel_rfl,
  c2:=by kernel_rfl,
  c3:=by kernel_rfl,
  c4:=by kernel_rfl,
  c5:=by kernel_rfl,
  c9:=by kernel_rfl,
  c20:=by kernel_rfl,
  c21:=by kernel_rfl,
  c37:=by kernel_rfl,
  c46:=by kernel_rfl,
  c51:=by kernel_rfl,
  c53:=by kernel_rfl,
  c75:=by kernel_rfl,
  c80:=by kernel_rfl,
  c85:=by kernel_rfl,
  c127:=by kernel_rfl,
  c143:=by kernel_rfl,
  c145:=by kernel_rfl,
  c167:=by kernel_rfl,
  c168:=by kernel_rfl,
  c171:=by kernel_rfl,
  c173:=by kernel_rfl,
  c175:=by kernel_rfl,
  c210:=by kernel_rfl,
  c212:=by kernel_rfl,
  c213:=by kernel_rfl,
  c232:=by kernel_rfl,
  c233:=by kernel_rfl}
theorem parseS (s:ByteArray)(hmax:s.size<=9223372036854775806)(v:Int)(h:Lib.parseIntB 32 s.data.toList=.ok v)(w:World):
 Calls Tryz.prog 75 #[.string s,.int .i64 10,.int .i64 32] w fun e w'=>e=.returned (.tuple #[.int .i64 v,.nilIface])/\(w'=w∨∃t,w'=Lib.bytesWorld w 5 t):=
 Any.strconv_ParseInt_10_at32_ok laysC174 s hmax v h w
open Go.RowKit
def Tab (w:World):Prop:=Lib.TabIs Tryz.prog w "internal/strconv.uint64pow10" .u64 Lib.pow10Tab
theorem Tab.ext {w w':World} (h:Tab w)(hx:Ext w w'):Tab w':=Lib.tabBelow_of_tabIs h w' hx
theorem parse75 (s:ByteArray)(h:digP s)(w:World):Calls Tryz.prog 75 #[.string s,.int .i64 10,.int .i64 32] w fun e w'=>e=.returned (.tuple #[.int .i64 (numS s),.nilIface])/\Ext w w':=by
 refine(parseS s (by have:=h.2.1;omega) _ (num_facts h).1 w).mono ?_
 rintro e w' ⟨rfl,hw⟩
 refine⟨rfl,?_⟩
 rcases hw with rfl|⟨t,rfl⟩
 ·exact Ext.refl _
 ·exact Lib.bytesWorld_below _ _ _
theorem itoa78 (s:ByteArray)(h:digP s)(w:World)(ht:Tab w):Calls Tryz.prog 78 #[.int .i64 (numS s)] w fun e w'=>e=.returned (.string s)/\Ext w w':=by
 obtain⟨_,h1,h2,h3⟩:=num_facts h
 refine(itoaS (numS s) (by omega) (by omega) w ht).mono ?_
 rintro e w' ⟨rfl,k,os,rfl⟩
 rw [h3]
 exact⟨by simp,Lib.below_grow _ _ (Nat.le_refl _) _ _⟩
open Go.RowKit Go.Maps
theorem sort299 (w:World):Calls Tryz.prog 299 #[.slice none 0 0,.int .i64 0,.int .i64 0] w fun e w'=>e=.returned (.tuple #[])/\w'=w:=by
 go_enter Tryz.func299,Tryz.ntmps299
 go_wp2
 refine wp_loop_rounds 1 ?_
 rw [rounds_succ]
 go_wp2
 go_end0
 exact⟨rfl,rfl⟩
theorem sort298 (n:Int)(w:World):Calls Tryz.prog 298 #[.slice none 0 0,.int .i64 0,.int .i64 0,.int .i64 n] w fun e w'=>e=.returned (.tuple #[])/\w'=w:=by
 go_enter Tryz.func298,Tryz.ntmps298
 go_wp2
 refine wp_loop_rounds 1 ?_
 rw [rounds_succ]
 go_wp2_with (go_at_call 299;refine(sort299 _).mono ?_;rintro e w1 ⟨rfl,hw1⟩;rw [hw1];clear hw1)
 (try simp only [Exit.inBlock,Exit.then]);refine bodyPost_ret (results_none rfl _ _ _) rfl ?_
 exact⟨rfl,rfl⟩
theorem len77 (w:World):Calls Tryz.prog 77 #[.int .u64 0] w fun e w'=>e=.returned (.int .i64 0)/\w'=w:=by
 have h:=lenS 0 w (by decide) (by decide)
 have e:Lib.bitLen (0:Int).toNat=0:=by decide
 rw [e]at h
 exact h
theorem sort297 (w:World):Calls Tryz.prog 297 #[.slice none 0 0] w fun e w'=>e=.returned (.tuple #[])/\w'=w:=by
 go_enter Tryz.func297,Tryz.ntmps297
 go_wp2_with (first|(go_at_call 77;refine(len77 _).mono ?_;rintro e w1 ⟨rfl,hw1⟩;rw [hw1];clear hw1)|(go_at_call 298;refine(sort298 _ _).mono ?_;rintro e w1 ⟨rfl,hw1⟩;rw [hw1];clear hw1))
 go_end0
 exact⟨rfl,rfl⟩
theorem names296 (w:World):Calls Tryz.prog 296 #[.map none] w fun e w'=>e=.returned (.slice none 0 0)/\Ext w w':=by
 have hrg:=run_range_nilMap (P:=Tryz.prog) w 214 5 9 Tryz.underlying214
 have hnx:∀ty,(Instr.next (.pointer (some ⟨w.heap.size,0,none⟩)) false ty).run Tryz.prog (w.alloc (.mapIter none 0 #[] 0))=_:=fun ty=>run_next_nilMap w ty 0 0 #[]
 go_enter Tryz.func296,Tryz.ntmps296
 go_wp2
 refine wp_loop_rounds 1 ?_
 rw [rounds_succ]
 go_wp2_with (go_at_call 297;refine(sort297 _).mono ?_;rintro e w1 ⟨rfl,hw1⟩;rw [hw1];clear hw1)
 go_ret
 exact⟨rfl,ext_alloc _ _⟩
open Go.RowKit Go.Maps Go.Sort
def ls18:List Int:=[83,86,67,77,68,72,80,112,113,87,115,116,99,100,110,70,76,82]
def flB (c:Int) (s:ByteArray):List Int:=if s.size=0 then []else [c]++sby s++ [0]
def flZ (T:Nat->ByteArray) (X:List Int) (k:Nat):List Int:=X++(List.range k).flatMap fun i=>flB (ls18.getD i 0) (T i)
theorem flB_len (c:Int)(s:ByteArray)(h:s.size<=200):(flB c s).length<=202:=by
 unfold flB
 split
 ·simp
 ·simp only [List.length_append,List.length_cons,List.length_nil,sby_length];omega
theorem flZ_succ (T:Nat->ByteArray)(X:List Int)(k:Nat):flZ T X (k+1)=flZ T X k++flB (ls18.getD k 0) (T k):=by
 simp [flZ,List.range_succ,List.flatMap_append]
theorem flZ_len (T:Nat->ByteArray)(X:List Int)(h:∀i,(T i).size<=200)(hX:X.length<=100):∀k,(flZ T X k).length<=100+202 * k
 | 0=>by simpa [flZ]using hX
 | k+1=>by
   rw [flZ_succ,List.length_append]
   have h1:=flZ_len T X h hX k
   have h2:=flB_len (ls18.getD k 0) (T k) (h k)
   omega
theorem flB_nil (c:Int):flB c ⟨#[]⟩=[]:=rfl
theorem flB_some (c:Int)(s:ByteArray)(h:s.size≠0):flB c s=[c]++sby s++ [0]:=if_neg h
theorem empty_or (s:ByteArray):s=⟨#[]⟩∨(s.toList.isEmpty=false/\s.size≠0):=by
 by_cases h:s.size=0
 ·left
  cases s with
  | mk d=>
    have:d.size=0:=h
    rw [Array.eq_empty_of_size_eq_zero this]
 ·right
  refine⟨?_,h⟩
  rw [ByteArray.toList_eq]
  cases e:s.data.toList with
  | nil=>exact absurd (by rw [<-len_of,e];rfl) h
  | cons a t=>rfl
theorem empty_is:(⟨#[]⟩:ByteArray).toList.isEmpty=true:=by rw [ByteArray.toList_eq];rfl
theorem numS_nil:numS ⟨#[]⟩=0:=rfl
def errCells (T:Nat->ByteArray):Array Value:= #[.string (T 0),.string (T 1),.string (T 2),.string (T 3),.string (T 4),.string (T 5),.int .i32 (numS (T 6)),.int .i32 (numS (T 7)),.string (T 8),.string (T 9),.string (T 10),.string (T 11),.string (T 12),.string (T 13),.string (T 14),.string (T 15),.int .i32 (numS (T 16)),.string (T 17),.map none]
def numJ (j:Nat):Prop:=j=6∨j=7∨j=16
instance (j:Nat):Decidable (numJ j):=by unfold numJ;infer_instance
theorem cases18 {j:Nat} (h:j < 18):j=0∨j=1∨j=2∨j=3∨j=4∨j=5∨j=6∨j=7∨j=8∨j=9∨j=10∨j=11∨j=12∨j=13∨j=14∨j=15∨j=16∨j=17:=by omega
theorem cell_txt (T:Nat->ByteArray) {j:Nat} (h:j < 18)(hn:¬numJ j):(errCells T)[j]?=some (.string (T j)):=by
 rcases cases18 h with rfl|rfl|rfl|rfl|rfl|rfl|rfl|rfl|rfl|rfl|rfl|rfl|rfl|rfl|rfl|rfl|rfl|rfl <;> first|rfl|exact absurd (by decide) hn
theorem cell_num (T:Nat->ByteArray) {j:Nat} (hn:numJ j):(errCells T)[j]?=some (.int .i32 (numS (T j))):=by
 rcases hn with rfl|rfl|rfl <;> rfl
theorem zf1 {p:Prop} (h:p:=by
 rcases empty_or s with rfl|⟨hne,hnz⟩
 ·simp only [empty_is,Bool.not_true]
  go_wp2_with fail
  go_meet
  case rel=>
   have h1:=HZS.out
   rw [flB_nil,List.append_nil]at h1
   rw [h1]
   exact HB
 ·have HNZ:=zh hnz
  clear hnz
  simp only [hne,Bool.not_false]
  go_wp2_with (first|(at_builtin;refine ap_lit1 rfl _ _ 26 26 rfl Tryz.underlying26 Tryz.underlying26 rfl rfl HB.out (by first|omega|(simp only [List.length_append,List.length_cons,List.length_nil,sby_length];omega)) ?_;intro v3 w7 hn;replace HB:=zh hn;clear hn hc;have hc:=HCC.out _ _ _ HB.out)|(at_builtin;refine ap_str rfl _ _ 26 rfl Tryz.underlying26 rfl rfl HB.out (by first|omega|(simp only [List.length_append,List.length_cons,List.length_nil,sby_length];omega)) ?_;intro v3 w7 hn;replace HB:=zh hn;clear hn hc;have hc:=HCC.out _ _ _ HB.out))
  go_meet
  case rel=>
   have h1:=HZS.out
   rw [flB_some _ _ HNZ.out]at h1
   rw [h1]
   have h2:=HB.out
   simp only [List.append_assoc]at h2⊢
   exact zh h2):p:=h
theorem zf2 {p:Prop} (h:p:=by
 rcases HNI.out (by decide)with rfl|hd
 ·simp only [numS_nil]
  go_wp2_with fail
  go_meet
  case rel=>
   have h1:=HZS.out
   rw [flB_nil,List.append_nil]at h1
   rw [h1]
   exact HB
 ·have HD:=zh hd
  have hnz:(numS s == 0)=false:=by have:=(num_facts hd).2.1;exact beq_eq_false_iff_ne.2 (by omega)
  have hnz2:(numS s != 0)=true:=by rw [bne,hnz];rfl
  have hwr:IntKind.i64.wrap (numS s)=numS s:=by have:=(num_facts hd).2.1;have:=(num_facts hd).2.2.1;rw [IntKind.wrap_i64];omega
  clear hd
  simp only [hnz,hnz2,Bool.not_false]
  go_wp2_with (first|(go_at_call 78;refine(itoa78 s HD.out _ (HTAB.out.ext HB.out.bel)).mono ?_;rintro e w6 ⟨rfl,hx⟩;replace HB:=zh (HB.out.ext hx);clear hx hc;have hc:=HCC.out _ _ _ HB.out)|(at_builtin;refine ap_lit1 rfl _ _ 26 26 rfl Tryz.underlying26 Tryz.underlying26 rfl rfl HB.out (by first|omega|(simp only [List.length_append,List.length_cons,List.length_nil,sby_length];omega)) ?_;intro v3 w7 hn;replace HB:=zh hn;clear hn hc;have hc:=HCC.out _ _ _ HB.out)|(at_builtin;refine ap_str rfl _ _ 26 rfl Tryz.underlying26 rfl rfl HB.out (by first|omega|(simp only [List.length_append,List.length_cons,List.length_nil,sby_length];omega)) ?_;intro v3 w7 hn;replace HB:=zh hn;clear hn hc;have hc:=HCC.out _ _ _ HB.out))
  go_meet
  case rel=>
   have h1:=HZS.out
   rw [flB_some _ _ HD.out.1]at h1
   rw [h1]
   have h2:=HB.out
   simp only [List.append_assoc]at h2⊢
   exact zh h2):p:=h
theorem fields295 (T:Nat->ByteArray)(eb ty:Nat)(X:List Int)(v0:Value)(w w1:World)(hblk:w.heap[eb]?=some (.cells (errCells T) ty (0,0)))(hT:∀i,(T i).size<=200)(hN:∀i,i=6∨i=7∨i=16->T i=⟨#[]⟩∨digP (T i))(htab:Tab w)(hB:Buf (Lt w.heap.size) w w1 v0 X)(hX:X.length<=100):
 Calls Tryz.prog 295 #[.pointer (some ⟨eb,0,none⟩),v0] w1 (fun e w'=>∃v,e=.returned v/\Buf (Lt w.heap.size) w w' v (flZ T X 18++ [0])):=by
 have HLT:Hid (Lt w.heap.size eb):=zh (zl hblk)
 have HC18:=zh (zc hblk 18 (.map none) rfl)
 have HBL:=zh hblk
 have HZ:Hid (∀k,(flZ T X k).length<=100+202 * k):=zh (flZ_len T X hT hX)
 have HT:=zh hT
 have HN:=zh hN
 have HTAB:=zh htab
 have e0:flZ T X 0=X:=by simp [flZ]
 obtain⟨Z,hz⟩:∃Z,Z=flZ T X:=⟨_,rfl⟩
 have HZE:=zh hz
 rw [<-hz]at HZ e0
 have HB:Hid (Buf (Lt w.heap.size) w w1 v0 (Z 0)):=zh (by rw [e0];exact hB)
 have SG:Hid (∀k,∃s,s=T k/\s.size<=200/\(Z k).length<=100+202 * k/\Hid (Z (k+1)=Z k++flB (ls18.getD k 0) s)/\Hid (numJ k->s=⟨#[]⟩∨digP s)):=zh fun k=>⟨_,rfl,hT k,HZ.out k,zh (by rw [hz];exact flZ_succ T X k),zh fun h=>hN k h⟩
 have CT:Hid (∀k,k < 18->¬numJ k->∀s,s=T k->∀(wx:World) (v:Value) (Y:List Int),Buf (Lt w.heap.size) w wx v Y->wx.cell? ⟨eb,k,none⟩=some (.string s)):=zh fun k h1 h2 s e wx v Y h=>(cell_of_heap (h.kept eb HLT.out) k).trans (zc HBL.out k _ (by rw [e];exact cell_txt T h1 h2))
 have CN:Hid (∀k,numJ k->∀s,s=T k->∀(wx:World) (v:Value) (Y:List Int),Buf (Lt w.heap.size) w wx v Y->wx.cell? ⟨eb,k,none⟩=some (.int .i32 (numS s))):=zh fun k h2 s e wx v Y h=>(cell_of_heap (h.kept eb HLT.out) k).trans (zc HBL.out k _ (by rw [e];exact cell_num T h2))
 clear hblk hT hN htab hX hz e0 hB
 go_enter Tryz.func295,Tryz.ntmps295
 obtain⟨s,hsv,hs,hzl,HZS,HNI⟩:=SG.out 0
 have HCC:=zh (CT.out 0 (by decide) (by decide) s hsv)
 clear hsv
 have hc:=HCC.out _ _ _ HB.out
 go_upto_if 12 with fail
 go_cut [1]from 8 to 24 (fun v wx=>Hid (Buf (Lt w.heap.size) w wx v (Z 1)))
 case first=>exact zf1
 case rest=>
 clear HB hc hs hzl HZS HCC HNI
 have HB:=hcut
 clear hcut
 obtain⟨s,hsv,hs,hzl,HZS,HNI⟩:=SG.out 1
 have HCC:=zh (CT.out 1 (by decide) (by decide) s hsv)
 clear hsv
 have hc:=HCC.out _ _ _ HB.out
 go_upto_if 29 with fail
 go_cut [1]from 25 to 41 (fun v wx=>Hid (Buf (Lt w.heap.size) w wx v (Z 2)))
 case first=>exact zf1
 case rest=>
 clear HB hc hs hzl HZS HCC HNI
 have HB:=hcut
 clear hcut
 obtain⟨s,hsv,hs,hzl,HZS,HNI⟩:=SG.out 2
 have HCC:=zh (CT.out 2 (by decide) (by decide) s hsv)
 clear hsv
 have hc:=HCC.out _ _ _ HB.out
 go_upto_if 46 with fail
 go_cut [1]from 42 to 58 (fun v wx=>Hid (Buf (Lt w.heap.size) w wx v (Z 3)))
 case first=>exact zf1
 case rest=>
 clear HB hc hs hzl HZS HCC HNI
 have HB:=hcut
 clear hcut
 obtain⟨s,hsv,hs,hzl,HZS,HNI⟩:=SG.out 3
 have HCC:=zh (CT.out 3 (by decide) (by decide) s hsv)
 clear hsv
 have hc:=HCC.out _ _ _ HB.out
 go_upto_if 63 with fail
 go_cut [1]from 59 to 75 (fun v wx=>Hid (Buf (Lt w.heap.size) w wx v (Z 4)))
 case first=>exact zf1
 case rest=>
 clear HB hc hs hzl HZS HCC HNI
 have HB:=hcut
 clear hcut
 obtain⟨s,hsv,hs,hzl,HZS,HNI⟩:=SG.out 4
 have HCC:=zh (CT.out 4 (by decide) (by decide) s hsv)
 clear hsv
 have hc:=HCC.out _ _ _ HB.out
 go_upto_if 80 with fail
 go_cut [1]from 76 to 92 (fun v wx=>Hid (Buf (Lt w.heap.size) w wx v (Z 5)))
 case first=>exact zf1
 case rest=>
 clear HB hc hs hzl HZS HCC HNI
 have HB:=hcut
 clear hcut
 obtain⟨s,hsv,hs,hzl,HZS,HNI⟩:=SG.out 5
 have HCC:=zh (CT.out 5 (by decide) (by decide) s hsv)
 clear hsv
 have hc:=HCC.out _ _ _ HB.out
 go_upto_if 97 with fail
 go_cut [1]from 93 to 109 (fun v wx=>Hid (Buf (Lt w.heap.size) w wx v (Z 6)))
 case first=>exact zf1
 case rest=>
 clear HB hc hs hzl HZS HCC HNI
 have HB:=hcut
 clear hcut
 obtain⟨s,hsv,hs,hzl,HZS,HNI⟩:=SG.out 6
 have HCC:=zh (CN.out 6 (by decide) s hsv)
 clear hsv
 have hc:=HCC.out _ _ _ HB.out
 go_upto_if 114 with fail
 go_cut [1]from 110 to 128 (fun v wx=>Hid (Buf (Lt w.heap.size) w wx v (Z 7)))
 case first=>exact zf2
 case rest=>
 clear HB hc hs hzl HZS HCC HNI
 have HB:=hcut
 clear hcut
 obtain⟨s,hsv,hs,hzl,HZS,HNI⟩:=SG.out 7
 have HCC:=zh (CN.out 7 (by decide) s hsv)
 clear hsv
 have hc:=HCC.out _ _ _ HB.out
 go_upto_if 133 with fail
 go_cut [1]from 129 to 147 (fun v wx=>Hid (Buf (Lt w.heap.size) w wx v (Z 8)))
 case first=>exact zf2
 case rest=>
 clear HB hc hs hzl HZS HCC HNI
 have HB:=hcut
 clear hcut
 obtain⟨s,hsv,hs,hzl,HZS,HNI⟩:=SG.out 8
 have HCC:=zh (CT.out 8 (by decide) (by decide) s hsv)
 clear hsv
 have hc:=HCC.out _ _ _ HB.out
 go_upto_if 152 with fail
 go_cut [1]from 148 to 164 (fun v wx=>Hid (Buf (Lt w.heap.size) w wx v (Z 9)))
 case first=>exact zf1
 case rest=>
 clear HB hc hs hzl HZS HCC HNI
 have HB:=hcut
 clear hcut
 obtain⟨s,hsv,hs,hzl,HZS,HNI⟩:=SG.out 9
 have HCC:=zh (CT.out 9 (by decide) (by decide) s hsv)
 clear hsv
 have hc:=HCC.out _ _ _ HB.out
 go_upto_if 169 with fail
 go_cut [1]from 165 to 181 (fun v wx=>Hid (Buf (Lt w.heap.size) w wx v (Z 10)))
 case first=>exact zf1
 case rest=>
 clear HB hc hs hzl HZS HCC HNI
 have HB:=hcut
 clear hcut
 obtain⟨s,hsv,hs,hzl,HZS,HNI⟩:=SG.out 10
 have HCC:=zh (CT.out 10 (by decide) (by decide) s hsv)
 clear hsv
 have hc:=HCC.out _ _ _ HB.out
 go_upto_if 186 with fail
 go_cut [1]from 182 to 198 (fun v wx=>Hid (Buf (Lt w.heap.size) w wx v (Z 11)))
 case first=>exact zf1
 case rest=>
 clear HB hc hs hzl HZS HCC HNI
 have HB:=hcut
 clear hcut
 obtain⟨s,hsv,hs,hzl,HZS,HNI⟩:=SG.out 11
 have HCC:=zh (CT.out 11 (by decide) (by decide) s hsv)
 clear hsv
 have hc:=HCC.out _ _ _ HB.out
 go_upto_if 203 with fail
 go_cut [1]from 199 to 215 (fun v wx=>Hid (Buf (Lt w.heap.size) w wx v (Z 12)))
 case first=>exact zf1
 case rest=>
 clear HB hc hs hzl HZS HCC HNI
 have HB:=hcut
 clear hcut
 obtain⟨s,hsv,hs,hzl,HZS,HNI⟩:=SG.out 12
 have HCC:=zh (CT.out 12 (by decide) (by decide) s hsv)
 clear hsv
 have hc:=HCC.out _ _ _ HB.out
 go_upto_if 220 with fail
 go_cut [1]from 216 to 232 (fun v wx=>Hid (Buf (Lt w.heap.size) w wx v (Z 13)))
 case first=>exact zf1
 case rest=>
 clear HB hc hs hzl HZS HCC HNI
 have HB:=hcut
 clear hcut
 obtain⟨s,hsv,hs,hzl,HZS,HNI⟩:=SG.out 13
 have HCC:=zh (CT.out 13 (by decide) (by decide) s hsv)
 clear hsv
 have hc:=HCC.out _ _ _ HB.out
 go_upto_if 237 with fail
 go_cut [1]from 233 to 249 (fun v wx=>Hid (Buf (Lt w.heap.size) w wx v (Z 14)))
 case first=>exact zf1
 case rest=>
 clear HB hc hs hzl HZS HCC HNI
 have HB:=hcut
 clear hcut
 obtain⟨s,hsv,hs,hzl,HZS,HNI⟩:=SG.out 14
 have HCC:=zh (CT.out 14 (by decide) (by decide) s hsv)
 clear hsv
 have hc:=HCC.out _ _ _ HB.out
 go_upto_if 254 with fail
 go_cut [1]from 250 to 266 (fun v wx=>Hid (Buf (Lt w.heap.size) w wx v (Z 15)))
 case first=>exact zf1
 case rest=>
 clear HB hc hs hzl HZS HCC HNI
 have HB:=hcut
 clear hcut
 obtain⟨s,hsv,hs,hzl,HZS,HNI⟩:=SG.out 15
 have HCC:=zh (CT.out 15 (by decide) (by decide) s hsv)
 clear hsv
 have hc:=HCC.out _ _ _ HB.out
 go_upto_if 271 with fail
 go_cut [1]from 267 to 283 (fun v wx=>Hid (Buf (Lt w.heap.size) w wx v (Z 16)))
 case first=>exact zf1
 case rest=>
 clear HB hc hs hzl HZS HCC HNI
 have HB:=hcut
 clear hcut
 obtain⟨s,hsv,hs,hzl,HZS,HNI⟩:=SG.out 16
 have HCC:=zh (CN.out 16 (by decide) s hsv)
 clear hsv
 have hc:=HCC.out _ _ _ HB.out
 go_upto_if 288 with fail
 go_cut [1]from 284 to 302 (fun v wx=>Hid (Buf (Lt w.heap.size) w wx v (Z 17)))
 case first=>exact zf2
 case rest=>
 clear HB hc hs hzl HZS HCC HNI
 have HB:=hcut
 clear hcut
 obtain⟨s,hsv,hs,hzl,HZS,HNI⟩:=SG.out 17
 have HCC:=zh (CT.out 17 (by decide) (by decide) s hsv)
 clear hsv
 have hc:=HCC.out _ _ _ HB.out
 go_upto_if 307 with fail
 go_cut [1]from 303 to 319 (fun v wx=>Hid (Buf (Lt w.heap.size) w wx v (Z 18)))
 case first=>exact zf1
 case rest=>
 clear HB hc hs hzl HZS HCC HNI
 have HB:=hcut
 clear hcut
 have hc:=(cell_of_heap (HB.out.kept eb HLT.out) 18).trans HC18.out
 have hzl:=HZ.out 18
 go_wp2_with (go_at_call 296;refine(names296 _).mono ?_;rintro e w6 ⟨rfl,hx⟩;replace HB:=zh (HB.out.ext hx);clear hx hc)
 refine wp_loop_rounds 1 ?_
 rw [rounds_succ]
 go_wp2_with (at_builtin;refine ap_lit1 rfl _ _ 26 26 rfl Tryz.underlying26 Tryz.underlying26 rfl rfl HB.out (by first|omega|(simp only [List.length_append,List.length_cons,List.length_nil,sby_length];omega)) ?_;intro v3 w7 hn;replace HB:=zh hn;clear hn)
 go_ret
 exact⟨_,rfl,by rw [<-HZE.out];exact HB.out⟩
def flT (T:Nat->ByteArray):List Int:=(List.range 18).flatMap fun i=>flB (ls18.getD i 0) (T i)
theorem flZ_eq (T:Nat->ByteArray)(X:List Int):flZ T X 18=X++flT T:=rfl
theorem flT_len (T:Nat->ByteArray)(h:∀i,(T i).size<=200):(flT T).length<=4000:=by
 have h1:=flZ_len T [] h (by simp) 18
 rw [flZ_eq,List.nil_append]at h1
 omega
theorem encError (T:Nat->ByteArray)(eb:Nat)(w:World)(hblk:w.heap[eb]?=some (.cells (errCells T) 216 (0,0)))(hT:∀i,(T i).size<=200)(hN:∀i,i=6∨i=7∨i=16->T i=⟨#[]⟩∨digP (T i))(htab:Tab w)(R:List Int)(HR:Hid (R=msgB 69 (flT T++ [0]))):
 Calls Tryz.prog 293 #[.pointer (some ⟨eb,0,none⟩),.slice none 0 0] w (Gives w R):=by
 have HB:=zh (Buf.nil w)
 have HLEN:=zh (flT_len T hT)
 have HK:=zh (And.intro hblk (And.intro hT (And.intro hN htab)))
 clear hblk hT hN htab
 go_enter Tryz.func293,Tryz.ntmps293
 go_wp2_with (first|(go_at_call 139;refine(begin_any _ _ _ _ HB.out (by simp)).mono ?_;rintro e w1 ⟨v1,rfl,hn⟩;replace HB:=zh hn;clear hn)|(go_at_call 295;refine(fields295 T eb 216 _ _ _ _ HK.out.1 HK.out.2.1 HK.out.2.2.1 HK.out.2.2.2 HB.out (by simp)).mono ?_;rintro e w2 ⟨v2,rfl,hn⟩;replace HB:=zh hn;clear hn)|(go_at_call 143;refine(finish1 _ 69 _ (flT T++ [0]) _ HB.out (by rw [flZ_eq];simp only [List.append_assoc,List.cons_append,List.nil_append]) (by have:=HLEN.out;simp only [List.length_append,List.length_cons,List.length_nil];omega)).mono ?_;rintro e w3 ⟨v3,rfl,hn⟩;replace HB:=zh hn;clear hn))
 go_ret2
 exact gives_of HB.out HR.out
theorem encNotice (T:Nat->ByteArray)(eb:Nat)(w:World)(hblk:w.heap[eb]?=some (.cells (errCells T) 218 (0,0)))(hT:∀i,(T i).size<=200)(hN:∀i,i=6∨i=7∨i=16->T i=⟨#[]⟩∨digP (T i))(htab:Tab w)(R:List Int)(HR:Hid (R=msgB 78 (flT T++ [0]))):
 Calls Tryz.prog 315 #[.pointer (some ⟨eb,0,none⟩),.slice none 0 0] w (Gives w R):=by
 have HB:=zh (Buf.nil w)
 have HLEN:=zh (flT_len T hT)
 have HK:=zh (And.intro hblk (And.intro hT (And.intro hN htab)))
 clear hblk hT hN htab
 go_enter Tryz.func315,Tryz.ntmps315
 go_wp2_with (first|(go_at_call 139;refine(begin_any _ _ _ _ HB.out (by simp)).mono ?_;rintro e w1 ⟨v1,rfl,hn⟩;replace HB:=zh hn;clear hn)|(go_at_call 295;refine(fields295 T eb 218 _ _ _ _ HK.out.1 HK.out.2.1 HK.out.2.2.1 HK.out.2.2.2 HB.out (by simp)).mono ?_;rintro e w2 ⟨v2,rfl,hn⟩;replace HB:=zh hn;clear hn)|(go_at_call 143;refine(finish1 _ 78 _ (flT T++ [0]) _ HB.out (by rw [flZ_eq];simp only [List.append_assoc,List.cons_append,List.nil_append]) (by have:=HLEN.out;simp only [List.length_append,List.length_cons,List.length_nil];omega)).mono ?_;rintro e w3 ⟨v3,rfl,hn⟩;replace HB:=zh hn;clear hn))
 go_ret2
 exact gives_of HB.out HR.out
open Go.RowKit Go.Maps Og
def updT (T:Nat->ByteArray) (j:Nat) (v:ByteArray):Nat->ByteArray:=fun i=>if i=j then v else T i
def slotC (c:Int):Nat:=ls18.idxOf c
def cOf (x:ByteArray):Int:=((x.data.toList.headD 0).toNat:Int)
def tOf (ps:List (ByteArray×ByteArray)):Nat->ByteArray:=ps.foldl (fun T p=>updT T (slotC (cOf p.1)) p.2) (fun _=>⟨#[]⟩)
theorem tOf_snoc (ps:List (ByteArray×ByteArray))(p:ByteArray×ByteArray):tOf (ps++ [p])=updT (tOf ps) (slotC (cOf p.1)) p.2:=by
 simp [tOf,List.foldl_append]
theorem slot_at {j:Nat} (h:j < 18):slotC (ls18.getD j 0)=j:=by
 rcases cases18 h with rfl|rfl|rfl|rfl|rfl|rfl|rfl|rfl|rfl|rfl|rfl|rfl|rfl|rfl|rfl|rfl|rfl|rfl <;> decide
theorem set_txt (T:Nat->ByteArray)(v:ByteArray) {j:Nat} (h:j < 18)(hn:¬numJ j):(errCells T).setIfInBounds j (.string v)=errCells (updT T j v):=by
 rcases cases18 h with rfl|rfl|rfl|rfl|rfl|rfl|rfl|rfl|rfl|rfl|rfl|rfl|rfl|rfl|rfl|rfl|rfl|rfl <;> first|rfl|exact absurd (by decide) hn
theorem set_num (T:Nat->ByteArray)(v:ByteArray) {j:Nat} (hn:numJ j):(errCells T).setIfInBounds j (.int .i32 (numS v))=errCells (updT T j v):=by
 rcases hn with rfl|rfl|rfl <;> rfl
theorem pick_txt {L:Nat->Bool} (h:∀e∈tab73,L e.1=true) {j:Nat} (hj:j < 18)(hn:¬numJ j)(z:DataW Unit):pick L (ls18.getD j 0) z tab73=.lit (.int .i64 j):=by
 have h1:=h (4,83,0) (by decide)
 have h2:=h (8,86,1) (by decide)
 have h3:=h (12,67,2) (by decide)
 have h4:=h (16,77,3) (by decide)
 have h5:=h (20,68,4) (by decide)
 have h6:=h (24,72,5) (by decide)
 have h7:=h (28,113,8) (by decide)
 have h8:=h (32,87,9) (by decide)
 have h9:=h (36,115,10) (by decide)
 have h10:=h (40,116,11) (by decide)
 have h11:=h (44,99,12) (by decide)
 have h12:=h (48,100,13) (by decide)
 have h13:=h (52,110,14) (by decide)
 have h14:=h (56,70,15) (by decide)
 have h15:=h (60,82,17) (by decide)
 simp only []at h1 h2 h3 h4 h5 h6 h7 h8 h9 h10 h11 h12 h13 h14 h15
 rcases cases18 hj with rfl|rfl|rfl|rfl|rfl|rfl|rfl|rfl|rfl|rfl|rfl|rfl|rfl|rfl|rfl|rfl|rfl|rfl <;> first|(exact absurd (by decide) hn)|simp [pick,tab73,ls18,h1,h2,h3,h4,h5,h6,h7,h8,h9,h10,h11,h12,h13,h14,h15]
theorem pick_num73 {L:Nat->Bool} {j:Nat} (hn:numJ j)(z:DataW Unit):pick L (ls18.getD j 0) z tab73=z:=by
 rcases hn with rfl|rfl|rfl <;> simp [pick,tab73,ls18]
theorem pick_num {L:Nat->Bool} (h:∀e∈tab74,L e.1=true) {j:Nat} (hn:numJ j)(z:DataW Unit):pick L (ls18.getD j 0) z tab74=.lit (.int .i64 j):=by
 have h1:=h (4,80,6) (by decide)
 have h2:=h (8,112,7) (by decide)
 have h3:=h (12,76,16) (by decide)
 simp only []at h1 h2 h3
 rcases hn with rfl|rfl|rfl <;> simp [pick,tab74,ls18,h1,h2,h3]
theorem MapOwn.kept {eb:Nat} {tab:List (Nat×Int×Nat)} {L:Nat->Bool} {b:Nat} {w w':World} (h:MapOwn eb tab L b w)(hk:w'.heap[b]?=w.heap[b]?):MapOwn eb tab L b w':=by
 obtain⟨n,D,h1,⟨es,clock,hb,h2⟩,h3,h4⟩:=h
 exact⟨n,D,h1,⟨es,clock,hk.trans hb,h2⟩,h3,h4⟩
theorem MapOwn.lt {eb:Nat} {tab:List (Nat×Int×Nat)} {L:Nat->Bool} {b:Nat} {w:World} (h:MapOwn eb tab L b w):b < w.heap.size:=by
 obtain⟨n,D,h1,h2,h3,h4⟩:=h
 exact h2.lt
theorem let_of {x:ByteArray} (h:letP x):∃j,j < 18/\cOf x=ls18.getD j 0/\x.size=1:=by
 obtain⟨j,hj,he⟩:=h
 refine⟨j,hj,?_⟩
 have e2:x.data.toList=[UInt8.ofNat (ls18.getD j 0).toNat]:=by
  rw [<-ByteArray.toList_eq,he,ByteArray.toList_eq]
  rcases cases18 hj with rfl|rfl|rfl|rfl|rfl|rfl|rfl|rfl|rfl|rfl|rfl|rfl|rfl|rfl|rfl|rfl|rfl|rfl <;> rfl
 refine⟨?_,?_⟩
 ·unfold cOf
  rw [e2]
  rcases cases18 hj with rfl|rfl|rfl|rfl|rfl|rfl|rfl|rfl|rfl|rfl|rfl|rfl|rfl|rfl|rfl|rfl|rfl|rfl <;> rfl
 ·have h3:=len_of x
  rw [e2]at h3
  exact h3.symm
theorem info258:(Tryz.prog.info? 258).map (fun i=>(i.zero,i.size,i.bytes))=some (some (.pointer none),1,8):=by kernel_rfl
theorem info259:(Tryz.prog.info? 259).map (fun i=>(i.zero,i.size,i.bytes))=some (some (.pointer none),1,8):=by kernel_rfl
theorem zero258 (w:World):(zeroValue 258).run Tryz.prog w=.ok (.pointer none) w:=by
 obtain⟨i0,hi,hz0,hz1,hz2⟩:=info_parts info258
 simp [zeroValue,typeInfo,hi,hz0]
theorem zero259 (w:World):(zeroValue 259).run Tryz.prog w=.ok (.pointer none) w:=by
 obtain⟨i0,hi,hz0,hz1,hz2⟩:=info_parts info259
 simp [zeroValue,typeInfo,hi,hz0]
theorem take_succ1 {α:Type} (l:List α)(k:Nat)(h:k < l.length):l.take (k+1)=l.take k++ [l[k]]:=List.take_succ_eq_append_getElem h
theorem size216:(Tryz.prog.info? 216).map (·.size)=some 19:=by kernel_rfl
theorem size218:(Tryz.prog.info? 218).map (·.size)=some 19:=by kernel_rfl
theorem err_one (T:Nat->ByteArray):(errCells T).all (·.oneCell')=true:=by simp [errCells,Value.oneCell']
theorem ExtBut.row {b:Nat} {w w1:World} (h:ExtBut b w w1)(cs:Array Value):ExtBut b w (w1.setRow b cs):=
 ⟨h.os,h.tape,h.output,by simpa [World.setRow]using h.size,fun k hk hne=>(setRow_other w1 b k cs hne).trans (h.block k hk hne)⟩
theorem results_cell_tmp {P:Program} {fn:Func} {p q:Tmp} {ty:TypeId} (h:fn.results= #[.cell p ty,.tmp q])(tmps:Array Value)(w:World)(g:Nat)(t:TypeId)(cs:Array Value)(fr:Nat×Nat)(d:TypeDesc)
 (hp:tmps.getD p undef=.pointer (some ⟨g,0,none⟩)) (hg:w.heap[g]?=some (.cells cs t fr))
 (hu:P.underlying ty=some d) (hd:(match d with| .struct _| .array _ _=>true|_=>false)=true) (hi:(P.info? ty).map (·.size)=some cs.size):
 (results fn tmps).run P w=.ok (.tuple #[.agg cs,tmps.getD q undef]) w:=by
 have hp':tmps[p]?.getD undef=.pointer (some ⟨g,0,none⟩):=by simpa using hp
 simp [results,h,hp',asAddr,run_loadVar_row w g t ty cs fr d hg hu hd hi]
def ErrOf (T:Nat->ByteArray) (w:World):Ending->World->Prop:=fun e w'=>e=.returned (.tuple #[.agg (errCells T),.bool true])/\Ext w w'
theorem byte0 {x:ByteArray} (h:0 < x.size):(x[0].toNat:Int)=cOf x:=by
 unfold cOf
 have h1:x.data.toList≠[]:=by
  intro e
  have:=len_of x
  rw [e]at this
  simp at this
  omega
 obtain⟨c,r,hc⟩:=List.exists_cons_of_ne_nil h1
 have e:x[0]=x.data.toList[0]'(by rw [hc];simp):=by simp [ByteArray.getElem_eq_getElem_data]
 rw [e]
 simp [hc]
theorem dig_at {y:ByteArray×ByteArray} (h:fldP y) {j:Nat} (hj:cOf y.1=ls18.getD j 0)(hn:numJ j):digP y.2:=by
 refine h.2 ?_
 obtain⟨i,hi,he⟩:=h.1
 have e2:y.1.data.toList=[UInt8.ofNat (ls18.getD i 0).toNat]:=by
  rw [<-ByteArray.toList_eq,he,ByteArray.toList_eq]
  rcases cases18 hi with rfl|rfl|rfl|rfl|rfl|rfl|rfl|rfl|rfl|rfl|rfl|rfl|rfl|rfl|rfl|rfl|rfl|rfl <;> rfl
 have e3:cOf y.1=ls18.getD i 0:=by
  unfold cOf
  rw [e2]
  rcases cases18 hi with rfl|rfl|rfl|rfl|rfl|rfl|rfl|rfl|rfl|rfl|rfl|rfl|rfl|rfl|rfl|rfl|rfl|rfl <;> rfl
 rw [e3]at hj
 have hij:i=j:=by
  have hj18:j < 18:=by rcases hn with rfl|rfl|rfl <;> decide
  rw [<-slot_at hi,hj,slot_at hj18]
 subst hij
 rw [ByteArray.toList_eq,e2]
 rcases hn with rfl|rfl|rfl
 ·exact .inl rfl
 ·exact .inr (.inl rfl)
 ·exact .inr (.inr rfl)
theorem errorOf68 (ps:List (ByteArray×ByteArray))(A:Option Addr)(c:Nat)(w:World)(hp:RdM 2 isPr w (.slice A ps.length c) ps)(hl:ps.length<=20)(hf:∀y∈ps,fldP y):
 Calls Tryz.prog 68 #[.slice A ps.length c] w (ErrOf (tOf ps) w):=by
 have HP:=zh hp
 have HF:=zh hf
 clear hp hf
 obtain⟨W1,hW1⟩:∃W1,W1=(w.alloc (.cells #[.string ⟨#[]⟩,.string ⟨#[]⟩,.string ⟨#[]⟩,.string ⟨#[]⟩,.string ⟨#[]⟩,.string ⟨#[]⟩,.int .i32 0,.int .i32 0,.string ⟨#[]⟩,.string ⟨#[]⟩,.string ⟨#[]⟩,.string ⟨#[]⟩,.string ⟨#[]⟩,.string ⟨#[]⟩,.string ⟨#[]⟩,.string ⟨#[]⟩,.int .i32 0,.string ⟨#[]⟩,.map none] 216)).alloc (.cells #[.string ⟨#[]⟩,.string ⟨#[]⟩,.string ⟨#[]⟩,.string ⟨#[]⟩,.string ⟨#[]⟩,.string ⟨#[]⟩,.int .i32 0,.int .i32 0,.string ⟨#[]⟩,.string ⟨#[]⟩,.string ⟨#[]⟩,.string ⟨#[]⟩,.string ⟨#[]⟩,.string ⟨#[]⟩,.string ⟨#[]⟩,.string ⟨#[]⟩,.int .i32 0,.string ⟨#[]⟩,.map none] 216):=⟨_,rfl⟩
 have X1:Hid (Ext w W1):=zh (by rw [hW1];exact(ext_alloc w _).alloc _)
 have BR:Hid (W1.heap[w.heap.size]?=some (.cells (errCells fun _=>⟨#[]⟩) 216 (0,0))):=zh (by
  rw [hW1,(ext_alloc (w.alloc (.cells #[.string ⟨#[]⟩,.string ⟨#[]⟩,.string ⟨#[]⟩,.string ⟨#[]⟩,.string ⟨#[]⟩,.string ⟨#[]⟩,.int .i32 0,.int .i32 0,.string ⟨#[]⟩,.string ⟨#[]⟩,.string ⟨#[]⟩,.string ⟨#[]⟩,.string ⟨#[]⟩,.string ⟨#[]⟩,.string ⟨#[]⟩,.string ⟨#[]⟩,.int .i32 0,.string ⟨#[]⟩,.map none] 216)) (.cells #[.string ⟨#[]⟩,.string ⟨#[]⟩,.string ⟨#[]⟩,.string ⟨#[]⟩,.string ⟨#[]⟩,.string ⟨#[]⟩,.int .i32 0,.int .i32 0,.string ⟨#[]⟩,.string ⟨#[]⟩,.string ⟨#[]⟩,.string ⟨#[]⟩,.string ⟨#[]⟩,.string ⟨#[]⟩,.string ⟨#[]⟩,.string ⟨#[]⟩,.int .i32 0,.string ⟨#[]⟩,.map none] 216)).block w.heap.size (by simp)]
  exact heap_alloc_new _ _)
 have BE:Hid (W1.heap[w.heap.size+1]?=some (.cells (errCells fun _=>⟨#[]⟩) 216 (0,0))):=zh (by
  have e:(w.alloc (.cells #[.string ⟨#[]⟩,.string ⟨#[]⟩,.string ⟨#[]⟩,.string ⟨#[]⟩,.string ⟨#[]⟩,.string ⟨#[]⟩,.int .i32 0,.int .i32 0,.string ⟨#[]⟩,.string ⟨#[]⟩,.string ⟨#[]⟩,.string ⟨#[]⟩,.string ⟨#[]⟩,.string ⟨#[]⟩,.string ⟨#[]⟩,.string ⟨#[]⟩,.int .i32 0,.string ⟨#[]⟩,.map none] 216)).heap.size=w.heap.size+1:=by simp
  rw [hW1,<-e]
  exact heap_alloc_new _ _)
 have HS1:Hid (W1.heap.size=w.heap.size+2):=zh (by rw [hW1];simp)
 go_enter Tryz.func68,Tryz.ntmps68
 go_wp2_with (first|(go_at_call 73;rw [<-hW1];clear hW1;refine(map73 _ _).mono ?_;rintro e w2 ⟨m1,rfl,hx2,hlo2,L1,hL1,hm1⟩;have HX2:=zh hx2;have HM1:=zh (And.intro hlo2 (And.intro hL1 hm1));clear hx2 hlo2 hL1 hm1)|(go_at_call 74;refine(map74 _ _).mono ?_;rintro e w3 ⟨m2,rfl,hx3,hlo3,L2,hL2,hm2⟩;have HX3:=zh hx3;have HM2:=zh (And.intro hlo3 (And.intro hL2 hm2));clear hx3 hlo3 hL2 hm2))
 have HM1':Hid (MapOwn (w.heap.size+1) tab73 L1 m1 w3):=zh (HM1.out.2.2.kept (HX3.out.block _ HM1.out.2.2.lt))
 have X3:Hid (Ext W1 w3):=zh (HX2.out.trans HX3.out)
 have BR3:=zh ((X3.out.block _ (zl BR.out)).trans BR.out)
 have BE3:=zh ((X3.out.block _ (zl BE.out)).trans BE.out)
 have HN1:Hid (m1≠w.heap.size+1):=zh (by have:=HM1.out.1;have:=HS1.out;omega)
 have HN2:Hid (m2≠w.heap.size+1):=zh (by have:=HM2.out.1;have:=HX2.out.size;have:=HS1.out;omega)
 go_loopw [16] (fun i wr=>∃k:Nat,k<=ps.length/\i=.int .i64 k/\Hid (wr.heap[w.heap.size+1]?=some (.cells (errCells (tOf (ps.take k))) 216 (0,0)))/\Hid (ExtBut (w.heap.size+1) w3 wr)) (fun i _=>ps.length - (intOf i).toNat)
 case atStart=>exact⟨0,Nat.zero_le _,rfl,by simpa [tOf]using BE3,zh (Ext.refl w3).but⟩
 case round=>
  obtain⟨k,hk1,rfl,HB,HE⟩:=hrel
  by_cases hlt:k < ps.length
  ·obtain⟨b1,o1,f,rfl,hcell,hv⟩:=HP.out.at_ hlt
   have HFL:=zh (HF.out _ (List.getElem_mem hlt))
   have HLET:=zh (let_of HFL.out.1)
   have HTT:=zh (take_succ1 ps k hlt)
   have HBN:Hid (b1≠w.heap.size+1):=zh (by have:=lt_of_cell (hcell 0 (by omega));omega)
   have hd0:=(HE.out.cell (X3.out.cell (X1.out.cell (hcell 0 (by omega)))) HBN.out)
   have hd1:=(HE.out.cell (X3.out.cell (X1.out.cell (hcell 1 (by omega)))) HBN.out)
   obtain⟨⟨x1,x2⟩,hx⟩:∃x,x=ps[k]:=⟨_,rfl⟩
   rw [<-hx]at hv HFL HLET HTT
   have hf0:f 0=.string x1:=hv.1
   have hf1:f 1=.string x2:=hv.2
   rw [hf0,Nat.add_zero]at hd0
   rw [hf1]at hd1
   clear hx hcell hf0 hf1 hv
   obtain⟨j,hj,hcj,hsz⟩:=HLET.out
   replace hcj:cOf x1=ls18.getD j 0:=hcj
   replace hsz:x1.size=1:=hsz
   have hpos:0 < x1.size:=by omega
   have hcb:(x1[0].toNat:Int)=ls18.getD j 0:=(byte0 hpos).trans hcj
   have HCJ:=zh hcj
   have hc256:0<=(x1[0].toNat:Int)/\(x1[0].toNat:Int) < 256:=⟨by omega,by have:=x1[0].toNat_lt;omega⟩
   have HXB:Hid (ExtBut (w.heap.size+1) w3 (wr.alloc (.cells #[.string x1,.string x2] 60))):=zh (HE.out.trans (ext_alloc wr _).but)
   have HB4:Hid ((wr.alloc (.cells #[.string x1,.string x2] 60)).heap[w.heap.size+1]?=some (.cells (errCells (tOf (ps.take k))) 216 (0,0))):=zh (((ext_alloc wr _).block _ (zl HB.out)).trans HB.out)
   have HM1r:Hid (MapOwn (w.heap.size+1) tab73 L1 m1 (wr.alloc (.cells #[.string x1,.string x2] 60))):=zh (HM1'.out.kept (HXB.out.block _ HM1'.out.lt HN1.out))
   have HM2r:Hid (MapOwn (w.heap.size+1) tab74 L2 m2 (wr.alloc (.cells #[.string x1,.string x2] 60))):=zh (HM2.out.2.2.kept (HXB.out.block _ HM2.out.2.2.lt HN2.out))
   have hlk1:=HM1r.out.look Tryz.underlying254 (zero258 _) hc256
   have hlk2:=HM2r.out.look Tryz.underlying256 (zero259 _) hc256
   have hsne:((x1.size:Int) != 1)=false:=by rw [hsz];rfl
   by_cases hn:numJ j
   ·have hk1:=hlk1.2 (fun z=>by rw [hcb];exact pick_num73 hn z)
    have hk2:=hlk2.1 j (fun z=>by rw [hcb];exact pick_num HM2.out.2.1 hn z)
    have hdig:Hid (digP x2):=zh (dig_at HFL.out HCJ.out hn)
    have hnum:=num_facts hdig.out
    have hw32:IntKind.i32.wrap (numS x2)=numS x2:=by rw [IntKind.wrap_i32];omega
    have hy:=free_slot HB4.out j
    have HNJ:=zh hn
    have hz:=zc HB4.out j _ (cell_num _ hn)
    clear hlk1 hlk2 hcb hn hnum hcj
    go_wp2_with (go_at_call 75;refine(parse75 x2 hdig.out _).mono ?_;rintro e w5 ⟨rfl,hx5⟩;have HX5:=zh hx5;have hk3:=((HM2r.out.kept (HX5.out.block _ HM2r.out.lt)).look Tryz.underlying256 (zero259 _) hc256).1 j (fun z=>by rw [(byte0 hpos).trans HCJ.out];exact pick_num HM2.out.2.1 HNJ.out z);have HB5:=zh ((HX5.out.block _ (zl HB4.out)).trans HB4.out);clear hy hz;have hy:=free_slot HB5.out j;have hz:=zc HB5.out j _ (cell_num _ HNJ.out);clear hx5)
    go_roundw
    case rel=>
     refine⟨k+1,by omega,by go_num,zh ?_,zh ?_⟩
     ·rw [HTT.out,tOf_snoc,HCJ.out,slot_at hj,<-set_num _ _ HNJ.out]
      exact slot_setCell HB5.out
     ·exact(HXB.out.trans HX5.out.but).set _ _
    case measure=>simp only [intOf];omega
   ·have hk1:=hlk1.1 j (fun z=>by rw [hcb];exact pick_txt HM1.out.2.1 hj hn z)
    have hy:=free_slot HB4.out j
    have hz:=zc HB4.out j _ (cell_txt _ hj hn)
    have HNJ:=zh hn
    clear hlk1 hlk2 hcb hn hcj
    go_wp2
    go_roundw
    case rel=>
     refine⟨k+1,by omega,by go_num,zh ?_,zh ?_⟩
     ·rw [HTT.out,tOf_snoc,HCJ.out,slot_at hj,<-set_txt _ _ hj HNJ.out]
      exact slot_setCell HB4.out
     ·exact HXB.out.set _ _
    case measure=>simp only [intOf];omega
  ·obtain rfl:k=ps.length:=by omega
   rw [List.take_length]at HB
   have E0:Ext w wr:=HE.out.ext (X1.out.trans X3.out) (by omega)
   have BR4:=zh ((HE.out.block _ (zl BR3.out) (by omega)).trans BR3.out)
   have HE0:=zh E0
   clear E0
   go_wp2_with (first|(refine wpList_load_row rfl 216 (.tmp 4) rfl (w.heap.size+1) rfl 216 (errCells (tOf ps)) (0,0) _ HB.out Tryz.underlying216 rfl size216 ?_)|(refine wpList_store_row rfl 216 (.tmp 2) (.tmp 70) rfl w.heap.size (errCells (tOf ps)) rfl rfl 216 _ BR4.out size216 rfl (err_one _) ?_))
   (try simp only [Exit.inBlock,Exit.then])
   refine bodyPost_ret (results_cell_tmp (P:=Tryz.prog) rfl _ _ w.heap.size 216 (errCells (tOf ps)) (0,0) _ rfl (setRow_heap _ _ _ _ _ _ BR4.out) Tryz.underlying216 rfl size216) rfl ?_
   exact⟨rfl,((Ext.refl wr).but.row _).ext HE0.out (Nat.le_refl _)⟩
end Go.Proofs.YtdenjanihikolaaGreatDoor
