/- FnRoad's walk. -/
import Derived.Test.YtdenjanihikolaaGreatDoorRqA2
import Derived.Test.YtdenjanihikolaaGreatDoorRqA0
import Derived.Test.YtdenjanihikolaaGreatDoorRqA1
import Derived.Test.YtdenjanihikolaaGreatDoorRqDkq
import Derived.Test.YtdenjanihikolaaGreatDoorRqMsf
import Derived.Test.YtdenjanihikolaaGreatDoorRqPpc
import Derived.Test.YtdenjanihikolaaGreatDoorRqEncc
namespace Go.Proofs.YtdenjanihikolaaGreatDoor
set_option linter.unusedVariables false
set_option linter.unusedSimpArgs false
set_option maxRecDepth 100000
set_option maxHeartbeats 4000000
open Go.RowKit Og
def spLn (n:Nat):Sp Ext:=⟨fun v _=>∃A c,v=.slice A n c,fun _ _ _ _ k=>k⟩
structure SpYP (kd:Int) (a b:ByteArray) (n:Int) (P5 P6 P7 P9 P10:Option Addr) (p5 p6 p7 p9 p10:Nat) (lf lr ty d:List Int) (vls:List (Bool×List Int)) (ws:List ByteArray) (ps:List (ByteArray×ByteArray)) (fs:List Sf) (v:Value) (w:World):Prop where
 ex:∃(Q7 Q10 Q11:Option Addr) (q7 q10 q11:Nat),v=.agg #[.int .i64 kd,.string a,.string b,.int .u32 n,.slice P5 lf.length p5,.slice P6 lr.length p6,.slice P7 ty.length p7,.slice Q7 vls.length q7,.slice P9 d.length p9,.slice P10 ws.length p10,.slice Q10 ps.length q10,.slice Q11 fs.length q11]/\SpIn w P5 P6 P7 Q7 P9 P10 Q10 Q11 p5 p6 p7 q7 p9 p10 q10 q11 lf lr ty d vls ws ps fs
theorem SpYP.ext {kd:Int} {a b:ByteArray} {n:Int} {P5 P6 P7 P9 P10:Option Addr} {p5 p6 p7 p9 p10:Nat} {lf lr ty d:List Int} {vls:List (Bool×List Int)} {ws:List ByteArray} {ps:List (ByteArray×ByteArray)} {fs:List Sf} {v:Value} {w w':World} (h:SpYP kd a b n P5 P6 P7 P9 P10 p5 p6 p7 p9 p10 lf lr ty d vls ws ps fs v w)(hx:Ext w w'):SpYP kd a b n P5 P6 P7 P9 P10 p5 p6 p7 p9 p10 lf lr ty d vls ws ps fs v w':=by
 obtain⟨⟨Q7,Q10,Q11,q7,q10,q11,e,k⟩⟩:=h
 exact⟨⟨Q7,Q10,Q11,q7,q10,q11,e,k.ext hx⟩⟩
def spY (kd:Int) (a b:ByteArray) (n:Int) (P5 P6 P7 P9 P10:Option Addr) (p5 p6 p7 p9 p10:Nat) (lf lr ty d:List Int) (vls:List (Bool×List Int)) (ws:List ByteArray) (ps:List (ByteArray×ByteArray)) (fs:List Sf):Sp Ext:=⟨SpYP kd a b n P5 P6 P7 P9 P10 p5 p6 p7 p9 p10 lf lr ty d vls ws ps fs,fun _ _ _ h k=>k.ext h⟩
theorem spY_bytes {kd:Int} {a b:ByteArray} {n:Int} {P5 P6 P7 P9 P10:Option Addr} {p5 p6 p7 p9 p10:Nat} {lf lr ty d:List Int} {vls:List (Bool×List Int)} {ws:List ByteArray} {ps:List (ByteArray×ByteArray)} {fs:List Sf} {R:List Int} {v:Value} {w:World}
 (hb:∀(B7 B10 B11:Option Addr) (d7 d10 d11:Nat) (wx:World),SpIn wx P5 P6 P7 B7 P9 P10 B10 B11 p5 p6 p7 d7 p9 p10 d10 d11 lf lr ty d vls ws ps fs->Calls Tryz.prog 15 #[.agg #[.int .i64 kd,.string a,.string b,.int .u32 n,.slice P5 lf.length p5,.slice P6 lr.length p6,.slice P7 ty.length p7,.slice B7 vls.length d7,.slice P9 d.length p9,.slice P10 ws.length p10,.slice B10 ps.length d10,.slice B11 fs.length d11]] wx (Gave wx R))
 (h:(spY kd a b n P5 P6 P7 P9 P10 p5 p6 p7 p9 p10 lf lr ty d vls ws ps fs).p v w):Calls Tryz.prog 15 #[v] w (Gave w R):=by
 obtain⟨⟨Q7,Q10,Q11,q7,q10,q11,e,k⟩⟩:=h
 rw [e];exact hb Q7 Q10 Q11 q7 q10 q11 w k
structure RoaJ (kd:Int) (RB R:List Int) (np:Nat) (W0:World) (L:Nat->Bool) (vs:Nat->Value) (w:World):Prop where
 X:Ext W0 w
 B:L 4=true->L 5=false->RdB w (vs 4) RB
 P:L 9=true->L 10=false->vs 9=.pointer (some ⟨ptrC (vs 9),0,none⟩)/\W0.heap.size<=ptrC (vs 9)/\w.heap[ptrC (vs 9)]?=some (.cells #[.int .i64 0,.string ⟨#[]⟩,.string ⟨#[]⟩,.int .u32 0,.int .u32 0,.slice none 0 0,.slice none 0 0,.slice none 0 0,.slice none 0 0,.slice none 0 0,.slice none 0 0,.slice none 0 0,.slice none 0 0] 31 (0,0))
 V:L 5=true->vs 5=.tuple #[tup0 (vs 5),.bool true]
 D:L 5=true->∀w3:World,(∀k,k < w.heap.size->(L 9=true->k≠ptrC (vs 9))->w3.heap[k]?=w.heap[k]?)->DecR kd R np (tup0 (vs 5)) w3
 S:L 10=true->vs 9=.pointer (some ⟨ptrC (vs 9),0,none⟩)/\W0.heap.size<=ptrC (vs 9)/\w.heap[ptrC (vs 9)]?=some (.cells (aggOf (tup0 (vs 5))) 31 (0,0))
 M5:L 6=true->L 5=true/\vs 6=vs 5
 M6:L 7=true->L 5=true/\vs 7=tup0 (vs 5)
section
variable {kd : Int} {RB R : List Int} {np : Nat} {W0 w w2 : World} {L : Nat → Bool} {vs : Nat → Value}
theorem RoaJ.start (W0:World)(vs:Nat->Value):RoaJ kd RB R np W0 (fun _=>false) vs W0.drew:=⟨(Ext.refl W0).drew,nofun,nofun,nofun,nofun,nofun,nofun,nofun⟩
theorem RoaJ.keep (h:RoaJ kd RB R np W0 L vs w)(i:Nat)(u:Value)(h3:4≠i)(h4:5≠i)(h5:6≠i)(h6:7≠i)(h8:9≠i)(h9:10≠i):RoaJ kd RB R np W0 (updB L i) (upd vs i u) w:=by
 obtain⟨X,B,P,V,D,S,M5,M6⟩:=h
 constructor <;> (try simp only [updB,upd,h3,h4,h5,h6,h8,h9,if_false,beq_eq_false_iff_ne.2,Bool.or_false,ne_eq,not_false_eq_true]) <;> assumption
theorem RoaJ.low5 (h:RoaJ kd RB R np W0 L vs w)(e4:L 5=false):L 6=false:=by
 cases e:L 6 with
 | false=>rfl
 | true=>have:=(h.M5 e).1;rw [e4]at this;cases this
theorem RoaJ.low6 (h:RoaJ kd RB R np W0 L vs w)(e4:L 5=false):L 7=false:=by
 cases e:L 7 with
 | false=>rfl
 | true=>have:=(h.M6 e).1;rw [e4]at this;cases this
theorem RoaJ.step3 (h:RoaJ kd RB R np W0 L vs w)(e4:L 5=false)(e9:L 10=false)(hx:Ext w w2)(u:Value)(hr:RdB w2 u RB):RoaJ kd RB R np W0 (updB L 4) (upd vs 4 u) w2:=by
 have e5:=h.low5 e4
 have e6:=h.low6 e4
 have hX:=h.X.trans hx
 have hP:=h.P
 constructor <;> (try simp only [updB,upd,e4,e5,e6,e9,Nat.reduceEqDiff,if_false,if_true,Nat.reduceBEq,Bool.or_false,Bool.or_true,Bool.false_eq_true,Bool.true_eq_false,false_implies,true_implies,beq_self_eq_true])
 ·exact hX
 ·exact hr
 ·intro h8
  obtain⟨h1,h2,h3⟩:=hP h8 e9
  exact⟨h1,h2,(hx.block _ (zl h3)).trans h3⟩
theorem RoaJ.step4 (h:RoaJ kd RB R np W0 L vs w)(e4:L 5=false)(e9:L 10=false)(hx:Ext w w2)(v:Value)(hk:Keeps w w2 (DecR kd R np v)):RoaJ kd RB R np W0 (updB L 5) (upd vs 5 (.tuple #[v,.bool true])) w2:=by
 have e5:=h.low5 e4
 have e6:=h.low6 e4
 have hX:=h.X.trans hx
 have hP:=h.P
 constructor <;> (try simp only [updB,upd,e5,e6,e9,Nat.reduceEqDiff,if_false,if_true,Nat.reduceBEq,Bool.or_false,Bool.or_true,Bool.false_eq_true,Bool.true_eq_false,false_implies,true_implies,beq_self_eq_true,implies_true])
 ·exact hX
 ·intro h8
  obtain⟨h1,h2,h3⟩:=hP h8 e9
  exact⟨h1,h2,(hx.block _ (zl h3)).trans h3⟩
 ·rfl
 ·intro w3 h3
  refine hk w3 fun k h1 h2=>h3 k h2 fun h8=>?_
  have:=zl (hP h8 e9).2.2
  omega
theorem RoaJ.step5 (h:RoaJ kd RB R np W0 L vs w)(e4:L 5=true)(e6:L 7=false):RoaJ kd RB R np W0 (updB L 6) (upd vs 6 (vs 5)) w:=by
 obtain⟨X,B,P,V,D,S,M5,M6⟩:=h
 constructor <;> (try simp only [updB,upd,e4,e6,Nat.reduceEqDiff,if_false,if_true,Nat.reduceBEq,Bool.or_false,Bool.or_true,Bool.false_eq_true,false_implies,true_implies,beq_self_eq_true,implies_true,true_and,and_self]at *) <;> first|assumption|exact⟨rfl,rfl⟩|trivial
theorem RoaJ.step6 (h:RoaJ kd RB R np W0 L vs w)(e4:L 5=true):RoaJ kd RB R np W0 (updB L 7) (upd vs 7 (tup0 (vs 5))) w:=by
 obtain⟨X,B,P,V,D,S,M5,M6⟩:=h
 constructor <;> (try simp only [updB,upd,e4,Nat.reduceEqDiff,if_false,if_true,Nat.reduceBEq,Bool.or_false,Bool.or_true,Bool.false_eq_true,false_implies,true_implies,beq_self_eq_true,implies_true,true_and,and_self]at *) <;> first|assumption|exact⟨rfl,rfl⟩|trivial
theorem RoaJ.step8 (h:RoaJ kd RB R np W0 L vs w)(e8:L 9=false)(e9:L 10=false):RoaJ kd RB R np W0 (updB L 9) (upd vs 9 (.pointer (some ⟨w.heap.size,0,none⟩))) (w.alloc (.cells #[.int .i64 0,.string ⟨#[]⟩,.string ⟨#[]⟩,.int .u32 0,.int .u32 0,.slice none 0 0,.slice none 0 0,.slice none 0 0,.slice none 0 0,.slice none 0 0,.slice none 0 0,.slice none 0 0,.slice none 0 0] 31)):=by
 have hx:=ext_alloc w (.cells #[.int .i64 0,.string ⟨#[]⟩,.string ⟨#[]⟩,.int .u32 0,.int .u32 0,.slice none 0 0,.slice none 0 0,.slice none 0 0,.slice none 0 0,.slice none 0 0,.slice none 0 0,.slice none 0 0,.slice none 0 0] 31)
 have hX:=h.X.trans hx
 have hB:=h.B
 have hV:=h.V
 have hD:=h.D
 have h5:=h.M5
 have h6:=h.M6
 constructor <;> (try simp only [updB,upd,e8,e9,Nat.reduceEqDiff,if_false,if_true,Nat.reduceBEq,Bool.or_false,Bool.or_true,Bool.false_eq_true,Bool.true_eq_false,false_implies,true_implies,beq_self_eq_true,implies_true])
 ·exact hX
 ·exact fun a b=>(hB a b).ext hx
 ·exact⟨rfl,h.X.size,heap_alloc_new _ _⟩
 ·exact hV
 ·intro h4 w3 h3
  refine hD h4 w3 fun k hk _=>(h3 k (Nat.lt_of_lt_of_le hk hx.size) (by show k≠w.heap.size;omega)).trans (hx.block k hk)
 ·exact h5
 ·exact h6
theorem RoaJ.step9 (h:RoaJ kd RB R np W0 L vs w)(e4:L 5=true)(e8:L 9=true)(e9:L 10=false)(u:Value):RoaJ kd RB R np W0 (updB L 10) (upd vs 10 u) (w.setRow (ptrC (vs 9)) (aggOf (tup0 (vs 5)))):=by
 obtain⟨p1,p2,p3⟩:=h.P e8 e9
 have hX:=((Ext.refl w).but.row (aggOf (tup0 (vs 5)))).ext h.X p2
 have hV:=h.V e4
 have hD:=h.D e4
 have h5:=h.M5
 have h6:=h.M6
 constructor <;> (try simp only [updB,upd,e4,e8,e9,Nat.reduceEqDiff,if_false,if_true,Nat.reduceBEq,Bool.or_false,Bool.or_true,Bool.false_eq_true,Bool.true_eq_false,false_implies,true_implies,beq_self_eq_true,implies_true])
 ·exact hX
 ·exact hV
 ·intro w3 h3
  refine hD w3 fun k hk hne=>(h3 k (by simpa [World.setRow]using hk) (hne e8)).trans (setRow_other _ _ _ _ (hne e8))
 ·exact⟨p1,p2,setRow_heap _ _ _ _ _ _ p3⟩
 ·exact fun a=>⟨trivial,(h5 a).2⟩
 ·exact fun a=>⟨trivial,(h6 a).2⟩
end
set_option maxHeartbeats 8000000 in
theorem road8 (a b:ByteArray)(kd n mm:Int)(A5 A6 A7 A8 A9 A10 A11 A12:Option Addr)(c5 c6 c7 c8 c9 c10 c11 c12:Nat)(lf lr ty d:List Int)(vls:List (Bool×List Int))(ws:List ByteArray)(ps:List (ByteArray×ByteArray))(fs:List Sf)(w:World)
 (hm:MsgIn w (.agg #[.int .i64 kd,.string a,.string b,.int .u32 n,.int .u32 mm,.slice A5 lf.length c5,.slice A6 lr.length c6,.slice A7 ty.length c7,.slice A8 vls.length c8,.slice A9 d.length c9,.slice A10 ws.length c10,.slice A11 ps.length c11,.slice A12 fs.length c12]) a b kd n mm A5 A6 A7 A8 A9 A10 A11 A12 c5 c6 c7 c8 c9 c10 c11 c12 lf lr ty d vls ws ps fs) (htab:Tab w):
 Calls Tryz.prog 8 #[.agg #[.int .i64 kd,.string a,.string b,.int .u32 n,.int .u32 mm,.slice A5 lf.length c5,.slice A6 lr.length c6,.slice A7 ty.length c7,.slice A8 vls.length c8,.slice A9 d.length c9,.slice A10 ws.length c10,.slice A11 ps.length c11,.slice A12 fs.length c12]] w (fun e w'=>e=.returned (.bool true)/\Ext w w'):=by
 have HM:=zh hm
 have HTAB:=zh htab
 have H5:=zh hm.rf
 have H6:=zh hm.rr
 have HT:=zh hm.rt
 have HD:=zh hm.rd
 have H8:=zh hm.rv
 have H10:=zh hm.rw
 have H11:=zh hm.rp
 have H12:=zh hm.rl
 clear hm htab
 have hm0:True:=trivial
 have hm1:True:=trivial
 have hm2:True:=trivial
 have hm3:True:=trivial
 have hm4:True:=trivial
 have hm5:True:=trivial
 have hm6:True:=trivial
 have hm7:True:=trivial
 have hm8:True:=trivial
 have hm9:True:=trivial
 have hm10:True:=trivial
 have hm11:True:=trivial
 have hm12:True:=trivial
 go_enter Tryz.func8,Tryz.ntmps8
 go_wp2_with (first|(go_at_call 9;refine(fit1 a b _ _ _ A5 A6 A7 A8 A9 A10 A11 A12 c5 c6 c7 c8 c9 c10 c11 c12 lf lr ty d vls ws ps fs _ (H8.out.ext (ext_alloc w _) (isVal.ext (ext_alloc w _))) (H10.out.ext (ext_alloc w _) (fun _ _ h=>h)) (H11.out.ext (ext_alloc w _) (fun _ _ h=>h)) (H12.out.ext (ext_alloc w _) (fun _ _ h=>h))).mono ?_;rintro e w1 ⟨bo,rfl,hbo,hbx⟩;have HE:=zh hbx;have HS:=zh hbo;clear hbo hbx;clear hm0 hm1 hm2 hm3 hm4 hm5 hm6 hm7 hm8 hm9 hm10 hm11 hm12;obtain⟨hm0,hm1,hm2,hm3,hm4,hm5,hm6,hm7,hm8,hm9,hm10,hm11,hm12⟩:=box13 HE.out;cases bo)|(go_at_call 10;refine msg10 a b kd n mm A5 A6 A7 A9 A10 A8 A11 A12 lf.length lr.length ty.length d.length ws.length c5 c6 c7 c9 c10 c8 c11 c12 vls ps fs _ (H8.out.ext ((ext_alloc w _).trans HE.out) (isVal.ext ((ext_alloc w _).trans HE.out))) (H11.out.ext ((ext_alloc w _).trans HE.out) (fun _ _ h=>h)) (H12.out.ext ((ext_alloc w _).trans HE.out) (fun _ _ h=>h)) (HS.out trivial).2.2.2.2.2.2.1.1 (HS.out trivial).2.2.2.2.2.2.2.2.1.1 (HS.out trivial).2.2.2.2.2.2.2.2.2.1 _ ?_;intro w2 B7 d7 B10 d10 B11 d11 hx2 hr7 hr10 hr11;have HE2:=zh (HE.out.trans hx2);have HR7:=zh hr7;have HR10:=zh hr10;have HR11:=zh hr11;clear hx2 hr7 hr10 hr11;clear hm0 hm1 hm2 hm3 hm4 hm5 hm6 hm7 hm8 hm9 hm10 hm11 hm12;obtain⟨hm0,hm1,hm2,hm3,hm4,hm5,hm6,hm7,hm8,hm9,hm10,hm11,hm12⟩:=box13 HE2.out;have HXC:Hid (Ext (w2.alloc (.cells #[.int .i64 kd,.string a,.string b,.int .u32 n,.slice A5 lf.length c5,.slice A6 lr.length c6,.slice A7 ty.length c7,.slice B7 vls.length d7,.slice A9 d.length c9,.slice A10 ws.length c10,.slice B10 ps.length d10,.slice B11 fs.length d11] 37)) (w2.alloc (.cells #[.int .i64 kd,.string a,.string b,.int .u32 n,.slice A5 lf.length c5,.slice A6 lr.length c6,.slice A7 ty.length c7,.slice B7 vls.length d7,.slice A9 d.length c9,.slice A10 ws.length c10,.slice B10 ps.length d10,.slice B11 fs.length d11] 37))):=zh zr;have HW:Hid (Ext w (w2.alloc (.cells #[.int .i64 kd,.string a,.string b,.int .u32 n,.slice A5 lf.length c5,.slice A6 lr.length c6,.slice A7 ty.length c7,.slice B7 vls.length d7,.slice A9 d.length c9,.slice A10 ws.length c10,.slice B10 ps.length d10,.slice B11 fs.length d11] 37))):=zh (((ext_alloc w _).trans HE2.out).alloc _);have HSP:Hid (SpIn (w2.alloc (.cells #[.int .i64 kd,.string a,.string b,.int .u32 n,.slice A5 lf.length c5,.slice A6 lr.length c6,.slice A7 ty.length c7,.slice B7 vls.length d7,.slice A9 d.length c9,.slice A10 ws.length c10,.slice B10 ps.length d10,.slice B11 fs.length d11] 37)) A5 A6 A7 B7 A9 A10 B10 B11 c5 c6 c7 d7 c9 c10 d10 d11 lf lr ty d vls ws ps fs):=zh ⟨H5.out.ext HW.out,H6.out.ext HW.out,HT.out.ext HW.out,HR7.out.ext (ext_alloc _ _) (isVal.ext (ext_alloc _ _)),HD.out.ext HW.out,H10.out.ext HW.out (fun _ _ h=>h),HR10.out.ext (ext_alloc _ _) (fun _ _ h=>h),HR11.out.ext (ext_alloc _ _) (fun _ _ h=>h)⟩)|(go_at_call 11;refine(proper11 a b kd n A5 A6 A7 B7 A9 A10 B10 B11 c5 c6 c7 d7 c9 c10 d10 d11 lf lr ty d vls ws ps fs _ (HSP.out.ext HXC.out).hf (HSP.out.ext HXC.out).hr (HSP.out.ext HXC.out).hv (HSP.out.ext HXC.out).hw (HSP.out.ext HXC.out).hp (HSP.out.ext HXC.out).hl (HS.out trivial).1 (HS.out trivial).2.1 (HS.out trivial).2.2.1 (HS.out trivial).2.2.2.1 (HS.out trivial).2.2.2.2.1 (HS.out trivial).2.2.2.2.2.2.1.1 (HS.out trivial).2.2.2.2.2.1 (HS.out trivial).2.2.2.2.2.2.2.1.1 (HS.out trivial).2.2.2.2.2.2.2.1.2 (HS.out trivial).2.2.2.2.2.2.2.2.1.1 (HS.out trivial).2.2.2.2.2.2.2.2.1.2 (HS.out trivial).2.2.2.2.2.2.2.2.2.1 (HS.out trivial).2.2.2.2.2.2.2.2.2.2).mono ?_;rintro e w3 ⟨bp,rfl,hbp,hx3⟩;have HP:=zh hbp;clear hbp;have HX0:=HXC;clear HXC;have HXC:=zh (HX0.out.trans hx3);clear HX0 hx3;have BX:=zh ((HXC.out.block _ (zl (heap_alloc_new w2 (.cells #[.int .i64 kd,.string a,.string b,.int .u32 n,.slice A5 lf.length c5,.slice A6 lr.length c6,.slice A7 ty.length c7,.slice B7 vls.length d7,.slice A9 d.length c9,.slice A10 ws.length c10,.slice B10 ps.length d10,.slice B11 fs.length d11] 37)))).trans (heap_alloc_new w2 (.cells #[.int .i64 kd,.string a,.string b,.int .u32 n,.slice A5 lf.length c5,.slice A6 lr.length c6,.slice A7 ty.length c7,.slice B7 vls.length d7,.slice A9 d.length c9,.slice A10 ws.length c10,.slice B10 ps.length d10,.slice B11 fs.length d11] 37)));(try clear hq0 hq1 hq2 hq3 hq4 hq5 hq6 hq7 hq8 hq9 hq10 hq11);obtain⟨hq0,hq1,hq2,hq3,hq4,hq5,hq6,hq7,hq8,hq9,hq10,hq11⟩:=slots12 BX.out;have HE3:=zh ((HE2.out.alloc (.cells #[.int .i64 kd,.string a,.string b,.int .u32 n,.slice A5 lf.length c5,.slice A6 lr.length c6,.slice A7 ty.length c7,.slice B7 vls.length d7,.slice A9 d.length c9,.slice A10 ws.length c10,.slice B10 ps.length d10,.slice B11 fs.length d11] 37)).trans HXC.out);clear hm0 hm1 hm2 hm3 hm4 hm5 hm6 hm7 hm8 hm9 hm10 hm11 hm12;obtain⟨hm0,hm1,hm2,hm3,hm4,hm5,hm6,hm7,hm8,hm9,hm10,hm11,hm12⟩:=box13 HE3.out;cases bp)|(go_at_call 13;refine(works13 _).mono ?_;rintro e w5 ⟨rfl,hx5⟩;have HX5:=zh hx5;clear hx5)|(go_at_call 14;obtain⟨Bod,RB,R,hD,H,BZ,hlen,hBX,h14⟩:=road_in (HM.out.ext (HW.out.trans HXC.out)) (HTAB.out.ext (HW.out.trans HXC.out)) (HP.out trivial) (HSP.out.ext HXC.out);refine h14.mono ?_;rintro e w4 ⟨AR,cR,rfl,hx4,hr4⟩;have HX4:=zh hx4;have HDD:=zh hD;have HBX:=zh hBX;obtain⟨N1,hN1⟩:∃N1,N1=(H++BZ).length:=⟨_,rfl⟩;rw [<-hN1]at hr4⊢;have HR4:=zh hr4;have HN1:=zh hN1;clear hx4 hD hBX hN1 hr4 h14;have BX4:=zh ((HX4.out.block _ (zl BX.out)).trans BX.out)))
 all_goals first
  | first|(go_ret;exact⟨rfl,HW.out.trans (HXC.out.trans HX5.out)⟩)|(go_ret;exact⟨rfl,HW.out.trans HXC.out⟩)|(go_ret;exact⟨rfl,(ext_alloc w _).trans HE.out⟩)
  | skip
 clear hm0 hm1 hm2 hm3 hm4 hm5 hm6 hm7 hm8 hm9 hm10 hm11 hm12
 clear hq0 hq1 hq2 hq3 hq4 hq5 hq6 hq7 hq8 hq9 hq10 hq11
 have HRL:Hid (R.length<=maxLen):=zh (by have h:=HR4.out.parts;rw [List.length_append,HDD.out.len _ HBX.out]at h;omega)
 refine wp_region_og (J:=fun x=>Ext w4 x) (R:=Ext) [Sp.eq _ (.agg #[.int .i64 kd,.string a,.string b,.int .u32 n,.slice A5 lf.length c5,.slice A6 lr.length c6,.slice A7 ty.length c7,.slice B7 vls.length d7,.slice A9 d.length c9,.slice A10 ws.length c10,.slice B10 ps.length d10,.slice B11 fs.length d11]),spLn R.length,Sp.eq _ (.int .i64 (R.length:Int)),Sp.eq _ (.agg #[.int .i64 kd,.string a,.string b,.int .u32 n,.slice A5 lf.length c5,.slice A6 lr.length c6,.slice A7 ty.length c7,.slice B7 vls.length d7,.slice A9 d.length c9,.slice A10 ws.length c10,.slice B10 ps.length d10,.slice B11 fs.length d11]),spLn RB.length,Sp.eq _ (.int .i64 (RB.length:Int)),Sp.eq _ (.int .i64 (H.length:Int)),Sp.eq _ (.int .i64 (H.length:Int))] (by kernel_rfl) (by kernel_rfl) (by kernel_rfl) (by kernel_rfl) ?_ ?_ ?_
 ·exact(Ext.refl w4).drew
 ·refine⟨?_,?_,?_,?_,?_,?_,?_,?_,trivial⟩
  ·intro vs w1 hJ hp
   have HJ:=zh hJ
   have hq0':=hJ.cell (zc BX4.out 0 (.int .i64 kd) rfl)
   have hq1':=hJ.cell (zc BX4.out 1 (.string a) rfl)
   have hq2':=hJ.cell (zc BX4.out 2 (.string b) rfl)
   have hq3':=hJ.cell (zc BX4.out 3 (.int .u32 n) rfl)
   have hq4':=hJ.cell (zc BX4.out 4 (.slice A5 lf.length c5) rfl)
   have hq5':=hJ.cell (zc BX4.out 5 (.slice A6 lr.length c6) rfl)
   have hq6':=hJ.cell (zc BX4.out 6 (.slice A7 ty.length c7) rfl)
   have hq7':=hJ.cell (zc BX4.out 7 (.slice B7 vls.length d7) rfl)
   have hq8':=hJ.cell (zc BX4.out 8 (.slice A9 d.length c9) rfl)
   have hq9':=hJ.cell (zc BX4.out 9 (.slice A10 ws.length c10) rfl)
   have hq10':=hJ.cell (zc BX4.out 10 (.slice B10 ps.length d10) rfl)
   have hq11':=hJ.cell (zc BX4.out 11 (.slice B11 fs.length d11) rfl)
   clear hp hJ
   simp only [putAll,Nat.reduceAdd]
   go_wp2
   exact⟨rfl,HJ.out,zr,rfl⟩
  ·intro vs w1 hJ hp
   have q0:vs 0=_:=zd hp 0
   have HJ:=zh hJ
   clear hp hJ
   simp only [putAll,Nat.reduceAdd]
   go_wp2_with (go_at_call 15;refine(HDD.out.all _ (HX4.out.trans HJ.out)).mono ?_;rintro e w2' hg;obtain⟨A',c',rfl,hx,hr⟩:=hg.elim;have HX':=zh hx;clear hx hr hg)
   exact⟨rfl,HJ.out.trans HX'.out,HX'.out,⟨_,_,rfl⟩⟩
  ·intro vs w1 hJ hp
   have q1:(spLn R.length).p (vs 1) w1:=zd hp 1
   have HJ:=zh hJ
   obtain⟨Aq,cq,hvq⟩:=q1
   have HVQ:=zh hvq
   clear hvq
   clear hp hJ
   simp only [putAll,Nat.reduceAdd]
   rw [HVQ.out]
   go_wp2
   exact⟨rfl,HJ.out,zr,rfl⟩
  ·intro vs w1 hJ hp
   have HJ:=zh hJ
   have hq0':=hJ.cell (zc BX4.out 0 (.int .i64 kd) rfl)
   have hq1':=hJ.cell (zc BX4.out 1 (.string a) rfl)
   have hq2':=hJ.cell (zc BX4.out 2 (.string b) rfl)
   have hq3':=hJ.cell (zc BX4.out 3 (.int .u32 n) rfl)
   have hq4':=hJ.cell (zc BX4.out 4 (.slice A5 lf.length c5) rfl)
   have hq5':=hJ.cell (zc BX4.out 5 (.slice A6 lr.length c6) rfl)
   have hq6':=hJ.cell (zc BX4.out 6 (.slice A7 ty.length c7) rfl)
   have hq7':=hJ.cell (zc BX4.out 7 (.slice B7 vls.length d7) rfl)
   have hq8':=hJ.cell (zc BX4.out 8 (.slice A9 d.length c9) rfl)
   have hq9':=hJ.cell (zc BX4.out 9 (.slice A10 ws.length c10) rfl)
   have hq10':=hJ.cell (zc BX4.out 10 (.slice B10 ps.length d10) rfl)
   have hq11':=hJ.cell (zc BX4.out 11 (.slice B11 fs.length d11) rfl)
   clear hp hJ
   simp only [putAll,Nat.reduceAdd]
   go_wp2
   exact⟨rfl,HJ.out,zr,rfl⟩
  ·intro vs w1 hJ hp
   have q1:(spLn R.length).p (vs 1) w1:=zd hp 1
   have q3:vs 3=_:=zd hp 3
   clear q1
   have HJ:=zh hJ
   clear hp hJ
   simp only [putAll,Nat.reduceAdd]
   go_wp2_with (go_at_call 16;refine(HDD.out.body _ (HX4.out.trans HJ.out)).mono ?_;rintro e w2' hg;obtain⟨A',c',rfl,hx,hr⟩:=hg.elim;have HX':=zh hx;clear hx hr hg)
   exact⟨rfl,HJ.out.trans HX'.out,HX'.out,⟨_,_,rfl⟩⟩
  ·intro vs w1 hJ hp
   have q4:(spLn RB.length).p (vs 4) w1:=zd hp 4
   have HJ:=zh hJ
   obtain⟨Aq,cq,hvq⟩:=q4
   have HVQ:=zh hvq
   clear hvq
   clear hp hJ
   simp only [putAll,Nat.reduceAdd]
   rw [HVQ.out]
   go_wp2
   exact⟨rfl,HJ.out,zr,rfl⟩
  ·intro vs w1 hJ hp
   have q2:vs 2=_:=zd hp 2
   have q5:vs 5=_:=zd hp 5
   have HJ:=zh hJ
   have hnn:((R.length:Int) - (RB.length:Int))=(H.length:Int):=by omega
   have hww:IntKind.i64.wrap ((R.length:Int) - (RB.length:Int))=(H.length:Int):=by rw [hnn,IntKind.wrap_i64];have h:=HRL.out;unfold maxLen at h;omega
   have HNN:=zh hnn
   clear hnn
   clear hp hJ
   simp only [putAll,Nat.reduceAdd]
   go_wp2
   first|exact⟨rfl,HJ.out,zr,congrArg (Value.int .i64) HNN.out⟩|exact⟨rfl,HJ.out,zr,rfl⟩
  ·intro vs w1 hJ hp
   have q0:vs 0=_:=zd hp 0
   have q1:(spLn R.length).p (vs 1) w1:=zd hp 1
   have q2:vs 2=_:=zd hp 2
   have q3:vs 3=_:=zd hp 3
   have q4:(spLn RB.length).p (vs 4) w1:=zd hp 4
   have q5:vs 5=_:=zd hp 5
   have q6:vs 6=_:=zd hp 6
   clear q1
   clear q4
   have HJ:=zh hJ
   clear hp hJ
   simp only [putAll,Nat.reduceAdd]
   go_wp2
   exact⟨rfl,HJ.out,zr,rfl⟩
 ·intro vs w7 hJ hp
  have q0:vs 0=_:=zd hp 0
  have q2:vs 2=_:=zd hp 2
  have q3:vs 3=_:=zd hp 3
  have q5:vs 5=_:=zd hp 5
  have q6:vs 6=_:=zd hp 6
  have q7:vs 7=_:=zd hp 7
  have HX57:=zh hJ
  clear hJ hp
  simp only [putAll,Nat.reduceAdd]
  simp only [Exit.then]
  go_at_K
  obtain⟨y1,hy1⟩:∃x,vs 1=x:=⟨_,rfl⟩
  obtain⟨y4,hy4⟩:∃x,vs 4=x:=⟨_,rfl⟩
  simp only [Act.put,hy1,hy4,q0,q2,q3,q5,q6,q7,List.setIfInBounds_toArray,List.set_cons_zero,List.set_cons_succ]
  clear hy1 hy4 q0 q2 q3 q5 q6 q7
  have HX7:Hid (Ext (w2.alloc (.cells #[.int .i64 kd,.string a,.string b,.int .u32 n,.slice A5 lf.length c5,.slice A6 lr.length c6,.slice A7 ty.length c7,.slice B7 vls.length d7,.slice A9 d.length c9,.slice A10 ws.length c10,.slice B10 ps.length d10,.slice B11 fs.length d11] 37)) w7):=zh (HXC.out.trans (HX4.out.trans HX57.out))
  have HTB:Hid (Tab w7):=zh (HTAB.out.ext (HW.out.trans HX7.out))
  have HM0:Hid (w7.cell? ⟨w.heap.size,0,none⟩=some (.int .i64 kd)):=zh (box_at ((HE2.out.alloc (.cells #[.int .i64 kd,.string a,.string b,.int .u32 n,.slice A5 lf.length c5,.slice A6 lr.length c6,.slice A7 ty.length c7,.slice B7 vls.length d7,.slice A9 d.length c9,.slice A10 ws.length c10,.slice B10 ps.length d10,.slice B11 fs.length d11] 37)).trans HX7.out) 0 (.int .i64 kd) rfl)
  have HX37:Hid (Ext w3 w7):=zh (HX4.out.trans HX57.out)
  have hc1:N1<=cR:=by have h:=HR4.out.parts;omega
  have hc2:cR<=maxLen:=HR4.out.parts.2.2
  have hh1:H.length<=N1:=by have h:=HR4.out.parts;rw [List.length_append]at h;omega
  obtain⟨A3,c3,hsl,hdr⟩:=sl_at AR N1 cR H.length hh1 hc1 hc2
  have hslh:=fun w:World=>hsl (H.length:Int) w rfl
  obtain⟨ML,hML⟩:∃x,x=N1 - H.length:=⟨_,rfl⟩
  rw [<-hML]at hslh
  have HSRC:Hid (RdB w7 (.slice A3 ML c3) BZ):=zh (by have h9:=RdB.tail (HR4.out.ext HX57.out) hdr;rw [<-hML,List.drop_left]at h9;exact h9)
  clear hsl hdr hML hc1 hc2
  have hh2:¬((N1:Int) < (H.length:Int)):=by omega
  have hh3:decide ((N1:Int) < (H.length:Int))=false:=decide_eq_false hh2
  go_wp2
  refine wp_region_ogL (J:=RoaJ kd BZ R ps.length w7) (R:=fun _ _=>True) [Sp.eq _ (.pointer (some ⟨w.heap.size,0,none⟩)),Sp.eq _ (.int .i64 kd),Sp.eq _ (.slice AR N1 cR),Sp.eq _ (.int .i64 (H.length:Int)),Sp.any _,Sp.any _,Sp.any _,Sp.any _,Sp.eq _ (.bool true),Sp.any _,Sp.any _,Sp.eq _ (.bool true)] (by kernel_rfl) (by kernel_rfl) ?_ ?_ ?_
  ·exact RoaJ.start w7 _
  ·refine⟨zu,?_,zu,zu,?_,?_,?_,?_,?_,?_,?_,zu,trivial⟩
   ·intro vs w1 L hLi hd hdt hJ hp
    have q0:vs 0=_:=zd hp 0
    have HJ:=zh hJ
    have hq:=hJ.X.cell HM0.out
    clear hp hd hdt hLi hJ
    simp only [putAll,Nat.reduceAdd]
    go_wp2
    exact⟨rfl,HJ.out.keep 1 _ (by decide) (by decide) (by decide) (by decide) (by decide) (by decide),trivial,rfl⟩
   ·intro vs w1 L hLi hd hdt hJ hp
    have q2:vs 2=_:=zd hp 2
    have q3:vs 3=_:=zd hp 3
    have H4:=zh (zd hdt 5)
    have H9:=zh (zd hdt 10)
    have HR3:=zh (HSRC.out.ext hJ.X)
    have HJ:=zh hJ
    clear hp hd hdt hLi hJ
    simp only [putAll,Nat.reduceAdd]
    go_wp2
    refine⟨rfl,?_,trivial,trivial⟩
    exact HJ.out.step3 H4.out H9.out zr _ HR3.out
   ·intro vs w1 L hLi hd hdt hJ hp
    have q1:vs 1=_:=zd hp 1
    have HLi:=zh hLi
    have H9:=zh (zd hdt 10)
    have HR3:=zh (hJ.B (zd hd 4) hLi)
    have HJ:=zh hJ
    clear hp hd hdt hLi hJ
    simp only [putAll,Nat.reduceAdd]
    go_wp2_with (go_at_call 19;refine(HDD.out.dec _ (vs 4) BZ HBX.out HR3.out (HTB.out.ext HJ.out.X)).mono ?_;rintro e w2' ⟨v,rfl,hx,hk⟩;have HX':=zh hx;have HK':=zh hk;clear hx hk)
    refine⟨rfl,?_,trivial,trivial⟩
    exact HJ.out.step4 HLi.out H9.out HX'.out _ HK'.out
   ·intro vs w1 L hLi hd hdt hJ hp
    have H4:=zh (zd hd 5)
    have H6:=zh (zd hdt 7)
    have HJ:=zh hJ
    clear hp hd hdt hLi hJ
    simp only [putAll,Nat.reduceAdd]
    go_wp2
    refine⟨rfl,?_,trivial,trivial⟩
    exact HJ.out.step5 H4.out H6.out
   ·intro vs w1 L hLi hd hdt hJ hp
    have H4:=zh (hJ.M5 (zd hd 6)).1
    have e5:vs 6=.tuple #[tup0 (vs 5),.bool true]:=(hJ.M5 (zd hd 6)).2.trans (hJ.V H4.out)
    have HE5:=zh e5
    have HJ:=zh hJ
    clear e5
    clear hp hd hdt hLi hJ
    simp only [putAll,Nat.reduceAdd]
    rw [HE5.out]
    go_wp2
    refine⟨rfl,?_,trivial,trivial⟩
    exact HJ.out.step6 H4.out
   ·intro vs w1 L hLi hd hdt hJ hp
    have H4:=zh (hJ.M5 (zd hd 6)).1
    have e5:vs 6=.tuple #[tup0 (vs 5),.bool true]:=(hJ.M5 (zd hd 6)).2.trans (hJ.V H4.out)
    have HE5:=zh e5
    have HJ:=zh hJ
    clear e5
    clear hp hd hdt hLi hJ
    simp only [putAll,Nat.reduceAdd]
    rw [HE5.out]
    go_wp2
    exact⟨rfl,HJ.out.keep 8 _ (by decide) (by decide) (by decide) (by decide) (by decide) (by decide),trivial,rfl⟩
   ·intro vs w1 L hLi hd hdt hJ hp
    have HLi:=zh hLi
    have H9:=zh (zd hdt 10)
    have HJ:=zh hJ
    clear hp hd hdt hLi hJ
    simp only [putAll,Nat.reduceAdd]
    go_wp2
    refine⟨rfl,?_,trivial,trivial⟩
    exact HJ.out.step8 HLi.out H9.out
   ·intro vs w1 L hLi hd hdt hJ hp
    have q0:vs 0=_:=zd hp 0
    have q1:vs 1=_:=zd hp 1
    have q2:vs 2=_:=zd hp 2
    have q3:vs 3=_:=zd hp 3
    have h4:=zd hd 5
    have h8:=zd hd 9
    have h6:=zd hd 7
    have HAG:=zh (decR_agg (hJ.D h4 w1 (fun _ _ _=>rfl)))
    have HV6:=zh ((hJ.M6 h6).2.trans HAG.out.1)
    have HPP:=zh (hJ.P h8 hLi)
    have H4:=zh h4
    have H8:=zh h8
    have HLi:=zh hLi
    have HJ:=zh hJ
    clear h4 h8 h6
    clear hp hd hdt hLi hJ
    simp only [putAll,Nat.reduceAdd]
    refine wpList_store_row rfl 31 (.tmp 7) (.tmp 45) rfl (ptrC (vs 9)) (aggOf (tup0 (vs 5))) (by simp only [evp_none,ne_eq,Nat.reduceEqDiff,not_false_eq_true,evp_ne];rw [evp_same _ _ _ (by simp [evp_size])];exact HPP.out.1) (by simp only [evp_none,ne_eq,Nat.reduceEqDiff,not_false_eq_true,evp_ne];rw [evp_same _ _ _ (by simp [evp_size])];exact HV6.out) 31 _ HPP.out.2.2 (by rw [HAG.out.2.1];exact size31) (by rw [HAG.out.2.1];rfl) HAG.out.2.2 ?_
    refine⟨rfl,?_,trivial,trivial⟩
    exact HJ.out.step9 H4.out H8.out HLi.out _
  ·intro vs w1 L hall hJ hp
   have q0:vs 0=_:=zd hp 0
   have q1:vs 1=_:=zd hp 1
   have q2:vs 2=_:=zd hp 2
   have q3:vs 3=_:=zd hp 3
   have q8:vs 8=_:=zd hp 8
   have q11:vs 11=_:=zd hp 11
   have HS:=zh (hJ.S (zd hall 10))
   have HDR:=zh (hJ.D (zd hall 5) w1 (fun _ _ _=>rfl))
   have HXJ:=zh hJ.X
   have hv8:=HS.out.1
   obtain⟨p,hpe⟩:∃p,p=ptrC (vs 9):=⟨_,rfl⟩
   rw [<-hpe]at hv8 HS
   obtain⟨v4,hv4⟩:∃v,v=tup0 (vs 5):=⟨_,rfl⟩
   rw [<-hv4]at HS HDR
   obtain⟨a',b',n',P5,P6,P7,P8,P9,P10,P11,P12,p5,p6,p7,p8,p9,p10,p11,p12,lf',lr',ty',d',vls',ws',ps',fs',hm',hnp',hl8,hl11,hl12,hby⟩:=HDR.out
   have hval:=hm'.val
   have HM':=zh hm'
   have HBY:=zh hby
   have HSP:Hid (w1.heap[p]?=some (.cells #[.int .i64 kd,.string a',.string b',.int .u32 n',.int .u32 0,.slice P5 lf'.length p5,.slice P6 lr'.length p6,.slice P7 ty'.length p7,.slice P8 vls'.length p8,.slice P9 d'.length p9,.slice P10 ws'.length p10,.slice P11 ps'.length p11,.slice P12 fs'.length p12] 31 (0,0))):=zh (by have h9:=HS.out.2.2;rw [hval]at h9;exact h9)
   clear hJ hp hall hv4 hpe HS HDR hm' hby hnp' hval
   obtain⟨x3,hx3⟩:∃x,vs 4=x:=⟨_,rfl⟩
   obtain⟨x4,hx4⟩:∃x,vs 5=x:=⟨_,rfl⟩
   obtain⟨x5,hx5⟩:∃x,vs 6=x:=⟨_,rfl⟩
   obtain⟨x6,hx6⟩:∃x,vs 7=x:=⟨_,rfl⟩
   simp only [putAll,Nat.reduceAdd]
   simp only [Exit.then]
   go_at_K
   simp only [Act.put,q0,q1,q2,q3,q8,q11,hv8,hx3,hx4,hx5,hx6,List.setIfInBounds_toArray,List.set_cons_zero,List.set_cons_succ]
   clear hx3 hx4 hx5 hx6 hv8
   have HXD:Hid (Ext (w2.alloc (.cells #[.int .i64 kd,.string a,.string b,.int .u32 n,.slice A5 lf.length c5,.slice A6 lr.length c6,.slice A7 ty.length c7,.slice B7 vls.length d7,.slice A9 d.length c9,.slice A10 ws.length c10,.slice B10 ps.length d10,.slice B11 fs.length d11] 37)) w1):=zh (HX7.out.trans HXJ.out)
   have BXW:=zh ((HXD.out.block _ (zl (heap_alloc_new w2 (.cells #[.int .i64 kd,.string a,.string b,.int .u32 n,.slice A5 lf.length c5,.slice A6 lr.length c6,.slice A7 ty.length c7,.slice B7 vls.length d7,.slice A9 d.length c9,.slice A10 ws.length c10,.slice B10 ps.length d10,.slice B11 fs.length d11] 37)))).trans (heap_alloc_new w2 (.cells #[.int .i64 kd,.string a,.string b,.int .u32 n,.slice A5 lf.length c5,.slice A6 lr.length c6,.slice A7 ty.length c7,.slice B7 vls.length d7,.slice A9 d.length c9,.slice A10 ws.length c10,.slice B10 ps.length d10,.slice B11 fs.length d11] 37)))
   obtain⟨PY,hPY⟩:∃PY:Sp Ext,PY=(spY kd a' b' n' P5 P6 P7 P9 P10 p5 p6 p7 p9 p10 lf' lr' ty' d' vls' ws' ps' fs'):=⟨_,rfl⟩
   have HPY:=zh hPY
   clear hPY
   have HBZ:Hid (∀(v:Value) (wx:World),PY.p v wx->Calls Tryz.prog 15 #[v] wx (Gave wx R)):=zh (by rw [HPY.out];exact fun v wx h=>spY_bytes HBY.out h)
   clear HBY
   go_wp2
   refine wp_region_og (J:=fun x=>Ext w1 x) (R:=Ext) [Sp.eq _ (.bool true),Sp.eq _ (.bool true),Sp.eq _ (.agg #[.int .i64 kd,.string a',.string b',.int .u32 n',.int .u32 0,.slice P5 lf'.length p5,.slice P6 lr'.length p6,.slice P7 ty'.length p7,.slice P8 vls'.length p8,.slice P9 d'.length p9,.slice P10 ws'.length p10,.slice P11 ps'.length p11,.slice P12 fs'.length p12]),PY,spRd R,Sp.eq _ (.string (strOf R)),Sp.eq _ (.agg #[.int .i64 kd,.string a,.string b,.int .u32 n,.slice A5 lf.length c5,.slice A6 lr.length c6,.slice A7 ty.length c7,.slice B7 vls.length d7,.slice A9 d.length c9,.slice A10 ws.length c10,.slice B10 ps.length d10,.slice B11 fs.length d11]),spRd R,Sp.eq _ (.string (strOf R)),Sp.eq _ (.bool true),Sp.eq _ (.bool true),Sp.eq _ (.bool true),Sp.eq _ (.bool true),Sp.eq _ (.bool true),Sp.eq _ (.bool true)] (by kernel_rfl) (by kernel_rfl) (by kernel_rfl) (by kernel_rfl) ?_ ?_ ?_
   ·exact(Ext.refl w1).drew
   ·refine⟨zj,zj,?_,?_,?_,?_,?_,?_,?_,zj,zj,?_,?_,zj,?_,trivial⟩
    ·intro vs w1' hJ hp
     have q1:vs 1=_:=zd hp 1
     have HJ:=zh hJ
     have hq0':=hJ.cell (zc HSP.out 0 (.int .i64 kd) rfl)
     have hq1':=hJ.cell (zc HSP.out 1 (.string a') rfl)
     have hq2':=hJ.cell (zc HSP.out 2 (.string b') rfl)
     have hq3':=hJ.cell (zc HSP.out 3 (.int .u32 n') rfl)
     have hq4':=hJ.cell (zc HSP.out 4 (.int .u32 0) rfl)
     have hq5':=hJ.cell (zc HSP.out 5 (.slice P5 lf'.length p5) rfl)
     have hq6':=hJ.cell (zc HSP.out 6 (.slice P6 lr'.length p6) rfl)
     have hq7':=hJ.cell (zc HSP.out 7 (.slice P7 ty'.length p7) rfl)
     have hq8':=hJ.cell (zc HSP.out 8 (.slice P8 vls'.length p8) rfl)
     have hq9':=hJ.cell (zc HSP.out 9 (.slice P9 d'.length p9) rfl)
     have hq10':=hJ.cell (zc HSP.out 10 (.slice P10 ws'.length p10) rfl)
     have hq11':=hJ.cell (zc HSP.out 11 (.slice P11 ps'.length p11) rfl)
     have hq12':=hJ.cell (zc HSP.out 12 (.slice P12 fs'.length p12) rfl)
     clear hp hJ
     simp only [putAll,Nat.reduceAdd]
     go_wp2
     exact⟨rfl,HJ.out,zr,rfl⟩
    ·intro vs w1' hJ hp
     have q1:vs 1=_:=zd hp 1
     have q2:vs 2=_:=zd hp 2
     have HJ:=zh hJ
     clear hp hJ
     simp only [putAll,Nat.reduceAdd]
     go_wp2_with (go_at_call 10;refine msg10 a' b' kd n' 0 P5 P6 P7 P9 P10 P8 P11 P12 lf'.length lr'.length ty'.length d'.length ws'.length p5 p6 p7 p9 p10 p8 p11 p12 vls' ps' fs' _ (HM'.out.rv.ext HJ.out (isVal.ext HJ.out)) (HM'.out.rp.ext HJ.out (fun _ _ h=>h)) (HM'.out.rl.ext HJ.out (fun _ _ h=>h)) (by omega) (by omega) (by omega) _ ?_;intro w3 Q7 q7' Q10 q10' Q11 q11' hx8 h7' h10' h11';have HX8:=zh hx8;have H7':=zh h7';have H10':=zh h10';have H11':=zh h11';clear hx8 h7' h10' h11')
     have HXY:=zh (HJ.out.trans HX8.out)
     exact⟨rfl,HXY.out,HX8.out,show PY.p _ _ by rw [HPY.out];exact⟨⟨Q7,Q10,Q11,q7',q10',q11',rfl,⟨HM'.out.rf.ext HXY.out,HM'.out.rr.ext HXY.out,HM'.out.rt.ext HXY.out,H7'.out,HM'.out.rd.ext HXY.out,HM'.out.rw.ext HXY.out (fun _ _ h=>h),H10'.out,H11'.out⟩⟩⟩⟩
    ·intro vs w1' hJ hp
     have q1:vs 1=_:=zd hp 1
     have q3:PY.p (vs 3) w1':=zd hp 3
     have HJ:=zh hJ
     have HQ3:=zh q3
     clear q3
     clear hp hJ
     simp only [putAll,Nat.reduceAdd]
     go_wp2_with (go_at_call 15;refine(HBZ.out (vs 3) _ HQ3.out).mono ?_;rintro e w2' hg;obtain⟨A',c',rfl,hx,hr⟩:=hg.elim;have HX':=zh hx;have HR':=zh hr;clear hx hr hg)
     exact⟨rfl,HJ.out.trans HX'.out,HX'.out,HR'.out⟩
    ·intro vs w1' hJ hp
     have q1:vs 1=_:=zd hp 1
     have q4:(spRd R).p (vs 4) w1':=zd hp 4
     have HJ:=zh hJ
     have hcv:(convert 26 9 (vs 4)).run Tryz.prog w1'=.ok (.string (strOf R)) w1':=conv_rd q4
     clear q4
     clear hp hJ
     simp only [putAll,Nat.reduceAdd]
     go_wp2
     exact⟨rfl,HJ.out,zr,rfl⟩
    ·intro vs w1' hJ hp
     have q1:vs 1=_:=zd hp 1
     have HJ:=zh hJ
     have hq0':=hJ.cell (zc BXW.out 0 (.int .i64 kd) rfl)
     have hq1':=hJ.cell (zc BXW.out 1 (.string a) rfl)
     have hq2':=hJ.cell (zc BXW.out 2 (.string b) rfl)
     have hq3':=hJ.cell (zc BXW.out 3 (.int .u32 n) rfl)
     have hq4':=hJ.cell (zc BXW.out 4 (.slice A5 lf.length c5) rfl)
     have hq5':=hJ.cell (zc BXW.out 5 (.slice A6 lr.length c6) rfl)
     have hq6':=hJ.cell (zc BXW.out 6 (.slice A7 ty.length c7) rfl)
     have hq7':=hJ.cell (zc BXW.out 7 (.slice B7 vls.length d7) rfl)
     have hq8':=hJ.cell (zc BXW.out 8 (.slice A9 d.length c9) rfl)
     have hq9':=hJ.cell (zc BXW.out 9 (.slice A10 ws.length c10) rfl)
     have hq10':=hJ.cell (zc BXW.out 10 (.slice B10 ps.length d10) rfl)
     have hq11':=hJ.cell (zc BXW.out 11 (.slice B11 fs.length d11) rfl)
     clear hp hJ
     simp only [putAll,Nat.reduceAdd]
     go_wp2
     exact⟨rfl,HJ.out,zr,rfl⟩
    ·intro vs w1' hJ hp
     have q1:vs 1=_:=zd hp 1
     have q4:(spRd R).p (vs 4) w1':=zd hp 4
     have q6:vs 6=_:=zd hp 6
     clear q4
     have HJ:=zh hJ
     clear hp hJ
     simp only [putAll,Nat.reduceAdd]
     go_wp2_with (go_at_call 15;refine(HDD.out.all _ ((HX37.out.trans HXJ.out).trans HJ.out)).mono ?_;rintro e w2' hg;obtain⟨A',c',rfl,hx,hr⟩:=hg.elim;have HX':=zh hx;have HR':=zh hr;clear hx hr hg)
     exact⟨rfl,HJ.out.trans HX'.out,HX'.out,HR'.out⟩
    ·intro vs w1' hJ hp
     have q1:vs 1=_:=zd hp 1
     have q7:(spRd R).p (vs 7) w1':=zd hp 7
     have HJ:=zh hJ
     have hcv:(convert 26 9 (vs 7)).run Tryz.prog w1'=.ok (.string (strOf R)) w1':=conv_rd q7
     clear q7
     clear hp hJ
     simp only [putAll,Nat.reduceAdd]
     go_wp2
     exact⟨rfl,HJ.out,zr,rfl⟩
    ·intro vs w1' hJ hp
     have q7:(spRd R).p (vs 7) w1':=zd hp 7
     have q10:vs 10=_:=zd hp 10
     have HJ:=zh hJ
     clear q7
     clear hp hJ
     simp only [putAll,Nat.reduceAdd]
     go_wp2
     exact⟨rfl,HJ.out,zr,rfl⟩
    ·intro vs w1' hJ hp
     have q11:vs 11=_:=zd hp 11
     have HJ:=zh hJ
     clear hp hJ
     simp only [putAll,Nat.reduceAdd]
     go_wp2_with (go_at_call 13;refine(works13 _).mono ?_;rintro e w5 ⟨rfl,hx5⟩;have HX5:=zh hx5;clear hx5)
     exact⟨rfl,HJ.out.trans HX5.out,HX5.out,rfl⟩
    ·intro vs w1' hJ hp
     have q0:vs 0=_:=zd hp 0
     have q1:vs 1=_:=zd hp 1
     have q2:vs 2=_:=zd hp 2
     have q3:PY.p (vs 3) w1':=zd hp 3
     have q4:(spRd R).p (vs 4) w1':=zd hp 4
     have q5:vs 5=_:=zd hp 5
     have q6:vs 6=_:=zd hp 6
     have q7:(spRd R).p (vs 7) w1':=zd hp 7
     have q8:vs 8=_:=zd hp 8
     have q9:vs 9=_:=zd hp 9
     have q10:vs 10=_:=zd hp 10
     have q11:vs 11=_:=zd hp 11
     have q12:vs 12=_:=zd hp 12
     have q13:vs 13=_:=zd hp 13
     have HJ:=zh hJ
     clear q3
     clear q4
     clear q7
     clear hp hJ
     simp only [putAll,Nat.reduceAdd]
     go_wp2
     exact⟨rfl,HJ.out,zr,rfl⟩
   ·intro vs w9 hJ hp
    have q0:vs 0=_:=zd hp 0
    have q1:vs 1=_:=zd hp 1
    have q2:vs 2=_:=zd hp 2
    have q5:vs 5=_:=zd hp 5
    have q6:vs 6=_:=zd hp 6
    have q8:vs 8=_:=zd hp 8
    have q9:vs 9=_:=zd hp 9
    have q10:vs 10=_:=zd hp 10
    have q11:vs 11=_:=zd hp 11
    have q12:vs 12=_:=zd hp 12
    have q13:vs 13=_:=zd hp 13
    have q14:vs 14=_:=zd hp 14
    have HJ:=zh hJ
    clear hJ hp
    simp only [putAll,Nat.reduceAdd]
    simp only [Exit.then]
    go_at_K
    simp only [Act.put,q0,q1,q2,q5,q6,q8,q9,q10,q11,q12,q13,q14,List.setIfInBounds_toArray,List.set_cons_zero,List.set_cons_succ]
    go_wp2
    go_ret
    exact⟨rfl,HW.out.trans (HXD.out.trans HJ.out)⟩
end Go.Proofs.YtdenjanihikolaaGreatDoor
