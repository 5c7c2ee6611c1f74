/- decodes, by contract: what the body of a message is decoded to gives the same bytes. -/
import Derived.Test.YtdenjanihikolaaGreatDoorDqA0
import Derived.Test.YtdenjanihikolaaGreatDoorDqA1
import Derived.Test.YtdenjanihikolaaGreatDoorDqDdy
import Derived.Test.YtdenjanihikolaaGreatDoorDqBdf
import Derived.Test.YtdenjanihikolaaGreatDoorDqMsf
namespace Go.Proofs.YtdenjanihikolaaGreatDoor
set_option linter.unusedVariables false
set_option linter.unusedSimpArgs false
set_option maxRecDepth 100000
open Go.RowKit Og
section
variable {a b : ByteArray} {n : Int} {A5 A6 A7 B7 A9 A10 B10 B11 : Option Addr} {c5 c6 c7 d7 c9 c10 d10 d11 : Nat} {lf lr ty d : List Int} {vls : List (Bool × List Int)} {ws : List ByteArray} {ps : List Pr} {fs : List Sf} {w : World}
theorem decs {kd:Int} (hp:properP kd a b n lf lr ty vls d ws ps fs)(hn:0<=n/\n < 4294967296)(hgt:∀y∈ty,0<=y/\y < 4294967296)(hgd:∀y∈d,0<=y/\y < 256)(hbv:∀y∈vls,∀z∈y.2,0<=z/\z < 256)(hgl:∀x∈fs,0<=x.tab/\x.tab < 4294967296/\0<=x.typ/\x.typ < 4294967296)(hs:SpIn w A5 A6 A7 B7 A9 A10 B10 B11 c5 c6 c7 d7 c9 c10 d10 d11 lf lr ty d vls ws ps fs):∃Bod RB R,DD kd (.agg #[.int .i64 kd,.string a,.string b,.int .u32 n,.slice A5 lf.length c5,.slice A6 lr.length c6,.slice A7 ty.length c7,.slice B7 vls.length d7,.slice A9 d.length c9,.slice A10 ws.length c10,.slice B10 ps.length d10,.slice B11 fs.length d11]) w Bod RB R ps.length:=by
 have hk:kd=0∨kd=1∨kd=2∨kd=3∨kd=4∨kd=5∨kd=6∨kd=7∨kd=8∨kd=9∨kd=10∨kd=11∨kd=12∨kd=13∨kd=14∨kd=15∨kd=16∨kd=17∨kd=18∨kd=19∨kd=20∨kd=30∨kd=31∨kd=32∨kd=33∨kd=34∨kd=35∨kd=36∨kd=37∨kd=38∨kd=39∨kd=40∨kd=41∨kd=42∨kd=43∨kd=44∨kd=45∨kd=46∨kd=47∨kd=48∨kd=49∨kd=50∨kd=51∨kd=52∨kd=53∨kd=54∨kd=55∨kd=56∨kd=57:=by
  have h1:=hp.known
  unfold knownK at h1
  omega
 rcases hk with rfl|rfl|rfl|rfl|rfl|rfl|rfl|rfl|rfl|rfl|rfl|rfl|rfl|rfl|rfl|rfl|rfl|rfl|rfl|rfl|rfl|rfl|rfl|rfl|rfl|rfl|rfl|rfl|rfl|rfl|rfl|rfl|rfl|rfl|rfl|rfl|rfl|rfl|rfl|rfl|rfl|rfl|rfl|rfl|rfl|rfl|rfl|rfl|rfl
 ·exact⟨_,_,_,dd0 hp hn hgt hgd hbv hgl hs⟩
 ·exact⟨_,_,_,dd1 hp hn hgt hgd hbv hgl hs⟩
 ·exact⟨_,_,_,dd2 hp hn hgt hgd hbv hgl hs⟩
 ·exact⟨_,_,_,dd3 hp hn hgt hgd hbv hgl hs⟩
 ·exact⟨_,_,_,dd4 hp hn hgt hgd hbv hgl hs⟩
 ·exact⟨_,_,_,dd5 hp hn hgt hgd hbv hgl hs⟩
 ·exact⟨_,_,_,dd6 hp hn hgt hgd hbv hgl hs⟩
 ·exact⟨_,_,_,dd7 hp hn hgt hgd hbv hgl hs⟩
 ·exact⟨_,_,_,dd8 hp hn hgt hgd hbv hgl hs⟩
 ·exact⟨_,_,_,dd9 hp hn hgt hgd hbv hgl hs⟩
 ·exact⟨_,_,_,dd10 hp hn hgt hgd hbv hgl hs⟩
 ·exact⟨_,_,_,dd11 hp hn hgt hgd hbv hgl hs⟩
 ·exact⟨_,_,_,dd12 hp hn hgt hgd hbv hgl hs⟩
 ·exact⟨_,_,_,dd13 hp hn hgt hgd hbv hgl hs⟩
 ·exact⟨_,_,_,dd14 hp hn hgt hgd hbv hgl hs⟩
 ·exact⟨_,_,_,dd15 hp hn hgt hgd hbv hgl hs⟩
 ·exact⟨_,_,_,dd16 hp hn hgt hgd hbv hgl hs⟩
 ·exact⟨_,_,_,dd17 hp hn hgt hgd hbv hgl hs⟩
 ·exact⟨_,_,_,dd18 hp hn hgt hgd hbv hgl hs⟩
 ·exact⟨_,_,_,dd19 hp hn hgt hgd hbv hgl hs⟩
 ·exact⟨_,_,_,dd20 hp hn hgt hgd hbv hgl hs⟩
 ·exact⟨_,_,_,dd30 hp hn hgt hgd hbv hgl hs⟩
 ·exact⟨_,_,_,dd31 hp hn hgt hgd hbv hgl hs⟩
 ·exact⟨_,_,_,dd32 hp hn hgt hgd hbv hgl hs⟩
 ·exact⟨_,_,_,dd33 hp hn hgt hgd hbv hgl hs⟩
 ·exact⟨_,_,_,dd34 hp hn hgt hgd hbv hgl hs⟩
 ·exact⟨_,_,_,dd35 hp hn hgt hgd hbv hgl hs⟩
 ·exact⟨_,_,_,dd36 hp hn hgt hgd hbv hgl hs⟩
 ·exact⟨_,_,_,dd37 hp hn hgt hgd hbv hgl hs⟩
 ·exact⟨_,_,_,dd38 hp hn hgt hgd hbv hgl hs⟩
 ·exact⟨_,_,_,dd39 hp hn hgt hgd hbv hgl hs⟩
 ·exact⟨_,_,_,dd40 hp hn hgt hgd hbv hgl hs⟩
 ·exact⟨_,_,_,dd41 hp hn hgt hgd hbv hgl hs⟩
 ·exact⟨_,_,_,dd42 hp hn hgt hgd hbv hgl hs⟩
 ·exact⟨_,_,_,dd43 hp hn hgt hgd hbv hgl hs⟩
 ·exact⟨_,_,_,dd44 hp hn hgt hgd hbv hgl hs⟩
 ·exact⟨_,_,_,dd45 hp hn hgt hgd hbv hgl hs⟩
 ·exact⟨_,_,_,dd46 hp hn hgt hgd hbv hgl hs⟩
 ·exact⟨_,_,_,dd47 hp hn hgt hgd hbv hgl hs⟩
 ·exact⟨_,_,_,dd48 hp hn hgt hgd hbv hgl hs⟩
 ·exact⟨_,_,_,dd49 hp hn hgt hgd hbv hgl hs⟩
 ·exact⟨_,_,_,dd50 hp hn hgt hgd hbv hgl hs⟩
 ·exact⟨_,_,_,dd51 hp hn hgt hgd hbv hgl hs⟩
 ·exact⟨_,_,_,dd52 hp hn hgt hgd hbv hgl hs⟩
 ·exact⟨_,_,_,dd53 hp hn hgt hgd hbv hgl hs⟩
 ·exact⟨_,_,_,dd54 hp hn hgt hgd hbv hgl hs⟩
 ·exact⟨_,_,_,dd55 hp hn hgt hgd hbv hgl hs⟩
 ·exact⟨_,_,_,dd56 hp hn hgt hgd hbv hgl hs⟩
 ·exact⟨_,_,_,dd57 hp hn hgt hgd hbv hgl hs⟩
end
def tup0:Value->Value
 | .tuple cs=>cs.getD 0 undef
 | _=>undef
def aggOf:Value->Array Value
 | .agg cs=>cs
 | _=> #[]
theorem decR_agg {kd:Int} {R:List Int} {np:Nat} {v:Value} {w:World} (h:DecR kd R np v w):v=.agg (aggOf v)/\(aggOf v).size=13/\(aggOf v).all (·.oneCell')=true:=by
 obtain⟨a,b,n,A5,A6,A7,A8,A9,A10,A11,A12,c5,c6,c7,c8,c9,c10,c11,c12,lf,lr,ty,d,vls,ws,ps,fs,hm,_⟩:=h
 have hv:=hm.val
 subst hv
 exact⟨rfl,rfl,one13⟩
structure DcdJ (kd:Int) (RB R:List Int) (np:Nat) (W0:World) (L:Nat->Bool) (vs:Nat->Value) (w:World):Prop where
 X:Ext W0 w
 B:L 3=true->L 4=false->RdB w (vs 3) RB
 P:L 8=true->L 9=false->vs 8=.pointer (some ⟨ptrC (vs 8),0,none⟩)/\W0.heap.size<=ptrC (vs 8)/\w.heap[ptrC (vs 8)]?=some (.cells #[.int .i64 0,.string ⟨#[]⟩,.string ⟨#[]⟩,.int .u32 0,.int .u32 0,.slice none 0 0,.slice none 0 0,.slice none 0 0,.slice none 0 0,.slice none 0 0,.slice none 0 0,.slice none 0 0,.slice none 0 0] 31 (0,0))
 V:L 4=true->vs 4=.tuple #[tup0 (vs 4),.bool true]
 D:L 4=true->∀w3:World,(∀k,k < w.heap.size->(L 8=true->k≠ptrC (vs 8))->w3.heap[k]?=w.heap[k]?)->DecR kd R np (tup0 (vs 4)) w3
 S:L 9=true->vs 8=.pointer (some ⟨ptrC (vs 8),0,none⟩)/\W0.heap.size<=ptrC (vs 8)/\w.heap[ptrC (vs 8)]?=some (.cells (aggOf (tup0 (vs 4))) 31 (0,0))
 M5:L 5=true->L 4=true/\vs 5=vs 4
 M6:L 6=true->L 4=true/\vs 6=tup0 (vs 4)
section
variable {kd : Int} {RB R : List Int} {np : Nat} {W0 w w2 : World} {L : Nat → Bool} {vs : Nat → Value}
theorem DcdJ.start (W0:World)(vs:Nat->Value):DcdJ kd RB R np W0 (fun _=>false) vs W0.drew:=⟨(Ext.refl W0).drew,nofun,nofun,nofun,nofun,nofun,nofun,nofun⟩
theorem DcdJ.keep (h:DcdJ kd RB R np W0 L vs w)(i:Nat)(u:Value)(h3:3≠i)(h4:4≠i)(h5:5≠i)(h6:6≠i)(h8:8≠i)(h9:9≠i):DcdJ kd RB R np W0 (updB L i) (upd vs i u) w:=by
 obtain⟨X,B,P,V,D,S,M5,M6⟩:=h
 constructor <;> (try simp only [updB,upd,h3,h4,h5,h6,h8,h9,if_false,beq_eq_false_iff_ne.2,Bool.or_false,ne_eq,not_false_eq_true]) <;> assumption
theorem DcdJ.low5 (h:DcdJ kd RB R np W0 L vs w)(e4:L 4=false):L 5=false:=by
 cases e:L 5 with
 | false=>rfl
 | true=>have:=(h.M5 e).1;rw [e4]at this;cases this
theorem DcdJ.low6 (h:DcdJ kd RB R np W0 L vs w)(e4:L 4=false):L 6=false:=by
 cases e:L 6 with
 | false=>rfl
 | true=>have:=(h.M6 e).1;rw [e4]at this;cases this
theorem DcdJ.step3 (h:DcdJ kd RB R np W0 L vs w)(e4:L 4=false)(e9:L 9=false)(hx:Ext w w2)(u:Value)(hr:RdB w2 u RB):DcdJ kd RB R np W0 (updB L 3) (upd vs 3 u) w2:=by
 have e5:=h.low5 e4
 have e6:=h.low6 e4
 have hX:=h.X.trans hx
 have hP:=h.P
 constructor <;> (try simp only [updB,upd,e4,e5,e6,e9,Nat.reduceEqDiff,if_false,if_true,Nat.reduceBEq,Bool.or_false,Bool.or_true,Bool.false_eq_true,Bool.true_eq_false,false_implies,true_implies,beq_self_eq_true])
 ·exact hX
 ·exact hr
 ·intro h8
  obtain⟨h1,h2,h3⟩:=hP h8 e9
  exact⟨h1,h2,(hx.block _ (zl h3)).trans h3⟩
theorem DcdJ.step4 (h:DcdJ kd RB R np W0 L vs w)(e4:L 4=false)(e9:L 9=false)(hx:Ext w w2)(v:Value)(hk:Keeps w w2 (DecR kd R np v)):DcdJ kd RB R np W0 (updB L 4) (upd vs 4 (.tuple #[v,.bool true])) w2:=by
 have e5:=h.low5 e4
 have e6:=h.low6 e4
 have hX:=h.X.trans hx
 have hP:=h.P
 constructor <;> (try simp only [updB,upd,e5,e6,e9,Nat.reduceEqDiff,if_false,if_true,Nat.reduceBEq,Bool.or_false,Bool.or_true,Bool.false_eq_true,Bool.true_eq_false,false_implies,true_implies,beq_self_eq_true,implies_true])
 ·exact hX
 ·intro h8
  obtain⟨h1,h2,h3⟩:=hP h8 e9
  exact⟨h1,h2,(hx.block _ (zl h3)).trans h3⟩
 ·rfl
 ·intro w3 h3
  refine hk w3 fun k h1 h2=>h3 k h2 fun h8=>?_
  have:=zl (hP h8 e9).2.2
  omega
theorem DcdJ.step5 (h:DcdJ kd RB R np W0 L vs w)(e4:L 4=true)(e6:L 6=false):DcdJ kd RB R np W0 (updB L 5) (upd vs 5 (vs 4)) w:=by
 obtain⟨X,B,P,V,D,S,M5,M6⟩:=h
 constructor <;> (try simp only [updB,upd,e4,e6,Nat.reduceEqDiff,if_false,if_true,Nat.reduceBEq,Bool.or_false,Bool.or_true,Bool.false_eq_true,false_implies,true_implies,beq_self_eq_true,implies_true,true_and,and_self]at *) <;> first|assumption|exact⟨rfl,rfl⟩|trivial
theorem DcdJ.step6 (h:DcdJ kd RB R np W0 L vs w)(e4:L 4=true):DcdJ kd RB R np W0 (updB L 6) (upd vs 6 (tup0 (vs 4))) w:=by
 obtain⟨X,B,P,V,D,S,M5,M6⟩:=h
 constructor <;> (try simp only [updB,upd,e4,Nat.reduceEqDiff,if_false,if_true,Nat.reduceBEq,Bool.or_false,Bool.or_true,Bool.false_eq_true,false_implies,true_implies,beq_self_eq_true,implies_true,true_and,and_self]at *) <;> first|assumption|exact⟨rfl,rfl⟩|trivial
theorem DcdJ.step8 (h:DcdJ kd RB R np W0 L vs w)(e8:L 8=false)(e9:L 9=false):DcdJ kd RB R np W0 (updB L 8) (upd vs 8 (.pointer (some ⟨w.heap.size,0,none⟩))) (w.alloc (.cells #[.int .i64 0,.string ⟨#[]⟩,.string ⟨#[]⟩,.int .u32 0,.int .u32 0,.slice none 0 0,.slice none 0 0,.slice none 0 0,.slice none 0 0,.slice none 0 0,.slice none 0 0,.slice none 0 0,.slice none 0 0] 31)):=by
 have hx:=ext_alloc w (.cells #[.int .i64 0,.string ⟨#[]⟩,.string ⟨#[]⟩,.int .u32 0,.int .u32 0,.slice none 0 0,.slice none 0 0,.slice none 0 0,.slice none 0 0,.slice none 0 0,.slice none 0 0,.slice none 0 0,.slice none 0 0] 31)
 have hX:=h.X.trans hx
 have hB:=h.B
 have hV:=h.V
 have hD:=h.D
 have h5:=h.M5
 have h6:=h.M6
 constructor <;> (try simp only [updB,upd,e8,e9,Nat.reduceEqDiff,if_false,if_true,Nat.reduceBEq,Bool.or_false,Bool.or_true,Bool.false_eq_true,Bool.true_eq_false,false_implies,true_implies,beq_self_eq_true,implies_true])
 ·exact hX
 ·exact fun a b=>(hB a b).ext hx
 ·exact⟨rfl,h.X.size,heap_alloc_new _ _⟩
 ·exact hV
 ·intro h4 w3 h3
  refine hD h4 w3 fun k hk _=>(h3 k (Nat.lt_of_lt_of_le hk hx.size) (by show k≠w.heap.size;omega)).trans (hx.block k hk)
 ·exact h5
 ·exact h6
theorem DcdJ.step9 (h:DcdJ kd RB R np W0 L vs w)(e4:L 4=true)(e8:L 8=true)(e9:L 9=false)(u:Value):DcdJ kd RB R np W0 (updB L 9) (upd vs 9 u) (w.setRow (ptrC (vs 8)) (aggOf (tup0 (vs 4)))):=by
 obtain⟨p1,p2,p3⟩:=h.P e8 e9
 have hX:=((Ext.refl w).but.row (aggOf (tup0 (vs 4)))).ext h.X p2
 have hV:=h.V e4
 have hD:=h.D e4
 have h5:=h.M5
 have h6:=h.M6
 constructor <;> (try simp only [updB,upd,e4,e8,e9,Nat.reduceEqDiff,if_false,if_true,Nat.reduceBEq,Bool.or_false,Bool.or_true,Bool.false_eq_true,Bool.true_eq_false,false_implies,true_implies,beq_self_eq_true,implies_true])
 ·exact hX
 ·exact hV
 ·intro w3 h3
  refine hD w3 fun k hk hne=>(h3 k (by simpa [World.setRow]using hk) (hne e8)).trans (setRow_other _ _ _ _ (hne e8))
 ·exact⟨p1,p2,setRow_heap _ _ _ _ _ _ p3⟩
 ·exact fun a=>⟨trivial,(h5 a).2⟩
 ·exact fun a=>⟨trivial,(h6 a).2⟩
end
section
variable {a b : ByteArray} {n : Int} {A5 A6 A7 B7 A9 A10 B10 B11 : Option Addr} {c5 c6 c7 d7 c9 c10 d10 d11 : Nat} {lf lr ty d : List Int} {vls : List (Bool × List Int)} {ws : List ByteArray} {ps : List Pr} {fs : List Sf} {w : World}
set_option maxHeartbeats 8000000 in
theorem decodes20 {kd:Int} {Bod:List Int->Prop} {RB R:List Int} (hD:DD kd (.agg #[.int .i64 kd,.string a,.string b,.int .u32 n,.slice A5 lf.length c5,.slice A6 lr.length c6,.slice A7 ty.length c7,.slice B7 vls.length d7,.slice A9 d.length c9,.slice A10 ws.length c10,.slice B10 ps.length d10,.slice B11 fs.length d11]) w Bod RB R ps.length)(ht:Tab w):Calls Tryz.prog 20 #[.agg #[.int .i64 kd,.string a,.string b,.int .u32 n,.slice A5 lf.length c5,.slice A6 lr.length c6,.slice A7 ty.length c7,.slice B7 vls.length d7,.slice A9 d.length c9,.slice A10 ws.length c10,.slice B10 ps.length d10,.slice B11 fs.length d11]] w (fun e w'=>e=.returned (.bool true)/\Ext w w'):=by
 have HDD:=zh hD
 have HX0:Hid (Ext w (w.alloc (.cells #[.int .i64 kd,.string a,.string b,.int .u32 n,.slice A5 lf.length c5,.slice A6 lr.length c6,.slice A7 ty.length c7,.slice B7 vls.length d7,.slice A9 d.length c9,.slice A10 ws.length c10,.slice B10 ps.length d10,.slice B11 fs.length d11] 37))):=zh (ext_alloc _ _)
 have HTAB:Hid (Tab (w.alloc (.cells #[.int .i64 kd,.string a,.string b,.int .u32 n,.slice A5 lf.length c5,.slice A6 lr.length c6,.slice A7 ty.length c7,.slice B7 vls.length d7,.slice A9 d.length c9,.slice A10 ws.length c10,.slice B10 ps.length d10,.slice B11 fs.length d11] 37))):=zh (ht.ext HX0.out)
 have HBX:Hid ((w.alloc (.cells #[.int .i64 kd,.string a,.string b,.int .u32 n,.slice A5 lf.length c5,.slice A6 lr.length c6,.slice A7 ty.length c7,.slice B7 vls.length d7,.slice A9 d.length c9,.slice A10 ws.length c10,.slice B10 ps.length d10,.slice B11 fs.length d11] 37)).heap[w.heap.size]?=some (.cells #[.int .i64 kd,.string a,.string b,.int .u32 n,.slice A5 lf.length c5,.slice A6 lr.length c6,.slice A7 ty.length c7,.slice B7 vls.length d7,.slice A9 d.length c9,.slice A10 ws.length c10,.slice B10 ps.length d10,.slice B11 fs.length d11] 37 (0,0))):=zh (heap_alloc_new _ _)
 clear hD ht
 go_enter Tryz.func20,Tryz.ntmps20
 go_wp2
 refine wp_region_ogL (J:=DcdJ kd RB R ps.length (w.alloc (.cells #[.int .i64 kd,.string a,.string b,.int .u32 n,.slice A5 lf.length c5,.slice A6 lr.length c6,.slice A7 ty.length c7,.slice B7 vls.length d7,.slice A9 d.length c9,.slice A10 ws.length c10,.slice B10 ps.length d10,.slice B11 fs.length d11] 37))) (R:=fun _ _=>True) [Sp.eq _ (.pointer (some ⟨w.heap.size,0,none⟩)),Sp.eq _ (.int .i64 kd),Sp.eq _ (.agg #[.int .i64 kd,.string a,.string b,.int .u32 n,.slice A5 lf.length c5,.slice A6 lr.length c6,.slice A7 ty.length c7,.slice B7 vls.length d7,.slice A9 d.length c9,.slice A10 ws.length c10,.slice B10 ps.length d10,.slice B11 fs.length d11]),Sp.any _,Sp.any _,Sp.any _,Sp.any _,Sp.eq _ (.bool true),Sp.any _,Sp.any _,Sp.eq _ (.bool true)] (by kernel_rfl) (by kernel_rfl) ?_ ?_ ?_
 ·exact DcdJ.start (w.alloc (.cells #[.int .i64 kd,.string a,.string b,.int .u32 n,.slice A5 lf.length c5,.slice A6 lr.length c6,.slice A7 ty.length c7,.slice B7 vls.length d7,.slice A9 d.length c9,.slice A10 ws.length c10,.slice B10 ps.length d10,.slice B11 fs.length d11] 37)) _
 ·refine⟨?_,?_,?_,?_,?_,?_,?_,?_,?_,?_,?_,trivial⟩
  ·intro vs w1 L hLi hd hdt hJ hp
   have HJ:=zh hJ
   clear hp hd hdt hLi hJ
   simp only [putAll,Nat.reduceAdd]
   go_wp2
   exact⟨rfl,HJ.out.keep 0 _ (by decide) (by decide) (by decide) (by decide) (by decide) (by decide),trivial,rfl⟩
  ·intro vs w1 L hLi hd hdt hJ hp
   have q0:vs 0=.pointer (some ⟨w.heap.size,0,none⟩):=zd hp 0
   have HJ:=zh hJ
   have hq:=hJ.X.cell (zc HBX.out 0 (.int .i64 kd) rfl)
   clear hp hd hdt hLi hJ
   simp only [putAll,Nat.reduceAdd]
   go_wp2
   exact⟨rfl,HJ.out.keep 1 _ (by decide) (by decide) (by decide) (by decide) (by decide) (by decide),trivial,rfl⟩
  ·intro vs w1 L hLi hd hdt hJ hp
   have HJ:=zh hJ
   have hq0':=hJ.X.cell (zc HBX.out 0 (.int .i64 kd) rfl)
   have hq1':=hJ.X.cell (zc HBX.out 1 (.string a) rfl)
   have hq2':=hJ.X.cell (zc HBX.out 2 (.string b) rfl)
   have hq3':=hJ.X.cell (zc HBX.out 3 (.int .u32 n) rfl)
   have hq4':=hJ.X.cell (zc HBX.out 4 (.slice A5 lf.length c5) rfl)
   have hq5':=hJ.X.cell (zc HBX.out 5 (.slice A6 lr.length c6) rfl)
   have hq6':=hJ.X.cell (zc HBX.out 6 (.slice A7 ty.length c7) rfl)
   have hq7':=hJ.X.cell (zc HBX.out 7 (.slice B7 vls.length d7) rfl)
   have hq8':=hJ.X.cell (zc HBX.out 8 (.slice A9 d.length c9) rfl)
   have hq9':=hJ.X.cell (zc HBX.out 9 (.slice A10 ws.length c10) rfl)
   have hq10':=hJ.X.cell (zc HBX.out 10 (.slice B10 ps.length d10) rfl)
   have hq11':=hJ.X.cell (zc HBX.out 11 (.slice B11 fs.length d11) rfl)
   clear hp hd hdt hLi hJ
   simp only [putAll,Nat.reduceAdd]
   go_wp2
   exact⟨rfl,HJ.out.keep 2 _ (by decide) (by decide) (by decide) (by decide) (by decide) (by decide),trivial,rfl⟩
  ·intro vs w1 L hLi hd hdt hJ hp
   have q2:vs 2=.agg #[.int .i64 kd,.string a,.string b,.int .u32 n,.slice A5 lf.length c5,.slice A6 lr.length c6,.slice A7 ty.length c7,.slice B7 vls.length d7,.slice A9 d.length c9,.slice A10 ws.length c10,.slice B10 ps.length d10,.slice B11 fs.length d11]:=zd hp 2
   have H4:=zh (zd hdt 4)
   have H9:=zh (zd hdt 9)
   have HJ:=zh hJ
   clear hp hd hdt hLi hJ
   simp only [putAll,Nat.reduceAdd]
   go_wp2_with (go_at_call 16;refine(HDD.out.body _ (HX0.out.trans HJ.out.X)).mono ?_;rintro e w2' hg;obtain⟨A',c',rfl,hx,hr⟩:=hg.elim;have HX':=zh hx;have HR':=zh hr;clear hx hr hg)
   refine⟨rfl,?_,trivial,trivial⟩
   exact HJ.out.step3 H4.out H9.out HX'.out _ HR'.out
  ·intro vs w1 L hLi hd hdt hJ hp
   have q1:vs 1=.int .i64 kd:=zd hp 1
   have HLi:=zh hLi
   have H9:=zh (zd hdt 9)
   have HR3:=zh (hJ.B (zd hd 3) hLi)
   have HJ:=zh hJ
   clear hp hd hdt hLi hJ
   simp only [putAll,Nat.reduceAdd]
   go_wp2_with (go_at_call 19;go_loud (refine(HDD.out.dec _ (vs 3) RB HDD.out.isb HR3.out (HTAB.out.ext HJ.out.X)).mono ?_;rintro e w2' ⟨v,rfl,hx,hk⟩;have HX':=zh hx;have HK':=zh hk;clear hx hk))
   refine⟨rfl,?_,trivial,trivial⟩
   exact HJ.out.step4 HLi.out H9.out HX'.out _ HK'.out
  ·intro vs w1 L hLi hd hdt hJ hp
   have H4:=zh (zd hd 4)
   have H6:=zh (zd hdt 6)
   have HJ:=zh hJ
   clear hp hd hdt hLi hJ
   simp only [putAll,Nat.reduceAdd]
   go_wp2
   refine⟨rfl,?_,trivial,trivial⟩
   exact HJ.out.step5 H4.out H6.out
  ·intro vs w1 L hLi hd hdt hJ hp
   have H4:=zh (hJ.M5 (zd hd 5)).1
   have e5:vs 5=.tuple #[tup0 (vs 4),.bool true]:=(hJ.M5 (zd hd 5)).2.trans (hJ.V H4.out)
   have HE5:=zh e5
   have HJ:=zh hJ
   clear e5
   clear hp hd hdt hLi hJ
   simp only [putAll,Nat.reduceAdd]
   rw [HE5.out]
   go_wp2
   refine⟨rfl,?_,trivial,trivial⟩
   exact HJ.out.step6 H4.out
  ·intro vs w1 L hLi hd hdt hJ hp
   have H4:=zh (hJ.M5 (zd hd 5)).1
   have e5:vs 5=.tuple #[tup0 (vs 4),.bool true]:=(hJ.M5 (zd hd 5)).2.trans (hJ.V H4.out)
   have HE5:=zh e5
   have HJ:=zh hJ
   clear e5
   clear hp hd hdt hLi hJ
   simp only [putAll,Nat.reduceAdd]
   rw [HE5.out]
   go_wp2
   exact⟨rfl,HJ.out.keep 7 _ (by decide) (by decide) (by decide) (by decide) (by decide) (by decide),trivial,rfl⟩
  ·intro vs w1 L hLi hd hdt hJ hp
   have HLi:=zh hLi
   have H9:=zh (zd hdt 9)
   have HJ:=zh hJ
   clear hp hd hdt hLi hJ
   simp only [putAll,Nat.reduceAdd]
   go_wp2
   refine⟨rfl,?_,trivial,trivial⟩
   exact HJ.out.step8 HLi.out H9.out
  ·intro vs w1 L hLi hd hdt hJ hp
   have q0:vs 0=.pointer (some ⟨w.heap.size,0,none⟩):=zd hp 0
   have q1:vs 1=.int .i64 kd:=zd hp 1
   have q2:vs 2=.agg #[.int .i64 kd,.string a,.string b,.int .u32 n,.slice A5 lf.length c5,.slice A6 lr.length c6,.slice A7 ty.length c7,.slice B7 vls.length d7,.slice A9 d.length c9,.slice A10 ws.length c10,.slice B10 ps.length d10,.slice B11 fs.length d11]:=zd hp 2
   have h4:=zd hd 4
   have h8:=zd hd 8
   have h6:=zd hd 6
   have HAG:=zh (decR_agg (hJ.D h4 w1 (fun _ _ _=>rfl)))
   have HV6:=zh ((hJ.M6 h6).2.trans HAG.out.1)
   have HPP:=zh (hJ.P h8 hLi)
   have H4:=zh h4
   have H8:=zh h8
   have HLi:=zh hLi
   have HJ:=zh hJ
   clear h4 h8 h6
   clear hp hd hdt hLi hJ
   simp only [putAll,Nat.reduceAdd]
   refine wpList_store_row rfl 31 (.tmp 3) (.tmp 12) rfl (ptrC (vs 8)) (aggOf (tup0 (vs 4))) (by simp only [evp_none,ne_eq,Nat.reduceEqDiff,not_false_eq_true,evp_ne];rw [evp_same _ _ _ (by simp [evp_size])];exact HPP.out.1) (by simp only [evp_none,ne_eq,Nat.reduceEqDiff,not_false_eq_true,evp_ne];rw [evp_same _ _ _ (by simp [evp_size])];exact HV6.out) 31 _ HPP.out.2.2 (by rw [HAG.out.2.1];exact size31) (by rw [HAG.out.2.1];rfl) HAG.out.2.2 ?_
   refine⟨rfl,?_,trivial,trivial⟩
   exact HJ.out.step9 H4.out H8.out HLi.out _
  ·intro vs w1 L hLi hd hdt hJ hp
   have q0:vs 0=.pointer (some ⟨w.heap.size,0,none⟩):=zd hp 0
   have q1:vs 1=.int .i64 kd:=zd hp 1
   have q2:vs 2=.agg #[.int .i64 kd,.string a,.string b,.int .u32 n,.slice A5 lf.length c5,.slice A6 lr.length c6,.slice A7 ty.length c7,.slice B7 vls.length d7,.slice A9 d.length c9,.slice A10 ws.length c10,.slice B10 ps.length d10,.slice B11 fs.length d11]:=zd hp 2
   have q7:vs 7=.bool true:=zd hp 7
   have HJ:=zh hJ
   clear hp hd hdt hLi hJ
   simp only [putAll,Nat.reduceAdd]
   go_wp2
   exact⟨rfl,HJ.out.keep 10 _ (by decide) (by decide) (by decide) (by decide) (by decide) (by decide),trivial,rfl⟩
 ·intro vs w1 L hall hJ hp
  have q0:vs 0=.pointer (some ⟨w.heap.size,0,none⟩):=zd hp 0
  have q1:vs 1=.int .i64 kd:=zd hp 1
  have q2:vs 2=.agg #[.int .i64 kd,.string a,.string b,.int .u32 n,.slice A5 lf.length c5,.slice A6 lr.length c6,.slice A7 ty.length c7,.slice B7 vls.length d7,.slice A9 d.length c9,.slice A10 ws.length c10,.slice B10 ps.length d10,.slice B11 fs.length d11]:=zd hp 2
  have q7:vs 7=.bool true:=zd hp 7
  have q10:vs 10=.bool true:=zd hp 10
  have HS:=zh (hJ.S (zd hall 9))
  have HDR:=zh (hJ.D (zd hall 4) w1 (fun _ _ _=>rfl))
  have HXJ:=zh hJ.X
  have hv8:=HS.out.1
  obtain⟨p,hpe⟩:∃p,p=ptrC (vs 8):=⟨_,rfl⟩
  rw [<-hpe]at hv8 HS
  obtain⟨v4,hv4⟩:∃v,v=tup0 (vs 4):=⟨_,rfl⟩
  rw [<-hv4]at HS HDR
  obtain⟨a',b',n',P5,P6,P7,P8,P9,P10,P11,P12,p5,p6,p7,p8,p9,p10,p11,p12,lf',lr',ty',d',vls',ws',ps',fs',hm',hnp',hl8,hl11,hl12,hby⟩:=HDR.out
  have hval:=hm'.val
  have HM':=zh hm'
  have HBY:=zh hby
  have HNPX:=zh hnp'
  have HSP:Hid (w1.heap[p]?=some (.cells #[.int .i64 kd,.string a',.string b',.int .u32 n',.int .u32 0,.slice P5 lf'.length p5,.slice P6 lr'.length p6,.slice P7 ty'.length p7,.slice P8 vls'.length p8,.slice P9 d'.length p9,.slice P10 ws'.length p10,.slice P11 ps'.length p11,.slice P12 fs'.length p12] 31 (0,0))):=zh (by have h9:=HS.out.2.2;rw [hval]at h9;exact h9)
  have HPL:=zh HS.out.2.1
  clear hJ hp hall hv4 hpe HS HDR hm' hby hnp' hval
  obtain⟨x3,hx3⟩:∃x,vs 3=x:=⟨_,rfl⟩
  obtain⟨x4,hx4⟩:∃x,vs 4=x:=⟨_,rfl⟩
  obtain⟨x5,hx5⟩:∃x,vs 5=x:=⟨_,rfl⟩
  obtain⟨x6,hx6⟩:∃x,vs 6=x:=⟨_,rfl⟩
  simp only [putAll,Nat.reduceAdd]
  simp only [Exit.then]
  go_at_K
  simp only [Act.put,q0,q1,q2,q7,q10,hv8,hx3,hx4,hx5,hx6,List.setIfInBounds_toArray,List.set_cons_zero,List.set_cons_succ]
  clear hx3 hx4 hx5 hx6 hv8
  go_wp2_with (first|(refine wpList_load_row rfl 31 (.tmp 3) rfl p rfl 31 #[.int .i64 kd,.string a',.string b',.int .u32 n',.int .u32 0,.slice P5 lf'.length p5,.slice P6 lr'.length p6,.slice P7 ty'.length p7,.slice P8 vls'.length p8,.slice P9 d'.length p9,.slice P10 ws'.length p10,.slice P11 ps'.length p11,.slice P12 fs'.length p12] (0,0) _ HSP.out Tryz.underlying31 rfl size31 ?_)|(go_at_call 10;refine msg10 a' b' kd n' 0 P5 P6 P7 P9 P10 P8 P11 P12 lf'.length lr'.length ty'.length d'.length ws'.length p5 p6 p7 p9 p10 p8 p11 p12 vls' ps' fs' _ HM'.out.rv HM'.out.rp HM'.out.rl (by omega) (by omega) (by omega) _ ?_;intro w2 Q7 q7' Q10 q10' Q11 q11' hx8 h7' h10' h11';have HX8:=zh hx8;have H7':=zh h7';have H10':=zh h10';have H11':=zh h11';clear hx8 h7' h10' h11'))
  have HY:Hid ((w2.alloc (.cells #[.int .i64 kd,.string a',.string b',.int .u32 n',.slice P5 lf'.length p5,.slice P6 lr'.length p6,.slice P7 ty'.length p7,.slice Q7 vls'.length q7',.slice P9 d'.length p9,.slice P10 ws'.length p10,.slice Q10 ps'.length q10',.slice Q11 fs'.length q11'] 37)).heap[w2.heap.size]?=some (.cells #[.int .i64 kd,.string a',.string b',.int .u32 n',.slice P5 lf'.length p5,.slice P6 lr'.length p6,.slice P7 ty'.length p7,.slice Q7 vls'.length q7',.slice P9 d'.length p9,.slice P10 ws'.length p10,.slice Q10 ps'.length q10',.slice Q11 fs'.length q11'] 37 (0,0))):=zh (heap_alloc_new _ _)
  obtain⟨W5,hW5⟩:∃W5,W5=w2.alloc (.cells #[.int .i64 kd,.string a',.string b',.int .u32 n',.slice P5 lf'.length p5,.slice P6 lr'.length p6,.slice P7 ty'.length p7,.slice Q7 vls'.length q7',.slice P9 d'.length p9,.slice P10 ws'.length p10,.slice Q10 ps'.length q10',.slice Q11 fs'.length q11'] 37):=⟨_,rfl⟩
  rw [<-hW5]at HY
  have HX5:Hid (Ext w2 W5):=zh (by rw [hW5];exact ext_alloc _ _)
  have HXX:Hid (Ext (w.alloc (.cells #[.int .i64 kd,.string a,.string b,.int .u32 n,.slice A5 lf.length c5,.slice A6 lr.length c6,.slice A7 ty.length c7,.slice B7 vls.length d7,.slice A9 d.length c9,.slice A10 ws.length c10,.slice B10 ps.length d10,.slice B11 fs.length d11] 37)) W5):=zh ((HXJ.out.trans HX8.out).trans HX5.out)
  have HSY:Hid (SpIn W5 P5 P6 P7 Q7 P9 P10 Q10 Q11 p5 p6 p7 q7' p9 p10 q10' q11' lf' lr' ty' d' vls' ws' ps' fs'):=zh (SpIn.ext ⟨HM'.out.rf.ext HX8.out,HM'.out.rr.ext HX8.out,HM'.out.rt.ext HX8.out,H7'.out,HM'.out.rd.ext HX8.out,HM'.out.rw.ext HX8.out (fun _ _ h=>h),H10'.out,H11'.out⟩ HX5.out)
  rw [<-hW5]
  clear hW5
  cases hst:turnedQ kd
  ·refine wp_region_og (J:=fun x=>Ext W5 x) (R:=Ext) [Sp.eq _ (.bool true),Sp.eq _ (.bool true),Sp.eq _ (.pointer (some ⟨w2.heap.size,0,none⟩)),Sp.eq _ (.int .i64 kd),Sp.eq _ (.pointer (some ⟨w.heap.size,0,none⟩)),Sp.eq _ (.int .i64 kd),Sp.eq _ (.bool true),Sp.eq _ (.bool true),Sp.eq _ (.bool true),Sp.eq _ (.pointer (some ⟨w.heap.size,0,none⟩)),Sp.eq _ (.int .i64 kd),Sp.eq _ (.bool false),Sp.eq _ (.bool true),Sp.eq _ (.bool true),Sp.any _,Sp.any _,Sp.any _,Sp.any _,Sp.any _,Sp.any _,Sp.any _,Sp.eq _ (.bool true),Sp.eq _ (.bool true),Sp.eq _ (.bool true),Sp.eq _ (.agg #[.int .i64 kd,.string a',.string b',.int .u32 n',.slice P5 lf'.length p5,.slice P6 lr'.length p6,.slice P7 ty'.length p7,.slice Q7 vls'.length q7',.slice P9 d'.length p9,.slice P10 ws'.length p10,.slice Q10 ps'.length q10',.slice Q11 fs'.length q11']),spRd R,Sp.eq _ (.string (strOf R)),Sp.eq _ (.agg #[.int .i64 kd,.string a,.string b,.int .u32 n,.slice A5 lf.length c5,.slice A6 lr.length c6,.slice A7 ty.length c7,.slice B7 vls.length d7,.slice A9 d.length c9,.slice A10 ws.length c10,.slice B10 ps.length d10,.slice B11 fs.length d11]),spRd R,Sp.eq _ (.string (strOf R)),Sp.eq _ (.bool true),Sp.eq _ (.bool true),Sp.eq _ (.bool true)] (by kernel_rfl) (by kernel_rfl) (by kernel_rfl) (by kernel_rfl) ?_ ?_ ?_
   ·exact(Ext.refl W5).drew
   ·refine⟨?_,?_,?_,?_,?_,?_,?_,?_,?_,?_,?_,?_,?_,?_,?_,?_,?_,?_,?_,?_,?_,?_,?_,?_,?_,?_,?_,?_,?_,?_,?_,?_,?_,trivial⟩
    ·intro vs w1 hJ hp
     have HJ:=zh hJ
     clear hp hJ
     simp only [putAll,Nat.reduceAdd]
     go_wp2
     exact⟨rfl,HJ.out,zr,rfl⟩
    ·intro vs w1 hJ hp
     have q0:vs 0=.bool true:=zd hp 0
     have HJ:=zh hJ
     clear hp hJ
     simp only [putAll,Nat.reduceAdd]
     go_wp2
     exact⟨rfl,HJ.out,zr,rfl⟩
    ·intro vs w1 hJ hp
     have q1:vs 1=.bool true:=zd hp 1
     have HJ:=zh hJ
     clear hp hJ
     simp only [putAll,Nat.reduceAdd]
     go_wp2
     exact⟨rfl,HJ.out,zr,rfl⟩
    ·intro vs w1 hJ hp
     have q1:vs 1=.bool true:=zd hp 1
     have q2:vs 2=.pointer (some ⟨w2.heap.size,0,none⟩):=zd hp 2
     have HJ:=zh hJ
     have hq:=hJ.cell (zc HY.out 0 (.int .i64 kd) rfl)
     clear hp hJ
     simp only [putAll,Nat.reduceAdd]
     go_wp2
     exact⟨rfl,HJ.out,zr,rfl⟩
    ·intro vs w1 hJ hp
     have q1:vs 1=.bool true:=zd hp 1
     have HJ:=zh hJ
     clear hp hJ
     simp only [putAll,Nat.reduceAdd]
     go_wp2
     exact⟨rfl,HJ.out,zr,rfl⟩
    ·intro vs w1 hJ hp
     have q1:vs 1=.bool true:=zd hp 1
     have q4:vs 4=.pointer (some ⟨w.heap.size,0,none⟩):=zd hp 4
     have HJ:=zh hJ
     have hq:=(HXX.out.trans hJ).cell (zc HBX.out 0 (.int .i64 kd) rfl)
     clear hp hJ
     simp only [putAll,Nat.reduceAdd]
     go_wp2
     exact⟨rfl,HJ.out,zr,rfl⟩
    ·intro vs w1 hJ hp
     have q1:vs 1=.bool true:=zd hp 1
     have q3:vs 3=.int .i64 kd:=zd hp 3
     have q5:vs 5=.int .i64 kd:=zd hp 5
     have HJ:=zh hJ
     have hkk:(kd == kd)=true:=beq_self_eq_true kd
     clear hp hJ
     simp only [putAll,Nat.reduceAdd]
     go_wp2
     exact⟨rfl,HJ.out,zr,rfl⟩
    ·intro vs w1 hJ hp
     have q1:vs 1=.bool true:=zd hp 1
     have q6:vs 6=.bool true:=zd hp 6
     have HJ:=zh hJ
     clear hp hJ
     simp only [putAll,Nat.reduceAdd]
     go_wp2
     exact⟨rfl,HJ.out,zr,rfl⟩
    ·intro vs w1 hJ hp
     have q1:vs 1=.bool true:=zd hp 1
     have q7:vs 7=.bool true:=zd hp 7
     have HJ:=zh hJ
     clear hp hJ
     simp only [putAll,Nat.reduceAdd]
     go_wp2
     exact⟨rfl,HJ.out,zr,rfl⟩
    ·intro vs w1 hJ hp
     have q8:vs 8=.bool true:=zd hp 8
     have HJ:=zh hJ
     clear hp hJ
     simp only [putAll,Nat.reduceAdd]
     go_wp2
     exact⟨rfl,HJ.out,zr,rfl⟩
    ·intro vs w1 hJ hp
     have q8:vs 8=.bool true:=zd hp 8
     have q9:vs 9=.pointer (some ⟨w.heap.size,0,none⟩):=zd hp 9
     have HJ:=zh hJ
     have hq:=(HXX.out.trans hJ).cell (zc HBX.out 0 (.int .i64 kd) rfl)
     clear hp hJ
     simp only [putAll,Nat.reduceAdd]
     go_wp2
     exact⟨rfl,HJ.out,zr,rfl⟩
    ·intro vs w1 hJ hp
     have q8:vs 8=.bool true:=zd hp 8
     have q10:vs 10=.int .i64 kd:=zd hp 10
     have HJ:=zh hJ
     clear hp hJ
     simp only [putAll,Nat.reduceAdd]
     go_wp2_with (go_at_call 12;refine(turned12 kd _).mono ?_;rintro e w4 ⟨rfl,hw4⟩;subst hw4;rw [hst])
     exact⟨rfl,HJ.out,zr,rfl⟩
    ·intro vs w1 hJ hp
     have q8:vs 8=.bool true:=zd hp 8
     have q11:vs 11=.bool false:=zd hp 11
     have HJ:=zh hJ
     clear hp hJ
     simp only [putAll,Nat.reduceAdd]
     go_wp2
     exact⟨rfl,HJ.out,zr,rfl⟩
    ·intro vs w1 hJ hp
     have q8:vs 8=.bool true:=zd hp 8
     have q11:vs 11=.bool false:=zd hp 11
     have q12:vs 12=.bool true:=zd hp 12
     have HJ:=zh hJ
     clear hp hJ
     simp only [putAll,Nat.reduceAdd]
     go_wp2
     exact⟨rfl,HJ.out,zr,rfl⟩
    ·intro vs w1 hJ hp
     have q13:vs 13=.bool true:=zd hp 13
     have HJ:=zh hJ
     clear hp hJ
     simp only [putAll,Nat.reduceAdd]
     go_wp2
     exact⟨rfl,HJ.out,zr,trivial⟩
    ·intro vs w1 hJ hp
     have q13:vs 13=.bool true:=zd hp 13
     have HJ:=zh hJ
     clear hp hJ
     simp only [putAll,Nat.reduceAdd]
     go_wp2
     exact⟨rfl,HJ.out,zr,trivial⟩
    ·intro vs w1 hJ hp
     have q13:vs 13=.bool true:=zd hp 13
     have HJ:=zh hJ
     clear hp hJ
     simp only [putAll,Nat.reduceAdd]
     go_wp2
     exact⟨rfl,HJ.out,zr,trivial⟩
    ·intro vs w1 hJ hp
     have q13:vs 13=.bool true:=zd hp 13
     have HJ:=zh hJ
     clear hp hJ
     simp only [putAll,Nat.reduceAdd]
     go_wp2
     exact⟨rfl,HJ.out,zr,trivial⟩
    ·intro vs w1 hJ hp
     have q13:vs 13=.bool true:=zd hp 13
     have HJ:=zh hJ
     clear hp hJ
     simp only [putAll,Nat.reduceAdd]
     go_wp2
     exact⟨rfl,HJ.out,zr,trivial⟩
    ·intro vs w1 hJ hp
     have q13:vs 13=.bool true:=zd hp 13
     have HJ:=zh hJ
     clear hp hJ
     simp only [putAll,Nat.reduceAdd]
     go_wp2
     exact⟨rfl,HJ.out,zr,trivial⟩
    ·intro vs w1 hJ hp
     have q13:vs 13=.bool true:=zd hp 13
     have HJ:=zh hJ
     clear hp hJ
     simp only [putAll,Nat.reduceAdd]
     go_wp2
     exact⟨rfl,HJ.out,zr,trivial⟩
    ·intro vs w1 hJ hp
     have q8:vs 8=.bool true:=zd hp 8
     have q13:vs 13=.bool true:=zd hp 13
     have HJ:=zh hJ
     clear hp hJ
     simp only [putAll,Nat.reduceAdd]
     go_wp2
     exact⟨rfl,HJ.out,zr,rfl⟩
    ·intro vs w1 hJ hp
     have q8:vs 8=.bool true:=zd hp 8
     have q21:vs 21=.bool true:=zd hp 21
     have HJ:=zh hJ
     clear hp hJ
     simp only [putAll,Nat.reduceAdd]
     go_wp2
     exact⟨rfl,HJ.out,zr,rfl⟩
    ·intro vs w1 hJ hp
     have q13:vs 13=.bool true:=zd hp 13
     have q22:vs 22=.bool true:=zd hp 22
     have HJ:=zh hJ
     clear hp hJ
     simp only [putAll,Nat.reduceAdd]
     go_wp2
     exact⟨rfl,HJ.out,zr,rfl⟩
    ·intro vs w1 hJ hp
     have q23:vs 23=.bool true:=zd hp 23
     have HJ:=zh hJ
     have hq0':=hJ.cell (zc HY.out 0 (.int .i64 kd) rfl)
     have hq1':=hJ.cell (zc HY.out 1 (.string a') rfl)
     have hq2':=hJ.cell (zc HY.out 2 (.string b') rfl)
     have hq3':=hJ.cell (zc HY.out 3 (.int .u32 n') rfl)
     have hq4':=hJ.cell (zc HY.out 4 (.slice P5 lf'.length p5) rfl)
     have hq5':=hJ.cell (zc HY.out 5 (.slice P6 lr'.length p6) rfl)
     have hq6':=hJ.cell (zc HY.out 6 (.slice P7 ty'.length p7) rfl)
     have hq7':=hJ.cell (zc HY.out 7 (.slice Q7 vls'.length q7') rfl)
     have hq8':=hJ.cell (zc HY.out 8 (.slice P9 d'.length p9) rfl)
     have hq9':=hJ.cell (zc HY.out 9 (.slice P10 ws'.length p10) rfl)
     have hq10':=hJ.cell (zc HY.out 10 (.slice Q10 ps'.length q10') rfl)
     have hq11':=hJ.cell (zc HY.out 11 (.slice Q11 fs'.length q11') rfl)
     clear hp hJ
     simp only [putAll,Nat.reduceAdd]
     go_wp2
     exact⟨rfl,HJ.out,zr,rfl⟩
    ·intro vs w1 hJ hp
     have q23:vs 23=.bool true:=zd hp 23
     have q24:vs 24=.agg #[.int .i64 kd,.string a',.string b',.int .u32 n',.slice P5 lf'.length p5,.slice P6 lr'.length p6,.slice P7 ty'.length p7,.slice Q7 vls'.length q7',.slice P9 d'.length p9,.slice P10 ws'.length p10,.slice Q10 ps'.length q10',.slice Q11 fs'.length q11']:=zd hp 24
     have HJ:=zh hJ
     clear hp hJ
     simp only [putAll,Nat.reduceAdd]
     go_wp2_with (go_at_call 15;refine(HBY.out Q7 Q10 Q11 q7' q10' q11' _ (HSY.out.ext HJ.out)).mono ?_;rintro e w2' hg;obtain⟨A',c',rfl,hx,hr⟩:=hg.elim;have HX':=zh hx;have HR':=zh hr;clear hx hr hg)
     exact⟨rfl,HJ.out.trans HX'.out,HX'.out,HR'.out⟩
    ·intro vs w1 hJ hp
     have q23:vs 23=.bool true:=zd hp 23
     have q25:RdB w1 (vs 25) R:=zd hp 25
     have HJ:=zh hJ
     have hcv:(convert 26 9 (vs 25)).run Tryz.prog w1=.ok (.string (strOf R)) w1:=conv_rd q25
     clear q25
     clear hp hJ
     simp only [putAll,Nat.reduceAdd]
     go_wp2
     exact⟨rfl,HJ.out,zr,rfl⟩
    ·intro vs w1 hJ hp
     have q23:vs 23=.bool true:=zd hp 23
     have HJ:=zh hJ
     have hq0':=(HXX.out.trans hJ).cell (zc HBX.out 0 (.int .i64 kd) rfl)
     have hq1':=(HXX.out.trans hJ).cell (zc HBX.out 1 (.string a) rfl)
     have hq2':=(HXX.out.trans hJ).cell (zc HBX.out 2 (.string b) rfl)
     have hq3':=(HXX.out.trans hJ).cell (zc HBX.out 3 (.int .u32 n) rfl)
     have hq4':=(HXX.out.trans hJ).cell (zc HBX.out 4 (.slice A5 lf.length c5) rfl)
     have hq5':=(HXX.out.trans hJ).cell (zc HBX.out 5 (.slice A6 lr.length c6) rfl)
     have hq6':=(HXX.out.trans hJ).cell (zc HBX.out 6 (.slice A7 ty.length c7) rfl)
     have hq7':=(HXX.out.trans hJ).cell (zc HBX.out 7 (.slice B7 vls.length d7) rfl)
     have hq8':=(HXX.out.trans hJ).cell (zc HBX.out 8 (.slice A9 d.length c9) rfl)
     have hq9':=(HXX.out.trans hJ).cell (zc HBX.out 9 (.slice A10 ws.length c10) rfl)
     have hq10':=(HXX.out.trans hJ).cell (zc HBX.out 10 (.slice B10 ps.length d10) rfl)
     have hq11':=(HXX.out.trans hJ).cell (zc HBX.out 11 (.slice B11 fs.length d11) rfl)
     clear hp hJ
     simp only [putAll,Nat.reduceAdd]
     go_wp2
     exact⟨rfl,HJ.out,zr,rfl⟩
    ·intro vs w1 hJ hp
     have q23:vs 23=.bool true:=zd hp 23
     have q25:RdB w1 (vs 25) R:=zd hp 25
     have q27:vs 27=.agg #[.int .i64 kd,.string a,.string b,.int .u32 n,.slice A5 lf.length c5,.slice A6 lr.length c6,.slice A7 ty.length c7,.slice B7 vls.length d7,.slice A9 d.length c9,.slice A10 ws.length c10,.slice B10 ps.length d10,.slice B11 fs.length d11]:=zd hp 27
     have HJ:=zh hJ
     clear hp hJ
     simp only [putAll,Nat.reduceAdd]
     go_wp2_with (go_at_call 15;refine(HDD.out.all _ (HX0.out.trans (HXX.out.trans HJ.out))).mono ?_;rintro e w2' hg;obtain⟨A',c',rfl,hx,hr⟩:=hg.elim;have HX':=zh hx;have HR':=zh hr;clear hx hr hg)
     exact⟨rfl,HJ.out.trans HX'.out,HX'.out,HR'.out⟩
    ·intro vs w1 hJ hp
     have q23:vs 23=.bool true:=zd hp 23
     have q28:RdB w1 (vs 28) R:=zd hp 28
     have HJ:=zh hJ
     have hcv:(convert 26 9 (vs 28)).run Tryz.prog w1=.ok (.string (strOf R)) w1:=conv_rd q28
     clear q28
     clear hp hJ
     simp only [putAll,Nat.reduceAdd]
     go_wp2
     exact⟨rfl,HJ.out,zr,rfl⟩
    ·intro vs w1 hJ hp
     have q23:vs 23=.bool true:=zd hp 23
     have q26:vs 26=.string (strOf R):=zd hp 26
     have q29:vs 29=.string (strOf R):=zd hp 29
     have HJ:=zh hJ
     clear hp hJ
     simp only [putAll,Nat.reduceAdd]
     go_wp2
     exact⟨rfl,HJ.out,zr,rfl⟩
    ·intro vs w1 hJ hp
     have q23:vs 23=.bool true:=zd hp 23
     have q30:vs 30=.bool true:=zd hp 30
     have HJ:=zh hJ
     clear hp hJ
     simp only [putAll,Nat.reduceAdd]
     go_wp2
     exact⟨rfl,HJ.out,zr,rfl⟩
    ·intro vs w1 hJ hp
     have q0:vs 0=.bool true:=zd hp 0
     have q1:vs 1=.bool true:=zd hp 1
     have q2:vs 2=.pointer (some ⟨w2.heap.size,0,none⟩):=zd hp 2
     have q3:vs 3=.int .i64 kd:=zd hp 3
     have q4:vs 4=.pointer (some ⟨w.heap.size,0,none⟩):=zd hp 4
     have q5:vs 5=.int .i64 kd:=zd hp 5
     have q6:vs 6=.bool true:=zd hp 6
     have q7:vs 7=.bool true:=zd hp 7
     have q8:vs 8=.bool true:=zd hp 8
     have q9:vs 9=.pointer (some ⟨w.heap.size,0,none⟩):=zd hp 9
     have q10:vs 10=.int .i64 kd:=zd hp 10
     have q11:vs 11=.bool false:=zd hp 11
     have q12:vs 12=.bool true:=zd hp 12
     have q13:vs 13=.bool true:=zd hp 13
     have q21:vs 21=.bool true:=zd hp 21
     have q22:vs 22=.bool true:=zd hp 22
     have q23:vs 23=.bool true:=zd hp 23
     have q24:vs 24=.agg #[.int .i64 kd,.string a',.string b',.int .u32 n',.slice P5 lf'.length p5,.slice P6 lr'.length p6,.slice P7 ty'.length p7,.slice Q7 vls'.length q7',.slice P9 d'.length p9,.slice P10 ws'.length p10,.slice Q10 ps'.length q10',.slice Q11 fs'.length q11']:=zd hp 24
     have q25:RdB w1 (vs 25) R:=zd hp 25
     have q26:vs 26=.string (strOf R):=zd hp 26
     have q27:vs 27=.agg #[.int .i64 kd,.string a,.string b,.int .u32 n,.slice A5 lf.length c5,.slice A6 lr.length c6,.slice A7 ty.length c7,.slice B7 vls.length d7,.slice A9 d.length c9,.slice A10 ws.length c10,.slice B10 ps.length d10,.slice B11 fs.length d11]:=zd hp 27
     have q28:RdB w1 (vs 28) R:=zd hp 28
     have q29:vs 29=.string (strOf R):=zd hp 29
     have q30:vs 30=.bool true:=zd hp 30
     have q31:vs 31=.bool true:=zd hp 31
     have HJ:=zh hJ
     clear q25
     clear q28
     clear hp hJ
     simp only [putAll,Nat.reduceAdd]
     go_wp2
     exact⟨rfl,HJ.out,zr,rfl⟩
   ·intro vs w1 hJ hp
    have q0:vs 0=.bool true:=zd hp 0
    have q1:vs 1=.bool true:=zd hp 1
    have q2:vs 2=.pointer (some ⟨w2.heap.size,0,none⟩):=zd hp 2
    have q3:vs 3=.int .i64 kd:=zd hp 3
    have q4:vs 4=.pointer (some ⟨w.heap.size,0,none⟩):=zd hp 4
    have q5:vs 5=.int .i64 kd:=zd hp 5
    have q6:vs 6=.bool true:=zd hp 6
    have q7:vs 7=.bool true:=zd hp 7
    have q8:vs 8=.bool true:=zd hp 8
    have q9:vs 9=.pointer (some ⟨w.heap.size,0,none⟩):=zd hp 9
    have q10:vs 10=.int .i64 kd:=zd hp 10
    have q11:vs 11=.bool false:=zd hp 11
    have q12:vs 12=.bool true:=zd hp 12
    have q13:vs 13=.bool true:=zd hp 13
    have q21:vs 21=.bool true:=zd hp 21
    have q22:vs 22=.bool true:=zd hp 22
    have q23:vs 23=.bool true:=zd hp 23
    have q24:vs 24=.agg #[.int .i64 kd,.string a',.string b',.int .u32 n',.slice P5 lf'.length p5,.slice P6 lr'.length p6,.slice P7 ty'.length p7,.slice Q7 vls'.length q7',.slice P9 d'.length p9,.slice P10 ws'.length p10,.slice Q10 ps'.length q10',.slice Q11 fs'.length q11']:=zd hp 24
    have q26:vs 26=.string (strOf R):=zd hp 26
    have q27:vs 27=.agg #[.int .i64 kd,.string a,.string b,.int .u32 n,.slice A5 lf.length c5,.slice A6 lr.length c6,.slice A7 ty.length c7,.slice B7 vls.length d7,.slice A9 d.length c9,.slice A10 ws.length c10,.slice B10 ps.length d10,.slice B11 fs.length d11]:=zd hp 27
    have q29:vs 29=.string (strOf R):=zd hp 29
    have q30:vs 30=.bool true:=zd hp 30
    have q31:vs 31=.bool true:=zd hp 31
    have q32:vs 32=.bool true:=zd hp 32
    have HJ:=zh hJ
    clear hJ hp
    simp only [putAll,Nat.reduceAdd]
    simp only [Exit.then]
    go_at_K
    simp only [Act.put,q0,q1,q2,q3,q4,q5,q6,q7,q8,q9,q10,q11,q12,q13,q21,q22,q23,q24,q26,q27,q29,q30,q31,q32,List.setIfInBounds_toArray,List.set_cons_zero,List.set_cons_succ]
    go_wp2
    go_ret
    exact⟨rfl,HX0.out.trans (HXX.out.trans HJ.out)⟩
  ·refine wp_region_og (J:=fun x=>Ext W5 x) (R:=Ext) [Sp.eq _ (.bool true),Sp.eq _ (.bool true),Sp.eq _ (.pointer (some ⟨w2.heap.size,0,none⟩)),Sp.eq _ (.int .i64 kd),Sp.eq _ (.pointer (some ⟨w.heap.size,0,none⟩)),Sp.eq _ (.int .i64 kd),Sp.eq _ (.bool true),Sp.eq _ (.bool true),Sp.eq _ (.bool true),Sp.eq _ (.pointer (some ⟨w.heap.size,0,none⟩)),Sp.eq _ (.int .i64 kd),Sp.eq _ (.bool true),Sp.eq _ (.bool false),Sp.eq _ (.bool false),Sp.eq _ (.pointer (some ⟨w2.heap.size,10,none⟩)),Sp.eq _ (.slice Q10 ps'.length q10'),Sp.eq _ (.int .i64 (ps'.length:Int)),Sp.eq _ (.pointer (some ⟨w.heap.size,10,none⟩)),Sp.eq _ (.slice B10 ps.length d10),Sp.eq _ (.int .i64 (ps.length:Int)),Sp.eq _ (.bool true),Sp.eq _ (.bool true),Sp.eq _ (.bool true),Sp.eq _ (.bool true),Sp.eq _ (.agg #[.int .i64 kd,.string a',.string b',.int .u32 n',.slice P5 lf'.length p5,.slice P6 lr'.length p6,.slice P7 ty'.length p7,.slice Q7 vls'.length q7',.slice P9 d'.length p9,.slice P10 ws'.length p10,.slice Q10 ps'.length q10',.slice Q11 fs'.length q11']),spRd R,Sp.eq _ (.string (strOf R)),Sp.eq _ (.agg #[.int .i64 kd,.string a,.string b,.int .u32 n,.slice A5 lf.length c5,.slice A6 lr.length c6,.slice A7 ty.length c7,.slice B7 vls.length d7,.slice A9 d.length c9,.slice A10 ws.length c10,.slice B10 ps.length d10,.slice B11 fs.length d11]),spRd R,Sp.eq _ (.string (strOf R)),Sp.eq _ (.bool true),Sp.eq _ (.bool true),Sp.eq _ (.bool true)] (by kernel_rfl) (by kernel_rfl) (by kernel_rfl) (by kernel_rfl) ?_ ?_ ?_
   ·exact(Ext.refl W5).drew
   ·refine⟨?_,?_,?_,?_,?_,?_,?_,?_,?_,?_,?_,?_,?_,?_,?_,?_,?_,?_,?_,?_,?_,?_,?_,?_,?_,?_,?_,?_,?_,?_,?_,?_,?_,trivial⟩
    ·intro vs w1 hJ hp
     have HJ:=zh hJ
     clear hp hJ
     simp only [putAll,Nat.reduceAdd]
     go_wp2
     exact⟨rfl,HJ.out,zr,rfl⟩
    ·intro vs w1 hJ hp
     have q0:vs 0=.bool true:=zd hp 0
     have HJ:=zh hJ
     clear hp hJ
     simp only [putAll,Nat.reduceAdd]
     go_wp2
     exact⟨rfl,HJ.out,zr,rfl⟩
    ·intro vs w1 hJ hp
     have q1:vs 1=.bool true:=zd hp 1
     have HJ:=zh hJ
     clear hp hJ
     simp only [putAll,Nat.reduceAdd]
     go_wp2
     exact⟨rfl,HJ.out,zr,rfl⟩
    ·intro vs w1 hJ hp
     have q1:vs 1=.bool true:=zd hp 1
     have q2:vs 2=.pointer (some ⟨w2.heap.size,0,none⟩):=zd hp 2
     have HJ:=zh hJ
     have hq:=hJ.cell (zc HY.out 0 (.int .i64 kd) rfl)
     clear hp hJ
     simp only [putAll,Nat.reduceAdd]
     go_wp2
     exact⟨rfl,HJ.out,zr,rfl⟩
    ·intro vs w1 hJ hp
     have q1:vs 1=.bool true:=zd hp 1
     have HJ:=zh hJ
     clear hp hJ
     simp only [putAll,Nat.reduceAdd]
     go_wp2
     exact⟨rfl,HJ.out,zr,rfl⟩
    ·intro vs w1 hJ hp
     have q1:vs 1=.bool true:=zd hp 1
     have q4:vs 4=.pointer (some ⟨w.heap.size,0,none⟩):=zd hp 4
     have HJ:=zh hJ
     have hq:=(HXX.out.trans hJ).cell (zc HBX.out 0 (.int .i64 kd) rfl)
     clear hp hJ
     simp only [putAll,Nat.reduceAdd]
     go_wp2
     exact⟨rfl,HJ.out,zr,rfl⟩
    ·intro vs w1 hJ hp
     have q1:vs 1=.bool true:=zd hp 1
     have q3:vs 3=.int .i64 kd:=zd hp 3
     have q5:vs 5=.int .i64 kd:=zd hp 5
     have HJ:=zh hJ
     have hkk:(kd == kd)=true:=beq_self_eq_true kd
     clear hp hJ
     simp only [putAll,Nat.reduceAdd]
     go_wp2
     exact⟨rfl,HJ.out,zr,rfl⟩
    ·intro vs w1 hJ hp
     have q1:vs 1=.bool true:=zd hp 1
     have q6:vs 6=.bool true:=zd hp 6
     have HJ:=zh hJ
     clear hp hJ
     simp only [putAll,Nat.reduceAdd]
     go_wp2
     exact⟨rfl,HJ.out,zr,rfl⟩
    ·intro vs w1 hJ hp
     have q1:vs 1=.bool true:=zd hp 1
     have q7:vs 7=.bool true:=zd hp 7
     have HJ:=zh hJ
     clear hp hJ
     simp only [putAll,Nat.reduceAdd]
     go_wp2
     exact⟨rfl,HJ.out,zr,rfl⟩
    ·intro vs w1 hJ hp
     have q8:vs 8=.bool true:=zd hp 8
     have HJ:=zh hJ
     clear hp hJ
     simp only [putAll,Nat.reduceAdd]
     go_wp2
     exact⟨rfl,HJ.out,zr,rfl⟩
    ·intro vs w1 hJ hp
     have q8:vs 8=.bool true:=zd hp 8
     have q9:vs 9=.pointer (some ⟨w.heap.size,0,none⟩):=zd hp 9
     have HJ:=zh hJ
     have hq:=(HXX.out.trans hJ).cell (zc HBX.out 0 (.int .i64 kd) rfl)
     clear hp hJ
     simp only [putAll,Nat.reduceAdd]
     go_wp2
     exact⟨rfl,HJ.out,zr,rfl⟩
    ·intro vs w1 hJ hp
     have q8:vs 8=.bool true:=zd hp 8
     have q10:vs 10=.int .i64 kd:=zd hp 10
     have HJ:=zh hJ
     clear hp hJ
     simp only [putAll,Nat.reduceAdd]
     go_wp2_with (go_at_call 12;refine(turned12 kd _).mono ?_;rintro e w4 ⟨rfl,hw4⟩;subst hw4;rw [hst])
     exact⟨rfl,HJ.out,zr,rfl⟩
    ·intro vs w1 hJ hp
     have q8:vs 8=.bool true:=zd hp 8
     have q11:vs 11=.bool true:=zd hp 11
     have HJ:=zh hJ
     clear hp hJ
     simp only [putAll,Nat.reduceAdd]
     go_wp2
     exact⟨rfl,HJ.out,zr,rfl⟩
    ·intro vs w1 hJ hp
     have q8:vs 8=.bool true:=zd hp 8
     have q11:vs 11=.bool true:=zd hp 11
     have q12:vs 12=.bool false:=zd hp 12
     have HJ:=zh hJ
     clear hp hJ
     simp only [putAll,Nat.reduceAdd]
     go_wp2
     exact⟨rfl,HJ.out,zr,rfl⟩
    ·intro vs w1 hJ hp
     have q13:vs 13=.bool false:=zd hp 13
     have HJ:=zh hJ
     clear hp hJ
     simp only [putAll,Nat.reduceAdd]
     go_wp2
     exact⟨rfl,HJ.out,zr,rfl⟩
    ·intro vs w1 hJ hp
     have q13:vs 13=.bool false:=zd hp 13
     have q14:vs 14=.pointer (some ⟨w2.heap.size,10,none⟩):=zd hp 14
     have HJ:=zh hJ
     have hq:=hJ.cell (zc HY.out 10 (.slice Q10 ps'.length q10') rfl)
     clear hp hJ
     simp only [putAll,Nat.reduceAdd]
     go_wp2
     exact⟨rfl,HJ.out,zr,rfl⟩
    ·intro vs w1 hJ hp
     have q13:vs 13=.bool false:=zd hp 13
     have q15:vs 15=.slice Q10 ps'.length q10':=zd hp 15
     have HJ:=zh hJ
     clear hp hJ
     simp only [putAll,Nat.reduceAdd]
     go_wp2
     exact⟨rfl,HJ.out,zr,rfl⟩
    ·intro vs w1 hJ hp
     have q13:vs 13=.bool false:=zd hp 13
     have HJ:=zh hJ
     clear hp hJ
     simp only [putAll,Nat.reduceAdd]
     go_wp2
     exact⟨rfl,HJ.out,zr,rfl⟩
    ·intro vs w1 hJ hp
     have q13:vs 13=.bool false:=zd hp 13
     have q17:vs 17=.pointer (some ⟨w.heap.size,10,none⟩):=zd hp 17
     have HJ:=zh hJ
     have hq:=(HXX.out.trans hJ).cell (zc HBX.out 10 (.slice B10 ps.length d10) rfl)
     clear hp hJ
     simp only [putAll,Nat.reduceAdd]
     go_wp2
     exact⟨rfl,HJ.out,zr,rfl⟩
    ·intro vs w1 hJ hp
     have q13:vs 13=.bool false:=zd hp 13
     have q18:vs 18=.slice B10 ps.length d10:=zd hp 18
     have HJ:=zh hJ
     clear hp hJ
     simp only [putAll,Nat.reduceAdd]
     go_wp2
     exact⟨rfl,HJ.out,zr,rfl⟩
    ·intro vs w1 hJ hp
     have q13:vs 13=.bool false:=zd hp 13
     have q16:vs 16=.int .i64 (ps'.length:Int):=zd hp 16
     have q19:vs 19=.int .i64 (ps.length:Int):=zd hp 19
     have HJ:=zh hJ
     have hll:((ps'.length:Int) == (ps.length:Int))=true:=by rw [HNPX.out hst];exact beq_self_eq_true _
     clear hp hJ
     simp only [putAll,Nat.reduceAdd]
     go_wp2
     exact⟨rfl,HJ.out,zr,rfl⟩
    ·intro vs w1 hJ hp
     have q8:vs 8=.bool true:=zd hp 8
     have q13:vs 13=.bool false:=zd hp 13
     have q20:vs 20=.bool true:=zd hp 20
     have HJ:=zh hJ
     clear hp hJ
     simp only [putAll,Nat.reduceAdd]
     go_wp2
     exact⟨rfl,HJ.out,zr,rfl⟩
    ·intro vs w1 hJ hp
     have q8:vs 8=.bool true:=zd hp 8
     have q21:vs 21=.bool true:=zd hp 21
     have HJ:=zh hJ
     clear hp hJ
     simp only [putAll,Nat.reduceAdd]
     go_wp2
     exact⟨rfl,HJ.out,zr,rfl⟩
    ·intro vs w1 hJ hp
     have q13:vs 13=.bool false:=zd hp 13
     have q22:vs 22=.bool true:=zd hp 22
     have HJ:=zh hJ
     clear hp hJ
     simp only [putAll,Nat.reduceAdd]
     go_wp2
     exact⟨rfl,HJ.out,zr,rfl⟩
    ·intro vs w1 hJ hp
     have q23:vs 23=.bool true:=zd hp 23
     have HJ:=zh hJ
     have hq0':=hJ.cell (zc HY.out 0 (.int .i64 kd) rfl)
     have hq1':=hJ.cell (zc HY.out 1 (.string a') rfl)
     have hq2':=hJ.cell (zc HY.out 2 (.string b') rfl)
     have hq3':=hJ.cell (zc HY.out 3 (.int .u32 n') rfl)
     have hq4':=hJ.cell (zc HY.out 4 (.slice P5 lf'.length p5) rfl)
     have hq5':=hJ.cell (zc HY.out 5 (.slice P6 lr'.length p6) rfl)
     have hq6':=hJ.cell (zc HY.out 6 (.slice P7 ty'.length p7) rfl)
     have hq7':=hJ.cell (zc HY.out 7 (.slice Q7 vls'.length q7') rfl)
     have hq8':=hJ.cell (zc HY.out 8 (.slice P9 d'.length p9) rfl)
     have hq9':=hJ.cell (zc HY.out 9 (.slice P10 ws'.length p10) rfl)
     have hq10':=hJ.cell (zc HY.out 10 (.slice Q10 ps'.length q10') rfl)
     have hq11':=hJ.cell (zc HY.out 11 (.slice Q11 fs'.length q11') rfl)
     clear hp hJ
     simp only [putAll,Nat.reduceAdd]
     go_wp2
     exact⟨rfl,HJ.out,zr,rfl⟩
    ·intro vs w1 hJ hp
     have q23:vs 23=.bool true:=zd hp 23
     have q24:vs 24=.agg #[.int .i64 kd,.string a',.string b',.int .u32 n',.slice P5 lf'.length p5,.slice P6 lr'.length p6,.slice P7 ty'.length p7,.slice Q7 vls'.length q7',.slice P9 d'.length p9,.slice P10 ws'.length p10,.slice Q10 ps'.length q10',.slice Q11 fs'.length q11']:=zd hp 24
     have HJ:=zh hJ
     clear hp hJ
     simp only [putAll,Nat.reduceAdd]
     go_wp2_with (go_at_call 15;refine(HBY.out Q7 Q10 Q11 q7' q10' q11' _ (HSY.out.ext HJ.out)).mono ?_;rintro e w2' hg;obtain⟨A',c',rfl,hx,hr⟩:=hg.elim;have HX':=zh hx;have HR':=zh hr;clear hx hr hg)
     exact⟨rfl,HJ.out.trans HX'.out,HX'.out,HR'.out⟩
    ·intro vs w1 hJ hp
     have q23:vs 23=.bool true:=zd hp 23
     have q25:RdB w1 (vs 25) R:=zd hp 25
     have HJ:=zh hJ
     have hcv:(convert 26 9 (vs 25)).run Tryz.prog w1=.ok (.string (strOf R)) w1:=conv_rd q25
     clear q25
     clear hp hJ
     simp only [putAll,Nat.reduceAdd]
     go_wp2
     exact⟨rfl,HJ.out,zr,rfl⟩
    ·intro vs w1 hJ hp
     have q23:vs 23=.bool true:=zd hp 23
     have HJ:=zh hJ
     have hq0':=(HXX.out.trans hJ).cell (zc HBX.out 0 (.int .i64 kd) rfl)
     have hq1':=(HXX.out.trans hJ).cell (zc HBX.out 1 (.string a) rfl)
     have hq2':=(HXX.out.trans hJ).cell (zc HBX.out 2 (.string b) rfl)
     have hq3':=(HXX.out.trans hJ).cell (zc HBX.out 3 (.int .u32 n) rfl)
     have hq4':=(HXX.out.trans hJ).cell (zc HBX.out 4 (.slice A5 lf.length c5) rfl)
     have hq5':=(HXX.out.trans hJ).cell (zc HBX.out 5 (.slice A6 lr.length c6) rfl)
     have hq6':=(HXX.out.trans hJ).cell (zc HBX.out 6 (.slice A7 ty.length c7) rfl)
     have hq7':=(HXX.out.trans hJ).cell (zc HBX.out 7 (.slice B7 vls.length d7) rfl)
     have hq8':=(HXX.out.trans hJ).cell (zc HBX.out 8 (.slice A9 d.length c9) rfl)
     have hq9':=(HXX.out.trans hJ).cell (zc HBX.out 9 (.slice A10 ws.length c10) rfl)
     have hq10':=(HXX.out.trans hJ).cell (zc HBX.out 10 (.slice B10 ps.length d10) rfl)
     have hq11':=(HXX.out.trans hJ).cell (zc HBX.out 11 (.slice B11 fs.length d11) rfl)
     clear hp hJ
     simp only [putAll,Nat.reduceAdd]
     go_wp2
     exact⟨rfl,HJ.out,zr,rfl⟩
    ·intro vs w1 hJ hp
     have q23:vs 23=.bool true:=zd hp 23
     have q25:RdB w1 (vs 25) R:=zd hp 25
     have q27:vs 27=.agg #[.int .i64 kd,.string a,.string b,.int .u32 n,.slice A5 lf.length c5,.slice A6 lr.length c6,.slice A7 ty.length c7,.slice B7 vls.length d7,.slice A9 d.length c9,.slice A10 ws.length c10,.slice B10 ps.length d10,.slice B11 fs.length d11]:=zd hp 27
     have HJ:=zh hJ
     clear hp hJ
     simp only [putAll,Nat.reduceAdd]
     go_wp2_with (go_at_call 15;refine(HDD.out.all _ (HX0.out.trans (HXX.out.trans HJ.out))).mono ?_;rintro e w2' hg;obtain⟨A',c',rfl,hx,hr⟩:=hg.elim;have HX':=zh hx;have HR':=zh hr;clear hx hr hg)
     exact⟨rfl,HJ.out.trans HX'.out,HX'.out,HR'.out⟩
    ·intro vs w1 hJ hp
     have q23:vs 23=.bool true:=zd hp 23
     have q28:RdB w1 (vs 28) R:=zd hp 28
     have HJ:=zh hJ
     have hcv:(convert 26 9 (vs 28)).run Tryz.prog w1=.ok (.string (strOf R)) w1:=conv_rd q28
     clear q28
     clear hp hJ
     simp only [putAll,Nat.reduceAdd]
     go_wp2
     exact⟨rfl,HJ.out,zr,rfl⟩
    ·intro vs w1 hJ hp
     have q23:vs 23=.bool true:=zd hp 23
     have q26:vs 26=.string (strOf R):=zd hp 26
     have q29:vs 29=.string (strOf R):=zd hp 29
     have HJ:=zh hJ
     clear hp hJ
     simp only [putAll,Nat.reduceAdd]
     go_wp2
     exact⟨rfl,HJ.out,zr,rfl⟩
    ·intro vs w1 hJ hp
     have q23:vs 23=.bool true:=zd hp 23
     have q30:vs 30=.bool true:=zd hp 30
     have HJ:=zh hJ
     clear hp hJ
     simp only [putAll,Nat.reduceAdd]
     go_wp2
     exact⟨rfl,HJ.out,zr,rfl⟩
    ·intro vs w1 hJ hp
     have q0:vs 0=.bool true:=zd hp 0
     have q1:vs 1=.bool true:=zd hp 1
     have q2:vs 2=.pointer (some ⟨w2.heap.size,0,none⟩):=zd hp 2
     have q3:vs 3=.int .i64 kd:=zd hp 3
     have q4:vs 4=.pointer (some ⟨w.heap.size,0,none⟩):=zd hp 4
     have q5:vs 5=.int .i64 kd:=zd hp 5
     have q6:vs 6=.bool true:=zd hp 6
     have q7:vs 7=.bool true:=zd hp 7
     have q8:vs 8=.bool true:=zd hp 8
     have q9:vs 9=.pointer (some ⟨w.heap.size,0,none⟩):=zd hp 9
     have q10:vs 10=.int .i64 kd:=zd hp 10
     have q11:vs 11=.bool true:=zd hp 11
     have q12:vs 12=.bool false:=zd hp 12
     have q13:vs 13=.bool false:=zd hp 13
     have q14:vs 14=.pointer (some ⟨w2.heap.size,10,none⟩):=zd hp 14
     have q15:vs 15=.slice Q10 ps'.length q10':=zd hp 15
     have q16:vs 16=.int .i64 (ps'.length:Int):=zd hp 16
     have q17:vs 17=.pointer (some ⟨w.heap.size,10,none⟩):=zd hp 17
     have q18:vs 18=.slice B10 ps.length d10:=zd hp 18
     have q19:vs 19=.int .i64 (ps.length:Int):=zd hp 19
     have q20:vs 20=.bool true:=zd hp 20
     have q21:vs 21=.bool true:=zd hp 21
     have q22:vs 22=.bool true:=zd hp 22
     have q23:vs 23=.bool true:=zd hp 23
     have q24:vs 24=.agg #[.int .i64 kd,.string a',.string b',.int .u32 n',.slice P5 lf'.length p5,.slice P6 lr'.length p6,.slice P7 ty'.length p7,.slice Q7 vls'.length q7',.slice P9 d'.length p9,.slice P10 ws'.length p10,.slice Q10 ps'.length q10',.slice Q11 fs'.length q11']:=zd hp 24
     have q25:RdB w1 (vs 25) R:=zd hp 25
     have q26:vs 26=.string (strOf R):=zd hp 26
     have q27:vs 27=.agg #[.int .i64 kd,.string a,.string b,.int .u32 n,.slice A5 lf.length c5,.slice A6 lr.length c6,.slice A7 ty.length c7,.slice B7 vls.length d7,.slice A9 d.length c9,.slice A10 ws.length c10,.slice B10 ps.length d10,.slice B11 fs.length d11]:=zd hp 27
     have q28:RdB w1 (vs 28) R:=zd hp 28
     have q29:vs 29=.string (strOf R):=zd hp 29
     have q30:vs 30=.bool true:=zd hp 30
     have q31:vs 31=.bool true:=zd hp 31
     have HJ:=zh hJ
     clear q25
     clear q28
     clear hp hJ
     simp only [putAll,Nat.reduceAdd]
     go_wp2
     exact⟨rfl,HJ.out,zr,rfl⟩
   ·intro vs w1 hJ hp
    have q0:vs 0=.bool true:=zd hp 0
    have q1:vs 1=.bool true:=zd hp 1
    have q2:vs 2=.pointer (some ⟨w2.heap.size,0,none⟩):=zd hp 2
    have q3:vs 3=.int .i64 kd:=zd hp 3
    have q4:vs 4=.pointer (some ⟨w.heap.size,0,none⟩):=zd hp 4
    have q5:vs 5=.int .i64 kd:=zd hp 5
    have q6:vs 6=.bool true:=zd hp 6
    have q7:vs 7=.bool true:=zd hp 7
    have q8:vs 8=.bool true:=zd hp 8
    have q9:vs 9=.pointer (some ⟨w.heap.size,0,none⟩):=zd hp 9
    have q10:vs 10=.int .i64 kd:=zd hp 10
    have q11:vs 11=.bool true:=zd hp 11
    have q12:vs 12=.bool false:=zd hp 12
    have q13:vs 13=.bool false:=zd hp 13
    have q14:vs 14=.pointer (some ⟨w2.heap.size,10,none⟩):=zd hp 14
    have q15:vs 15=.slice Q10 ps'.length q10':=zd hp 15
    have q16:vs 16=.int .i64 (ps'.length:Int):=zd hp 16
    have q17:vs 17=.pointer (some ⟨w.heap.size,10,none⟩):=zd hp 17
    have q18:vs 18=.slice B10 ps.length d10:=zd hp 18
    have q19:vs 19=.int .i64 (ps.length:Int):=zd hp 19
    have q20:vs 20=.bool true:=zd hp 20
    have q21:vs 21=.bool true:=zd hp 21
    have q22:vs 22=.bool true:=zd hp 22
    have q23:vs 23=.bool true:=zd hp 23
    have q24:vs 24=.agg #[.int .i64 kd,.string a',.string b',.int .u32 n',.slice P5 lf'.length p5,.slice P6 lr'.length p6,.slice P7 ty'.length p7,.slice Q7 vls'.length q7',.slice P9 d'.length p9,.slice P10 ws'.length p10,.slice Q10 ps'.length q10',.slice Q11 fs'.length q11']:=zd hp 24
    have q26:vs 26=.string (strOf R):=zd hp 26
    have q27:vs 27=.agg #[.int .i64 kd,.string a,.string b,.int .u32 n,.slice A5 lf.length c5,.slice A6 lr.length c6,.slice A7 ty.length c7,.slice B7 vls.length d7,.slice A9 d.length c9,.slice A10 ws.length c10,.slice B10 ps.length d10,.slice B11 fs.length d11]:=zd hp 27
    have q29:vs 29=.string (strOf R):=zd hp 29
    have q30:vs 30=.bool true:=zd hp 30
    have q31:vs 31=.bool true:=zd hp 31
    have q32:vs 32=.bool true:=zd hp 32
    have HJ:=zh hJ
    clear hJ hp
    simp only [putAll,Nat.reduceAdd]
    simp only [Exit.then]
    go_at_K
    simp only [Act.put,q0,q1,q2,q3,q4,q5,q6,q7,q8,q9,q10,q11,q12,q13,q14,q15,q16,q17,q18,q19,q20,q21,q22,q23,q24,q26,q27,q29,q30,q31,q32,List.setIfInBounds_toArray,List.set_cons_zero,List.set_cons_succ]
    go_wp2
    go_ret
    exact⟨rfl,HX0.out.trans (HXX.out.trans HJ.out)⟩
end
end Go.Proofs.YtdenjanihikolaaGreatDoor
