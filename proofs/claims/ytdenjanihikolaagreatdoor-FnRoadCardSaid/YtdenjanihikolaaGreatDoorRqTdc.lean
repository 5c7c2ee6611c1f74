/- Bodies of the messages of the reference, by contract. -/
import Derived.Test.YtdenjanihikolaaGreatDoorRqA0
import Derived.Test.YtdenjanihikolaaGreatDoorRqA1
import Derived.Test.YtdenjanihikolaaGreatDoorRqMkn
import Derived.Test.YtdenjanihikolaaGreatDoorRqFit
import Derived.Test.YtdenjanihikolaaGreatDoorRqTa
import Derived.Test.YtdenjanihikolaaGreatDoorRqSmu
import Derived.Test.YtdenjanihikolaaGreatDoorRqDok
import Derived.Test.YtdenjanihikolaaGreatDoorRqWrd
namespace Go.Proofs.YtdenjanihikolaaGreatDoor
set_option linter.unusedVariables false
set_option linter.unusedSimpArgs false
set_option maxRecDepth 100000
set_option maxHeartbeats 4000000
open Go.RowKit Og
theorem size31:(Tryz.prog.info? 31).map (·.size)=some 13:=by kernel_rfl
theorem one13 {k n m:Int} {a b:ByteArray} {A5:Option Addr} {n5 c5:Nat} {A6:Option Addr} {n6 c6:Nat} {A7:Option Addr} {n7 c7:Nat} {A8:Option Addr} {n8 c8:Nat} {A9:Option Addr} {n9 c9:Nat} {A10:Option Addr} {n10 c10:Nat} {A11:Option Addr} {n11 c11:Nat} {A12:Option Addr} {n12 c12:Nat} :(#[.int .i64 k,.string a,.string b,.int .u32 n,.int .u32 m,.slice A5 n5 c5,.slice A6 n6 c6,.slice A7 n7 c7,.slice A8 n8 c8,.slice A9 n9 c9,.slice A10 n10 c10,.slice A11 n11 c11,.slice A12 n12 c12]:Array Value).all (·.oneCell')=true:=by simp [Value.oneCell']
theorem rdi_nil (kd:IntKind)(w:World):RdI kd w (.slice none 0 0) []:=⟨none,0,rfl,Nat.le_refl _,by unfold maxLen;omega,fun h=>absurd h (Nat.lt_irrefl 0)⟩
theorem rd1_nil {α:Type} (R:World->α->Value->Prop)(w:World):Rd1 R w (.slice none 0 0) []:=⟨none,0,rfl,Nat.le_refl _,by unfold maxLen;omega,fun h=>absurd h (Nat.lt_irrefl 0)⟩
theorem rdm_nil {α:Type} (size:Nat)(R:World->α->(Nat->Value)->Prop)(w:World):RdM size R w (.slice none 0 0) []:=⟨none,0,rfl,Nat.le_refl _,by unfold maxLen;omega,fun h=>absurd h (Nat.lt_irrefl 0)⟩
def DecP (kd:Int) (a b:ByteArray) (n:Int) (lf lr ty d:List Int) (vls:List (Bool×List Int)) (ws:List ByteArray) (ps:List (ByteArray×ByteArray)) (fs:List Sf) (v:Value) (w:World):Prop:=
 ∃(A5 A6 A7 A8 A9 A10 A11 A12:Option Addr) (c5 c6 c7 c8 c9 c10 c11 c12:Nat),MsgIn w v a b kd n 0 A5 A6 A7 A8 A9 A10 A11 A12 c5 c6 c7 c8 c9 c10 c11 c12 lf lr ty d vls ws ps fs
def Answd (kd:Int) (mb:Nat) (P:Value->World->Prop) (w:World):Ending->World->Prop:=fun e w'=>∃(a' b':ByteArray) (n' m':Int) (E5:Option Addr) (e5 f5:Nat) (E6:Option Addr) (e6 f6:Nat) (E7:Option Addr) (e7 f7:Nat) (E8:Option Addr) (e8 f8:Nat) (E9:Option Addr) (e9 f9:Nat) (E10:Option Addr) (e10 f10:Nat) (E11:Option Addr) (e11 f11:Nat) (E12:Option Addr) (e12 f12:Nat),e=.returned (.tuple #[])/\ExtBut mb w w'/\w'.heap[mb]?=some (.cells #[.int .i64 kd,.string a',.string b',.int .u32 n',.int .u32 m',.slice E5 e5 f5,.slice E6 e6 f6,.slice E7 e7 f7,.slice E8 e8 f8,.slice E9 e9 f9,.slice E10 e10 f10,.slice E11 e11 f11,.slice E12 e12 f12] 31 (0,0))/\∀w3:World,(∀k,w.heap.size<=k->k < w'.heap.size->w3.heap[k]?=w'.heap[k]?)->P (.agg #[.int .i64 kd,.string a',.string b',.int .u32 n',.int .u32 m',.slice E5 e5 f5,.slice E6 e6 f6,.slice E7 e7 f7,.slice E8 e8 f8,.slice E9 e9 f9,.slice E10 e10 f10,.slice E11 e11 f11,.slice E12 e12 f12]) w3
theorem pr_new (W x:World)(y:Int)(hs:W.heap.size<=x.heap.size):PR (fun v w=>RdI .i64 w v [y]) 1 W (.slice (some ⟨x.heap.size,0,none⟩) 1 1) (x.alloc (.cells #[.int .i64 y] 3)):=by
 refine⟨rfl,fun w3 h3=>⟨_,1,rfl,Nat.le_refl _,by unfold maxLen;omega,fun _=>⟨x.heap.size,0,rfl,fun j hj=>?_⟩⟩⟩
 obtain rfl:j=0:=by simp at hj;omega
 have h9:=h3 x.heap.size hs (by simp)
 rw [heap_alloc_new]at h9
 exact zc h9 0 _ rfl
theorem PR.tell {R:Value->World->Prop} {n b:Nat} {W x w:World} {u:Value} {cs:Array Value} (h:PR R n W u x)(hs:w.heap.size<=W.heap.size)(hb:b < W.heap.size):Keeps w (x.setRow b cs) (R (.slice (slA u) n (slC u))):=by
 intro w3 h3
 have h9:=h.2 w3 fun k h1 h2=>(h3 k (Nat.le_trans hs h1) (by simpa [World.setRow]using h2)).trans (setRow_other x b k cs (by omega))
 rwa [h.1]at h9
theorem keeps_tell {R:World->Prop} {W x w:World} {b m j:Nat} {u:Value} {cs:Array Value} (h:Keeps W x R)(hs:w.heap.size<=W.heap.size)(hb:b < W.heap.size)(hm:m < W.heap.size):Keeps w ((x.setCell ⟨m,j,none⟩ u).setRow b cs) R:=
 fun w3 h3=>h w3 fun k h1 h2=>((h3 k (Nat.le_trans hs h1) (by simpa [World.setRow,World.setCell]using h2)).trans (setRow_other _ b k cs (by omega))).trans (heap_setCell_other _ _ _ _ (by simp only [ne_eq];omega))
theorem keeps_put {R:World->Prop} {W x:World} {m j:Nat} {u:Value} (h:Keeps W x R)(hm:m < W.heap.size):Keeps W (x.setCell ⟨m,j,none⟩ u) R:=
 fun w3 h3=>h w3 fun k h1 h2=>(h3 k h1 (by simpa [World.setCell]using h2)).trans (heap_setCell_other _ _ _ _ (by simp only [ne_eq];omega))
theorem PR.keeps {R:Value->World->Prop} {n:Nat} {W x:World} {u:Value} (h:PR R n W u x):Keeps W x (R (.slice (slA u) n (slC u))):=by
 intro w3 h3
 have h9:=h.2 w3 h3
 rwa [h.1]at h9
theorem ExtBut.full {b:Nat} {w w1:World} (h:ExtBut b w w1)(hb:w1.heap[b]?=w.heap[b]?):Ext w w1:=by
 refine⟨h.os,h.tape,h.output,h.size,fun k hk=>?_⟩
 by_cases e:k=b
 ·rw [e];exact hb
 ·exact h.block k hk e
theorem TJ.put {mb:Nat} {W w:World} {base:Array Value} {l:List (Nat×Nat×((Nat->Value)->Value))} {L:Nat->Bool} {vs:Nat->Value} {i j:Nat} {u x:Value} (h:TJ mb W base l L vs w)(hc:cellsT base l (updB L i) (upd vs i x)=(cellsT base l L vs).setIfInBounds j u):TJ mb W base l (updB L i) (upd vs i x) (w.setCell ⟨mb,j,none⟩ u):=by
 refine⟨h.ext.set _ _,?_⟩
 rw [hc]
 exact slot_setCell h.blk
theorem tells_of {kd n:Int} {a b:ByteArray} {lf lr ty d:List Int} {vls:List (Bool×List Int)} {ws:List ByteArray} {w w':World} {A5 A6 A7 A8 A9 A10:Option Addr} {c5 c6 c7 c8 c9 c10:Nat} (hx:Ext w w')
 (h5:Keeps w w' (fun w3=>RdI .i64 w3 (.slice A5 lf.length c5) lf)) (h6:Keeps w w' (fun w3=>RdI .i64 w3 (.slice A6 lr.length c6) lr)) (h7:Keeps w w' (fun w3=>RdI .u32 w3 (.slice A7 ty.length c7) ty)) (h8:Keeps w w' (fun w3=>RdM 2 isVal w3 (.slice A8 vls.length c8) vls)) (h9:Keeps w w' (fun w3=>RdB w3 (.slice A9 d.length c9) d)) (h10:Keeps w w' (fun w3=>Rd1 isStr w3 (.slice A10 ws.length c10) ws))
 (hn:0<=n/\n < 4294967296) (hgt:∀y∈ty,0<=y/\y < 4294967296) (hgd:∀y∈d,0<=y/\y < 256) (hbv:∀y∈vls,∀z∈y.2,0<=z/\z < 256) (hkd: -9223372036854775808<=kd/\kd<=9223372036854775807:=by decide):
 Tells kd (DecP kd a b n lf lr ty d vls ws [] []) w (.returned (.agg #[.int .i64 kd,.string a,.string b,.int .u32 n,.int .u32 0,.slice A5 lf.length c5,.slice A6 lr.length c6,.slice A7 ty.length c7,.slice A8 vls.length c8,.slice A9 d.length c9,.slice A10 ws.length c10,.slice none 0 0,.slice none 0 0])) w':=
 ⟨a,b,n,0,A5,_,c5,A6,_,c6,A7,_,c7,A8,_,c8,A9,_,c9,A10,_,c10,none,0,0,none,0,0,rfl,hx,fun w3 k3=>⟨A5,A6,A7,A8,A9,A10,none,none,c5,c6,c7,c8,c9,c10,0,0,rfl,h5 w3 k3,h6 w3 k3,h7 w3 k3,h8 w3 k3,h9 w3 k3,h10 w3 k3,rdm_nil _ _ _,rdm_nil _ _ _,hn,hkd,hgt,hgd,hbv,nofun⟩⟩
theorem answd_of {kd n:Int} {mb:Nat} {a b:ByteArray} {lf lr ty d:List Int} {vls:List (Bool×List Int)} {ws:List ByteArray} {w w':World} {A5 A6 A7 A8 A9 A10:Option Addr} {c5 c6 c7 c8 c9 c10:Nat} (hx:ExtBut mb w w')
 (hm:w'.heap[mb]?=some (.cells #[.int .i64 kd,.string a,.string b,.int .u32 n,.int .u32 0,.slice A5 lf.length c5,.slice A6 lr.length c6,.slice A7 ty.length c7,.slice A8 vls.length c8,.slice A9 d.length c9,.slice A10 ws.length c10,.slice none 0 0,.slice none 0 0] 31 (0,0)))
 (h5:Keeps w w' (fun w3=>RdI .i64 w3 (.slice A5 lf.length c5) lf)) (h6:Keeps w w' (fun w3=>RdI .i64 w3 (.slice A6 lr.length c6) lr)) (h7:Keeps w w' (fun w3=>RdI .u32 w3 (.slice A7 ty.length c7) ty)) (h8:Keeps w w' (fun w3=>RdM 2 isVal w3 (.slice A8 vls.length c8) vls)) (h9:Keeps w w' (fun w3=>RdB w3 (.slice A9 d.length c9) d)) (h10:Keeps w w' (fun w3=>Rd1 isStr w3 (.slice A10 ws.length c10) ws))
 (hn:0<=n/\n < 4294967296) (hgt:∀y∈ty,0<=y/\y < 4294967296) (hgd:∀y∈d,0<=y/\y < 256) (hbv:∀y∈vls,∀z∈y.2,0<=z/\z < 256) (hkd: -9223372036854775808<=kd/\kd<=9223372036854775807:=by decide):
 Answd kd mb (DecP kd a b n lf lr ty d vls ws [] []) w (.returned (.tuple #[])) w':=
 ⟨a,b,n,0,A5,_,c5,A6,_,c6,A7,_,c7,A8,_,c8,A9,_,c9,A10,_,c10,none,0,0,none,0,0,rfl,hx,hm,fun w3 k3=>⟨A5,A6,A7,A8,A9,A10,none,none,c5,c6,c7,c8,c9,c10,0,0,rfl,h5 w3 k3,h6 w3 k3,h7 w3 k3,h8 w3 k3,h9 w3 k3,h10 w3 k3,rdm_nil _ _ _,rdm_nil _ _ _,hn,hkd,hgt,hgd,hbv,nofun⟩⟩
theorem told_dflt (T:Nat)(kd:Int)(P:Value->World->Prop)(w:World)(bk:Nat)(hT:T∉[101,108,111,114,116,119,122,125,132,134,138,141,144,147,149])
 (hA:∀W2,Ext w W2->W2.heap[w.heap.size+1]?=some (.cells #[.int .i64 kd,.string ⟨#[]⟩,.string ⟨#[]⟩,.int .u32 0,.int .u32 0,.slice none 0 0,.slice none 0 0,.slice none 0 0,.slice none 0 0,.slice none 0 0,.slice none 0 0,.slice none 0 0,.slice none 0 0] 31 (0,0))->Calls Tryz.prog 65 #[.iface T (.pointer (some ⟨bk,0,none⟩)),.pointer (some ⟨w.heap.size+1,0,none⟩)] W2 (Answd kd (w.heap.size+1) P W2)):
 Calls Tryz.prog 48 #[.int .i64 kd,.iface T (.pointer (some ⟨bk,0,none⟩))] w (Tells kd P w):=by
 have n101:=no101 T (fun e=>hT (by simp [e]))
 have n108:=no108 T (fun e=>hT (by simp [e]))
 have n111:=no111 T (fun e=>hT (by simp [e]))
 have n114:=no114 T (fun e=>hT (by simp [e]))
 have n116:=no116 T (fun e=>hT (by simp [e]))
 have n119:=no119 T (fun e=>hT (by simp [e]))
 have n122:=no122 T (fun e=>hT (by simp [e]))
 have n125:=no125 T (fun e=>hT (by simp [e]))
 have n132:=no132 T (fun e=>hT (by simp [e]))
 have n134:=no134 T (fun e=>hT (by simp [e]))
 have n138:=no138 T (fun e=>hT (by simp [e]))
 have n141:=no141 T (fun e=>hT (by simp [e]))
 have n144:=no144 T (fun e=>hT (by simp [e]))
 have n147:=no147 T (fun e=>hT (by simp [e]))
 have n149:=no149 T (fun e=>hT (by simp [e]))
 have HA:=zh hA
 clear hA hT
 obtain⟨W2,hW2⟩:∃W2,W2=((w.alloc (.cells #[.int .i64 0,.string ⟨#[]⟩,.string ⟨#[]⟩,.int .u32 0,.int .u32 0,.slice none 0 0,.slice none 0 0,.slice none 0 0,.slice none 0 0,.slice none 0 0,.slice none 0 0,.slice none 0 0,.slice none 0 0] 31)).alloc (.cells #[.int .i64 kd,.string ⟨#[]⟩,.string ⟨#[]⟩,.int .u32 0,.int .u32 0,.slice none 0 0,.slice none 0 0,.slice none 0 0,.slice none 0 0,.slice none 0 0,.slice none 0 0,.slice none 0 0,.slice none 0 0] 31)):=⟨_,rfl⟩
 have XW:Hid (Ext w W2):=zh (by rw [hW2];exact(ext_alloc w _).alloc _)
 have HM:Hid (W2.heap[w.heap.size+1]?=some (.cells #[.int .i64 kd,.string ⟨#[]⟩,.string ⟨#[]⟩,.int .u32 0,.int .u32 0,.slice none 0 0,.slice none 0 0,.slice none 0 0,.slice none 0 0,.slice none 0 0,.slice none 0 0,.slice none 0 0,.slice none 0 0] 31 (0,0))):=zh (by
  have e:(w.alloc (.cells #[.int .i64 0,.string ⟨#[]⟩,.string ⟨#[]⟩,.int .u32 0,.int .u32 0,.slice none 0 0,.slice none 0 0,.slice none 0 0,.slice none 0 0,.slice none 0 0,.slice none 0 0,.slice none 0 0,.slice none 0 0] 31)).heap.size=w.heap.size+1:=by simp
  rw [hW2,<-e]
  exact heap_alloc_new _ _)
 have HO:Hid (W2.heap[w.heap.size]?=some (.cells #[.int .i64 0,.string ⟨#[]⟩,.string ⟨#[]⟩,.int .u32 0,.int .u32 0,.slice none 0 0,.slice none 0 0,.slice none 0 0,.slice none 0 0,.slice none 0 0,.slice none 0 0,.slice none 0 0,.slice none 0 0] 31 (0,0))):=zh (by
  rw [hW2,(ext_alloc (w.alloc (.cells #[.int .i64 0,.string ⟨#[]⟩,.string ⟨#[]⟩,.int .u32 0,.int .u32 0,.slice none 0 0,.slice none 0 0,.slice none 0 0,.slice none 0 0,.slice none 0 0,.slice none 0 0,.slice none 0 0,.slice none 0 0] 31)) (.cells #[.int .i64 kd,.string ⟨#[]⟩,.string ⟨#[]⟩,.int .u32 0,.int .u32 0,.slice none 0 0,.slice none 0 0,.slice none 0 0,.slice none 0 0,.slice none 0 0,.slice none 0 0,.slice none 0 0,.slice none 0 0] 31)).block w.heap.size (by simp)]
  exact heap_alloc_new _ _)
 have HOB:Hid (w.heap.size < W2.heap.size):=zh (zl HO.out)
 go_enter Tryz.func48,Tryz.ntmps48
 go_wp2_with (first|(go_at_call 65;rw [<-hW2];clear hW2;refine(HA.out _ XW.out HM.out).mono ?_;rintro e w3 ⟨a',b',n',m',E5,e5,f5,E6,e6,f6,E7,e7,f7,E8,e8,f8,E9,e9,f9,E10,e10,f10,E11,e11,f11,E12,e12,f12,rfl,hx3,hm3,hk3⟩;have HX3:=zh hx3;have HM3:=zh hm3;have HK3:=zh hk3;have HO3:=zh ((hx3.block w.heap.size HOB.out (by omega)).trans HO.out);clear hx3 hm3 hk3)|(refine wpList_load_row rfl 31 (.tmp 5) rfl (w.heap.size+1) rfl 31 #[.int .i64 kd,.string a',.string b',.int .u32 n',.int .u32 m',.slice E5 e5 f5,.slice E6 e6 f6,.slice E7 e7 f7,.slice E8 e8 f8,.slice E9 e9 f9,.slice E10 e10 f10,.slice E11 e11 f11,.slice E12 e12 f12] (0,0) _ HM3.out Tryz.underlying31 rfl size31 ?_)|(refine wpList_store_row rfl 31 (.tmp 4) (.tmp 256) rfl w.heap.size #[.int .i64 kd,.string a',.string b',.int .u32 n',.int .u32 m',.slice E5 e5 f5,.slice E6 e6 f6,.slice E7 e7 f7,.slice E8 e8 f8,.slice E9 e9 f9,.slice E10 e10 f10,.slice E11 e11 f11,.slice E12 e12 f12] (by simp only [evp_none,ne_eq,Nat.reduceEqDiff,not_false_eq_true,evp_ne];rfl) (by rw [evp_same _ _ _ (by simp [evp_size])]) 31 _ HO3.out size31 rfl one13 ?_))
 (try simp only [Exit.inBlock,Exit.then])
 refine bodyPost_end (results_cell_row (P:=Tryz.prog) rfl _ _ w.heap.size 31 #[.int .i64 kd,.string a',.string b',.int .u32 n',.int .u32 m',.slice E5 e5 f5,.slice E6 e6 f6,.slice E7 e7 f7,.slice E8 e8 f8,.slice E9 e9 f9,.slice E10 e10 f10,.slice E11 e11 f11,.slice E12 e12 f12] (0,0) _ rfl (setRow_heap _ _ _ _ _ _ HO3.out) Tryz.underlying31 rfl size31) rfl ?_
 exact⟨a',b',n',m',E5,e5,f5,E6,e6,f6,E7,e7,f7,E8,e8,f8,E9,e9,f9,E10,e10,f10,E11,e11,f11,E12,e12,f12,rfl,((Ext.refl w3).but.row _).ext (HX3.out.ext XW.out (by omega)) (Nat.le_refl _),fun w4 h4=>HK3.out w4 (fun k h1 h2=>(h4 k (Nat.le_trans XW.out.size h1) (by simpa [World.setRow]using h2)).trans (setRow_other _ _ _ _ (by have:=HOB.out;omega)))⟩
theorem answd_triv (T:Nat)(kd:Int)(w:World)(v:Value)(mb:Nat)(hT:T∉[185,189,191,194,196,198,200,203,206,208,210,213,217,219,222,225,228,230,233])(hkd: -9223372036854775808<=kd/\kd<=9223372036854775807)(hm:w.heap[mb]?=some (.cells #[.int .i64 kd,.string ⟨#[]⟩,.string ⟨#[]⟩,.int .u32 0,.int .u32 0,.slice none 0 0,.slice none 0 0,.slice none 0 0,.slice none 0 0,.slice none 0 0,.slice none 0 0,.slice none 0 0,.slice none 0 0] 31 (0,0))):
 Calls Tryz.prog 65 #[.iface T v,.pointer (some ⟨mb,0,none⟩)] w (Answd kd mb (DecP kd ⟨#[]⟩ ⟨#[]⟩ 0 [] [] [] [] [] [] [] []) w):=by
 have n185:=no185 T (fun e=>hT (by simp [e]))
 have n189:=no189 T (fun e=>hT (by simp [e]))
 have n191:=no191 T (fun e=>hT (by simp [e]))
 have n194:=no194 T (fun e=>hT (by simp [e]))
 have n196:=no196 T (fun e=>hT (by simp [e]))
 have n198:=no198 T (fun e=>hT (by simp [e]))
 have n200:=no200 T (fun e=>hT (by simp [e]))
 have n203:=no203 T (fun e=>hT (by simp [e]))
 have n206:=no206 T (fun e=>hT (by simp [e]))
 have n208:=no208 T (fun e=>hT (by simp [e]))
 have n210:=no210 T (fun e=>hT (by simp [e]))
 have n213:=no213 T (fun e=>hT (by simp [e]))
 have n217:=no217 T (fun e=>hT (by simp [e]))
 have n219:=no219 T (fun e=>hT (by simp [e]))
 have n222:=no222 T (fun e=>hT (by simp [e]))
 have n225:=no225 T (fun e=>hT (by simp [e]))
 have n228:=no228 T (fun e=>hT (by simp [e]))
 have n230:=no230 T (fun e=>hT (by simp [e]))
 have n233:=no233 T (fun e=>hT (by simp [e]))
 have HM:=zh hm
 clear hm hT
 go_enter Tryz.func65,Tryz.ntmps65
 go_wp2
 (try simp only [Exit.inBlock,Exit.then]);first|refine bodyPost_end (results_none rfl _ _ _) rfl ?_|refine bodyPost_ret (results_none rfl _ _ _) rfl ?_
 exact answd_of (Ext.refl w).but HM.out (fun _ _=>rdi_nil _ _) (fun _ _=>rdi_nil _ _) (fun _ _=>rdi_nil _ _) (fun _ _=>rdm_nil _ _ _) (fun _ _=>RdB.nil _) (fun _ _=>rd1_nil _ _) ⟨by decide,by decide⟩ (nofun) (nofun) (nofun) hkd
open Go.RowKit
theorem numB1 (n:Int):numB n 1=[n % 256]:=by simp [numB]
theorem numB2 (n:Int):numB n 2=b16 n:=by
 unfold b16 be16
 simp only [numB,Int.pow_succ,Int.pow_zero]
 refine List.cons_eq_cons.2 ⟨by omega,List.cons_eq_cons.2 ⟨by omega,rfl⟩⟩
theorem numB4 (n:Int):numB n 4=b32 n:=by
 unfold b32 be32
 simp only [numB,Int.pow_succ,Int.pow_zero]
 refine List.cons_eq_cons.2 ⟨by omega,List.cons_eq_cons.2 ⟨by omega,List.cons_eq_cons.2 ⟨by omega,List.cons_eq_cons.2 ⟨by omega,rfl⟩⟩⟩⟩
theorem valB_opt (x:Bool×List Int):valB x.1 x.2=optB (optV x):=by
 obtain⟨b,d⟩:=x
 cases b <;> simp [valB,optV,optB,numB4]
theorem vals_opt (l:List (Bool×List Int)):(l.flatMap fun x=>valB x.1 x.2)=(l.map optV).flatMap optB:=by
 rw [List.flatMap_map]
 congr 1
 funext x
 exact valB_opt x
theorem nums2 (l:List Int):(l.flatMap fun n=>numB n 2)=l.flatMap b16:=by
 congr 1;funext n;exact numB2 n
theorem nums4 (l:List Int):(l.flatMap fun n=>numB n 4)=l.flatMap b32:=by
 congr 1;funext n;exact numB4 n
theorem all_msg {L:Int} (h:0 < L/\L < 256)(body:List Int):allB L body=msgB L body:=by
 unfold allB msgB
 rw [if_neg (by omega),numB1,numB4]
 have:L % 256=L:=by omega
 rw [this]
 rfl
theorem all_msg0 (body:List Int):allB 0 body=msg0 body:=by
 unfold allB msg0
 rw [if_pos rfl,numB4]
 rfl
theorem body0 (a b:ByteArray)(n:Int)(vf vr vt vv vd vw vp vl:Value)(w:World)(hsa:a.size<=1000)(hsb:b.size<=1000)(lf:List Int)(hrf:RdI .i64 w vf lf)(hlf:lf.length<=4294967296)(lr:List Int)(hrr:RdI .i64 w vr lr)(hlr:lr.length<=4294967296)(vls:List (Bool×List Int))(hrv:RdM 2 isVal w vv vls)(hlv:vls.length<=1000)(hmv:∀y∈vls,y.2.length<=2000)(R:List Int)(hE:txt a++txt b++(numB (lf.length:Int) 2++lf.flatMap fun n=>numB n 2)++(numB (vls.length:Int) 2++vls.flatMap fun x=>valB x.1 x.2)++(numB (lr.length:Int) 2++lr.flatMap fun n=>numB n 2)=R):
 Calls Tryz.prog 16 #[.agg #[.int .i64 0,.string a,.string b,.int .u32 n,vf,vr,vt,vv,vd,vw,vp,vl]] w (Gave w R):=by
 have HRf:=zh (hrf.ext (ext_alloc w (.cells #[.int .i64 0,.string a,.string b,.int .u32 n,vf,vr,vt,vv,vd,vw,vp,vl] 37)))
 clear hrf
 have HRr:=zh (hrr.ext (ext_alloc w (.cells #[.int .i64 0,.string a,.string b,.int .u32 n,vf,vr,vt,vv,vd,vw,vp,vl] 37)))
 clear hrr
 have hfv:=flat_len (fun x:Bool×List Int=>valB x.1 x.2) 2004 vls fun y hy=>Nat.le_trans (valB_len y) (by have:=hmv y hy;omega)
 have HRv:=zh (hrv.ext (ext_alloc w (.cells #[.int .i64 0,.string a,.string b,.int .u32 n,vf,vr,vt,vv,vd,vw,vp,vl] 37)) (isVal.ext (ext_alloc w (.cells #[.int .i64 0,.string a,.string b,.int .u32 n,vf,vr,vt,vv,vd,vw,vp,vl] 37))))
 clear hrv
 have HMv:=zh hmv
 clear hmv
 have hflf:=flat_len (fun n=>numB n 2) 2 lf fun y _=>Nat.le_of_eq (numB_len y 2)
 have hflr:=flat_len (fun n=>numB n 2) 2 lr fun y _=>Nat.le_of_eq (numB_len y 2)
 have hx4:True:=trivial
 have hx5:True:=trivial
 have hx1:True:=trivial
 have hx2:True:=trivial
 have hx7:True:=trivial
 have h0:=Wr.start1 w (.cells #[.int .i64 0,.string a,.string b,.int .u32 n,vf,vr,vt,vv,vd,vw,vp,vl] 37)
 have hc:=h0.cell
 have HB:=zh h0
 clear h0
 have HE:=zh hE
 clear hE
 go_enter Tryz.func16,Tryz.ntmps16
 go_wp2_with (first|(go_at_call 38;refine(text_w _ HB.out ul2).mono ?_;rintro e w1 ⟨rfl,v1,hn⟩;clear hc;have hc:=hn.cell;clear hx4;have hx4:=box_at hn.buf.bel 4 (vf) rfl;clear hx5;have hx5:=box_at hn.buf.bel 5 (vr) rfl;clear hx1;have hx1:=box_at hn.buf.bel 1 (.string a) rfl;clear hx2;have hx2:=box_at hn.buf.bel 2 (.string b) rfl;clear hx7;have hx7:=box_at hn.buf.bel 7 (vv) rfl;replace HB:=zh hn;clear hn)|(go_at_call 39;refine(shorts_w lf HB.out HRf.out ul2).mono ?_;rintro e w1 ⟨rfl,v1,hn⟩;clear hc;have hc:=hn.cell;clear hx4;have hx4:=box_at hn.buf.bel 4 (vf) rfl;clear hx5;have hx5:=box_at hn.buf.bel 5 (vr) rfl;clear hx1;have hx1:=box_at hn.buf.bel 1 (.string a) rfl;clear hx2;have hx2:=box_at hn.buf.bel 2 (.string b) rfl;clear hx7;have hx7:=box_at hn.buf.bel 7 (vv) rfl;replace HB:=zh hn;clear hn;clear HRf)|(go_at_call 39;refine(shorts_w lr HB.out HRr.out ul2).mono ?_;rintro e w1 ⟨rfl,v1,hn⟩;clear hc;have hc:=hn.cell;clear hx4;have hx4:=box_at hn.buf.bel 4 (vf) rfl;clear hx5;have hx5:=box_at hn.buf.bel 5 (vr) rfl;clear hx1;have hx1:=box_at hn.buf.bel 1 (.string a) rfl;clear hx2;have hx2:=box_at hn.buf.bel 2 (.string b) rfl;clear hx7;have hx7:=box_at hn.buf.bel 7 (vv) rfl;replace HB:=zh hn;clear hn;clear HRr)|(go_at_call 40;refine(values_w vls HB.out HRv.out HMv.out ul2).mono ?_;rintro e w1 ⟨rfl,v1,hn⟩;clear hc;have hc:=hn.cell;clear hx4;have hx4:=box_at hn.buf.bel 4 (vf) rfl;clear hx5;have hx5:=box_at hn.buf.bel 5 (vr) rfl;clear hx1;have hx1:=box_at hn.buf.bel 1 (.string a) rfl;clear hx2;have hx2:=box_at hn.buf.bel 2 (.string b) rfl;clear hx7;have hx7:=box_at hn.buf.bel 7 (vv) rfl;replace HB:=zh hn;clear hn))
 go_ret
 exact gave_of HB.out ul5
theorem body6 (a b:ByteArray)(n:Int)(vf vr vt vv vd vw vp vl:Value)(w:World)(hsa:a.size<=1000)(hn:0<=n/\n < 4294967296)(R:List Int)(hE:numB n 1++txt a=R):
 Calls Tryz.prog 16 #[.agg #[.int .i64 6,.string a,.string b,.int .u32 n,vf,vr,vt,vv,vd,vw,vp,vl]] w (Gave w R):=by
 have hwn:wrap64 n=n:=by unfold wrap64;omega
 have hx3:True:=trivial
 have hx1:True:=trivial
 have h0:=Wr.start1 w (.cells #[.int .i64 6,.string a,.string b,.int .u32 n,vf,vr,vt,vv,vd,vw,vp,vl] 37)
 have hc:=h0.cell
 have HB:=zh h0
 clear h0
 have HE:=zh hE
 clear hE
 go_enter Tryz.func16,Tryz.ntmps16
 go_wp2_with (first|(go_at_call 36;refine(number_w 1 (by omega) _ HB.out ul2).mono ?_;rintro e w1 ⟨rfl,v1,hn⟩;clear hc;have hc:=hn.cell;clear hx3;have hx3:=box_at hn.buf.bel 3 (.int .u32 n) rfl;clear hx1;have hx1:=box_at hn.buf.bel 1 (.string a) rfl;replace HB:=zh hn;clear hn)|(go_at_call 38;refine(text_w _ HB.out ul2).mono ?_;rintro e w1 ⟨rfl,v1,hn⟩;clear hc;have hc:=hn.cell;clear hx3;have hx3:=box_at hn.buf.bel 3 (.int .u32 n) rfl;clear hx1;have hx1:=box_at hn.buf.bel 1 (.string a) rfl;replace HB:=zh hn;clear hn))
 go_ret
 exact gave_of HB.out ul5
theorem body13 (a b:ByteArray)(n:Int)(vf vr vt vv vd vw vp vl:Value)(w:World)(hsa:a.size<=1000)(R:List Int)(hE:txt a=R):
 Calls Tryz.prog 16 #[.agg #[.int .i64 13,.string a,.string b,.int .u32 n,vf,vr,vt,vv,vd,vw,vp,vl]] w (Gave w R):=by
 have hx1:True:=trivial
 have h0:=Wr.start1 w (.cells #[.int .i64 13,.string a,.string b,.int .u32 n,vf,vr,vt,vv,vd,vw,vp,vl] 37)
 have hc:=h0.cell
 have HB:=zh h0
 clear h0
 have HE:=zh hE
 clear hE
 go_enter Tryz.func16,Tryz.ntmps16
 go_wp2_with (first|(go_at_call 38;refine(text_w _ HB.out ul2).mono ?_;rintro e w1 ⟨rfl,v1,hn⟩;clear hc;have hc:=hn.cell;clear hx1;have hx1:=box_at hn.buf.bel 1 (.string a) rfl;replace HB:=zh hn;clear hn))
 go_ret
 exact gave_of HB.out ul5
theorem body20 (a b:ByteArray)(n:Int)(vf vr vt vv vd vw vp vl:Value)(w:World)(R:List Int)(hE:[]=R):
 Calls Tryz.prog 16 #[.agg #[.int .i64 20,.string a,.string b,.int .u32 n,vf,vr,vt,vv,vd,vw,vp,vl]] w (Gave w R):=by
 have h0:=Wr.start1 w (.cells #[.int .i64 20,.string a,.string b,.int .u32 n,vf,vr,vt,vv,vd,vw,vp,vl] 37)
 have hc:=h0.cell
 have HB:=zh h0
 clear h0
 have HE:=zh hE
 clear hE
 go_enter Tryz.func16,Tryz.ntmps16
 go_wp2
 go_ret
 exact gave_of HB.out ul5
theorem body36 (a b:ByteArray)(n:Int)(vf vr vt vv vd vw vp vl:Value)(w:World)(A_d:Option Addr)(c_d:Nat)(d:List Int)(hvd:vd=.slice A_d d.length c_d)(hrd:RdB w (.slice A_d d.length c_d) d)(hld:d.length<=3000)(R:List Int)(hE:numB 11 4++d=R):
 Calls Tryz.prog 16 #[.agg #[.int .i64 36,.string a,.string b,.int .u32 n,vf,vr,vt,vv,vd,vw,vp,vl]] w (Gave w R):=by
 subst hvd
 have HRd:=zh (hrd.ext (ext_alloc w (.cells #[.int .i64 36,.string a,.string b,.int .u32 n,vf,vr,vt,vv,.slice A_d d.length c_d,vw,vp,vl] 37)))
 clear hrd
 have hx8:True:=trivial
 have h0:=Wr.start1 w (.cells #[.int .i64 36,.string a,.string b,.int .u32 n,vf,vr,vt,vv,.slice A_d d.length c_d,vw,vp,vl] 37)
 have hc:=h0.cell
 have HB:=zh h0
 clear h0
 have HE:=zh hE
 clear hE
 go_enter Tryz.func16,Tryz.ntmps16
 go_wp2_with (first|(go_at_call 36;refine(number_w 4 (by omega) _ HB.out ul2).mono ?_;rintro e w1 ⟨rfl,v1,hn⟩;clear hc;have hc:=hn.cell;clear hx8;have hx8:=box_at hn.buf.bel 8 (.slice A_d d.length c_d) rfl;replace HB:=zh hn;clear hn)|(go_at_call 37;refine(bytes_w HB.out (HRd.out.ext HB.out.buf.bel) ul2).mono ?_;rintro e w1 ⟨rfl,v1,hn⟩;clear hc;have hc:=hn.cell;clear hx8;have hx8:=box_at hn.buf.bel 8 (.slice A_d d.length c_d) rfl;replace HB:=zh hn;clear hn))
 go_ret
 exact gave_of HB.out ul5
theorem body42 (a b:ByteArray)(n:Int)(vf vr vt vv vd vw vp vl:Value)(w:World)(hn:0<=n/\n < 4294967296)(lf:List Int)(hrf:RdI .i64 w vf lf)(hlf:lf.length<=4294967296)(R:List Int)(hE:numB n 1++(numB (lf.length:Int) 2++lf.flatMap fun n=>numB n 2)=R):
 Calls Tryz.prog 16 #[.agg #[.int .i64 42,.string a,.string b,.int .u32 n,vf,vr,vt,vv,vd,vw,vp,vl]] w (Gave w R):=by
 have HRf:=zh (hrf.ext (ext_alloc w (.cells #[.int .i64 42,.string a,.string b,.int .u32 n,vf,vr,vt,vv,vd,vw,vp,vl] 37)))
 clear hrf
 have hflf:=flat_len (fun n=>numB n 2) 2 lf fun y _=>Nat.le_of_eq (numB_len y 2)
 have hwn:wrap64 n=n:=by unfold wrap64;omega
 have hx4:True:=trivial
 have hx3:True:=trivial
 have h0:=Wr.start1 w (.cells #[.int .i64 42,.string a,.string b,.int .u32 n,vf,vr,vt,vv,vd,vw,vp,vl] 37)
 have hc:=h0.cell
 have HB:=zh h0
 clear h0
 have HE:=zh hE
 clear hE
 go_enter Tryz.func16,Tryz.ntmps16
 go_wp2_with (first|(go_at_call 36;refine(number_w 1 (by omega) _ HB.out ul2).mono ?_;rintro e w1 ⟨rfl,v1,hn⟩;clear hc;have hc:=hn.cell;clear hx4;have hx4:=box_at hn.buf.bel 4 (vf) rfl;clear hx3;have hx3:=box_at hn.buf.bel 3 (.int .u32 n) rfl;replace HB:=zh hn;clear hn)|(go_at_call 39;refine(shorts_w lf HB.out HRf.out ul2).mono ?_;rintro e w1 ⟨rfl,v1,hn⟩;clear hc;have hc:=hn.cell;clear hx4;have hx4:=box_at hn.buf.bel 4 (vf) rfl;clear hx3;have hx3:=box_at hn.buf.bel 3 (.int .u32 n) rfl;replace HB:=zh hn;clear hn;clear HRf))
 go_ret
 exact gave_of HB.out ul5
theorem body51 (a b:ByteArray)(n:Int)(vf vr vt vv vd vw vp vl:Value)(w:World)(hsa:a.size<=1000)(hsb:b.size<=1000)(hn:0<=n/\n < 4294967296)(R:List Int)(hE:numB n 4++txt a++txt b=R):
 Calls Tryz.prog 16 #[.agg #[.int .i64 51,.string a,.string b,.int .u32 n,vf,vr,vt,vv,vd,vw,vp,vl]] w (Gave w R):=by
 have hwn:wrap64 n=n:=by unfold wrap64;omega
 have hx3:True:=trivial
 have hx1:True:=trivial
 have hx2:True:=trivial
 have h0:=Wr.start1 w (.cells #[.int .i64 51,.string a,.string b,.int .u32 n,vf,vr,vt,vv,vd,vw,vp,vl] 37)
 have hc:=h0.cell
 have HB:=zh h0
 clear h0
 have HE:=zh hE
 clear hE
 go_enter Tryz.func16,Tryz.ntmps16
 go_wp2_with (first|(go_at_call 36;refine(number_w 4 (by omega) _ HB.out ul2).mono ?_;rintro e w1 ⟨rfl,v1,hn⟩;clear hc;have hc:=hn.cell;clear hx3;have hx3:=box_at hn.buf.bel 3 (.int .u32 n) rfl;clear hx1;have hx1:=box_at hn.buf.bel 1 (.string a) rfl;clear hx2;have hx2:=box_at hn.buf.bel 2 (.string b) rfl;replace HB:=zh hn;clear hn)|(go_at_call 38;refine(text_w _ HB.out ul2).mono ?_;rintro e w1 ⟨rfl,v1,hn⟩;clear hc;have hc:=hn.cell;clear hx3;have hx3:=box_at hn.buf.bel 3 (.int .u32 n) rfl;clear hx1;have hx1:=box_at hn.buf.bel 1 (.string a) rfl;clear hx2;have hx2:=box_at hn.buf.bel 2 (.string b) rfl;replace HB:=zh hn;clear hn))
 go_ret
 exact gave_of HB.out ul5
theorem body1 (a b:ByteArray)(n:Int)(vf vr vt vv vd vw vp vl:Value)(w:World)(hn:0<=n/\n < 4294967296)(A_d:Option Addr)(c_d:Nat)(d:List Int)(hvd:vd=.slice A_d d.length c_d)(hrd:RdB w (.slice A_d d.length c_d) d)(hld:d.length<=3000)(R:List Int)(hE:numB 80877102 4++numB n 4++d=R):
 Calls Tryz.prog 16 #[.agg #[.int .i64 1,.string a,.string b,.int .u32 n,vf,vr,vt,vv,vd,vw,vp,vl]] w (Gave w R):=by
 subst hvd
 have HRd:=zh (hrd.ext (ext_alloc w (.cells #[.int .i64 1,.string a,.string b,.int .u32 n,vf,vr,vt,vv,.slice A_d d.length c_d,vw,vp,vl] 37)))
 clear hrd
 have hwn:wrap64 n=n:=by unfold wrap64;omega
 have hx8:True:=trivial
 have hx3:True:=trivial
 have h0:=Wr.start1 w (.cells #[.int .i64 1,.string a,.string b,.int .u32 n,vf,vr,vt,vv,.slice A_d d.length c_d,vw,vp,vl] 37)
 have hc:=h0.cell
 have HB:=zh h0
 clear h0
 have HE:=zh hE
 clear hE
 go_enter Tryz.func16,Tryz.ntmps16
 go_wp2_with (first|(go_at_call 36;refine(number_w 4 (by omega) _ HB.out ul2).mono ?_;rintro e w1 ⟨rfl,v1,hn⟩;clear hc;have hc:=hn.cell;clear hx8;have hx8:=box_at hn.buf.bel 8 (.slice A_d d.length c_d) rfl;clear hx3;have hx3:=box_at hn.buf.bel 3 (.int .u32 n) rfl;replace HB:=zh hn;clear hn)|(go_at_call 37;refine(bytes_w HB.out (HRd.out.ext HB.out.buf.bel) ul2).mono ?_;rintro e w1 ⟨rfl,v1,hn⟩;clear hc;have hc:=hn.cell;clear hx8;have hx8:=box_at hn.buf.bel 8 (.slice A_d d.length c_d) rfl;clear hx3;have hx3:=box_at hn.buf.bel 3 (.int .u32 n) rfl;replace HB:=zh hn;clear hn))
 go_ret
 exact gave_of HB.out ul5
theorem body7 (a b:ByteArray)(n:Int)(vf vr vt vv vd vw vp vl:Value)(w:World)(hsa:a.size<=1000)(hn:0<=n/\n < 4294967296)(R:List Int)(hE:txt a++numB n 4=R):
 Calls Tryz.prog 16 #[.agg #[.int .i64 7,.string a,.string b,.int .u32 n,vf,vr,vt,vv,vd,vw,vp,vl]] w (Gave w R):=by
 have hwn:wrap64 n=n:=by unfold wrap64;omega
 have hx3:True:=trivial
 have hx1:True:=trivial
 have h0:=Wr.start1 w (.cells #[.int .i64 7,.string a,.string b,.int .u32 n,vf,vr,vt,vv,vd,vw,vp,vl] 37)
 have hc:=h0.cell
 have HB:=zh h0
 clear h0
 have HE:=zh hE
 clear hE
 go_enter Tryz.func16,Tryz.ntmps16
 go_wp2_with (first|(go_at_call 36;refine(number_w 4 (by omega) _ HB.out ul2).mono ?_;rintro e w1 ⟨rfl,v1,hn⟩;clear hc;have hc:=hn.cell;clear hx3;have hx3:=box_at hn.buf.bel 3 (.int .u32 n) rfl;clear hx1;have hx1:=box_at hn.buf.bel 1 (.string a) rfl;replace HB:=zh hn;clear hn)|(go_at_call 38;refine(text_w _ HB.out ul2).mono ?_;rintro e w1 ⟨rfl,v1,hn⟩;clear hc;have hc:=hn.cell;clear hx3;have hx3:=box_at hn.buf.bel 3 (.int .u32 n) rfl;clear hx1;have hx1:=box_at hn.buf.bel 1 (.string a) rfl;replace HB:=zh hn;clear hn))
 go_ret
 exact gave_of HB.out ul5
theorem body14 (a b:ByteArray)(n:Int)(vf vr vt vv vd vw vp vl:Value)(w:World)(hsa:a.size<=1000)(R:List Int)(hE:txt a=R):
 Calls Tryz.prog 16 #[.agg #[.int .i64 14,.string a,.string b,.int .u32 n,vf,vr,vt,vv,vd,vw,vp,vl]] w (Gave w R):=by
 have hx1:True:=trivial
 have h0:=Wr.start1 w (.cells #[.int .i64 14,.string a,.string b,.int .u32 n,vf,vr,vt,vv,vd,vw,vp,vl] 37)
 have hc:=h0.cell
 have HB:=zh h0
 clear h0
 have HE:=zh hE
 clear hE
 go_enter Tryz.func16,Tryz.ntmps16
 go_wp2_with (first|(go_at_call 38;refine(text_w _ HB.out ul2).mono ?_;rintro e w1 ⟨rfl,v1,hn⟩;clear hc;have hc:=hn.cell;clear hx1;have hx1:=box_at hn.buf.bel 1 (.string a) rfl;replace HB:=zh hn;clear hn))
 go_ret
 exact gave_of HB.out ul5
theorem body30 (a b:ByteArray)(n:Int)(vf vr vt vv vd vw vp vl:Value)(w:World)(R:List Int)(hE:numB 0 4=R):
 Calls Tryz.prog 16 #[.agg #[.int .i64 30,.string a,.string b,.int .u32 n,vf,vr,vt,vv,vd,vw,vp,vl]] w (Gave w R):=by
 have h0:=Wr.start1 w (.cells #[.int .i64 30,.string a,.string b,.int .u32 n,vf,vr,vt,vv,vd,vw,vp,vl] 37)
 have hc:=h0.cell
 have HB:=zh h0
 clear h0
 have HE:=zh hE
 clear hE
 go_enter Tryz.func16,Tryz.ntmps16
 go_wp2_with (first|(go_at_call 36;refine(number_w 4 (by omega) _ HB.out ul2).mono ?_;rintro e w1 ⟨rfl,v1,hn⟩;clear hc;have hc:=hn.cell;replace HB:=zh hn;clear hn))
 go_ret
 exact gave_of HB.out ul5
theorem body37 (a b:ByteArray)(n:Int)(vf vr vt vv vd vw vp vl:Value)(w:World)(A_d:Option Addr)(c_d:Nat)(d:List Int)(hvd:vd=.slice A_d d.length c_d)(hrd:RdB w (.slice A_d d.length c_d) d)(hld:d.length<=3000)(R:List Int)(hE:numB 12 4++d=R):
 Calls Tryz.prog 16 #[.agg #[.int .i64 37,.string a,.string b,.int .u32 n,vf,vr,vt,vv,vd,vw,vp,vl]] w (Gave w R):=by
 subst hvd
 have HRd:=zh (hrd.ext (ext_alloc w (.cells #[.int .i64 37,.string a,.string b,.int .u32 n,vf,vr,vt,vv,.slice A_d d.length c_d,vw,vp,vl] 37)))
 clear hrd
 have hx8:True:=trivial
 have h0:=Wr.start1 w (.cells #[.int .i64 37,.string a,.string b,.int .u32 n,vf,vr,vt,vv,.slice A_d d.length c_d,vw,vp,vl] 37)
 have hc:=h0.cell
 have HB:=zh h0
 clear h0
 have HE:=zh hE
 clear hE
 go_enter Tryz.func16,Tryz.ntmps16
 go_wp2_with (first|(go_at_call 36;refine(number_w 4 (by omega) _ HB.out ul2).mono ?_;rintro e w1 ⟨rfl,v1,hn⟩;clear hc;have hc:=hn.cell;clear hx8;have hx8:=box_at hn.buf.bel 8 (.slice A_d d.length c_d) rfl;replace HB:=zh hn;clear hn)|(go_at_call 37;refine(bytes_w HB.out (HRd.out.ext HB.out.buf.bel) ul2).mono ?_;rintro e w1 ⟨rfl,v1,hn⟩;clear hc;have hc:=hn.cell;clear hx8;have hx8:=box_at hn.buf.bel 8 (.slice A_d d.length c_d) rfl;replace HB:=zh hn;clear hn))
 go_ret
 exact gave_of HB.out ul5
theorem body43 (a b:ByteArray)(n:Int)(vf vr vt vv vd vw vp vl:Value)(w:World)(hn:0<=n/\n < 4294967296)(lf:List Int)(hrf:RdI .i64 w vf lf)(hlf:lf.length<=4294967296)(R:List Int)(hE:numB n 1++(numB (lf.length:Int) 2++lf.flatMap fun n=>numB n 2)=R):
 Calls Tryz.prog 16 #[.agg #[.int .i64 43,.string a,.string b,.int .u32 n,vf,vr,vt,vv,vd,vw,vp,vl]] w (Gave w R):=by
 have HRf:=zh (hrf.ext (ext_alloc w (.cells #[.int .i64 43,.string a,.string b,.int .u32 n,vf,vr,vt,vv,vd,vw,vp,vl] 37)))
 clear hrf
 have hflf:=flat_len (fun n=>numB n 2) 2 lf fun y _=>Nat.le_of_eq (numB_len y 2)
 have hwn:wrap64 n=n:=by unfold wrap64;omega
 have hx4:True:=trivial
 have hx3:True:=trivial
 have h0:=Wr.start1 w (.cells #[.int .i64 43,.string a,.string b,.int .u32 n,vf,vr,vt,vv,vd,vw,vp,vl] 37)
 have hc:=h0.cell
 have HB:=zh h0
 clear h0
 have HE:=zh hE
 clear hE
 go_enter Tryz.func16,Tryz.ntmps16
 go_wp2_with (first|(go_at_call 36;refine(number_w 1 (by omega) _ HB.out ul2).mono ?_;rintro e w1 ⟨rfl,v1,hn⟩;clear hc;have hc:=hn.cell;clear hx4;have hx4:=box_at hn.buf.bel 4 (vf) rfl;clear hx3;have hx3:=box_at hn.buf.bel 3 (.int .u32 n) rfl;replace HB:=zh hn;clear hn)|(go_at_call 39;refine(shorts_w lf HB.out HRf.out ul2).mono ?_;rintro e w1 ⟨rfl,v1,hn⟩;clear hc;have hc:=hn.cell;clear hx4;have hx4:=box_at hn.buf.bel 4 (vf) rfl;clear hx3;have hx3:=box_at hn.buf.bel 3 (.int .u32 n) rfl;replace HB:=zh hn;clear hn;clear HRf))
 go_ret
 exact gave_of HB.out ul5
theorem body52 (a b:ByteArray)(n:Int)(vf vr vt vv vd vw vp vl:Value)(w:World)(ty:List Int)(hrt:RdI .u32 w vt ty)(hlt:ty.length<=4294967296)(hgt:∀y∈ty,0<=y/\y < 4294967296)(R:List Int)(hE:(numB (ty.length:Int) 2++ty.flatMap fun n=>numB n 4)=R):
 Calls Tryz.prog 16 #[.agg #[.int .i64 52,.string a,.string b,.int .u32 n,vf,vr,vt,vv,vd,vw,vp,vl]] w (Gave w R):=by
 have HRt:=zh (hrt.ext (ext_alloc w (.cells #[.int .i64 52,.string a,.string b,.int .u32 n,vf,vr,vt,vv,vd,vw,vp,vl] 37)))
 clear hrt
 have HGt:=zh hgt
 clear hgt
 have hflt:=flat_len (fun n=>numB n 4) 4 ty fun y _=>Nat.le_of_eq (numB_len y 4)
 have hx6:True:=trivial
 have h0:=Wr.start1 w (.cells #[.int .i64 52,.string a,.string b,.int .u32 n,vf,vr,vt,vv,vd,vw,vp,vl] 37)
 have hc:=h0.cell
 have HB:=zh h0
 clear h0
 have HE:=zh hE
 clear hE
 go_enter Tryz.func16,Tryz.ntmps16
 go_wp2_with (first|(go_at_call 41;refine(types_w ty HB.out HRt.out ul2 HGt.out).mono ?_;rintro e w1 ⟨rfl,v1,hn⟩;clear hc;have hc:=hn.cell;clear hx6;have hx6:=box_at hn.buf.bel 6 (vt) rfl;replace HB:=zh hn;clear hn))
 go_ret
 exact gave_of HB.out ul5
end Go.Proofs.YtdenjanihikolaaGreatDoor
