/- What Decode of the thin package gives for the body of a message, by kind. -/
import Derived.Test.YtdenjanihikolaaGreatDoorDqA0
import Derived.Test.YtdenjanihikolaaGreatDoorDqA1
import Derived.Test.YtdenjanihikolaaGreatDoorDqDdz
import Derived.Test.YtdenjanihikolaaGreatDoorDqDla
import Derived.Test.YtdenjanihikolaaGreatDoorDqTdk
import Derived.Test.YtdenjanihikolaaGreatDoorDqBdk
namespace Go.Proofs.YtdenjanihikolaaGreatDoor
set_option linter.unusedVariables false
set_option linter.unusedSimpArgs false
set_option maxRecDepth 100000
open Go.RowKit
def DecR (kd:Int) (R:List Int) (np:Nat) (v:Value) (w:World):Prop:=
 ∃(a b:ByteArray) (n:Int) (A5 A6 A7 A8 A9 A10 A11 A12:Option Addr) (c5 c6 c7 c8 c9 c10 c11 c12:Nat) (lf lr ty d:List Int) (vls:List (Bool×List Int)) (ws:List ByteArray) (ps:List (ByteArray×ByteArray)) (fs:List Sf),MsgIn w v a b kd n 0 A5 A6 A7 A8 A9 A10 A11 A12 c5 c6 c7 c8 c9 c10 c11 c12 lf lr ty d vls ws ps fs/\(turnedQ kd=true->ps.length=np)/\vls.length<=1000/\ps.length<=1000/\fs.length<=1000/\
  ∀(B7 B10 B11:Option Addr) (d7 d10 d11:Nat) (wx:World),SpIn wx A5 A6 A7 B7 A9 A10 B10 B11 c5 c6 c7 d7 c9 c10 d10 d11 lf lr ty d vls ws ps fs->Calls Tryz.prog 15 #[.agg #[.int .i64 kd,.string a,.string b,.int .u32 n,.slice A5 lf.length c5,.slice A6 lr.length c6,.slice A7 ty.length c7,.slice B7 vls.length d7,.slice A9 d.length c9,.slice A10 ws.length c10,.slice B10 ps.length d10,.slice B11 fs.length d11]] wx (Gave wx R)
theorem decR_of {kd:Int} {R:List Int} {np:Nat} {v:Value} {w:World} {a b:ByteArray} {n:Int} {lf lr ty d:List Int} {vls:List (Bool×List Int)} {ws:List ByteArray} {ps:List (ByteArray×ByteArray)} {fs:List Sf}
 (h:DecP kd a b n lf lr ty d vls ws ps fs v w) (ht:turnedQ kd=true->ps.length=np) (h1:vls.length<=1000) (h2:ps.length<=1000) (h3:fs.length<=1000)
 (hb:∀{A5 A6 A7 B7 A9 A10 B10 B11:Option Addr} {c5 c6 c7 d7 c9 c10 d10 d11:Nat} {wx:World},SpIn wx A5 A6 A7 B7 A9 A10 B10 B11 c5 c6 c7 d7 c9 c10 d10 d11 lf lr ty d vls ws ps fs->Calls Tryz.prog 15 #[.agg #[.int .i64 kd,.string a,.string b,.int .u32 n,.slice A5 lf.length c5,.slice A6 lr.length c6,.slice A7 ty.length c7,.slice B7 vls.length d7,.slice A9 d.length c9,.slice A10 ws.length c10,.slice B10 ps.length d10,.slice B11 fs.length d11]] wx (Gave wx R)):DecR kd R np v w:=by
 obtain⟨A5,A6,A7,A8,A9,A10,A11,A12,c5,c6,c7,c8,c9,c10,c11,c12,hm⟩:=h
 exact⟨a,b,n,A5,A6,A7,A8,A9,A10,A11,A12,c5,c6,c7,c8,c9,c10,c11,c12,lf,lr,ty,d,vls,ws,ps,fs,hm,ht,h1,h2,h3,fun B7 B10 B11 d7 d10 d11 wx hs=>hb hs⟩
theorem decOk_mono {P Q:Value->World->Prop} {w:World} (h:∀v w2,P v w2->Q v w2):∀e w2,DecOk P w e w2->DecOk Q w e w2:=by
 rintro e w2 ⟨v,rfl,hx,hd⟩
 exact⟨v,rfl,hx,fun w3 h3=>h v w3 (hd w3 h3)⟩
structure DD (kd:Int) (x:Value) (w:World) (Bod:List Int->Prop) (RB R:List Int) (np:Nat):Prop where
 body:∀wy,Ext w wy->Calls Tryz.prog 16 #[x] wy (Gave wy RB)
 all:∀wy,Ext w wy->Calls Tryz.prog 15 #[x] wy (Gave wy R)
 isb:Bod RB
 len:∀r,Bod r->r.length=RB.length
 dec:∀w1 vb r,Bod r->RdB w1 vb r->Tab w1->Calls Tryz.prog 19 #[.int .i64 kd,vb] w1 (DecOk (DecR kd R np) w1)
theorem lt5 {n:Nat} (h:n<=60000):n<=100000:=by omega
theorem colF {y:Sf} (h:colP y)(hg:0<=y.tab/\y.tab < 4294967296/\0<=y.typ/\y.typ < 4294967296):y.name.size<=200/\0<=y.tab/\y.tab < 4294967296/\0<=y.typ/\y.typ < 4294967296/\0<=y.col/\y.col<=32767/\ -32768<=y.siz/\y.siz<=32767/\ -2147483648<=y.mdf/\y.mdf < 2147483648/\0<=y.fmt/\y.fmt<=1:=by
 unfold colP at h
 obtain⟨h1,h2⟩:=h
 exact⟨h1.1,hg.1,hg.2.1,hg.2.2.1,hg.2.2.2,h2⟩
section
variable {a b : ByteArray} {n : Int} {A5 A6 A7 B7 A9 A10 B10 B11 : Option Addr} {c5 c6 c7 d7 c9 c10 d10 d11 : Nat} {lf lr ty d : List Int} {vls : List (Bool × List Int)} {ws : List ByteArray} {ps : List Pr} {fs : List Sf} {w : World}
theorem dd0 (hp:properP 0 a b n lf lr ty vls d ws ps fs)(hn:0<=n/\n < 4294967296)(hgt:∀y∈ty,0<=y/\y < 4294967296)(hgd:∀y∈d,0<=y/\y < 256)(hbv:∀y∈vls,∀z∈y.2,0<=z/\z < 256)(hgl:∀x∈fs,0<=x.tab/\x.tab < 4294967296/\0<=x.typ/\x.typ < 4294967296)(hs:SpIn w A5 A6 A7 B7 A9 A10 B10 B11 c5 c6 c7 d7 c9 c10 d10 d11 lf lr ty d vls ws ps fs):DD 0 (.agg #[.int .i64 0,.string a,.string b,.int .u32 n,.slice A5 lf.length c5,.slice A6 lr.length c6,.slice A7 ty.length c7,.slice B7 vls.length d7,.slice A9 d.length c9,.slice A10 ws.length c10,.slice B10 ps.length d10,.slice B11 fs.length d11]) w (fun r=>r=txt a++txt b++(numB (lf.length:Int) 2++lf.flatMap fun n=>numB n 2)++(numB (vls.length:Int) 2++vls.flatMap fun x=>valB x.1 x.2)++(numB (lr.length:Int) 2++lr.flatMap fun n=>numB n 2)) (txt a++txt b++(numB (lf.length:Int) 2++lf.flatMap fun n=>numB n 2)++(numB (vls.length:Int) 2++vls.flatMap fun x=>valB x.1 x.2)++(numB (lr.length:Int) 2++lr.flatMap fun n=>numB n 2)) (allB 66 (txt a++txt b++(numB (lf.length:Int) 2++lf.flatMap fun n=>numB n 2)++(numB (vls.length:Int) 2++vls.flatMap fun x=>valB x.1 x.2)++(numB (lr.length:Int) 2++lr.flatMap fun n=>numB n 2))) ps.length:=by
 refine⟨fun wy hy=>bo0 hp.pa.1 hp.pb.1 (hp.k0 rfl).1.1 (hp.k0 rfl).2.1 hp.vals.1 (fun y hy=>(hp.vals.2 y hy).1) (hs.ext hy),fun wy hy=>by0 hp.pa.1 hp.pb.1 (hp.k0 rfl).1.1 (hp.k0 rfl).2.1 hp.vals.1 (fun y hy=>(hp.vals.2 y hy).1) (hs.ext hy),rfl,fun r h=>by rw [h],fun w1 vb r hr hv _=>?_⟩
 have e:(txt a++txt b++(numB (lf.length:Int) 2++lf.flatMap fun n=>numB n 2)++(numB (vls.length:Int) 2++vls.flatMap fun x=>valB x.1 x.2)++(numB (lr.length:Int) 2++lr.flatMap fun n=>numB n 2))=(sby a++0 :: (sby b++0 :: (numB (lf.length:Int) 2++(lf.flatMap (fun n=>numB n 2)++(numB (vls.length:Int) 2++(vls.flatMap (fun x=>valB x.1 x.2)++(numB (lr.length:Int) 2++lr.flatMap (fun n=>numB n 2)))))))):=by simp only [txt,List.append_assoc,List.cons_append,List.nil_append,List.append_nil,List.singleton_append]
 have hlen:(txt a++txt b++(numB (lf.length:Int) 2++lf.flatMap fun n=>numB n 2)++(numB (vls.length:Int) 2++vls.flatMap fun x=>valB x.1 x.2)++(numB (lr.length:Int) 2++lr.flatMap fun n=>numB n 2)).length<=100000:=lt5 (by have ha:=hp.pa.1;have hb:=hp.pb.1;have hf:=(hp.k0 rfl).1.1;have hr:=(hp.k0 rfl).2.1;have hv:=hp.vals.1;have hgv:=fun y hy=>(hp.vals.2 y hy).1;have:=n2_len lf;have:=n2_len lr;have:=opt_len hgv;simp only [List.length_append,numB_len,txt_len];omega)
 rw [hr,e]at hv
 rw [e]at hlen
 exact(dk0 a b lf lr vls hp.pa hp.pb (hp.k0 rfl).1.1 (small01 (hp.k0 rfl).1.2) hp.vals.1 hp.vals.2 hbv (hp.k0 rfl).2.1 (small01 (hp.k0 rfl).2.2) w1 vb hv hlen).mono (decOk_mono fun v w2 hd=>decR_of hd (fun h=>absurd h (by decide)) (Nat.le_trans hp.vals.1 (by omega)) (by simp) (by simp) fun hs=>by0 hp.pa.1 hp.pb.1 (hp.k0 rfl).1.1 (hp.k0 rfl).2.1 hp.vals.1 (fun y hy=>(hp.vals.2 y hy).1) hs)
theorem dd1 (hp:properP 1 a b n lf lr ty vls d ws ps fs)(hn:0<=n/\n < 4294967296)(hgt:∀y∈ty,0<=y/\y < 4294967296)(hgd:∀y∈d,0<=y/\y < 256)(hbv:∀y∈vls,∀z∈y.2,0<=z/\z < 256)(hgl:∀x∈fs,0<=x.tab/\x.tab < 4294967296/\0<=x.typ/\x.typ < 4294967296)(hs:SpIn w A5 A6 A7 B7 A9 A10 B10 B11 c5 c6 c7 d7 c9 c10 d10 d11 lf lr ty d vls ws ps fs):DD 1 (.agg #[.int .i64 1,.string a,.string b,.int .u32 n,.slice A5 lf.length c5,.slice A6 lr.length c6,.slice A7 ty.length c7,.slice B7 vls.length d7,.slice A9 d.length c9,.slice A10 ws.length c10,.slice B10 ps.length d10,.slice B11 fs.length d11]) w (fun r=>r=numB 80877102 4++numB n 4++d) (numB 80877102 4++numB n 4++d) (allB 0 (numB 80877102 4++numB n 4++d)) ps.length:=by
 refine⟨fun wy hy=>bo1 hp.data hn (hs.ext hy),fun wy hy=>by1 hp.data hn (hs.ext hy),rfl,fun r h=>by rw [h],fun w1 vb r hr hv _=>?_⟩
 have e:(numB 80877102 4++numB n 4++d)=(numB 80877102 4++(numB n 4++d)):=by simp only [txt,List.append_assoc,List.cons_append,List.nil_append,List.append_nil,List.singleton_append]
 have hlen:(numB 80877102 4++numB n 4++d).length<=100000:=lt5 (by have hd:=hp.data;simp only [List.length_append,List.length_cons,List.length_nil,numB_len,txt_len];omega)
 rw [hr,e]at hv
 rw [e]at hlen
 exact(dk1 n hn d hp.data hgd (hp.k1 (by omega)) w1 vb hv hlen).mono (decOk_mono fun v w2 hd=>decR_of hd (fun h=>absurd h (by decide)) (by simp) (by simp) (by simp) fun hs=>by1 hp.data hn hs)
theorem dd2 (hp:properP 2 a b n lf lr ty vls d ws ps fs)(hn:0<=n/\n < 4294967296)(hgt:∀y∈ty,0<=y/\y < 4294967296)(hgd:∀y∈d,0<=y/\y < 256)(hbv:∀y∈vls,∀z∈y.2,0<=z/\z < 256)(hgl:∀x∈fs,0<=x.tab/\x.tab < 4294967296/\0<=x.typ/\x.typ < 4294967296)(hs:SpIn w A5 A6 A7 B7 A9 A10 B10 B11 c5 c6 c7 d7 c9 c10 d10 d11 lf lr ty d vls ws ps fs):DD 2 (.agg #[.int .i64 2,.string a,.string b,.int .u32 n,.slice A5 lf.length c5,.slice A6 lr.length c6,.slice A7 ty.length c7,.slice B7 vls.length d7,.slice A9 d.length c9,.slice A10 ws.length c10,.slice B10 ps.length d10,.slice B11 fs.length d11]) w (fun r=>r=numB n 1++txt a) (numB n 1++txt a) (allB 67 (numB n 1++txt a)) ps.length:=by
 refine⟨fun wy hy=>bo2 hp.pa.1 hn (hs.ext hy),fun wy hy=>by2 hp.pa.1 hn (hs.ext hy),rfl,fun r h=>by rw [h],fun w1 vb r hr hv _=>?_⟩
 have e:(numB n 1++txt a)=(numB n 1++(sby a++0 :: [])):=by simp only [txt,List.append_assoc,List.cons_append,List.nil_append,List.append_nil,List.singleton_append]
 have hlen:(numB n 1++txt a).length<=100000:=lt5 (by have ha:=hp.pa.1;simp only [List.length_append,List.length_cons,List.length_nil,numB_len,txt_len];omega)
 rw [hr,e]at hv
 rw [e]at hlen
 exact(dk2 n (⟨hn.1,by have:=hp.k2 (by omega);omega⟩) a hp.pa w1 vb hv hlen).mono (decOk_mono fun v w2 hd=>decR_of hd (fun h=>absurd h (by decide)) (by simp) (by simp) (by simp) fun hs=>by2 hp.pa.1 hn hs)
theorem dd3 (hp:properP 3 a b n lf lr ty vls d ws ps fs)(hn:0<=n/\n < 4294967296)(hgt:∀y∈ty,0<=y/\y < 4294967296)(hgd:∀y∈d,0<=y/\y < 256)(hbv:∀y∈vls,∀z∈y.2,0<=z/\z < 256)(hgl:∀x∈fs,0<=x.tab/\x.tab < 4294967296/\0<=x.typ/\x.typ < 4294967296)(hs:SpIn w A5 A6 A7 B7 A9 A10 B10 B11 c5 c6 c7 d7 c9 c10 d10 d11 lf lr ty d vls ws ps fs):DD 3 (.agg #[.int .i64 3,.string a,.string b,.int .u32 n,.slice A5 lf.length c5,.slice A6 lr.length c6,.slice A7 ty.length c7,.slice B7 vls.length d7,.slice A9 d.length c9,.slice A10 ws.length c10,.slice B10 ps.length d10,.slice B11 fs.length d11]) w (fun r=>r=d) (d) (allB 100 (d)) ps.length:=by
 refine⟨fun wy hy=>bo3 hp.data (hs.ext hy),fun wy hy=>by3 hp.data (hs.ext hy),rfl,fun r h=>by rw [h],fun w1 vb r hr hv _=>?_⟩
 have e:(d)=(d):=by rfl
 have hlen:(d).length<=100000:=lt5 (by have hd:=hp.data;omega)
 rw [hr,e]at hv
 rw [e]at hlen
 exact(dk3 d hp.data hgd w1 vb hv hlen).mono (decOk_mono fun v w2 hd=>decR_of hd (fun h=>absurd h (by decide)) (by simp) (by simp) (by simp) fun hs=>by3 hp.data hs)
theorem dd4 (hp:properP 4 a b n lf lr ty vls d ws ps fs)(hn:0<=n/\n < 4294967296)(hgt:∀y∈ty,0<=y/\y < 4294967296)(hgd:∀y∈d,0<=y/\y < 256)(hbv:∀y∈vls,∀z∈y.2,0<=z/\z < 256)(hgl:∀x∈fs,0<=x.tab/\x.tab < 4294967296/\0<=x.typ/\x.typ < 4294967296)(hs:SpIn w A5 A6 A7 B7 A9 A10 B10 B11 c5 c6 c7 d7 c9 c10 d10 d11 lf lr ty d vls ws ps fs):DD 4 (.agg #[.int .i64 4,.string a,.string b,.int .u32 n,.slice A5 lf.length c5,.slice A6 lr.length c6,.slice A7 ty.length c7,.slice B7 vls.length d7,.slice A9 d.length c9,.slice A10 ws.length c10,.slice B10 ps.length d10,.slice B11 fs.length d11]) w (fun r=>r=[]) ([]) (allB 99 ([])) ps.length:=by
 refine⟨fun wy hy=>bo4 (hs.ext hy),fun wy hy=>by4 (hs.ext hy),rfl,fun r h=>by rw [h],fun w1 vb r hr hv _=>?_⟩
 have e:(([]:List Int))=(([]:List Int)):=by simp only [txt,List.append_assoc,List.cons_append,List.nil_append,List.append_nil,List.singleton_append]
 have hlen:(([]:List Int)).length<=100000:=lt5 (by simp)
 rw [hr,e]at hv
 rw [e]at hlen
 exact(dk4 w1 vb hv hlen).mono (decOk_mono fun v w2 hd=>decR_of hd (fun h=>absurd h (by decide)) (by simp) (by simp) (by simp) fun hs=>by4 hs)
theorem dd5 (hp:properP 5 a b n lf lr ty vls d ws ps fs)(hn:0<=n/\n < 4294967296)(hgt:∀y∈ty,0<=y/\y < 4294967296)(hgd:∀y∈d,0<=y/\y < 256)(hbv:∀y∈vls,∀z∈y.2,0<=z/\z < 256)(hgl:∀x∈fs,0<=x.tab/\x.tab < 4294967296/\0<=x.typ/\x.typ < 4294967296)(hs:SpIn w A5 A6 A7 B7 A9 A10 B10 B11 c5 c6 c7 d7 c9 c10 d10 d11 lf lr ty d vls ws ps fs):DD 5 (.agg #[.int .i64 5,.string a,.string b,.int .u32 n,.slice A5 lf.length c5,.slice A6 lr.length c6,.slice A7 ty.length c7,.slice B7 vls.length d7,.slice A9 d.length c9,.slice A10 ws.length c10,.slice B10 ps.length d10,.slice B11 fs.length d11]) w (fun r=>r=txt a) (txt a) (allB 102 (txt a)) ps.length:=by
 refine⟨fun wy hy=>bo5 hp.pa.1 (hs.ext hy),fun wy hy=>by5 hp.pa.1 (hs.ext hy),rfl,fun r h=>by rw [h],fun w1 vb r hr hv _=>?_⟩
 have e:(txt a)=(sby a++0 :: []):=by simp only [txt,List.append_assoc,List.cons_append,List.nil_append,List.append_nil,List.singleton_append]
 have hlen:(txt a).length<=100000:=lt5 (by have ha:=hp.pa.1;simp only [List.length_append,List.length_cons,List.length_nil,numB_len,txt_len];omega)
 rw [hr,e]at hv
 rw [e]at hlen
 exact(dk5 a hp.pa w1 vb hv hlen).mono (decOk_mono fun v w2 hd=>decR_of hd (fun h=>absurd h (by decide)) (by simp) (by simp) (by simp) fun hs=>by5 hp.pa.1 hs)
theorem dd6 (hp:properP 6 a b n lf lr ty vls d ws ps fs)(hn:0<=n/\n < 4294967296)(hgt:∀y∈ty,0<=y/\y < 4294967296)(hgd:∀y∈d,0<=y/\y < 256)(hbv:∀y∈vls,∀z∈y.2,0<=z/\z < 256)(hgl:∀x∈fs,0<=x.tab/\x.tab < 4294967296/\0<=x.typ/\x.typ < 4294967296)(hs:SpIn w A5 A6 A7 B7 A9 A10 B10 B11 c5 c6 c7 d7 c9 c10 d10 d11 lf lr ty d vls ws ps fs):DD 6 (.agg #[.int .i64 6,.string a,.string b,.int .u32 n,.slice A5 lf.length c5,.slice A6 lr.length c6,.slice A7 ty.length c7,.slice B7 vls.length d7,.slice A9 d.length c9,.slice A10 ws.length c10,.slice B10 ps.length d10,.slice B11 fs.length d11]) w (fun r=>r=numB n 1++txt a) (numB n 1++txt a) (allB 68 (numB n 1++txt a)) ps.length:=by
 refine⟨fun wy hy=>bo6 hp.pa.1 hn (hs.ext hy),fun wy hy=>by6 hp.pa.1 hn (hs.ext hy),rfl,fun r h=>by rw [h],fun w1 vb r hr hv _=>?_⟩
 have e:(numB n 1++txt a)=(numB n 1++(sby a++0 :: [])):=by simp only [txt,List.append_assoc,List.cons_append,List.nil_append,List.append_nil,List.singleton_append]
 have hlen:(numB n 1++txt a).length<=100000:=lt5 (by have ha:=hp.pa.1;simp only [List.length_append,List.length_cons,List.length_nil,numB_len,txt_len];omega)
 rw [hr,e]at hv
 rw [e]at hlen
 exact(dk6 n (⟨hn.1,by have:=hp.k2 (by omega);omega⟩) a hp.pa w1 vb hv hlen).mono (decOk_mono fun v w2 hd=>decR_of hd (fun h=>absurd h (by decide)) (by simp) (by simp) (by simp) fun hs=>by6 hp.pa.1 hn hs)
theorem dd7 (hp:properP 7 a b n lf lr ty vls d ws ps fs)(hn:0<=n/\n < 4294967296)(hgt:∀y∈ty,0<=y/\y < 4294967296)(hgd:∀y∈d,0<=y/\y < 256)(hbv:∀y∈vls,∀z∈y.2,0<=z/\z < 256)(hgl:∀x∈fs,0<=x.tab/\x.tab < 4294967296/\0<=x.typ/\x.typ < 4294967296)(hs:SpIn w A5 A6 A7 B7 A9 A10 B10 B11 c5 c6 c7 d7 c9 c10 d10 d11 lf lr ty d vls ws ps fs):DD 7 (.agg #[.int .i64 7,.string a,.string b,.int .u32 n,.slice A5 lf.length c5,.slice A6 lr.length c6,.slice A7 ty.length c7,.slice B7 vls.length d7,.slice A9 d.length c9,.slice A10 ws.length c10,.slice B10 ps.length d10,.slice B11 fs.length d11]) w (fun r=>r=txt a++numB n 4) (txt a++numB n 4) (allB 69 (txt a++numB n 4)) ps.length:=by
 refine⟨fun wy hy=>bo7 hp.pa.1 hn (hs.ext hy),fun wy hy=>by7 hp.pa.1 hn (hs.ext hy),rfl,fun r h=>by rw [h],fun w1 vb r hr hv _=>?_⟩
 have e:(txt a++numB n 4)=(sby a++0 :: (numB n 4++ [])):=by simp only [txt,List.append_assoc,List.cons_append,List.nil_append,List.append_nil,List.singleton_append]
 have hlen:(txt a++numB n 4).length<=100000:=lt5 (by have ha:=hp.pa.1;simp only [List.length_append,List.length_cons,List.length_nil,numB_len,txt_len];omega)
 rw [hr,e]at hv
 rw [e]at hlen
 exact(dk7 a hp.pa n hn w1 vb hv hlen).mono (decOk_mono fun v w2 hd=>decR_of hd (fun h=>absurd h (by decide)) (by simp) (by simp) (by simp) fun hs=>by7 hp.pa.1 hn hs)
theorem dd8 (hp:properP 8 a b n lf lr ty vls d ws ps fs)(hn:0<=n/\n < 4294967296)(hgt:∀y∈ty,0<=y/\y < 4294967296)(hgd:∀y∈d,0<=y/\y < 256)(hbv:∀y∈vls,∀z∈y.2,0<=z/\z < 256)(hgl:∀x∈fs,0<=x.tab/\x.tab < 4294967296/\0<=x.typ/\x.typ < 4294967296)(hs:SpIn w A5 A6 A7 B7 A9 A10 B10 B11 c5 c6 c7 d7 c9 c10 d10 d11 lf lr ty d vls ws ps fs):DD 8 (.agg #[.int .i64 8,.string a,.string b,.int .u32 n,.slice A5 lf.length c5,.slice A6 lr.length c6,.slice A7 ty.length c7,.slice B7 vls.length d7,.slice A9 d.length c9,.slice A10 ws.length c10,.slice B10 ps.length d10,.slice B11 fs.length d11]) w (fun r=>r=[]) ([]) (allB 72 ([])) ps.length:=by
 refine⟨fun wy hy=>bo8 (hs.ext hy),fun wy hy=>by8 (hs.ext hy),rfl,fun r h=>by rw [h],fun w1 vb r hr hv _=>?_⟩
 have e:(([]:List Int))=(([]:List Int)):=by simp only [txt,List.append_assoc,List.cons_append,List.nil_append,List.append_nil,List.singleton_append]
 have hlen:(([]:List Int)).length<=100000:=lt5 (by simp)
 rw [hr,e]at hv
 rw [e]at hlen
 exact(dk8 w1 vb hv hlen).mono (decOk_mono fun v w2 hd=>decR_of hd (fun h=>absurd h (by decide)) (by simp) (by simp) (by simp) fun hs=>by8 hs)
theorem dd9 (hp:properP 9 a b n lf lr ty vls d ws ps fs)(hn:0<=n/\n < 4294967296)(hgt:∀y∈ty,0<=y/\y < 4294967296)(hgd:∀y∈d,0<=y/\y < 256)(hbv:∀y∈vls,∀z∈y.2,0<=z/\z < 256)(hgl:∀x∈fs,0<=x.tab/\x.tab < 4294967296/\0<=x.typ/\x.typ < 4294967296)(hs:SpIn w A5 A6 A7 B7 A9 A10 B10 B11 c5 c6 c7 d7 c9 c10 d10 d11 lf lr ty d vls ws ps fs):DD 9 (.agg #[.int .i64 9,.string a,.string b,.int .u32 n,.slice A5 lf.length c5,.slice A6 lr.length c6,.slice A7 ty.length c7,.slice B7 vls.length d7,.slice A9 d.length c9,.slice A10 ws.length c10,.slice B10 ps.length d10,.slice B11 fs.length d11]) w (fun r=>r=(numB n 4++(numB (lf.length:Int) 2++lf.flatMap fun n=>numB n 2)++(numB (vls.length:Int) 2++vls.flatMap fun x=>valB x.1 x.2)++lr.flatMap fun n=>numB n 2)) ((numB n 4++(numB (lf.length:Int) 2++lf.flatMap fun n=>numB n 2)++(numB (vls.length:Int) 2++vls.flatMap fun x=>valB x.1 x.2)++lr.flatMap fun n=>numB n 2)) (allB 70 ((numB n 4++(numB (lf.length:Int) 2++lf.flatMap fun n=>numB n 2)++(numB (vls.length:Int) 2++vls.flatMap fun x=>valB x.1 x.2)++lr.flatMap fun n=>numB n 2))) ps.length:=by
 obtain⟨rx,rfl⟩:∃rx,lr=[rx]:=by
  match lr,(hp.k9 rfl).2.2 with
  | [rx],_=>exact⟨rx,rfl⟩
 refine⟨fun wy hy=>bo9 hn (hp.k9 rfl).1.1 (hp.k9 rfl).2.1.1 hp.vals.1 (fun y hy=>(hp.vals.2 y hy).1) (hs.ext hy),fun wy hy=>by9 hn (hp.k9 rfl).1.1 (hp.k9 rfl).2.1.1 hp.vals.1 (fun y hy=>(hp.vals.2 y hy).1) (hs.ext hy),rfl,fun r h=>by rw [h],fun w1 vb r hr hv _=>?_⟩
 have e:((numB n 4++(numB (lf.length:Int) 2++lf.flatMap fun n=>numB n 2)++(numB (vls.length:Int) 2++vls.flatMap fun x=>valB x.1 x.2)++ [rx].flatMap fun n=>numB n 2))=(numB n 4++(numB (lf.length:Int) 2++(lf.flatMap (fun n=>numB n 2)++(numB (vls.length:Int) 2++(vls.flatMap (fun x=>valB x.1 x.2)++numB rx 2))))):=by simp only [List.flatMap_cons,List.flatMap_nil,List.append_nil,List.append_assoc]
 have hlen:((numB n 4++(numB (lf.length:Int) 2++lf.flatMap fun n=>numB n 2)++(numB (vls.length:Int) 2++vls.flatMap fun x=>valB x.1 x.2)++ [rx].flatMap fun n=>numB n 2)).length<=100000:=lt5 (by have hf:=(hp.k9 rfl).1.1;have hr:=(hp.k9 rfl).2.1.1;have hv:=hp.vals.1;have hgv:=fun y hy=>(hp.vals.2 y hy).1;have:=n2_len lf;have:=n2_len [rx];have:=opt_len hgv;simp only [List.length_append,numB_len,txt_len,List.length_cons,List.length_nil]at *;omega)
 rw [hr,e]at hv
 rw [e]at hlen
 exact(dk9 n rx lf vls hn ((hp.k9 rfl).2.1.2 rx (by simp)) (hp.k9 rfl).1.1 (hp.k9 rfl).1.2 hp.vals.1 hp.vals.2 hbv w1 vb hv hlen).mono (decOk_mono fun v w2 hd=>decR_of hd (fun h=>absurd h (by decide)) (Nat.le_trans hp.vals.1 (by omega)) (by simp) (by simp) fun hs=>by9 hn (hp.k9 rfl).1.1 (hp.k9 rfl).2.1.1 hp.vals.1 (fun y hy=>(hp.vals.2 y hy).1) hs)
theorem dd10 (hp:properP 10 a b n lf lr ty vls d ws ps fs)(hn:0<=n/\n < 4294967296)(hgt:∀y∈ty,0<=y/\y < 4294967296)(hgd:∀y∈d,0<=y/\y < 256)(hbv:∀y∈vls,∀z∈y.2,0<=z/\z < 256)(hgl:∀x∈fs,0<=x.tab/\x.tab < 4294967296/\0<=x.typ/\x.typ < 4294967296)(hs:SpIn w A5 A6 A7 B7 A9 A10 B10 B11 c5 c6 c7 d7 c9 c10 d10 d11 lf lr ty d vls ws ps fs):DD 10 (.agg #[.int .i64 10,.string a,.string b,.int .u32 n,.slice A5 lf.length c5,.slice A6 lr.length c6,.slice A7 ty.length c7,.slice B7 vls.length d7,.slice A9 d.length c9,.slice A10 ws.length c10,.slice B10 ps.length d10,.slice B11 fs.length d11]) w (fun r=>r=numB 80877104 4) (numB 80877104 4) (allB 0 (numB 80877104 4)) ps.length:=by
 refine⟨fun wy hy=>bo10 (hs.ext hy),fun wy hy=>by10 (hs.ext hy),rfl,fun r h=>by rw [h],fun w1 vb r hr hv _=>?_⟩
 have e:(numB 80877104 4)=(numB 80877104 4++ []):=by simp only [txt,List.append_assoc,List.cons_append,List.nil_append,List.append_nil,List.singleton_append]
 have hlen:(numB 80877104 4).length<=100000:=lt5 (by simp only [List.length_append,List.length_cons,List.length_nil,numB_len,txt_len];omega)
 rw [hr,e]at hv
 rw [e]at hlen
 exact(dk10 w1 vb hv hlen).mono (decOk_mono fun v w2 hd=>decR_of hd (fun h=>absurd h (by decide)) (by simp) (by simp) (by simp) fun hs=>by10 hs)
theorem dd11 (hp:properP 11 a b n lf lr ty vls d ws ps fs)(hn:0<=n/\n < 4294967296)(hgt:∀y∈ty,0<=y/\y < 4294967296)(hgd:∀y∈d,0<=y/\y < 256)(hbv:∀y∈vls,∀z∈y.2,0<=z/\z < 256)(hgl:∀x∈fs,0<=x.tab/\x.tab < 4294967296/\0<=x.typ/\x.typ < 4294967296)(hs:SpIn w A5 A6 A7 B7 A9 A10 B10 B11 c5 c6 c7 d7 c9 c10 d10 d11 lf lr ty d vls ws ps fs):DD 11 (.agg #[.int .i64 11,.string a,.string b,.int .u32 n,.slice A5 lf.length c5,.slice A6 lr.length c6,.slice A7 ty.length c7,.slice B7 vls.length d7,.slice A9 d.length c9,.slice A10 ws.length c10,.slice B10 ps.length d10,.slice B11 fs.length d11]) w (fun r=>r=d) (d) (allB 112 (d)) ps.length:=by
 refine⟨fun wy hy=>bo11 hp.data (hs.ext hy),fun wy hy=>by11 hp.data (hs.ext hy),rfl,fun r h=>by rw [h],fun w1 vb r hr hv _=>?_⟩
 have e:(d)=(d):=by rfl
 have hlen:(d).length<=100000:=lt5 (by have hd:=hp.data;omega)
 rw [hr,e]at hv
 rw [e]at hlen
 exact(dk11 d hp.data hgd w1 vb hv hlen).mono (decOk_mono fun v w2 hd=>decR_of hd (fun h=>absurd h (by decide)) (by simp) (by simp) (by simp) fun hs=>by11 hp.data hs)
theorem dd12 (hp:properP 12 a b n lf lr ty vls d ws ps fs)(hn:0<=n/\n < 4294967296)(hgt:∀y∈ty,0<=y/\y < 4294967296)(hgd:∀y∈d,0<=y/\y < 256)(hbv:∀y∈vls,∀z∈y.2,0<=z/\z < 256)(hgl:∀x∈fs,0<=x.tab/\x.tab < 4294967296/\0<=x.typ/\x.typ < 4294967296)(hs:SpIn w A5 A6 A7 B7 A9 A10 B10 B11 c5 c6 c7 d7 c9 c10 d10 d11 lf lr ty d vls ws ps fs):DD 12 (.agg #[.int .i64 12,.string a,.string b,.int .u32 n,.slice A5 lf.length c5,.slice A6 lr.length c6,.slice A7 ty.length c7,.slice B7 vls.length d7,.slice A9 d.length c9,.slice A10 ws.length c10,.slice B10 ps.length d10,.slice B11 fs.length d11]) w (fun r=>r=txt a++txt b++(numB (ty.length:Int) 2++ty.flatMap fun n=>numB n 4)) (txt a++txt b++(numB (ty.length:Int) 2++ty.flatMap fun n=>numB n 4)) (allB 80 (txt a++txt b++(numB (ty.length:Int) 2++ty.flatMap fun n=>numB n 4))) ps.length:=by
 refine⟨fun wy hy=>bo12 hp.pa.1 hp.pb.1 hp.types hgt (hs.ext hy),fun wy hy=>by12 hp.pa.1 hp.pb.1 hp.types hgt (hs.ext hy),rfl,fun r h=>by rw [h],fun w1 vb r hr hv _=>?_⟩
 have e:(txt a++txt b++(numB (ty.length:Int) 2++ty.flatMap fun n=>numB n 4))=(sby a++0 :: (sby b++0 :: (numB (ty.length:Int) 2++ty.flatMap fun n=>numB n 4))):=by simp only [txt,List.append_assoc,List.cons_append,List.nil_append,List.append_nil,List.singleton_append]
 have hlen:(txt a++txt b++(numB (ty.length:Int) 2++ty.flatMap fun n=>numB n 4)).length<=100000:=lt5 (by have ha:=hp.pa.1;have hb:=hp.pb.1;have ht:=hp.types;have:=n2_len lf;have:=n2_len lr;have:=n4_len ty;simp only [List.length_append,numB_len,txt_len];omega)
 rw [hr,e]at hv
 rw [e]at hlen
 exact(dk12 a hp.pa b hp.pb ty hp.types hgt w1 vb hv hlen).mono (decOk_mono fun v w2 hd=>decR_of hd (fun h=>absurd h (by decide)) (by simp) (by simp) (by simp) fun hs=>by12 hp.pa.1 hp.pb.1 hp.types hgt hs)
theorem dd13 (hp:properP 13 a b n lf lr ty vls d ws ps fs)(hn:0<=n/\n < 4294967296)(hgt:∀y∈ty,0<=y/\y < 4294967296)(hgd:∀y∈d,0<=y/\y < 256)(hbv:∀y∈vls,∀z∈y.2,0<=z/\z < 256)(hgl:∀x∈fs,0<=x.tab/\x.tab < 4294967296/\0<=x.typ/\x.typ < 4294967296)(hs:SpIn w A5 A6 A7 B7 A9 A10 B10 B11 c5 c6 c7 d7 c9 c10 d10 d11 lf lr ty d vls ws ps fs):DD 13 (.agg #[.int .i64 13,.string a,.string b,.int .u32 n,.slice A5 lf.length c5,.slice A6 lr.length c6,.slice A7 ty.length c7,.slice B7 vls.length d7,.slice A9 d.length c9,.slice A10 ws.length c10,.slice B10 ps.length d10,.slice B11 fs.length d11]) w (fun r=>r=txt a) (txt a) (allB 112 (txt a)) ps.length:=by
 refine⟨fun wy hy=>bo13 hp.pa.1 (hs.ext hy),fun wy hy=>by13 hp.pa.1 (hs.ext hy),rfl,fun r h=>by rw [h],fun w1 vb r hr hv _=>?_⟩
 have e:(txt a)=(sby a++0 :: []):=by simp only [txt,List.append_assoc,List.cons_append,List.nil_append,List.append_nil,List.singleton_append]
 have hlen:(txt a).length<=100000:=lt5 (by have ha:=hp.pa.1;simp only [List.length_append,List.length_cons,List.length_nil,numB_len,txt_len];omega)
 rw [hr,e]at hv
 rw [e]at hlen
 exact(dk13 a hp.pa w1 vb hv hlen).mono (decOk_mono fun v w2 hd=>decR_of hd (fun h=>absurd h (by decide)) (by simp) (by simp) (by simp) fun hs=>by13 hp.pa.1 hs)
theorem dd14 (hp:properP 14 a b n lf lr ty vls d ws ps fs)(hn:0<=n/\n < 4294967296)(hgt:∀y∈ty,0<=y/\y < 4294967296)(hgd:∀y∈d,0<=y/\y < 256)(hbv:∀y∈vls,∀z∈y.2,0<=z/\z < 256)(hgl:∀x∈fs,0<=x.tab/\x.tab < 4294967296/\0<=x.typ/\x.typ < 4294967296)(hs:SpIn w A5 A6 A7 B7 A9 A10 B10 B11 c5 c6 c7 d7 c9 c10 d10 d11 lf lr ty d vls ws ps fs):DD 14 (.agg #[.int .i64 14,.string a,.string b,.int .u32 n,.slice A5 lf.length c5,.slice A6 lr.length c6,.slice A7 ty.length c7,.slice B7 vls.length d7,.slice A9 d.length c9,.slice A10 ws.length c10,.slice B10 ps.length d10,.slice B11 fs.length d11]) w (fun r=>r=txt a) (txt a) (allB 81 (txt a)) ps.length:=by
 refine⟨fun wy hy=>bo14 hp.pa.1 (hs.ext hy),fun wy hy=>by14 hp.pa.1 (hs.ext hy),rfl,fun r h=>by rw [h],fun w1 vb r hr hv _=>?_⟩
 have e:(txt a)=(sby a++0 :: []):=by simp only [txt,List.append_assoc,List.cons_append,List.nil_append,List.append_nil,List.singleton_append]
 have hlen:(txt a).length<=100000:=lt5 (by have ha:=hp.pa.1;simp only [List.length_append,List.length_cons,List.length_nil,numB_len,txt_len];omega)
 rw [hr,e]at hv
 rw [e]at hlen
 exact(dk14 a hp.pa w1 vb hv hlen).mono (decOk_mono fun v w2 hd=>decR_of hd (fun h=>absurd h (by decide)) (by simp) (by simp) (by simp) fun hs=>by14 hp.pa.1 hs)
theorem dd15 (hp:properP 15 a b n lf lr ty vls d ws ps fs)(hn:0<=n/\n < 4294967296)(hgt:∀y∈ty,0<=y/\y < 4294967296)(hgd:∀y∈d,0<=y/\y < 256)(hbv:∀y∈vls,∀z∈y.2,0<=z/\z < 256)(hgl:∀x∈fs,0<=x.tab/\x.tab < 4294967296/\0<=x.typ/\x.typ < 4294967296)(hs:SpIn w A5 A6 A7 B7 A9 A10 B10 B11 c5 c6 c7 d7 c9 c10 d10 d11 lf lr ty d vls ws ps fs):DD 15 (.agg #[.int .i64 15,.string a,.string b,.int .u32 n,.slice A5 lf.length c5,.slice A6 lr.length c6,.slice A7 ty.length c7,.slice B7 vls.length d7,.slice A9 d.length c9,.slice A10 ws.length c10,.slice B10 ps.length d10,.slice B11 fs.length d11]) w (fun r=>r=txt a++numB (d.length:Int) 4++d) (txt a++numB (d.length:Int) 4++d) (allB 112 (txt a++numB (d.length:Int) 4++d)) ps.length:=by
 refine⟨fun wy hy=>bo15 hp.pa.1 hp.data (hs.ext hy),fun wy hy=>by15 hp.pa.1 hp.data (hs.ext hy),rfl,fun r h=>by rw [h],fun w1 vb r hr hv _=>?_⟩
 have e:(txt a++numB (d.length:Int) 4++d)=(sby a++0 :: (numB (d.length:Int) 4++d)):=by simp only [txt,List.append_assoc,List.cons_append,List.nil_append,List.append_nil,List.singleton_append]
 have hlen:(txt a++numB (d.length:Int) 4++d).length<=100000:=lt5 (by have ha:=hp.pa.1;have hd:=hp.data;simp only [List.length_append,List.length_cons,List.length_nil,numB_len,txt_len];omega)
 rw [hr,e]at hv
 rw [e]at hlen
 exact(dk15 a hp.pa (d.length:Int) d hp.data hgd w1 vb hv hlen).mono (decOk_mono fun v w2 hd=>decR_of hd (fun h=>absurd h (by decide)) (by simp) (by simp) (by simp) fun hs=>by15 hp.pa.1 hp.data hs)
theorem dd16 (hp:properP 16 a b n lf lr ty vls d ws ps fs)(hn:0<=n/\n < 4294967296)(hgt:∀y∈ty,0<=y/\y < 4294967296)(hgd:∀y∈d,0<=y/\y < 256)(hbv:∀y∈vls,∀z∈y.2,0<=z/\z < 256)(hgl:∀x∈fs,0<=x.tab/\x.tab < 4294967296/\0<=x.typ/\x.typ < 4294967296)(hs:SpIn w A5 A6 A7 B7 A9 A10 B10 B11 c5 c6 c7 d7 c9 c10 d10 d11 lf lr ty d vls ws ps fs):DD 16 (.agg #[.int .i64 16,.string a,.string b,.int .u32 n,.slice A5 lf.length c5,.slice A6 lr.length c6,.slice A7 ty.length c7,.slice B7 vls.length d7,.slice A9 d.length c9,.slice A10 ws.length c10,.slice B10 ps.length d10,.slice B11 fs.length d11]) w (fun r=>r=d) (d) (allB 112 (d)) ps.length:=by
 refine⟨fun wy hy=>bo16 hp.data (hs.ext hy),fun wy hy=>by16 hp.data (hs.ext hy),rfl,fun r h=>by rw [h],fun w1 vb r hr hv _=>?_⟩
 have e:(d)=(d):=by rfl
 have hlen:(d).length<=100000:=lt5 (by have hd:=hp.data;omega)
 rw [hr,e]at hv
 rw [e]at hlen
 exact(dk16 d hp.data hgd w1 vb hv hlen).mono (decOk_mono fun v w2 hd=>decR_of hd (fun h=>absurd h (by decide)) (by simp) (by simp) (by simp) fun hs=>by16 hp.data hs)
theorem dd17 (hp:properP 17 a b n lf lr ty vls d ws ps fs)(hn:0<=n/\n < 4294967296)(hgt:∀y∈ty,0<=y/\y < 4294967296)(hgd:∀y∈d,0<=y/\y < 256)(hbv:∀y∈vls,∀z∈y.2,0<=z/\z < 256)(hgl:∀x∈fs,0<=x.tab/\x.tab < 4294967296/\0<=x.typ/\x.typ < 4294967296)(hs:SpIn w A5 A6 A7 B7 A9 A10 B10 B11 c5 c6 c7 d7 c9 c10 d10 d11 lf lr ty d vls ws ps fs):DD 17 (.agg #[.int .i64 17,.string a,.string b,.int .u32 n,.slice A5 lf.length c5,.slice A6 lr.length c6,.slice A7 ty.length c7,.slice B7 vls.length d7,.slice A9 d.length c9,.slice A10 ws.length c10,.slice B10 ps.length d10,.slice B11 fs.length d11]) w (fun r=>r=numB 80877103 4) (numB 80877103 4) (allB 0 (numB 80877103 4)) ps.length:=by
 refine⟨fun wy hy=>bo17 (hs.ext hy),fun wy hy=>by17 (hs.ext hy),rfl,fun r h=>by rw [h],fun w1 vb r hr hv _=>?_⟩
 have e:(numB 80877103 4)=(numB 80877103 4++ []):=by simp only [txt,List.append_assoc,List.cons_append,List.nil_append,List.append_nil,List.singleton_append]
 have hlen:(numB 80877103 4).length<=100000:=lt5 (by simp only [List.length_append,List.length_cons,List.length_nil,numB_len,txt_len];omega)
 rw [hr,e]at hv
 rw [e]at hlen
 exact(dk17 w1 vb hv hlen).mono (decOk_mono fun v w2 hd=>decR_of hd (fun h=>absurd h (by decide)) (by simp) (by simp) (by simp) fun hs=>by17 hs)
theorem dd19 (hp:properP 19 a b n lf lr ty vls d ws ps fs)(hn:0<=n/\n < 4294967296)(hgt:∀y∈ty,0<=y/\y < 4294967296)(hgd:∀y∈d,0<=y/\y < 256)(hbv:∀y∈vls,∀z∈y.2,0<=z/\z < 256)(hgl:∀x∈fs,0<=x.tab/\x.tab < 4294967296/\0<=x.typ/\x.typ < 4294967296)(hs:SpIn w A5 A6 A7 B7 A9 A10 B10 B11 c5 c6 c7 d7 c9 c10 d10 d11 lf lr ty d vls ws ps fs):DD 19 (.agg #[.int .i64 19,.string a,.string b,.int .u32 n,.slice A5 lf.length c5,.slice A6 lr.length c6,.slice A7 ty.length c7,.slice B7 vls.length d7,.slice A9 d.length c9,.slice A10 ws.length c10,.slice B10 ps.length d10,.slice B11 fs.length d11]) w (fun r=>r=[]) ([]) (allB 83 ([])) ps.length:=by
 refine⟨fun wy hy=>bo19 (hs.ext hy),fun wy hy=>by19 (hs.ext hy),rfl,fun r h=>by rw [h],fun w1 vb r hr hv _=>?_⟩
 have e:(([]:List Int))=(([]:List Int)):=by simp only [txt,List.append_assoc,List.cons_append,List.nil_append,List.append_nil,List.singleton_append]
 have hlen:(([]:List Int)).length<=100000:=lt5 (by simp)
 rw [hr,e]at hv
 rw [e]at hlen
 exact(dk19 w1 vb hv hlen).mono (decOk_mono fun v w2 hd=>decR_of hd (fun h=>absurd h (by decide)) (by simp) (by simp) (by simp) fun hs=>by19 hs)
theorem dd20 (hp:properP 20 a b n lf lr ty vls d ws ps fs)(hn:0<=n/\n < 4294967296)(hgt:∀y∈ty,0<=y/\y < 4294967296)(hgd:∀y∈d,0<=y/\y < 256)(hbv:∀y∈vls,∀z∈y.2,0<=z/\z < 256)(hgl:∀x∈fs,0<=x.tab/\x.tab < 4294967296/\0<=x.typ/\x.typ < 4294967296)(hs:SpIn w A5 A6 A7 B7 A9 A10 B10 B11 c5 c6 c7 d7 c9 c10 d10 d11 lf lr ty d vls ws ps fs):DD 20 (.agg #[.int .i64 20,.string a,.string b,.int .u32 n,.slice A5 lf.length c5,.slice A6 lr.length c6,.slice A7 ty.length c7,.slice B7 vls.length d7,.slice A9 d.length c9,.slice A10 ws.length c10,.slice B10 ps.length d10,.slice B11 fs.length d11]) w (fun r=>r=[]) ([]) (allB 88 ([])) ps.length:=by
 refine⟨fun wy hy=>bo20 (hs.ext hy),fun wy hy=>by20 (hs.ext hy),rfl,fun r h=>by rw [h],fun w1 vb r hr hv _=>?_⟩
 have e:(([]:List Int))=(([]:List Int)):=by simp only [txt,List.append_assoc,List.cons_append,List.nil_append,List.append_nil,List.singleton_append]
 have hlen:(([]:List Int)).length<=100000:=lt5 (by simp)
 rw [hr,e]at hv
 rw [e]at hlen
 exact(dk20 w1 vb hv hlen).mono (decOk_mono fun v w2 hd=>decR_of hd (fun h=>absurd h (by decide)) (by simp) (by simp) (by simp) fun hs=>by20 hs)
theorem dd30 (hp:properP 30 a b n lf lr ty vls d ws ps fs)(hn:0<=n/\n < 4294967296)(hgt:∀y∈ty,0<=y/\y < 4294967296)(hgd:∀y∈d,0<=y/\y < 256)(hbv:∀y∈vls,∀z∈y.2,0<=z/\z < 256)(hgl:∀x∈fs,0<=x.tab/\x.tab < 4294967296/\0<=x.typ/\x.typ < 4294967296)(hs:SpIn w A5 A6 A7 B7 A9 A10 B10 B11 c5 c6 c7 d7 c9 c10 d10 d11 lf lr ty d vls ws ps fs):DD 30 (.agg #[.int .i64 30,.string a,.string b,.int .u32 n,.slice A5 lf.length c5,.slice A6 lr.length c6,.slice A7 ty.length c7,.slice B7 vls.length d7,.slice A9 d.length c9,.slice A10 ws.length c10,.slice B10 ps.length d10,.slice B11 fs.length d11]) w (fun r=>r=numB 0 4) (numB 0 4) (allB 82 (numB 0 4)) ps.length:=by
 refine⟨fun wy hy=>bo30 (hs.ext hy),fun wy hy=>by30 (hs.ext hy),rfl,fun r h=>by rw [h],fun w1 vb r hr hv _=>?_⟩
 have e:(numB 0 4)=(numB 0 4++ []):=by simp only [txt,List.append_assoc,List.cons_append,List.nil_append,List.append_nil,List.singleton_append]
 have hlen:(numB 0 4).length<=100000:=lt5 (by simp only [List.length_append,List.length_cons,List.length_nil,numB_len,txt_len];omega)
 rw [hr,e]at hv
 rw [e]at hlen
 exact(dk30 w1 vb hv hlen).mono (decOk_mono fun v w2 hd=>decR_of hd (fun h=>absurd h (by decide)) (by simp) (by simp) (by simp) fun hs=>by30 hs)
theorem dd31 (hp:properP 31 a b n lf lr ty vls d ws ps fs)(hn:0<=n/\n < 4294967296)(hgt:∀y∈ty,0<=y/\y < 4294967296)(hgd:∀y∈d,0<=y/\y < 256)(hbv:∀y∈vls,∀z∈y.2,0<=z/\z < 256)(hgl:∀x∈fs,0<=x.tab/\x.tab < 4294967296/\0<=x.typ/\x.typ < 4294967296)(hs:SpIn w A5 A6 A7 B7 A9 A10 B10 B11 c5 c6 c7 d7 c9 c10 d10 d11 lf lr ty d vls ws ps fs):DD 31 (.agg #[.int .i64 31,.string a,.string b,.int .u32 n,.slice A5 lf.length c5,.slice A6 lr.length c6,.slice A7 ty.length c7,.slice B7 vls.length d7,.slice A9 d.length c9,.slice A10 ws.length c10,.slice B10 ps.length d10,.slice B11 fs.length d11]) w (fun r=>r=numB 3 4) (numB 3 4) (allB 82 (numB 3 4)) ps.length:=by
 refine⟨fun wy hy=>bo31 (hs.ext hy),fun wy hy=>by31 (hs.ext hy),rfl,fun r h=>by rw [h],fun w1 vb r hr hv _=>?_⟩
 have e:(numB 3 4)=(numB 3 4++ []):=by simp only [txt,List.append_assoc,List.cons_append,List.nil_append,List.append_nil,List.singleton_append]
 have hlen:(numB 3 4).length<=100000:=lt5 (by simp only [List.length_append,List.length_cons,List.length_nil,numB_len,txt_len];omega)
 rw [hr,e]at hv
 rw [e]at hlen
 exact(dk31 w1 vb hv hlen).mono (decOk_mono fun v w2 hd=>decR_of hd (fun h=>absurd h (by decide)) (by simp) (by simp) (by simp) fun hs=>by31 hs)
theorem dd32 (hp:properP 32 a b n lf lr ty vls d ws ps fs)(hn:0<=n/\n < 4294967296)(hgt:∀y∈ty,0<=y/\y < 4294967296)(hgd:∀y∈d,0<=y/\y < 256)(hbv:∀y∈vls,∀z∈y.2,0<=z/\z < 256)(hgl:∀x∈fs,0<=x.tab/\x.tab < 4294967296/\0<=x.typ/\x.typ < 4294967296)(hs:SpIn w A5 A6 A7 B7 A9 A10 B10 B11 c5 c6 c7 d7 c9 c10 d10 d11 lf lr ty d vls ws ps fs):DD 32 (.agg #[.int .i64 32,.string a,.string b,.int .u32 n,.slice A5 lf.length c5,.slice A6 lr.length c6,.slice A7 ty.length c7,.slice B7 vls.length d7,.slice A9 d.length c9,.slice A10 ws.length c10,.slice B10 ps.length d10,.slice B11 fs.length d11]) w (fun r=>r=numB 5 4++d) (numB 5 4++d) (allB 82 (numB 5 4++d)) ps.length:=by
 refine⟨fun wy hy=>bo32 hp.data (hs.ext hy),fun wy hy=>by32 hp.data (hs.ext hy),rfl,fun r h=>by rw [h],fun w1 vb r hr hv _=>?_⟩
 have e:(numB 5 4++d)=(numB 5 4++d):=by rfl
 have hlen:(numB 5 4++d).length<=100000:=lt5 (by have hd:=hp.data;simp only [List.length_append,List.length_cons,List.length_nil,numB_len,txt_len];omega)
 rw [hr,e]at hv
 rw [e]at hlen
 exact(dk32 d hp.data hgd (hp.k1 (by omega)) w1 vb hv hlen).mono (decOk_mono fun v w2 hd=>decR_of hd (fun h=>absurd h (by decide)) (by simp) (by simp) (by simp) fun hs=>by32 hp.data hs)
theorem dd33 (hp:properP 33 a b n lf lr ty vls d ws ps fs)(hn:0<=n/\n < 4294967296)(hgt:∀y∈ty,0<=y/\y < 4294967296)(hgd:∀y∈d,0<=y/\y < 256)(hbv:∀y∈vls,∀z∈y.2,0<=z/\z < 256)(hgl:∀x∈fs,0<=x.tab/\x.tab < 4294967296/\0<=x.typ/\x.typ < 4294967296)(hs:SpIn w A5 A6 A7 B7 A9 A10 B10 B11 c5 c6 c7 d7 c9 c10 d10 d11 lf lr ty d vls ws ps fs):DD 33 (.agg #[.int .i64 33,.string a,.string b,.int .u32 n,.slice A5 lf.length c5,.slice A6 lr.length c6,.slice A7 ty.length c7,.slice B7 vls.length d7,.slice A9 d.length c9,.slice A10 ws.length c10,.slice B10 ps.length d10,.slice B11 fs.length d11]) w (fun r=>r=numB 7 4) (numB 7 4) (allB 82 (numB 7 4)) ps.length:=by
 refine⟨fun wy hy=>bo33 (hs.ext hy),fun wy hy=>by33 (hs.ext hy),rfl,fun r h=>by rw [h],fun w1 vb r hr hv _=>?_⟩
 have e:(numB 7 4)=(numB 7 4++ []):=by simp only [txt,List.append_assoc,List.cons_append,List.nil_append,List.append_nil,List.singleton_append]
 have hlen:(numB 7 4).length<=100000:=lt5 (by simp only [List.length_append,List.length_cons,List.length_nil,numB_len,txt_len];omega)
 rw [hr,e]at hv
 rw [e]at hlen
 exact(dk33 w1 vb hv hlen).mono (decOk_mono fun v w2 hd=>decR_of hd (fun h=>absurd h (by decide)) (by simp) (by simp) (by simp) fun hs=>by33 hs)
theorem dd34 (hp:properP 34 a b n lf lr ty vls d ws ps fs)(hn:0<=n/\n < 4294967296)(hgt:∀y∈ty,0<=y/\y < 4294967296)(hgd:∀y∈d,0<=y/\y < 256)(hbv:∀y∈vls,∀z∈y.2,0<=z/\z < 256)(hgl:∀x∈fs,0<=x.tab/\x.tab < 4294967296/\0<=x.typ/\x.typ < 4294967296)(hs:SpIn w A5 A6 A7 B7 A9 A10 B10 B11 c5 c6 c7 d7 c9 c10 d10 d11 lf lr ty d vls ws ps fs):DD 34 (.agg #[.int .i64 34,.string a,.string b,.int .u32 n,.slice A5 lf.length c5,.slice A6 lr.length c6,.slice A7 ty.length c7,.slice B7 vls.length d7,.slice A9 d.length c9,.slice A10 ws.length c10,.slice B10 ps.length d10,.slice B11 fs.length d11]) w (fun r=>r=numB 8 4++d) (numB 8 4++d) (allB 82 (numB 8 4++d)) ps.length:=by
 refine⟨fun wy hy=>bo34 hp.data (hs.ext hy),fun wy hy=>by34 hp.data (hs.ext hy),rfl,fun r h=>by rw [h],fun w1 vb r hr hv _=>?_⟩
 have e:(numB 8 4++d)=(numB 8 4++d):=by rfl
 have hlen:(numB 8 4++d).length<=100000:=lt5 (by have hd:=hp.data;simp only [List.length_append,List.length_cons,List.length_nil,numB_len,txt_len];omega)
 rw [hr,e]at hv
 rw [e]at hlen
 exact(dk34 d hp.data hgd w1 vb hv hlen).mono (decOk_mono fun v w2 hd=>decR_of hd (fun h=>absurd h (by decide)) (by simp) (by simp) (by simp) fun hs=>by34 hp.data hs)
theorem dd35 (hp:properP 35 a b n lf lr ty vls d ws ps fs)(hn:0<=n/\n < 4294967296)(hgt:∀y∈ty,0<=y/\y < 4294967296)(hgd:∀y∈d,0<=y/\y < 256)(hbv:∀y∈vls,∀z∈y.2,0<=z/\z < 256)(hgl:∀x∈fs,0<=x.tab/\x.tab < 4294967296/\0<=x.typ/\x.typ < 4294967296)(hs:SpIn w A5 A6 A7 B7 A9 A10 B10 B11 c5 c6 c7 d7 c9 c10 d10 d11 lf lr ty d vls ws ps fs):DD 35 (.agg #[.int .i64 35,.string a,.string b,.int .u32 n,.slice A5 lf.length c5,.slice A6 lr.length c6,.slice A7 ty.length c7,.slice B7 vls.length d7,.slice A9 d.length c9,.slice A10 ws.length c10,.slice B10 ps.length d10,.slice B11 fs.length d11]) w (fun r=>r=numB 10 4++ws.flatMap txt++numB 0 1) (numB 10 4++ws.flatMap txt++numB 0 1) (allB 82 (numB 10 4++ws.flatMap txt++numB 0 1)) ps.length:=by
 refine⟨fun wy hy=>bo35 (by have:=(hp.k35 rfl).2.1;omega) (fun y hy=>((hp.k35 rfl).2.2 y hy).1.1) (hs.ext hy),fun wy hy=>by35 (by have:=(hp.k35 rfl).2.1;omega) (fun y hy=>((hp.k35 rfl).2.2 y hy).1.1) (hs.ext hy),rfl,fun r h=>by rw [h],fun w1 vb r hr hv _=>?_⟩
 have e:(numB 10 4++ws.flatMap txt++numB 0 1)=(numB 10 4++(ws.flatMap (fun s=>sby s++ [0])++ [0])):=by simp only [List.append_assoc,numB01];rfl
 have hlen:(numB 10 4++ws.flatMap txt++numB 0 1).length<=100000:=lt5 (by have hw:=(hp.k35 rfl).2.1;have hgw:=fun y hy=>((hp.k35 rfl).2.2 y hy).1.1;have:=flat_len txt 201 ws (fun x hx=>by have:=hgw x hx;rw [txt_len];omega);simp only [List.length_append,numB_len];omega)
 rw [hr,e]at hv
 rw [e]at hlen
 exact(dk35 ws (by have:=(hp.k35 rfl).2.1;omega) (fun s hs=>⟨((hp.k35 rfl).2.2 s hs).1,by have:=((hp.k35 rfl).2.2 s hs).2;omega⟩) w1 vb hv hlen).mono (decOk_mono fun v w2 hd=>decR_of hd (fun h=>absurd h (by decide)) (by simp) (by simp) (by simp) fun hs=>by35 (by have:=(hp.k35 rfl).2.1;omega) (fun y hy=>((hp.k35 rfl).2.2 y hy).1.1) hs)
theorem dd36 (hp:properP 36 a b n lf lr ty vls d ws ps fs)(hn:0<=n/\n < 4294967296)(hgt:∀y∈ty,0<=y/\y < 4294967296)(hgd:∀y∈d,0<=y/\y < 256)(hbv:∀y∈vls,∀z∈y.2,0<=z/\z < 256)(hgl:∀x∈fs,0<=x.tab/\x.tab < 4294967296/\0<=x.typ/\x.typ < 4294967296)(hs:SpIn w A5 A6 A7 B7 A9 A10 B10 B11 c5 c6 c7 d7 c9 c10 d10 d11 lf lr ty d vls ws ps fs):DD 36 (.agg #[.int .i64 36,.string a,.string b,.int .u32 n,.slice A5 lf.length c5,.slice A6 lr.length c6,.slice A7 ty.length c7,.slice B7 vls.length d7,.slice A9 d.length c9,.slice A10 ws.length c10,.slice B10 ps.length d10,.slice B11 fs.length d11]) w (fun r=>r=numB 11 4++d) (numB 11 4++d) (allB 82 (numB 11 4++d)) ps.length:=by
 refine⟨fun wy hy=>bo36 hp.data (hs.ext hy),fun wy hy=>by36 hp.data (hs.ext hy),rfl,fun r h=>by rw [h],fun w1 vb r hr hv _=>?_⟩
 have e:(numB 11 4++d)=(numB 11 4++d):=by rfl
 have hlen:(numB 11 4++d).length<=100000:=lt5 (by have hd:=hp.data;simp only [List.length_append,List.length_cons,List.length_nil,numB_len,txt_len];omega)
 rw [hr,e]at hv
 rw [e]at hlen
 exact(dk36 d hp.data hgd w1 vb hv hlen).mono (decOk_mono fun v w2 hd=>decR_of hd (fun h=>absurd h (by decide)) (by simp) (by simp) (by simp) fun hs=>by36 hp.data hs)
theorem dd37 (hp:properP 37 a b n lf lr ty vls d ws ps fs)(hn:0<=n/\n < 4294967296)(hgt:∀y∈ty,0<=y/\y < 4294967296)(hgd:∀y∈d,0<=y/\y < 256)(hbv:∀y∈vls,∀z∈y.2,0<=z/\z < 256)(hgl:∀x∈fs,0<=x.tab/\x.tab < 4294967296/\0<=x.typ/\x.typ < 4294967296)(hs:SpIn w A5 A6 A7 B7 A9 A10 B10 B11 c5 c6 c7 d7 c9 c10 d10 d11 lf lr ty d vls ws ps fs):DD 37 (.agg #[.int .i64 37,.string a,.string b,.int .u32 n,.slice A5 lf.length c5,.slice A6 lr.length c6,.slice A7 ty.length c7,.slice B7 vls.length d7,.slice A9 d.length c9,.slice A10 ws.length c10,.slice B10 ps.length d10,.slice B11 fs.length d11]) w (fun r=>r=numB 12 4++d) (numB 12 4++d) (allB 82 (numB 12 4++d)) ps.length:=by
 refine⟨fun wy hy=>bo37 hp.data (hs.ext hy),fun wy hy=>by37 hp.data (hs.ext hy),rfl,fun r h=>by rw [h],fun w1 vb r hr hv _=>?_⟩
 have e:(numB 12 4++d)=(numB 12 4++d):=by rfl
 have hlen:(numB 12 4++d).length<=100000:=lt5 (by have hd:=hp.data;simp only [List.length_append,List.length_cons,List.length_nil,numB_len,txt_len];omega)
 rw [hr,e]at hv
 rw [e]at hlen
 exact(dk37 d hp.data hgd w1 vb hv hlen).mono (decOk_mono fun v w2 hd=>decR_of hd (fun h=>absurd h (by decide)) (by simp) (by simp) (by simp) fun hs=>by37 hp.data hs)
theorem dd38 (hp:properP 38 a b n lf lr ty vls d ws ps fs)(hn:0<=n/\n < 4294967296)(hgt:∀y∈ty,0<=y/\y < 4294967296)(hgd:∀y∈d,0<=y/\y < 256)(hbv:∀y∈vls,∀z∈y.2,0<=z/\z < 256)(hgl:∀x∈fs,0<=x.tab/\x.tab < 4294967296/\0<=x.typ/\x.typ < 4294967296)(hs:SpIn w A5 A6 A7 B7 A9 A10 B10 B11 c5 c6 c7 d7 c9 c10 d10 d11 lf lr ty d vls ws ps fs):DD 38 (.agg #[.int .i64 38,.string a,.string b,.int .u32 n,.slice A5 lf.length c5,.slice A6 lr.length c6,.slice A7 ty.length c7,.slice B7 vls.length d7,.slice A9 d.length c9,.slice A10 ws.length c10,.slice B10 ps.length d10,.slice B11 fs.length d11]) w (fun r=>r=numB n 4++d) (numB n 4++d) (allB 75 (numB n 4++d)) ps.length:=by
 refine⟨fun wy hy=>bo38 hp.data hn (hs.ext hy),fun wy hy=>by38 hp.data hn (hs.ext hy),rfl,fun r h=>by rw [h],fun w1 vb r hr hv _=>?_⟩
 have e:(numB n 4++d)=(numB n 4++d):=by rfl
 have hlen:(numB n 4++d).length<=100000:=lt5 (by have hd:=hp.data;simp only [List.length_append,List.length_cons,List.length_nil,numB_len,txt_len];omega)
 rw [hr,e]at hv
 rw [e]at hlen
 exact(dk38 n hn d hp.data hgd (hp.k1 (by omega)) w1 vb hv hlen).mono (decOk_mono fun v w2 hd=>decR_of hd (fun h=>absurd h (by decide)) (by simp) (by simp) (by simp) fun hs=>by38 hp.data hn hs)
theorem dd39 (hp:properP 39 a b n lf lr ty vls d ws ps fs)(hn:0<=n/\n < 4294967296)(hgt:∀y∈ty,0<=y/\y < 4294967296)(hgd:∀y∈d,0<=y/\y < 256)(hbv:∀y∈vls,∀z∈y.2,0<=z/\z < 256)(hgl:∀x∈fs,0<=x.tab/\x.tab < 4294967296/\0<=x.typ/\x.typ < 4294967296)(hs:SpIn w A5 A6 A7 B7 A9 A10 B10 B11 c5 c6 c7 d7 c9 c10 d10 d11 lf lr ty d vls ws ps fs):DD 39 (.agg #[.int .i64 39,.string a,.string b,.int .u32 n,.slice A5 lf.length c5,.slice A6 lr.length c6,.slice A7 ty.length c7,.slice B7 vls.length d7,.slice A9 d.length c9,.slice A10 ws.length c10,.slice B10 ps.length d10,.slice B11 fs.length d11]) w (fun r=>r=[]) ([]) (allB 50 ([])) ps.length:=by
 refine⟨fun wy hy=>bo39 (hs.ext hy),fun wy hy=>by39 (hs.ext hy),rfl,fun r h=>by rw [h],fun w1 vb r hr hv _=>?_⟩
 have e:(([]:List Int))=(([]:List Int)):=by simp only [txt,List.append_assoc,List.cons_append,List.nil_append,List.append_nil,List.singleton_append]
 have hlen:(([]:List Int)).length<=100000:=lt5 (by simp)
 rw [hr,e]at hv
 rw [e]at hlen
 exact(dk39 w1 vb hv hlen).mono (decOk_mono fun v w2 hd=>decR_of hd (fun h=>absurd h (by decide)) (by simp) (by simp) (by simp) fun hs=>by39 hs)
theorem dd40 (hp:properP 40 a b n lf lr ty vls d ws ps fs)(hn:0<=n/\n < 4294967296)(hgt:∀y∈ty,0<=y/\y < 4294967296)(hgd:∀y∈d,0<=y/\y < 256)(hbv:∀y∈vls,∀z∈y.2,0<=z/\z < 256)(hgl:∀x∈fs,0<=x.tab/\x.tab < 4294967296/\0<=x.typ/\x.typ < 4294967296)(hs:SpIn w A5 A6 A7 B7 A9 A10 B10 B11 c5 c6 c7 d7 c9 c10 d10 d11 lf lr ty d vls ws ps fs):DD 40 (.agg #[.int .i64 40,.string a,.string b,.int .u32 n,.slice A5 lf.length c5,.slice A6 lr.length c6,.slice A7 ty.length c7,.slice B7 vls.length d7,.slice A9 d.length c9,.slice A10 ws.length c10,.slice B10 ps.length d10,.slice B11 fs.length d11]) w (fun r=>r=[]) ([]) (allB 51 ([])) ps.length:=by
 refine⟨fun wy hy=>bo40 (hs.ext hy),fun wy hy=>by40 (hs.ext hy),rfl,fun r h=>by rw [h],fun w1 vb r hr hv _=>?_⟩
 have e:(([]:List Int))=(([]:List Int)):=by simp only [txt,List.append_assoc,List.cons_append,List.nil_append,List.append_nil,List.singleton_append]
 have hlen:(([]:List Int)).length<=100000:=lt5 (by simp)
 rw [hr,e]at hv
 rw [e]at hlen
 exact(dk40 w1 vb hv hlen).mono (decOk_mono fun v w2 hd=>decR_of hd (fun h=>absurd h (by decide)) (by simp) (by simp) (by simp) fun hs=>by40 hs)
theorem dd41 (hp:properP 41 a b n lf lr ty vls d ws ps fs)(hn:0<=n/\n < 4294967296)(hgt:∀y∈ty,0<=y/\y < 4294967296)(hgd:∀y∈d,0<=y/\y < 256)(hbv:∀y∈vls,∀z∈y.2,0<=z/\z < 256)(hgl:∀x∈fs,0<=x.tab/\x.tab < 4294967296/\0<=x.typ/\x.typ < 4294967296)(hs:SpIn w A5 A6 A7 B7 A9 A10 B10 B11 c5 c6 c7 d7 c9 c10 d10 d11 lf lr ty d vls ws ps fs):DD 41 (.agg #[.int .i64 41,.string a,.string b,.int .u32 n,.slice A5 lf.length c5,.slice A6 lr.length c6,.slice A7 ty.length c7,.slice B7 vls.length d7,.slice A9 d.length c9,.slice A10 ws.length c10,.slice B10 ps.length d10,.slice B11 fs.length d11]) w (fun r=>r=txt a) (txt a) (allB 67 (txt a)) ps.length:=by
 refine⟨fun wy hy=>bo41 hp.pa.1 (hs.ext hy),fun wy hy=>by41 hp.pa.1 (hs.ext hy),rfl,fun r h=>by rw [h],fun w1 vb r hr hv _=>?_⟩
 have e:(txt a)=(sby a++0 :: []):=by simp only [txt,List.append_assoc,List.cons_append,List.nil_append,List.append_nil,List.singleton_append]
 have hlen:(txt a).length<=100000:=lt5 (by have ha:=hp.pa.1;simp only [List.length_append,List.length_cons,List.length_nil,numB_len,txt_len];omega)
 rw [hr,e]at hv
 rw [e]at hlen
 exact(dk41 a hp.pa w1 vb hv hlen).mono (decOk_mono fun v w2 hd=>decR_of hd (fun h=>absurd h (by decide)) (by simp) (by simp) (by simp) fun hs=>by41 hp.pa.1 hs)
theorem dd42 (hp:properP 42 a b n lf lr ty vls d ws ps fs)(hn:0<=n/\n < 4294967296)(hgt:∀y∈ty,0<=y/\y < 4294967296)(hgd:∀y∈d,0<=y/\y < 256)(hbv:∀y∈vls,∀z∈y.2,0<=z/\z < 256)(hgl:∀x∈fs,0<=x.tab/\x.tab < 4294967296/\0<=x.typ/\x.typ < 4294967296)(hs:SpIn w A5 A6 A7 B7 A9 A10 B10 B11 c5 c6 c7 d7 c9 c10 d10 d11 lf lr ty d vls ws ps fs):DD 42 (.agg #[.int .i64 42,.string a,.string b,.int .u32 n,.slice A5 lf.length c5,.slice A6 lr.length c6,.slice A7 ty.length c7,.slice B7 vls.length d7,.slice A9 d.length c9,.slice A10 ws.length c10,.slice B10 ps.length d10,.slice B11 fs.length d11]) w (fun r=>r=numB n 1++(numB (lf.length:Int) 2++lf.flatMap fun n=>numB n 2)) (numB n 1++(numB (lf.length:Int) 2++lf.flatMap fun n=>numB n 2)) (allB 87 (numB n 1++(numB (lf.length:Int) 2++lf.flatMap fun n=>numB n 2))) ps.length:=by
 refine⟨fun wy hy=>bo42 hn (hp.k42 (by omega)).2.1 (hs.ext hy),fun wy hy=>by42 hn (hp.k42 (by omega)).2.1 (hs.ext hy),rfl,fun r h=>by rw [h],fun w1 vb r hr hv _=>?_⟩
 have e:(numB n 1++(numB (lf.length:Int) 2++lf.flatMap fun n=>numB n 2))=(numB n 1++(numB (lf.length:Int) 2++lf.flatMap fun n=>numB n 2)):=by rfl
 have hlen:(numB n 1++(numB (lf.length:Int) 2++lf.flatMap fun n=>numB n 2)).length<=100000:=lt5 (by have hf:=(hp.k42 (by omega)).2.1;have:=n2_len lf;have:=n2_len lr;have:=n4_len ty;simp only [List.length_append,numB_len,txt_len];omega)
 rw [hr,e]at hv
 rw [e]at hlen
 exact(dk42 n ⟨hn.1,by have:=(hp.k42 (by omega)).1;omega⟩ lf (hp.k42 (by omega)).2.1 (small01 (hp.k42 (by omega)).2.2) w1 vb hv hlen).mono (decOk_mono fun v w2 hd=>decR_of hd (fun h=>absurd h (by decide)) (by simp) (by simp) (by simp) fun hs=>by42 hn (hp.k42 (by omega)).2.1 hs)
theorem dd43 (hp:properP 43 a b n lf lr ty vls d ws ps fs)(hn:0<=n/\n < 4294967296)(hgt:∀y∈ty,0<=y/\y < 4294967296)(hgd:∀y∈d,0<=y/\y < 256)(hbv:∀y∈vls,∀z∈y.2,0<=z/\z < 256)(hgl:∀x∈fs,0<=x.tab/\x.tab < 4294967296/\0<=x.typ/\x.typ < 4294967296)(hs:SpIn w A5 A6 A7 B7 A9 A10 B10 B11 c5 c6 c7 d7 c9 c10 d10 d11 lf lr ty d vls ws ps fs):DD 43 (.agg #[.int .i64 43,.string a,.string b,.int .u32 n,.slice A5 lf.length c5,.slice A6 lr.length c6,.slice A7 ty.length c7,.slice B7 vls.length d7,.slice A9 d.length c9,.slice A10 ws.length c10,.slice B10 ps.length d10,.slice B11 fs.length d11]) w (fun r=>r=numB n 1++(numB (lf.length:Int) 2++lf.flatMap fun n=>numB n 2)) (numB n 1++(numB (lf.length:Int) 2++lf.flatMap fun n=>numB n 2)) (allB 71 (numB n 1++(numB (lf.length:Int) 2++lf.flatMap fun n=>numB n 2))) ps.length:=by
 refine⟨fun wy hy=>bo43 hn (hp.k42 (by omega)).2.1 (hs.ext hy),fun wy hy=>by43 hn (hp.k42 (by omega)).2.1 (hs.ext hy),rfl,fun r h=>by rw [h],fun w1 vb r hr hv _=>?_⟩
 have e:(numB n 1++(numB (lf.length:Int) 2++lf.flatMap fun n=>numB n 2))=(numB n 1++(numB (lf.length:Int) 2++lf.flatMap fun n=>numB n 2)):=by rfl
 have hlen:(numB n 1++(numB (lf.length:Int) 2++lf.flatMap fun n=>numB n 2)).length<=100000:=lt5 (by have hf:=(hp.k42 (by omega)).2.1;have:=n2_len lf;have:=n2_len lr;have:=n4_len ty;simp only [List.length_append,numB_len,txt_len];omega)
 rw [hr,e]at hv
 rw [e]at hlen
 exact(dk43 n ⟨hn.1,by have:=(hp.k42 (by omega)).1;omega⟩ lf (hp.k42 (by omega)).2.1 (small01 (hp.k42 (by omega)).2.2) w1 vb hv hlen).mono (decOk_mono fun v w2 hd=>decR_of hd (fun h=>absurd h (by decide)) (by simp) (by simp) (by simp) fun hs=>by43 hn (hp.k42 (by omega)).2.1 hs)
theorem dd44 (hp:properP 44 a b n lf lr ty vls d ws ps fs)(hn:0<=n/\n < 4294967296)(hgt:∀y∈ty,0<=y/\y < 4294967296)(hgd:∀y∈d,0<=y/\y < 256)(hbv:∀y∈vls,∀z∈y.2,0<=z/\z < 256)(hgl:∀x∈fs,0<=x.tab/\x.tab < 4294967296/\0<=x.typ/\x.typ < 4294967296)(hs:SpIn w A5 A6 A7 B7 A9 A10 B10 B11 c5 c6 c7 d7 c9 c10 d10 d11 lf lr ty d vls ws ps fs):DD 44 (.agg #[.int .i64 44,.string a,.string b,.int .u32 n,.slice A5 lf.length c5,.slice A6 lr.length c6,.slice A7 ty.length c7,.slice B7 vls.length d7,.slice A9 d.length c9,.slice A10 ws.length c10,.slice B10 ps.length d10,.slice B11 fs.length d11]) w (fun r=>r=numB n 1++(numB (lf.length:Int) 2++lf.flatMap fun n=>numB n 2)) (numB n 1++(numB (lf.length:Int) 2++lf.flatMap fun n=>numB n 2)) (allB 72 (numB n 1++(numB (lf.length:Int) 2++lf.flatMap fun n=>numB n 2))) ps.length:=by
 refine⟨fun wy hy=>bo44 hn (hp.k42 (by omega)).2.1 (hs.ext hy),fun wy hy=>by44 hn (hp.k42 (by omega)).2.1 (hs.ext hy),rfl,fun r h=>by rw [h],fun w1 vb r hr hv _=>?_⟩
 have e:(numB n 1++(numB (lf.length:Int) 2++lf.flatMap fun n=>numB n 2))=(numB n 1++(numB (lf.length:Int) 2++lf.flatMap fun n=>numB n 2)):=by rfl
 have hlen:(numB n 1++(numB (lf.length:Int) 2++lf.flatMap fun n=>numB n 2)).length<=100000:=lt5 (by have hf:=(hp.k42 (by omega)).2.1;have:=n2_len lf;have:=n2_len lr;have:=n4_len ty;simp only [List.length_append,numB_len,txt_len];omega)
 rw [hr,e]at hv
 rw [e]at hlen
 exact(dk44 n ⟨hn.1,by have:=(hp.k42 (by omega)).1;omega⟩ lf (hp.k42 (by omega)).2.1 (small01 (hp.k42 (by omega)).2.2) w1 vb hv hlen).mono (decOk_mono fun v w2 hd=>decR_of hd (fun h=>absurd h (by decide)) (by simp) (by simp) (by simp) fun hs=>by44 hn (hp.k42 (by omega)).2.1 hs)
theorem dd45 (hp:properP 45 a b n lf lr ty vls d ws ps fs)(hn:0<=n/\n < 4294967296)(hgt:∀y∈ty,0<=y/\y < 4294967296)(hgd:∀y∈d,0<=y/\y < 256)(hbv:∀y∈vls,∀z∈y.2,0<=z/\z < 256)(hgl:∀x∈fs,0<=x.tab/\x.tab < 4294967296/\0<=x.typ/\x.typ < 4294967296)(hs:SpIn w A5 A6 A7 B7 A9 A10 B10 B11 c5 c6 c7 d7 c9 c10 d10 d11 lf lr ty d vls ws ps fs):DD 45 (.agg #[.int .i64 45,.string a,.string b,.int .u32 n,.slice A5 lf.length c5,.slice A6 lr.length c6,.slice A7 ty.length c7,.slice B7 vls.length d7,.slice A9 d.length c9,.slice A10 ws.length c10,.slice B10 ps.length d10,.slice B11 fs.length d11]) w (fun r=>r=(numB (vls.length:Int) 2++vls.flatMap fun x=>valB x.1 x.2)) ((numB (vls.length:Int) 2++vls.flatMap fun x=>valB x.1 x.2)) (allB 68 ((numB (vls.length:Int) 2++vls.flatMap fun x=>valB x.1 x.2))) ps.length:=by
 refine⟨fun wy hy=>bo45 hp.vals.1 (fun y hy=>(hp.vals.2 y hy).1) (hs.ext hy),fun wy hy=>by45 hp.vals.1 (fun y hy=>(hp.vals.2 y hy).1) (hs.ext hy),rfl,fun r h=>by rw [h],fun w1 vb r hr hv _=>?_⟩
 have e:((numB (vls.length:Int) 2++vls.flatMap fun x=>valB x.1 x.2))=(numB (vls.length:Int) 2++vls.flatMap fun x=>valB x.1 x.2):=by rfl
 have hlen:((numB (vls.length:Int) 2++vls.flatMap fun x=>valB x.1 x.2)).length<=100000:=lt5 (by have hv:=hp.vals.1;have hgv:=fun y hy=>(hp.vals.2 y hy).1;have:=n2_len lf;have:=n2_len lr;have:=opt_len hgv;simp only [List.length_append,numB_len,txt_len];omega)
 rw [hr,e]at hv
 rw [e]at hlen
 exact(dk45 vls hp.vals.1 hp.vals.2 hbv w1 vb hv hlen).mono (decOk_mono fun v w2 hd=>decR_of hd (fun h=>absurd h (by decide)) (Nat.le_trans hp.vals.1 (by omega)) (by simp) (by simp) fun hs=>by45 hp.vals.1 (fun y hy=>(hp.vals.2 y hy).1) hs)
theorem dd46 (hp:properP 46 a b n lf lr ty vls d ws ps fs)(hn:0<=n/\n < 4294967296)(hgt:∀y∈ty,0<=y/\y < 4294967296)(hgd:∀y∈d,0<=y/\y < 256)(hbv:∀y∈vls,∀z∈y.2,0<=z/\z < 256)(hgl:∀x∈fs,0<=x.tab/\x.tab < 4294967296/\0<=x.typ/\x.typ < 4294967296)(hs:SpIn w A5 A6 A7 B7 A9 A10 B10 B11 c5 c6 c7 d7 c9 c10 d10 d11 lf lr ty d vls ws ps fs):DD 46 (.agg #[.int .i64 46,.string a,.string b,.int .u32 n,.slice A5 lf.length c5,.slice A6 lr.length c6,.slice A7 ty.length c7,.slice B7 vls.length d7,.slice A9 d.length c9,.slice A10 ws.length c10,.slice B10 ps.length d10,.slice B11 fs.length d11]) w (fun r=>r=[]) ([]) (allB 73 ([])) ps.length:=by
 refine⟨fun wy hy=>bo46 (hs.ext hy),fun wy hy=>by46 (hs.ext hy),rfl,fun r h=>by rw [h],fun w1 vb r hr hv _=>?_⟩
 have e:(([]:List Int))=(([]:List Int)):=by simp only [txt,List.append_assoc,List.cons_append,List.nil_append,List.append_nil,List.singleton_append]
 have hlen:(([]:List Int)).length<=100000:=lt5 (by simp)
 rw [hr,e]at hv
 rw [e]at hlen
 exact(dk46 w1 vb hv hlen).mono (decOk_mono fun v w2 hd=>decR_of hd (fun h=>absurd h (by decide)) (by simp) (by simp) (by simp) fun hs=>by46 hs)
theorem dd49 (hp:properP 49 a b n lf lr ty vls d ws ps fs)(hn:0<=n/\n < 4294967296)(hgt:∀y∈ty,0<=y/\y < 4294967296)(hgd:∀y∈d,0<=y/\y < 256)(hbv:∀y∈vls,∀z∈y.2,0<=z/\z < 256)(hgl:∀x∈fs,0<=x.tab/\x.tab < 4294967296/\0<=x.typ/\x.typ < 4294967296)(hs:SpIn w A5 A6 A7 B7 A9 A10 B10 B11 c5 c6 c7 d7 c9 c10 d10 d11 lf lr ty d vls ws ps fs):DD 49 (.agg #[.int .i64 49,.string a,.string b,.int .u32 n,.slice A5 lf.length c5,.slice A6 lr.length c6,.slice A7 ty.length c7,.slice B7 vls.length d7,.slice A9 d.length c9,.slice A10 ws.length c10,.slice B10 ps.length d10,.slice B11 fs.length d11]) w (fun r=>r=vls.flatMap fun x=>valB x.1 x.2) (vls.flatMap fun x=>valB x.1 x.2) (allB 86 (vls.flatMap fun x=>valB x.1 x.2)) ps.length:=by
 obtain⟨x,rfl⟩:∃x,vls=[x]:=by
  match vls,hp.k49 rfl with
  | [x],_=>exact⟨x,rfl⟩
 refine⟨fun wy hy=>bo49 hp.vals.1 (fun y hy=>(hp.vals.2 y hy).1) (hs.ext hy),fun wy hy=>by49 hp.vals.1 (fun y hy=>(hp.vals.2 y hy).1) (hs.ext hy),rfl,fun r h=>by rw [h],fun w1 vb r hr hv _=>?_⟩
 have e:([x].flatMap fun x=>valB x.1 x.2)=(valB x.1 x.2):=by simp only [List.flatMap_cons,List.flatMap_nil,List.append_nil]
 have hlen:([x].flatMap fun x=>valB x.1 x.2).length<=100000:=lt5 (by have hv:=hp.vals.1;have hgv:=fun y hy=>(hp.vals.2 y hy).1;have:=opt_len hgv;omega)
 rw [hr,e]at hv
 rw [e]at hlen
 exact(dk49 x (hp.vals.2 x (by simp)).1 (hp.vals.2 x (by simp)).2 (hbv x (by simp)) w1 vb hv hlen).mono (decOk_mono fun v w2 hd=>decR_of hd (fun h=>absurd h (by decide)) (by simp) (by simp) (by simp) fun hs=>by49 hp.vals.1 (fun y hy=>(hp.vals.2 y hy).1) hs)
theorem dd50 (hp:properP 50 a b n lf lr ty vls d ws ps fs)(hn:0<=n/\n < 4294967296)(hgt:∀y∈ty,0<=y/\y < 4294967296)(hgd:∀y∈d,0<=y/\y < 256)(hbv:∀y∈vls,∀z∈y.2,0<=z/\z < 256)(hgl:∀x∈fs,0<=x.tab/\x.tab < 4294967296/\0<=x.typ/\x.typ < 4294967296)(hs:SpIn w A5 A6 A7 B7 A9 A10 B10 B11 c5 c6 c7 d7 c9 c10 d10 d11 lf lr ty d vls ws ps fs):DD 50 (.agg #[.int .i64 50,.string a,.string b,.int .u32 n,.slice A5 lf.length c5,.slice A6 lr.length c6,.slice A7 ty.length c7,.slice B7 vls.length d7,.slice A9 d.length c9,.slice A10 ws.length c10,.slice B10 ps.length d10,.slice B11 fs.length d11]) w (fun r=>r=[]) ([]) (allB 110 ([])) ps.length:=by
 refine⟨fun wy hy=>bo50 (hs.ext hy),fun wy hy=>by50 (hs.ext hy),rfl,fun r h=>by rw [h],fun w1 vb r hr hv _=>?_⟩
 have e:(([]:List Int))=(([]:List Int)):=by simp only [txt,List.append_assoc,List.cons_append,List.nil_append,List.append_nil,List.singleton_append]
 have hlen:(([]:List Int)).length<=100000:=lt5 (by simp)
 rw [hr,e]at hv
 rw [e]at hlen
 exact(dk50 w1 vb hv hlen).mono (decOk_mono fun v w2 hd=>decR_of hd (fun h=>absurd h (by decide)) (by simp) (by simp) (by simp) fun hs=>by50 hs)
theorem dd51 (hp:properP 51 a b n lf lr ty vls d ws ps fs)(hn:0<=n/\n < 4294967296)(hgt:∀y∈ty,0<=y/\y < 4294967296)(hgd:∀y∈d,0<=y/\y < 256)(hbv:∀y∈vls,∀z∈y.2,0<=z/\z < 256)(hgl:∀x∈fs,0<=x.tab/\x.tab < 4294967296/\0<=x.typ/\x.typ < 4294967296)(hs:SpIn w A5 A6 A7 B7 A9 A10 B10 B11 c5 c6 c7 d7 c9 c10 d10 d11 lf lr ty d vls ws ps fs):DD 51 (.agg #[.int .i64 51,.string a,.string b,.int .u32 n,.slice A5 lf.length c5,.slice A6 lr.length c6,.slice A7 ty.length c7,.slice B7 vls.length d7,.slice A9 d.length c9,.slice A10 ws.length c10,.slice B10 ps.length d10,.slice B11 fs.length d11]) w (fun r=>r=numB n 4++txt a++txt b) (numB n 4++txt a++txt b) (allB 65 (numB n 4++txt a++txt b)) ps.length:=by
 refine⟨fun wy hy=>bo51 hp.pa.1 hp.pb.1 hn (hs.ext hy),fun wy hy=>by51 hp.pa.1 hp.pb.1 hn (hs.ext hy),rfl,fun r h=>by rw [h],fun w1 vb r hr hv _=>?_⟩
 have e:(numB n 4++txt a++txt b)=(numB n 4++(sby a++0 :: (sby b++0 :: []))):=by simp only [txt,List.append_assoc,List.cons_append,List.nil_append,List.append_nil,List.singleton_append]
 have hlen:(numB n 4++txt a++txt b).length<=100000:=lt5 (by have ha:=hp.pa.1;have hb:=hp.pb.1;simp only [List.length_append,List.length_cons,List.length_nil,numB_len,txt_len];omega)
 rw [hr,e]at hv
 rw [e]at hlen
 exact(dk51 n hn a hp.pa b hp.pb w1 vb hv hlen).mono (decOk_mono fun v w2 hd=>decR_of hd (fun h=>absurd h (by decide)) (by simp) (by simp) (by simp) fun hs=>by51 hp.pa.1 hp.pb.1 hn hs)
theorem dd52 (hp:properP 52 a b n lf lr ty vls d ws ps fs)(hn:0<=n/\n < 4294967296)(hgt:∀y∈ty,0<=y/\y < 4294967296)(hgd:∀y∈d,0<=y/\y < 256)(hbv:∀y∈vls,∀z∈y.2,0<=z/\z < 256)(hgl:∀x∈fs,0<=x.tab/\x.tab < 4294967296/\0<=x.typ/\x.typ < 4294967296)(hs:SpIn w A5 A6 A7 B7 A9 A10 B10 B11 c5 c6 c7 d7 c9 c10 d10 d11 lf lr ty d vls ws ps fs):DD 52 (.agg #[.int .i64 52,.string a,.string b,.int .u32 n,.slice A5 lf.length c5,.slice A6 lr.length c6,.slice A7 ty.length c7,.slice B7 vls.length d7,.slice A9 d.length c9,.slice A10 ws.length c10,.slice B10 ps.length d10,.slice B11 fs.length d11]) w (fun r=>r=(numB (ty.length:Int) 2++ty.flatMap fun n=>numB n 4)) ((numB (ty.length:Int) 2++ty.flatMap fun n=>numB n 4)) (allB 116 ((numB (ty.length:Int) 2++ty.flatMap fun n=>numB n 4))) ps.length:=by
 refine⟨fun wy hy=>bo52 hp.types hgt (hs.ext hy),fun wy hy=>by52 hp.types hgt (hs.ext hy),rfl,fun r h=>by rw [h],fun w1 vb r hr hv _=>?_⟩
 have e:((numB (ty.length:Int) 2++ty.flatMap fun n=>numB n 4))=(numB (ty.length:Int) 2++ty.flatMap fun n=>numB n 4):=by rfl
 have hlen:((numB (ty.length:Int) 2++ty.flatMap fun n=>numB n 4)).length<=100000:=lt5 (by have ht:=hp.types;have:=n2_len lf;have:=n2_len lr;have:=n4_len ty;simp only [List.length_append,numB_len,txt_len];omega)
 rw [hr,e]at hv
 rw [e]at hlen
 exact(dk52 ty hp.types hgt w1 vb hv hlen).mono (decOk_mono fun v w2 hd=>decR_of hd (fun h=>absurd h (by decide)) (by simp) (by simp) (by simp) fun hs=>by52 hp.types hgt hs)
theorem dd53 (hp:properP 53 a b n lf lr ty vls d ws ps fs)(hn:0<=n/\n < 4294967296)(hgt:∀y∈ty,0<=y/\y < 4294967296)(hgd:∀y∈d,0<=y/\y < 256)(hbv:∀y∈vls,∀z∈y.2,0<=z/\z < 256)(hgl:∀x∈fs,0<=x.tab/\x.tab < 4294967296/\0<=x.typ/\x.typ < 4294967296)(hs:SpIn w A5 A6 A7 B7 A9 A10 B10 B11 c5 c6 c7 d7 c9 c10 d10 d11 lf lr ty d vls ws ps fs):DD 53 (.agg #[.int .i64 53,.string a,.string b,.int .u32 n,.slice A5 lf.length c5,.slice A6 lr.length c6,.slice A7 ty.length c7,.slice B7 vls.length d7,.slice A9 d.length c9,.slice A10 ws.length c10,.slice B10 ps.length d10,.slice B11 fs.length d11]) w (fun r=>r=txt a++txt b) (txt a++txt b) (allB 83 (txt a++txt b)) ps.length:=by
 refine⟨fun wy hy=>bo53 hp.pa.1 hp.pb.1 (hs.ext hy),fun wy hy=>by53 hp.pa.1 hp.pb.1 (hs.ext hy),rfl,fun r h=>by rw [h],fun w1 vb r hr hv _=>?_⟩
 have e:(txt a++txt b)=(sby a++0 :: (sby b++0 :: [])):=by simp only [txt,List.append_assoc,List.cons_append,List.nil_append,List.append_nil,List.singleton_append]
 have hlen:(txt a++txt b).length<=100000:=lt5 (by have ha:=hp.pa.1;have hb:=hp.pb.1;simp only [List.length_append,List.length_cons,List.length_nil,numB_len,txt_len];omega)
 rw [hr,e]at hv
 rw [e]at hlen
 exact(dk53 a hp.pa b hp.pb w1 vb hv hlen).mono (decOk_mono fun v w2 hd=>decR_of hd (fun h=>absurd h (by decide)) (by simp) (by simp) (by simp) fun hs=>by53 hp.pa.1 hp.pb.1 hs)
theorem dd54 (hp:properP 54 a b n lf lr ty vls d ws ps fs)(hn:0<=n/\n < 4294967296)(hgt:∀y∈ty,0<=y/\y < 4294967296)(hgd:∀y∈d,0<=y/\y < 256)(hbv:∀y∈vls,∀z∈y.2,0<=z/\z < 256)(hgl:∀x∈fs,0<=x.tab/\x.tab < 4294967296/\0<=x.typ/\x.typ < 4294967296)(hs:SpIn w A5 A6 A7 B7 A9 A10 B10 B11 c5 c6 c7 d7 c9 c10 d10 d11 lf lr ty d vls ws ps fs):DD 54 (.agg #[.int .i64 54,.string a,.string b,.int .u32 n,.slice A5 lf.length c5,.slice A6 lr.length c6,.slice A7 ty.length c7,.slice B7 vls.length d7,.slice A9 d.length c9,.slice A10 ws.length c10,.slice B10 ps.length d10,.slice B11 fs.length d11]) w (fun r=>r=[]) ([]) (allB 49 ([])) ps.length:=by
 refine⟨fun wy hy=>bo54 (hs.ext hy),fun wy hy=>by54 (hs.ext hy),rfl,fun r h=>by rw [h],fun w1 vb r hr hv _=>?_⟩
 have e:(([]:List Int))=(([]:List Int)):=by simp only [txt,List.append_assoc,List.cons_append,List.nil_append,List.append_nil,List.singleton_append]
 have hlen:(([]:List Int)).length<=100000:=lt5 (by simp)
 rw [hr,e]at hv
 rw [e]at hlen
 exact(dk54 w1 vb hv hlen).mono (decOk_mono fun v w2 hd=>decR_of hd (fun h=>absurd h (by decide)) (by simp) (by simp) (by simp) fun hs=>by54 hs)
theorem dd55 (hp:properP 55 a b n lf lr ty vls d ws ps fs)(hn:0<=n/\n < 4294967296)(hgt:∀y∈ty,0<=y/\y < 4294967296)(hgd:∀y∈d,0<=y/\y < 256)(hbv:∀y∈vls,∀z∈y.2,0<=z/\z < 256)(hgl:∀x∈fs,0<=x.tab/\x.tab < 4294967296/\0<=x.typ/\x.typ < 4294967296)(hs:SpIn w A5 A6 A7 B7 A9 A10 B10 B11 c5 c6 c7 d7 c9 c10 d10 d11 lf lr ty d vls ws ps fs):DD 55 (.agg #[.int .i64 55,.string a,.string b,.int .u32 n,.slice A5 lf.length c5,.slice A6 lr.length c6,.slice A7 ty.length c7,.slice B7 vls.length d7,.slice A9 d.length c9,.slice A10 ws.length c10,.slice B10 ps.length d10,.slice B11 fs.length d11]) w (fun r=>r=[]) ([]) (allB 115 ([])) ps.length:=by
 refine⟨fun wy hy=>bo55 (hs.ext hy),fun wy hy=>by55 (hs.ext hy),rfl,fun r h=>by rw [h],fun w1 vb r hr hv _=>?_⟩
 have e:(([]:List Int))=(([]:List Int)):=by simp only [txt,List.append_assoc,List.cons_append,List.nil_append,List.append_nil,List.singleton_append]
 have hlen:(([]:List Int)).length<=100000:=lt5 (by simp)
 rw [hr,e]at hv
 rw [e]at hlen
 exact(dk55 w1 vb hv hlen).mono (decOk_mono fun v w2 hd=>decR_of hd (fun h=>absurd h (by decide)) (by simp) (by simp) (by simp) fun hs=>by55 hs)
theorem dd56 (hp:properP 56 a b n lf lr ty vls d ws ps fs)(hn:0<=n/\n < 4294967296)(hgt:∀y∈ty,0<=y/\y < 4294967296)(hgd:∀y∈d,0<=y/\y < 256)(hbv:∀y∈vls,∀z∈y.2,0<=z/\z < 256)(hgl:∀x∈fs,0<=x.tab/\x.tab < 4294967296/\0<=x.typ/\x.typ < 4294967296)(hs:SpIn w A5 A6 A7 B7 A9 A10 B10 B11 c5 c6 c7 d7 c9 c10 d10 d11 lf lr ty d vls ws ps fs):DD 56 (.agg #[.int .i64 56,.string a,.string b,.int .u32 n,.slice A5 lf.length c5,.slice A6 lr.length c6,.slice A7 ty.length c7,.slice B7 vls.length d7,.slice A9 d.length c9,.slice A10 ws.length c10,.slice B10 ps.length d10,.slice B11 fs.length d11]) w (fun r=>r=numB n 1) (numB n 1) (allB 90 (numB n 1)) ps.length:=by
 refine⟨fun wy hy=>bo56 hn (hs.ext hy),fun wy hy=>by56 hn (hs.ext hy),rfl,fun r h=>by rw [h],fun w1 vb r hr hv _=>?_⟩
 have e:(numB n 1)=(numB n 1):=by rfl
 have hlen:(numB n 1).length<=100000:=lt5 (by simp only [List.length_append,List.length_cons,List.length_nil,numB_len,txt_len];omega)
 rw [hr,e]at hv
 rw [e]at hlen
 exact(dk56 n ⟨hn.1,by have:=hp.k56 rfl;omega⟩ w1 vb hv hlen).mono (decOk_mono fun v w2 hd=>decR_of hd (fun h=>absurd h (by decide)) (by simp) (by simp) (by simp) fun hs=>by56 hn hs)
theorem dd57 (hp:properP 57 a b n lf lr ty vls d ws ps fs)(hn:0<=n/\n < 4294967296)(hgt:∀y∈ty,0<=y/\y < 4294967296)(hgd:∀y∈d,0<=y/\y < 256)(hbv:∀y∈vls,∀z∈y.2,0<=z/\z < 256)(hgl:∀x∈fs,0<=x.tab/\x.tab < 4294967296/\0<=x.typ/\x.typ < 4294967296)(hs:SpIn w A5 A6 A7 B7 A9 A10 B10 B11 c5 c6 c7 d7 c9 c10 d10 d11 lf lr ty d vls ws ps fs):DD 57 (.agg #[.int .i64 57,.string a,.string b,.int .u32 n,.slice A5 lf.length c5,.slice A6 lr.length c6,.slice A7 ty.length c7,.slice B7 vls.length d7,.slice A9 d.length c9,.slice A10 ws.length c10,.slice B10 ps.length d10,.slice B11 fs.length d11]) w (fun r=>r=numB (fs.length:Int) 2++fs.flatMap sfB) (numB (fs.length:Int) 2++fs.flatMap sfB) (allB 84 (numB (fs.length:Int) 2++fs.flatMap sfB)) ps.length:=by
 refine⟨fun wy hy=>bo57 hp.cols.1 (fun y hy=>⟨(hp.cols.2 y hy).1.1,hgl y hy⟩) (hs.ext hy),fun wy hy=>by57 hp.cols.1 (fun y hy=>⟨(hp.cols.2 y hy).1.1,hgl y hy⟩) (hs.ext hy),rfl,fun r h=>by rw [h],fun w1 vb r hr hv _=>?_⟩
 have e:(numB (fs.length:Int) 2++fs.flatMap sfB)=(numB (fs.length:Int) 2++fs.flatMap sfB):=by rfl
 have hlen:(numB (fs.length:Int) 2++fs.flatMap sfB).length<=100000:=lt5 (by have hl:=hp.cols.1;have hgl2:=fun y hy=>(hp.cols.2 y hy).1.1;have:=flat_len sfB 230 fs (fun x hx=>by have:=hgl2 x hx;simp only [sfB,txt,List.length_append,numB_len,sby_length,List.length_cons,List.length_nil];omega);simp only [List.length_append,numB_len];omega)
 rw [hr,e]at hv
 rw [e]at hlen
 exact(dk57 fs hp.cols.1 (fun y hy=>⟨(hp.cols.2 y hy).1,(colF (hp.cols.2 y hy) (hgl y hy))⟩) w1 vb hv hlen).mono (decOk_mono fun v w2 hd=>decR_of hd (fun h=>absurd h (by decide)) (by simp) (by simp) (Nat.le_trans hp.cols.1 (by omega)) fun hs=>by57 hp.cols.1 (fun y hy=>⟨(hp.cols.2 y hy).1.1,hgl y hy⟩) hs)
theorem dd18 (hp:properP 18 a b n lf lr ty vls d ws ps fs)(hn:0<=n/\n < 4294967296)(hgt:∀y∈ty,0<=y/\y < 4294967296)(hgd:∀y∈d,0<=y/\y < 256)(hbv:∀y∈vls,∀z∈y.2,0<=z/\z < 256)(hgl:∀x∈fs,0<=x.tab/\x.tab < 4294967296/\0<=x.typ/\x.typ < 4294967296)(hs:SpIn w A5 A6 A7 B7 A9 A10 B10 B11 c5 c6 c7 d7 c9 c10 d10 d11 lf lr ty d vls ws ps fs):DD 18 (.agg #[.int .i64 18,.string a,.string b,.int .u32 n,.slice A5 lf.length c5,.slice A6 lr.length c6,.slice A7 ty.length c7,.slice B7 vls.length d7,.slice A9 d.length c9,.slice A10 ws.length c10,.slice B10 ps.length d10,.slice B11 fs.length d11]) w (fun r=>r=numB n 4++ps.flatMap prB++numB 0 1) (numB n 4++ps.flatMap prB++numB 0 1) (allB 0 (numB n 4++ps.flatMap prB++numB 0 1)) ps.length:=by
 obtain⟨hn6,h0,h1,h2,h3⟩:=hp.k18 rfl
 subst hn6
 have hsr:=srt_of ps h3
 have hb:∀y∈ps,y.1.size<=200/\y.2.size<=200:=fun y hy=>⟨(h2 y hy).1.1,(h2 y hy).2.1.1⟩
 refine⟨fun wy hy=>bo18 hn h1 hb (hs.ext hy),fun wy hy=>by18 hn h1 hb (hs.ext hy),rfl,fun r h=>by rw [h],fun w1 vb r hr hv _=>?_⟩
 have e:numB 196608 4++ps.flatMap prB++numB 0 1=numB 196608 4++(ps.flatMap prB++ [0]):=by rw [List.append_assoc,numB01]
 have hlen:(numB 196608 4++ps.flatMap prB++numB 0 1).length<=100000:=lt5 (by have hp:=h1;have hgp:=hb;have:=flat_len prB 402 ps (fun x hx=>by have:=hgp x hx;rw [prB_lenS,sby_length,sby_length];omega);simp only [List.length_append,numB_len];omega)
 rw [hr,e]at hv
 rw [e]at hlen
 exact(dk18 ps h1 (fun y hy=>⟨(h2 y hy).1,(h2 y hy).2.1⟩) (List.length_pos_iff.1 h0) hsr w1 vb hv hlen).mono (decOk_mono fun v w2 hd=>decR_of hd (fun _=>rfl) (by simp) (by omega) (by simp) fun hs=>by18 hn h1 hb hs)
theorem dd47 (hp:properP 47 a b n lf lr ty vls d ws ps fs)(hn:0<=n/\n < 4294967296)(hgt:∀y∈ty,0<=y/\y < 4294967296)(hgd:∀y∈d,0<=y/\y < 256)(hbv:∀y∈vls,∀z∈y.2,0<=z/\z < 256)(hgl:∀x∈fs,0<=x.tab/\x.tab < 4294967296/\0<=x.typ/\x.typ < 4294967296)(hs:SpIn w A5 A6 A7 B7 A9 A10 B10 B11 c5 c6 c7 d7 c9 c10 d10 d11 lf lr ty d vls ws ps fs):DD 47 (.agg #[.int .i64 47,.string a,.string b,.int .u32 n,.slice A5 lf.length c5,.slice A6 lr.length c6,.slice A7 ty.length c7,.slice B7 vls.length d7,.slice A9 d.length c9,.slice A10 ws.length c10,.slice B10 ps.length d10,.slice B11 fs.length d11]) w (fun r=>∃qs:List Pr,qs.Perm ps/\r=qs.flatMap erB++numB 0 1) (ps.flatMap erB++numB 0 1) (allB 69 (ps.flatMap erB++numB 0 1)) ps.length:=by
 obtain⟨hf,h1,h2,h3⟩:=hp.k47 (by omega)
 have hsr:=srt_of ps h3
 have hb:∀y∈ps,y.1.size<=200/\y.2.size<=200:=fun y hy=>⟨(h2 y hy).1.1,(h2 y hy).2.1.1⟩
 refine⟨fun wy hy=>bo47 h1 hb (hs.ext hy),fun wy hy=>by47 h1 hb (hs.ext hy),⟨ps,List.Perm.refl _,rfl⟩,fun r h=>?_,fun w1 vb r hr hv ht=>?_⟩
 ·obtain⟨qs,hq,rfl⟩:=h
  rw [List.length_append,List.length_append,flat_perm hq]
 ·obtain⟨qs,hq,rfl⟩:=hr
  have hlen:(qs.flatMap erB++numB 0 1).length<=100000:=lt5 (by rw [List.length_append,flat_perm hq,<-List.length_append];have hp:=h1;have hgp:=hb;have:=flat_len erB 402 ps (fun x hx=>by have:=hgp x hx;simp only [erB,txt,List.length_append,sby_length,List.length_cons,List.length_nil];omega);simp only [List.length_append,numB_len];omega)
  rw [numB01]at hv hlen
  exact(dk47 qs ps (fun y hy=>⟨hf y hy,(h2 y hy).2.1,(h2 y hy).2.2.2.2 rfl⟩) hsr hq w1 vb hv hlen ht).mono (decOk_mono fun v w2 hd=>decR_of hd (fun _=>rfl) (by simp) (by omega) (by simp) fun hs=>by47 h1 hb hs)
theorem dd48 (hp:properP 48 a b n lf lr ty vls d ws ps fs)(hn:0<=n/\n < 4294967296)(hgt:∀y∈ty,0<=y/\y < 4294967296)(hgd:∀y∈d,0<=y/\y < 256)(hbv:∀y∈vls,∀z∈y.2,0<=z/\z < 256)(hgl:∀x∈fs,0<=x.tab/\x.tab < 4294967296/\0<=x.typ/\x.typ < 4294967296)(hs:SpIn w A5 A6 A7 B7 A9 A10 B10 B11 c5 c6 c7 d7 c9 c10 d10 d11 lf lr ty d vls ws ps fs):DD 48 (.agg #[.int .i64 48,.string a,.string b,.int .u32 n,.slice A5 lf.length c5,.slice A6 lr.length c6,.slice A7 ty.length c7,.slice B7 vls.length d7,.slice A9 d.length c9,.slice A10 ws.length c10,.slice B10 ps.length d10,.slice B11 fs.length d11]) w (fun r=>∃qs:List Pr,qs.Perm ps/\r=qs.flatMap erB++numB 0 1) (ps.flatMap erB++numB 0 1) (allB 78 (ps.flatMap erB++numB 0 1)) ps.length:=by
 obtain⟨hf,h1,h2,h3⟩:=hp.k47 (by omega)
 have hsr:=srt_of ps h3
 have hb:∀y∈ps,y.1.size<=200/\y.2.size<=200:=fun y hy=>⟨(h2 y hy).1.1,(h2 y hy).2.1.1⟩
 refine⟨fun wy hy=>bo48 h1 hb (hs.ext hy),fun wy hy=>by48 h1 hb (hs.ext hy),⟨ps,List.Perm.refl _,rfl⟩,fun r h=>?_,fun w1 vb r hr hv ht=>?_⟩
 ·obtain⟨qs,hq,rfl⟩:=h
  rw [List.length_append,List.length_append,flat_perm hq]
 ·obtain⟨qs,hq,rfl⟩:=hr
  have hlen:(qs.flatMap erB++numB 0 1).length<=100000:=lt5 (by rw [List.length_append,flat_perm hq,<-List.length_append];have hp:=h1;have hgp:=hb;have:=flat_len erB 402 ps (fun x hx=>by have:=hgp x hx;simp only [erB,txt,List.length_append,sby_length,List.length_cons,List.length_nil];omega);simp only [List.length_append,numB_len];omega)
  rw [numB01]at hv hlen
  exact(dk48 qs ps (fun y hy=>⟨hf y hy,(h2 y hy).2.1,(h2 y hy).2.2.2.2 rfl⟩) hsr hq w1 vb hv hlen ht).mono (decOk_mono fun v w2 hd=>decR_of hd (fun _=>rfl) (by simp) (by omega) (by simp) fun hs=>by48 h1 hb hs)
end
end Go.Proofs.YtdenjanihikolaaGreatDoor
