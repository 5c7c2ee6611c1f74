/- Pairs are sorted in place, by slices.SortFunc's contract. -/
import Derived.Test.YtdenjanihikolaaGreatDoorRqA0
import Derived.Test.YtdenjanihikolaaGreatDoorRqA1
import Derived.Test.YtdenjanihikolaaGreatDoorRqRka
import Derived.Test.YtdenjanihikolaaGreatDoorRqMkb
import Derived.Test.YtdenjanihikolaaGreatDoorRqMkg
import Derived.Test.YtdenjanihikolaaGreatDoorRqEncf
import Derived.Test.YtdenjanihikolaaGreatDoorRqMkk
import Derived.Test.YtdenjanihikolaaGreatDoorRqTda
import Derived.Test.YtdenjanihikolaaGreatDoorRqMkn
import Derived.Test.YtdenjanihikolaaGreatDoorRqDkg
import Derived.Test.YtdenjanihikolaaGreatDoorRqTdd
import Derived.Test.YtdenjanihikolaaGreatDoorRqTde
import Derived.Test.YtdenjanihikolaaGreatDoorRqTdg
import Derived.Test.YtdenjanihikolaaGreatDoorRqTdh
import Derived.Test.YtdenjanihikolaaGreatDoorRqDkj
import Derived.Test.YtdenjanihikolaaGreatDoorRqDki
import Derived.Test.YtdenjanihikolaaGreatDoorRqTdk
import Derived.Test.YtdenjanihikolaaGreatDoorRqDkn
import Derived.Test.YtdenjanihikolaaGreatDoorRqBdh
import Derived.Test.YtdenjanihikolaaGreatDoorRqTdc
import Derived.Test.YtdenjanihikolaaGreatDoorRqBdd
import Derived.Shelf.SlSortCmp.NoneTotal
import Derived.Test.YtdenjanihikolaaGreatDoorRqDcj
namespace Go.Proofs.YtdenjanihikolaaGreatDoor
set_option linter.unusedVariables false
set_option linter.unusedSimpArgs false
set_option maxRecDepth 100000
set_option maxHeartbeats 4000000
open Go.RowKit Og
section
variable {a b : ByteArray} {n : Int} {lf lr ty d : List Int} {vls : List (Bool × List Int)} {ws : List ByteArray} {ps : List (ByteArray × ByteArray)} {fs : List Sf} {mm : Int} {A5 A6 A7 A8 A9 A10 A11 A12 : Option Addr} {c5 c6 c7 c8 c9 c10 c11 c12 : Nat} {w wx : World} {s : Wh}
set_option maxHeartbeats 8000000 in
theorem goes_of {kd:Int} (hst:turnedQ kd=false)(hm:MsgIn w (.agg #[.int .i64 kd,.string a,.string b,.int .u32 n,.int .u32 mm,.slice A5 lf.length c5,.slice A6 lr.length c6,.slice A7 ty.length c7,.slice A8 vls.length c8,.slice A9 d.length c9,.slice A10 ws.length c10,.slice A11 ps.length c11,.slice A12 fs.length c12]) a b kd n mm A5 A6 A7 A8 A9 A10 A11 A12 c5 c6 c7 c8 c9 c10 c11 c12 lf lr ty d vls ws ps fs)(hp:properP kd a b n lf lr ty vls d ws ps fs)(hs:SpQ wx s lf lr ty d vls ws ps fs):Goes kd (XQ s kd a b n lf lr ty d vls ws ps fs) (.agg #[.int .i64 kd,.string a,.string b,.int .u32 n,.int .u32 mm,.slice A5 lf.length c5,.slice A6 lr.length c6,.slice A7 ty.length c7,.slice A8 vls.length c8,.slice A9 d.length c9,.slice A10 ws.length c10,.slice A11 ps.length c11,.slice A12 fs.length c12]) wx w ps.length:=by
 have hk:kd=0∨kd=1∨kd=2∨kd=3∨kd=4∨kd=5∨kd=6∨kd=7∨kd=8∨kd=9∨kd=10∨kd=11∨kd=12∨kd=13∨kd=14∨kd=15∨kd=16∨kd=17∨kd=19∨kd=20∨kd=30∨kd=31∨kd=32∨kd=33∨kd=34∨kd=35∨kd=36∨kd=37∨kd=38∨kd=39∨kd=40∨kd=41∨kd=42∨kd=43∨kd=44∨kd=45∨kd=46∨kd=49∨kd=50∨kd=51∨kd=52∨kd=53∨kd=54∨kd=55∨kd=56∨kd=57:=by
  have h1:=hp.known
  unfold knownK at h1
  unfold turnedQ at hst
  simp only [Bool.or_eq_false_iff,beq_eq_false_iff_ne]at hst
  omega
 clear hst
 have ha:=hp.pa
 have hb:=hp.pb
 have ha1:a.size<=200:=ha.1
 have hb1:b.size<=200:=hb.1
 have hn:=hm.n
 have hgt:=hm.ty
 have hgd:=hm.d
 have hbv:=hm.vls
 have hgl:=hm.fs
 have hld:=hp.data
 have hlt:=hp.types
 have hlv:=hp.vals.1
 have hgv:=hp.vals.2
 have l1:=n2_len lf
 have l2:=n2_len lr
 have l3:=n4_len ty
 have l4:=opt_len fun y hy=>(hgv y hy).1
 rcases hk with rfl|rfl|rfl|rfl|rfl|rfl|rfl|rfl|rfl|rfl|rfl|rfl|rfl|rfl|rfl|rfl|rfl|rfl|rfl|rfl|rfl|rfl|rfl|rfl|rfl|rfl|rfl|rfl|rfl|rfl|rfl|rfl|rfl|rfl|rfl|rfl|rfl|rfl|rfl|rfl|rfl|rfl|rfl|rfl|rfl|rfl
 have hlf:=(hp.k0 rfl).1.1
 have hgf:=small01 (hp.k0 rfl).1.2
 have hlr:=(hp.k0 rfl).2.1
 have hgr:=small01 (hp.k0 rfl).2.2
 refine rk_f (B:=txt a++txt b++(numB (lf.length:Int) 2++lf.flatMap fun n=>numB n 2)++(numB (vls.length:Int) 2++vls.flatMap fun x=>valB x.1 x.2)++(numB (lr.length:Int) 2++lr.flatMap fun n=>numB n 2)) kf0 hs rfl ?_ ?_ ?_ (dek0 a b lf lr vls ha hb hlf hgf hlv (fun y hy=>(hgv y hy).1) hlr hgr) (fun k w2 ⟨A1,c1,A2,c2,A3,c3,h1,h2,h3,h4⟩=>told0 a b lf A1 c1 vls A2 c2 lr A3 c3 w2 k h1 (zh h2) hlf hgf (zh h3) hlv hgv hbv (zh h4) hlr hgr) (fun w' hx HR=>made0 a b n _ _ _ _ _ _ lf lr vls _ _ _ _ _ _ w' ha.1 hb.1 (zh (hm.rf.ext hx)) hlf hgf (zh (hm.rr.ext hx)) hlr hgr (zh (hm.rv.ext hx (isVal.ext hx))) hlv (fun y hy=>(hgv y hy).1) _ HR) ?_ (by constructor <;> intro s w hs <;> exact body0 _ _ _ _ _ _ _ _ _ _ _ w (by omega) (by omega) lf hs.hf (by omega) lr hs.hr (by omega) vls hs.hv (by omega) (fun y hy=>by have:=(hgv y hy).1;omega) _ rfl)
 rotate_left 4
 have hd4:=hp.k1 (by omega)
 refine rk_f (B:=numB 80877102 4++numB n 4++d) kf1 hs rfl ?_ ?_ ?_ (dek1 n d hn hd4) (fun k w2 hq=>by obtain⟨A,c,h1,h2⟩:=hq;rw [<-hd4]at h1 h2;exact told1 n d A c w2 k h1 hn (zh h2) hld hgd) (fun w' hx HR=>made1 a b n _ _ _ _ _ _ _ _ _ d w' (zh (hm.rd.ext hx)) (by omega) hn _ HR) ?_ (by constructor <;> intro s w hs <;> exact body1 _ _ _ _ _ _ _ _ _ _ _ w hn _ _ d rfl hs.hd (by omega) _ rfl)
 rotate_left 4
 have hn8:0<=n/\n < 256:=⟨hn.1,by have:=hp.k2 (by omega);omega⟩
 refine rk_f (B:=numB n 1++txt a) kf2 hs rfl ?_ ?_ ?_ (dek2 n a hn8 ha) (fun k w2 h1=>told2 n a w2 k h1 hn8) (fun w' hx HR=>made2 a b n _ _ _ _ _ _ _ _ _ w' ha.1 hn8.2 _ HR) ?_ (by constructor <;> intro s w hs <;> exact body2 _ _ _ _ _ _ _ _ _ _ _ w (by omega) hn _ rfl)
 rotate_left 4
 refine rk_f (B:=d) kf3 hs rfl ?_ ?_ ?_ (dek3 d) (fun k w2 ⟨A,c,h1,h2⟩=>told3 d A c w2 k h1 (zh h2) hld hgd) (fun w' hx HR=>made3 a b n _ _ _ _ _ _ _ _ _ d w' (zh (hm.rd.ext hx)) hld _ HR) ?_ (by constructor <;> intro s w hs <;> exact body3 _ _ _ _ _ _ _ _ _ _ _ w _ _ d rfl hs.hd (by omega) _ rfl)
 rotate_left 4
 refine rk_t (B:=([]:List Int)) kf4 hs rfl ⟨by decide,by decide⟩ ?_ ?_ (fun s w hs=>body4 _ _ _ _ _ _ _ _ _ _ _ w _ rfl) dek4 (fun b w2=>encCopyDone b w2 _) ?_ (by decide) (by decide)
 rotate_left 3
 refine rk_f (B:=txt a) kf5 hs rfl ?_ ?_ ?_ (dek5 a ha) (fun k w2 h1=>told5 a w2 k h1) (fun w' hx HR=>made5 a b n _ _ _ _ _ _ _ _ _ w' ha.1 _ HR) ?_ (by constructor <;> intro s w hs <;> exact body5 _ _ _ _ _ _ _ _ _ _ _ w (by omega) _ rfl)
 rotate_left 4
 have hn8:0<=n/\n < 256:=⟨hn.1,by have:=hp.k2 (by omega);omega⟩
 refine rk_f (B:=numB n 1++txt a) kf6 hs rfl ?_ ?_ ?_ (dek6 n a hn8 ha) (fun k w2 h1=>told6 n a w2 k h1 hn8) (fun w' hx HR=>made6 a b n _ _ _ _ _ _ _ _ _ w' ha.1 hn8.2 _ HR) ?_ (by constructor <;> intro s w hs <;> exact body6 _ _ _ _ _ _ _ _ _ _ _ w (by omega) hn _ rfl)
 rotate_left 4
 refine rk_f (B:=txt a++numB n 4) kf7 hs rfl ?_ ?_ ?_ (dek7 a n ha hn) (fun k w2 h1=>told7 a n w2 k h1 hn) (fun w' hx HR=>made7 a b n _ _ _ _ _ _ _ _ _ w' ha.1 hn _ HR) ?_ (by constructor <;> intro s w hs <;> exact body7 _ _ _ _ _ _ _ _ _ _ _ w (by omega) hn _ rfl)
 rotate_left 4
 refine rk_t (B:=([]:List Int)) kf8 hs rfl ⟨by decide,by decide⟩ ?_ ?_ (fun s w hs=>body8 _ _ _ _ _ _ _ _ _ _ _ w _ rfl) dek8 (fun b w2=>encFlush b w2 _) ?_ (by decide) (by decide)
 rotate_left 3
 obtain⟨rx,rfl⟩:∃rx,lr=[rx]:=by
  match lr,(hp.k9 rfl).2.2 with
  | [rx],_=>exact⟨rx,rfl⟩
 have hlf:=(hp.k9 rfl).1.1
 have hll:=hlf
 have h01:=(hp.k9 rfl).1.2
 have hgf:=small01 h01
 have hx01:=(hp.k9 rfl).2.1.2 rx (by simp)
 have hrx:=small01 (hp.k9 rfl).2.1.2 rx (by simp)
 have hrl:[rx].length<=20:=(hp.k9 rfl).2.1.1
 refine rk_f (B:=(numB n 4++(numB (lf.length:Int) 2++lf.flatMap fun n=>numB n 2)++(numB (vls.length:Int) 2++vls.flatMap fun x=>valB x.1 x.2)++ [rx].flatMap fun n=>numB n 2)) kf9 hs rfl ?_ ?_ ?_ (dek9 n rx lf vls hn hx01 hll h01 hlv (fun y hy=>(hgv y hy).1)) (fun k w2 ⟨A1,c1,A2,c2,h1,h2,h3⟩=>told9 n lf A1 c1 vls A2 c2 rx w2 k h1 hn (zh h2) hll (fun y hy=>by rcases h01 y hy with rfl|rfl <;> omega) (zh h3) hlv hgv hbv (by rcases hx01 with rfl|rfl <;> omega)) (fun w' hx HR=>made9 a b n _ _ _ _ _ _ lf rx vls _ _ _ _ _ _ w' hn (zh (hm.rf.ext hx)) hlf hgf (zh (hm.rv.ext hx (isVal.ext hx))) hlv (fun y hy=>(hgv y hy).1) (zh (hm.rr.ext hx)) hrx _ HR) ?_ (by constructor <;> intro s w hs <;> exact body9 _ _ _ _ _ _ _ _ _ _ _ w hn lf hs.hf (by omega) vls hs.hv (by omega) (fun y hy=>by have:=(hgv y hy).1;omega) [rx] _ _ rfl hs.hr (by omega) _ rfl)
 rotate_left 4
 refine rk_t (B:=numB 80877104 4) kf10 hs rfl ⟨by decide,by decide⟩ ?_ ?_ (fun s w hs=>body10 _ _ _ _ _ _ _ _ _ _ _ w _ rfl) dek10 (fun b w2=>encGSSEncRequest b w2 _) ?_ (by decide) (by decide)
 rotate_left 3
 refine rk_f (B:=d) kf11 hs rfl ?_ ?_ ?_ (dek11 d) (fun k w2 ⟨A,c,h1,h2⟩=>told11 d A c w2 k h1 (zh h2) hld hgd) (fun w' hx HR=>made11 a b n _ _ _ _ _ _ _ _ _ d w' (zh (hm.rd.ext hx)) hld _ HR) ?_ (by constructor <;> intro s w hs <;> exact body11 _ _ _ _ _ _ _ _ _ _ _ w _ _ d rfl hs.hd (by omega) _ rfl)
 rotate_left 4
 refine rk_f (B:=txt a++txt b++(numB (ty.length:Int) 2++ty.flatMap fun n=>numB n 4)) kf12 hs rfl ?_ ?_ ?_ (dek12 a b ty ha hb hlt hgt) (fun k w2 ⟨A,c,h1,h2⟩=>told12 a b ty A c w2 k h1 (zh h2) hlt hgt) (fun w' hx HR=>made12 a b n _ _ _ _ _ _ _ _ ty _ _ w' ha.1 hb.1 (zh (hm.rt.ext hx)) hlt hgt _ HR) ?_ (by constructor <;> intro s w hs <;> exact body12 _ _ _ _ _ _ _ _ _ _ _ w (by omega) (by omega) ty hs.ht (by omega) hgt _ rfl)
 rotate_left 4
 refine rk_f (B:=txt a) kf13 hs rfl ?_ ?_ ?_ (dek13 a ha) (fun k w2 h1=>told13 a w2 k h1) (fun w' hx HR=>made13 a b n _ _ _ _ _ _ _ _ _ w' ha.1 _ HR) ?_ (by constructor <;> intro s w hs <;> exact body13 _ _ _ _ _ _ _ _ _ _ _ w (by omega) _ rfl)
 rotate_left 4
 refine rk_f (B:=txt a) kf14 hs rfl ?_ ?_ ?_ (dek14 a ha) (fun k w2 h1=>told14 a w2 k h1) (fun w' hx HR=>made14 a b n _ _ _ _ _ _ _ _ _ w' ha.1 _ HR) ?_ (by constructor <;> intro s w hs <;> exact body14 _ _ _ _ _ _ _ _ _ _ _ w (by omega) _ rfl)
 rotate_left 4
 refine rk_f (B:=txt a++numB (d.length:Int) 4++d) kf15 hs rfl ?_ ?_ ?_ (dek15 a (d.length:Int) d ha) (fun k w2 ⟨A,c,h1,h2⟩=>told15 a d A c w2 k h1 (zh h2) hld hgd) (fun w' hx HR=>made15 a b n _ _ _ _ _ _ _ _ _ d w' ha.1 (zh (hm.rd.ext hx)) hld _ HR) ?_ (by constructor <;> intro s w hs <;> exact body15 _ _ _ _ _ _ _ _ _ _ _ w (by omega) _ _ d rfl hs.hd (by omega) _ rfl)
 rotate_left 4
 refine rk_f (B:=d) kf16 hs rfl ?_ ?_ ?_ (dek16 d) (fun k w2 ⟨A,c,h1,h2⟩=>told16 d A c w2 k h1 (zh h2) hld hgd) (fun w' hx HR=>made16 a b n _ _ _ _ _ _ _ _ _ d w' (zh (hm.rd.ext hx)) hld _ HR) ?_ (by constructor <;> intro s w hs <;> exact body16 _ _ _ _ _ _ _ _ _ _ _ w _ _ d rfl hs.hd (by omega) _ rfl)
 rotate_left 4
 refine rk_t (B:=numB 80877103 4) kf17 hs rfl ⟨by decide,by decide⟩ ?_ ?_ (fun s w hs=>body17 _ _ _ _ _ _ _ _ _ _ _ w _ rfl) dek17 (fun b w2=>encSSLRequest b w2 _) ?_ (by decide) (by decide)
 rotate_left 3
 refine rk_t (B:=([]:List Int)) kf19 hs rfl ⟨by decide,by decide⟩ ?_ ?_ (fun s w hs=>body19 _ _ _ _ _ _ _ _ _ _ _ w _ rfl) dek19 (fun b w2=>encSync b w2 _) ?_ (by decide) (by decide)
 rotate_left 3
 refine rk_t (B:=([]:List Int)) kf20 hs rfl ⟨by decide,by decide⟩ ?_ ?_ (fun s w hs=>body20 _ _ _ _ _ _ _ _ _ _ _ w _ rfl) dek20 (fun b w2=>encTerminate b w2 _) ?_ (by decide) (by decide)
 rotate_left 3
 refine rk_t (B:=numB 0 4) kf30 hs rfl ⟨by decide,by decide⟩ ?_ ?_ (fun s w hs=>body30 _ _ _ _ _ _ _ _ _ _ _ w _ rfl) dek30 (fun b w2=>encAuthOk b w2 _) ?_ (by decide) (by decide)
 rotate_left 3
 refine rk_t (B:=numB 3 4) kf31 hs rfl ⟨by decide,by decide⟩ ?_ ?_ (fun s w hs=>body31 _ _ _ _ _ _ _ _ _ _ _ w _ rfl) dek31 (fun b w2=>encAuthCleartext b w2 _) ?_ (by decide) (by decide)
 rotate_left 3
 have hd4:=hp.k1 (by omega)
 obtain⟨e0,e1,e2,e3,rfl⟩:∃e0 e1 e2 e3,d=[e0,e1,e2,e3]:=by
  match d,hd4 with
  | [e0,e1,e2,e3],_=>exact⟨e0,e1,e2,e3,rfl⟩
 refine rk_b (B:=numB 5 4++ [e0,e1,e2,e3]) kf32 hs rfl ?_ ?_ ?_ (dek32 [e0,e1,e2,e3] hd4) (fun k w2 w3 hq hx hm=>by obtain⟨d0,d1,d2,d3,he,h1⟩:=hq;cases he;exact answd32 e0 e1 e2 e3 w3 k (w2.heap.size+1) ((hx.block k (zl h1)).trans h1) hgd hm (by have:=zl h1;omega)) (fun w' w1 k hx HR hx1 hbk hblk=>ans32 a b n _ _ _ _ _ _ _ _ e0 e1 e2 e3 _ _ w' w1 k (zh (hm.rd.ext hx)) hx1 hbk hblk _ HR) ?_ (by decide) (by constructor <;> intro s w hs <;> exact body32 _ _ _ _ _ _ _ _ _ _ _ w _ _ [e0,e1,e2,e3] rfl hs.hd (by omega) _ rfl)
 rotate_left 4
 refine rk_t (B:=numB 7 4) kf33 hs rfl ⟨by decide,by decide⟩ ?_ ?_ (fun s w hs=>body33 _ _ _ _ _ _ _ _ _ _ _ w _ rfl) dek33 (fun b w2=>encAuthGSS b w2 _) ?_ (by decide) (by decide)
 rotate_left 3
 refine rk_b (B:=numB 8 4++d) kf34 hs rfl ?_ ?_ ?_ (dek34 d) (fun k w2 w3 ⟨A,c,h1,h2⟩ hx hm=>answd34 d A c w3 k (w2.heap.size+1) ((hx.block k (zl h1)).trans h1) (zh (h2.ext hx)) hld hgd hm (by have:=zl h1;omega)) (fun w' w1 k hx HR hx1 hbk hblk=>ans34 a b n _ _ _ _ _ _ _ _ _ d w' w1 k (zh (hm.rd.ext hx)) hld hx1 hbk hblk _ HR) ?_ (by decide) (by constructor <;> intro s w hs <;> exact body34 _ _ _ _ _ _ _ _ _ _ _ w _ _ d rfl hs.hd (by omega) _ rfl)
 rotate_left 4
 have hlw:=(hp.k35 rfl).2.1
 have hgw:=fun y hy=>((hp.k35 rfl).2.2 y hy).1.1
 have hll:ws.length<=20:=by omega
 have hlr:∀s∈ws,plainP s/\0 < s.size:=fun s hs=>⟨((hp.k35 rfl).2.2 s hs).1,by have:=((hp.k35 rfl).2.2 s hs).2;omega⟩
 have:=flat_len txt 201 ws (fun x hx=>by have:=hgw x hx;rw [txt_len];omega)
 refine rk_b (B:=numB 10 4++ws.flatMap txt++numB 0 1) kf35 hs rfl ?_ ?_ ?_ (dek35 ws hll hlr) (fun k w2 w3 ⟨A,c,h1,h2⟩ hx hm=>answd35 ws A c w3 k (w2.heap.size+1) ((hx.block k (zl h1)).trans h1) (zh (h2.ext hx fun _ _ h=>h)) hll hm (by have:=zl h1;omega)) (fun w' w1 k hx HR hx1 hbk hblk=>ans35 a b n _ _ _ _ _ _ _ _ ws _ _ w' w1 k (zh (hm.rw.ext hx (fun _ _ h=>h))) hlw hgw hx1 hbk hblk _ HR) ?_ (by decide) (by constructor <;> intro s w hs <;> exact body35 _ _ _ _ _ _ _ _ _ _ _ w ws _ _ rfl hs.hw (by omega) (fun y hy=>by have:=hgw y hy;omega) _ rfl)
 rotate_left 4
 refine rk_b (B:=numB 11 4++d) kf36 hs rfl ?_ ?_ ?_ (dek36 d) (fun k w2 w3 ⟨A,c,h1,h2⟩ hx hm=>answd36 d A c w3 k (w2.heap.size+1) ((hx.block k (zl h1)).trans h1) (zh (h2.ext hx)) hld hgd hm (by have:=zl h1;omega)) (fun w' w1 k hx HR hx1 hbk hblk=>ans36 a b n _ _ _ _ _ _ _ _ _ d w' w1 k (zh (hm.rd.ext hx)) hld hx1 hbk hblk _ HR) ?_ (by decide) (by constructor <;> intro s w hs <;> exact body36 _ _ _ _ _ _ _ _ _ _ _ w _ _ d rfl hs.hd (by omega) _ rfl)
 rotate_left 4
 refine rk_b (B:=numB 12 4++d) kf37 hs rfl ?_ ?_ ?_ (dek37 d) (fun k w2 w3 ⟨A,c,h1,h2⟩ hx hm=>answd37 d A c w3 k (w2.heap.size+1) ((hx.block k (zl h1)).trans h1) (zh (h2.ext hx)) hld hgd hm (by have:=zl h1;omega)) (fun w' w1 k hx HR hx1 hbk hblk=>ans37 a b n _ _ _ _ _ _ _ _ _ d w' w1 k (zh (hm.rd.ext hx)) hld hx1 hbk hblk _ HR) ?_ (by decide) (by constructor <;> intro s w hs <;> exact body37 _ _ _ _ _ _ _ _ _ _ _ w _ _ d rfl hs.hd (by omega) _ rfl)
 rotate_left 4
 have hd4:=hp.k1 (by omega)
 refine rk_b (B:=numB n 4++d) kf38 hs rfl ?_ ?_ ?_ (dek38 n d hn hd4) (fun k w2 w3 hq hx hm=>by obtain⟨A,c,h1,h2⟩:=hq;rw [<-hd4]at h1 h2;exact answd38 n d A c w3 k (w2.heap.size+1) ((hx.block k (zl h1)).trans h1) hn (zh (h2.ext hx)) hld hgd hm (by have:=zl h1;omega)) (fun w' w1 k hx HR hx1 hbk hblk=>ans38 a b n _ _ _ _ _ _ _ _ _ d w' w1 k (zh (hm.rd.ext hx)) hld hn hx1 hbk hblk _ HR) ?_ (by decide) (by constructor <;> intro s w hs <;> exact body38 _ _ _ _ _ _ _ _ _ _ _ w hn _ _ d rfl hs.hd (by omega) _ rfl)
 rotate_left 4
 refine rk_t (B:=([]:List Int)) kf39 hs rfl ⟨by decide,by decide⟩ ?_ ?_ (fun s w hs=>body39 _ _ _ _ _ _ _ _ _ _ _ w _ rfl) dek39 (fun b w2=>encBindComplete b w2 _) ?_ (by decide) (by decide)
 rotate_left 3
 refine rk_t (B:=([]:List Int)) kf40 hs rfl ⟨by decide,by decide⟩ ?_ ?_ (fun s w hs=>body40 _ _ _ _ _ _ _ _ _ _ _ w _ rfl) dek40 (fun b w2=>encCloseComplete b w2 _) ?_ (by decide) (by decide)
 rotate_left 3
 refine rk_b (B:=txt a) kf41 hs rfl ?_ ?_ ?_ (dek41 a ha) (fun k w2 w3 ⟨A,c,h1,h2⟩ hx hm=>answd41 a A c w3 k (w2.heap.size+1) ((hx.block k (zl h1)).trans h1) (zh (h2.ext hx)) hm (by have:=zl h1;omega)) (fun w' w1 k hx HR hx1 hbk hblk=>ans41 a b n _ _ _ _ _ _ _ _ _ w' w1 k ha.1 hx1 hbk hblk _ HR) ?_ (by decide) (by constructor <;> intro s w hs <;> exact body41 _ _ _ _ _ _ _ _ _ _ _ w (by omega) _ rfl)
 rotate_left 4
 have hk:=hp.k42 (by omega)
 have hn8:0<=n/\n < 256:=⟨hn.1,by have:=hk.1;omega⟩
 have hlf:=hk.2.1
 have hgf:=small01 hk.2.2
 refine rk_b (B:=numB n 1++(numB (lf.length:Int) 2++lf.flatMap fun n=>numB n 2)) kf42 hs rfl ?_ ?_ ?_ (dekCopy (by decide) n lf hn8 hlf (fun y hy=>⟨(hgf y hy).1,by have:=(hgf y hy).2;omega⟩)) (fun k w2 w3 ⟨A,c,h1,h2⟩ hx hm=>answd42 n lf A c w3 k (w2.heap.size+1) ((hx.block k (zl h1)).trans h1) hn8 (zh (h2.ext hx)) hlf hgf hm (by have:=zl h1;omega)) (fun w' w1 k hx HR hx1 hbk hblk=>ans42 a b n _ _ _ _ _ _ _ _ lf _ _ w' w1 k hn8.2 (zh (hm.rf.ext hx)) hlf hgf hx1 hbk hblk _ HR) ?_ (by decide) (by constructor <;> intro s w hs <;> exact body42 _ _ _ _ _ _ _ _ _ _ _ w hn lf hs.hf (by omega) _ rfl)
 rotate_left 4
 have hk:=hp.k42 (by omega)
 have hn8:0<=n/\n < 256:=⟨hn.1,by have:=hk.1;omega⟩
 have hlf:=hk.2.1
 have hgf:=small01 hk.2.2
 refine rk_b (B:=numB n 1++(numB (lf.length:Int) 2++lf.flatMap fun n=>numB n 2)) kf43 hs rfl ?_ ?_ ?_ (dekCopy (by decide) n lf hn8 hlf (fun y hy=>⟨(hgf y hy).1,by have:=(hgf y hy).2;omega⟩)) (fun k w2 w3 ⟨A,c,h1,h2⟩ hx hm=>answd43 n lf A c w3 k (w2.heap.size+1) ((hx.block k (zl h1)).trans h1) hn8 (zh (h2.ext hx)) hlf hgf hm (by have:=zl h1;omega)) (fun w' w1 k hx HR hx1 hbk hblk=>ans43 a b n _ _ _ _ _ _ _ _ lf _ _ w' w1 k hn8.2 (zh (hm.rf.ext hx)) hlf hgf hx1 hbk hblk _ HR) ?_ (by decide) (by constructor <;> intro s w hs <;> exact body43 _ _ _ _ _ _ _ _ _ _ _ w hn lf hs.hf (by omega) _ rfl)
 rotate_left 4
 have hk:=hp.k42 (by omega)
 have hn8:0<=n/\n < 256:=⟨hn.1,by have:=hk.1;omega⟩
 have hlf:=hk.2.1
 have hgf:=small01 hk.2.2
 refine rk_b (B:=numB n 1++(numB (lf.length:Int) 2++lf.flatMap fun n=>numB n 2)) kf44 hs rfl ?_ ?_ ?_ (dekCopy (by decide) n lf hn8 hlf (fun y hy=>⟨(hgf y hy).1,by have:=(hgf y hy).2;omega⟩)) (fun k w2 w3 ⟨A,c,h1,h2⟩ hx hm=>answd44 n lf A c w3 k (w2.heap.size+1) ((hx.block k (zl h1)).trans h1) hn8 (zh (h2.ext hx)) hlf hgf hm (by have:=zl h1;omega)) (fun w' w1 k hx HR hx1 hbk hblk=>ans44 a b n _ _ _ _ _ _ _ _ lf _ _ w' w1 k hn8.2 (zh (hm.rf.ext hx)) hlf hgf hx1 hbk hblk _ HR) ?_ (by decide) (by constructor <;> intro s w hs <;> exact body44 _ _ _ _ _ _ _ _ _ _ _ w hn lf hs.hf (by omega) _ rfl)
 rotate_left 4
 refine rk_b (B:=(numB (vls.length:Int) 2++vls.flatMap fun x=>valB x.1 x.2)) kf45 hs rfl ?_ ?_ ?_ (dek45 vls hlv (fun y hy=>(hgv y hy).1)) (fun k w2 w3 ⟨A,c,h1,h2⟩ hx hm=>answd45 vls A c w3 k (w2.heap.size+1) ((hx.block k (zl h1)).trans h1) (zh (h2.ext hx (isOpt.ext hx))) hlv hgv hbv hm (by have:=zl h1;omega)) (fun w' w1 k hx HR hx1 hbk hblk=>ans45 a b n _ _ _ _ _ _ _ _ vls _ _ w' w1 k (zh (hm.rv.ext hx (isVal.ext hx))) hlv (fun y hy=>(hgv y hy).1) hx1 hbk hblk _ HR) ?_ (by decide) (by constructor <;> intro s w hs <;> exact body45 _ _ _ _ _ _ _ _ _ _ _ w vls hs.hv (by omega) (fun y hy=>by have:=(hgv y hy).1;omega) _ rfl)
 rotate_left 4
 refine rk_t (B:=([]:List Int)) kf46 hs rfl ⟨by decide,by decide⟩ ?_ ?_ (fun s w hs=>body46 _ _ _ _ _ _ _ _ _ _ _ w _ rfl) dek46 (fun b w2=>encEmptyQuery b w2 _) ?_ (by decide) (by decide)
 rotate_left 3
 obtain⟨x1,x2,rfl⟩:∃x1 x2,vls=[(x1,x2)]:=by
  match vls,hp.k49 rfl with
  | [(x1,x2)],_=>exact⟨x1,x2,rfl⟩
 have hxl:=(hgv (x1,x2) (by simp)).1
 have hx0:=(hgv (x1,x2) (by simp)).2
 have hgb:=hbv (x1,x2) (by simp)
 have l5:(valB x1 x2).length<=204:=by simpa using l4
 refine rk_b (B:=valB x1 x2) kf49 hs rfl ?_ ?_ ?_ (dek49 (x1,x2) hxl hx0) (fun k w2 w3 ⟨u,h1,h2⟩ hx hm=>answd49 (x1,x2) u w3 k (w2.heap.size+1) ((hx.block k (zl h1)).trans h1) (zh (isOpt.ext hx _ _ h2)) hxl hx0 hgb hm (by have:=zl h1;omega)) (fun w' w1 k hx HR hx1 hbk hblk=>ans49 a b n _ _ _ _ _ _ _ _ x1 x2 _ _ w' w1 k (zh (hm.rv.ext hx (isVal.ext hx))) hxl hx1 hbk hblk _ HR) ?_ (by decide) (by constructor <;> intro s w hs <;> exact body49 _ _ _ _ _ _ _ _ _ _ _ w [(x1,x2)] _ _ rfl hs.hv (by omega) (fun y hy=>by have:=(hgv y hy).1;omega) _ (by simp only [List.flatMap_cons,List.flatMap_nil,List.append_nil]))
 rotate_left 4
 refine rk_t (B:=([]:List Int)) kf50 hs rfl ⟨by decide,by decide⟩ ?_ ?_ (fun s w hs=>body50 _ _ _ _ _ _ _ _ _ _ _ w _ rfl) dek50 (fun b w2=>encNoData b w2 _) ?_ (by decide) (by decide)
 rotate_left 3
 refine rk_b (B:=numB n 4++txt a++txt b) kf51 hs rfl ?_ ?_ ?_ (dek51 n a b hn ha hb) (fun k w2 w3 h1 hx hm=>answd51 n a b w3 k (w2.heap.size+1) ((hx.block k (zl h1)).trans h1) hn hm (by have:=zl h1;omega)) (fun w' w1 k hx HR hx1 hbk hblk=>ans51 a b n _ _ _ _ _ _ _ _ _ w' w1 k hn ha.1 hb.1 hx1 hbk hblk _ HR) ?_ (by decide) (by constructor <;> intro s w hs <;> exact body51 _ _ _ _ _ _ _ _ _ _ _ w (by omega) (by omega) hn _ rfl)
 rotate_left 4
 refine rk_b (B:=(numB (ty.length:Int) 2++ty.flatMap fun n=>numB n 4)) kf52 hs rfl ?_ ?_ ?_ (dek52 ty hlt hgt) (fun k w2 w3 ⟨A,c,h1,h2⟩ hx hm=>answd52 ty A c w3 k (w2.heap.size+1) ((hx.block k (zl h1)).trans h1) (zh (h2.ext hx)) hlt hgt hm (by have:=zl h1;omega)) (fun w' w1 k hx HR hx1 hbk hblk=>ans52 a b n _ _ _ _ _ _ _ _ ty _ _ w' w1 k (zh (hm.rt.ext hx)) hlt hgt hx1 hbk hblk _ HR) ?_ (by decide) (by constructor <;> intro s w hs <;> exact body52 _ _ _ _ _ _ _ _ _ _ _ w ty hs.ht (by omega) hgt _ rfl)
 rotate_left 4
 refine rk_b (B:=txt a++txt b) kf53 hs rfl ?_ ?_ ?_ (dek53 a b ha hb) (fun k w2 w3 h1 hx hm=>answd53 a b w3 k (w2.heap.size+1) ((hx.block k (zl h1)).trans h1) hm (by have:=zl h1;omega)) (fun w' w1 k hx HR hx1 hbk hblk=>ans53 a b n _ _ _ _ _ _ _ _ _ w' w1 k ha.1 hb.1 hx1 hbk hblk _ HR) ?_ (by decide) (by constructor <;> intro s w hs <;> exact body53 _ _ _ _ _ _ _ _ _ _ _ w (by omega) (by omega) _ rfl)
 rotate_left 4
 refine rk_t (B:=([]:List Int)) kf54 hs rfl ⟨by decide,by decide⟩ ?_ ?_ (fun s w hs=>body54 _ _ _ _ _ _ _ _ _ _ _ w _ rfl) dek54 (fun b w2=>encParseComplete b w2 _) ?_ (by decide) (by decide)
 rotate_left 3
 refine rk_t (B:=([]:List Int)) kf55 hs rfl ⟨by decide,by decide⟩ ?_ ?_ (fun s w hs=>body55 _ _ _ _ _ _ _ _ _ _ _ w _ rfl) dek55 (fun b w2=>encPortalSuspended b w2 _) ?_ (by decide) (by decide)
 rotate_left 3
 have hn8:0<=n/\n < 256:=⟨hn.1,by have:=hp.k56 rfl;omega⟩
 refine rk_b (B:=numB n 1) kf56 hs rfl ?_ ?_ ?_ (dek56 n hn8) (fun k w2 w3 h1 hx hm=>answd56 n w3 k (w2.heap.size+1) ((hx.block k (zl h1)).trans h1) hn8 hm (by have:=zl h1;omega)) (fun w' w1 k hx HR hx1 hbk hblk=>ans56 a b n _ _ _ _ _ _ _ _ _ w' w1 k hn8.2 hx1 hbk hblk _ HR) ?_ (by decide) (by constructor <;> intro s w hs <;> exact body56 _ _ _ _ _ _ _ _ _ _ _ w hn _ rfl)
 rotate_left 4
 have hlf:=hp.cols.1
 have hgf:=fun y hy=>And.intro (hp.cols.2 y hy).1 (colF (hp.cols.2 y hy) (hgl y hy))
 have:=flat_len sfB 230 fs (fun x hx=>by have:=(hgf x hx).2.1;simp only [sfB,txt,List.length_append,numB_len,sby_length,List.length_cons,List.length_nil];omega)
 refine rk_b (B:=numB (fs.length:Int) 2++fs.flatMap sfB) kf57 hs rfl ?_ ?_ ?_ (dek57 fs hlf hgf) (fun k w2 w3 ⟨A,c,h1,h2⟩ hx hm=>answd57 fs A c w2 w3 k (w2.heap.size+1) ((hx.block k (zl h1)).trans h1) (zh (by rw [List.length_map];exact h2)) hx (by omega) hlf (fun y hy=>(hgf y hy).2) hm (by have:=zl h1;omega)) (fun w' w1 k hx HR hx1 hbk hblk=>ans57 a b n _ _ _ _ _ _ _ _ fs _ _ w' w1 k (zh (hm.rl.ext hx (fun _ _ h=>h))) hlf (fun y hy=>(hgf y hy).2) hx1 hbk hblk _ HR) ?_ (by decide) (by constructor <;> intro s w hs <;> exact body57 _ _ _ _ _ _ _ _ _ _ _ w fs _ _ rfl hs.hl (by omega) (fun y hy=>⟨by have:=(hgf y hy).2.1;omega,(hgf y hy).2.2.1,(hgf y hy).2.2.2.1,(hgf y hy).2.2.2.2.1,(hgf y hy).2.2.2.2.2.1⟩) _ rfl)
 rotate_left 4
 all_goals first
  | with_reducible rfl
  | omega
  | exact⟨by first|simp|omega,by simp,by first|simp|omega⟩
  | (simp only [txt,List.append_assoc,List.cons_append,List.nil_append,List.append_nil,List.singleton_append,List.flatMap_cons,List.flatMap_nil];done)
  | (simp only [List.length_append,List.length_cons,List.length_nil,numB_len,txt_len]at *;omega)
  | (rw [show numB 0 1=[0] by decide,List.append_assoc];rfl)
  | ((first|rw [all_msg (by decide)]|rw [all_msg0]);(try simp only [numB1,numB2,numB4,nums2,nums4,vals_opt,fds_sfs,List.append_assoc,List.map_cons,List.map_nil,List.flatMap_cons,List.flatMap_nil,List.append_nil]);(first|done|rfl|(unfold txt;rfl)|exact congrArg (msgB 86) (valB_opt (_,_))))
end
open Go.RowKit Go.Shelf Og
open Go.Sort (flatK get_flatK size_flatK HoldsK grow putRow putCells Holds grow_grow alloc_eq_grow heap_grow_old size_grow mapBlock onCells PermIn SortedIn SWO)
def sortPr_ren:Go.Shelf.Ren:=⟨fun|6=>70|15=>77|14=>76|28=>89|29=>90|20=>81|21=>82|22=>83|23=>84|24=>85|25=>86|26=>87|27=>88|46=>97|47=>98|48=>99|49=>100|50=>101|57=>107|n=>n,fun|22=>28|24=>60|25=>252|3=>3|39=>264|0=>0|53=>22|55=>277|4=>4|46=>269|45=>268|50=>273|5=>5|9=>9|66=>284|70=>288|76=>296|77=>297|n=>n,fun|n=>n⟩
theorem sortPr:Go.Proofs.SlLaysF0.n6 Tryz.prog sortPr_ren:=
 {mixed:=by kernel_rfl,
  f6:=⟨ "slices.SortFunc[[]pgproto3/impl.Pair,pgproto3/impl.Pair]",by decide,Tryz.func70.trans (congrArg some (by kernel_rfl))⟩,
  f14:=⟨ "slices.pdqsortCmpFunc[pgproto3/impl.Pair]",by decide,Tryz.func76.trans (congrArg some (by kernel_rfl))⟩,
  f15:=Tryz.func77.trans (congrArg some (by kernel_rfl)),
  f20:=⟨ "slices.insertionSortCmpFunc[pgproto3/impl.Pair]",by decide,Tryz.func81.trans (congrArg some (by kernel_rfl))⟩,
  f21:=⟨ "slices.heapSortCmpFunc[pgproto3/impl.Pair]",by decide,Tryz.func82.trans (congrArg some (by kernel_rfl))⟩,
  f22:=⟨ "slices.breakPatternsCmpFunc[pgproto3/impl.Pair]",by decide,Tryz.func83.trans (congrArg some (by kernel_rfl))⟩,
  f23:=⟨ "slices.choosePivotCmpFunc[pgproto3/impl.Pair]",by decide,Tryz.func84.trans (congrArg some (by kernel_rfl))⟩,
  f24:=⟨ "slices.reverseRangeCmpFunc[pgproto3/impl.Pair]",by decide,Tryz.func85.trans (congrArg some (by kernel_rfl))⟩,
  f25:=⟨ "slices.partialInsertionSortCmpFunc[pgproto3/impl.Pair]",by decide,Tryz.func86.trans (congrArg some (by kernel_rfl))⟩,
  f26:=⟨ "slices.partitionEqualCmpFunc[pgproto3/impl.Pair]",by decide,Tryz.func87.trans (congrArg some (by kernel_rfl))⟩,
  f27:=⟨ "slices.partitionCmpFunc[pgproto3/impl.Pair]",by decide,Tryz.func88.trans (congrArg some (by kernel_rfl))⟩,
  f28:=Tryz.func89.trans (congrArg some (by kernel_rfl)),
  f29:=Tryz.func90.trans (congrArg some (by kernel_rfl)),
  f46:=⟨ "slices.siftDownCmpFunc[pgproto3/impl.Pair]",by decide,Tryz.func97.trans (congrArg some (by kernel_rfl))⟩,
  f47:=Tryz.func98.trans (congrArg some (by kernel_rfl)),
  f48:=Tryz.func99.trans (congrArg some (by kernel_rfl)),
  f49:=⟨ "slices.medianAdjacentCmpFunc[pgproto3/impl.Pair]",by decide,Tryz.func100.trans (congrArg some (by kernel_rfl))⟩,
  f50:=⟨ "slices.medianCmpFunc[pgproto3/impl.Pair]",by decide,Tryz.func101.trans (congrArg some (by kernel_rfl))⟩,
  f57:=⟨ "slices.order2CmpFunc[pgproto3/impl.Pair]",by decide,Tryz.func107.trans (congrArg some (by kernel_rfl))⟩,
  t0:=Tryz.underlying0,
  a0:=Tryz.isAgg0,
  z0:=Tryz.sizeOf0,
  v0:=Tryz.zeroValue0,
  t3:=Tryz.underlying3,
  a3:=Tryz.isAgg3,
  z3:=Tryz.sizeOf3,
  v3:=Tryz.zeroValue3,
  t4:=Tryz.underlying4,
  a4:=Tryz.isAgg4,
  z4:=Tryz.sizeOf4,
  v4:=Tryz.zeroValue4,
  t5:=Tryz.underlying5,
  a5:=Tryz.isAgg5,
  z5:=Tryz.sizeOf5,
  v5:=Tryz.zeroValue5,
  t9:=Tryz.underlying9,
  a9:=Tryz.isAgg9,
  z9:=Tryz.sizeOf9,
  v9:=Tryz.zeroValue9,
  t22:=Tryz.underlying28,
  a22:=Tryz.isAgg28,
  z22:=Tryz.sizeOf28,
  v22:=Tryz.zeroValue28,
  t25:=Tryz.underlying252,
  a25:=Tryz.isAgg252,
  z25:=Tryz.sizeOf252,
  v25:=Tryz.zeroValue252,
  t39:=Tryz.underlying264,
  a39:=Tryz.isAgg264,
  z39:=Tryz.sizeOf264,
  v39:=Tryz.zeroValue264,
  t45:=Tryz.underlying268,
  a45:=Tryz.isAgg268,
  z45:=Tryz.sizeOf268,
  v45:=Tryz.zeroValue268,
  t46:=Tryz.underlying269,
  a46:=Tryz.isAgg269,
  z46:=Tryz.sizeOf269,
  v46:=Tryz.zeroValue269,
  t50:=Tryz.underlying273,
  a50:=Tryz.isAgg273,
  z50:=Tryz.sizeOf273,
  v50:=Tryz.zeroValue273,
  t53:=Tryz.underlying22,
  a53:=Tryz.isAgg22,
  z53:=Tryz.sizeOf22,
  v53:=Tryz.zeroValue22,
  t55:=Tryz.underlying277,
  a55:=Tryz.isAgg277,
  z55:=Tryz.sizeOf277,
  v55:=Tryz.zeroValue277,
  t66:=Tryz.underlying284,
  a66:=Tryz.isAgg284,
  z66:=Tryz.sizeOf284,
  v66:=Tryz.zeroValue284,
  t70:=Tryz.underlying288,
  a70:=Tryz.isAgg288,
  z70:=Tryz.sizeOf288,
  v70:=Tryz.zeroValue288,
  t76:=Tryz.underlying296,
  a76:=Tryz.isAgg296,
  z76:=Tryz.sizeOf296,
  v76:=Tryz.zeroValue296,
  t77:=Tryz.underlying297,
  a77:=Tryz.isAgg297,
  z77:=Tryz.sizeOf297,
  v77:=Tryz.zeroValue297}
def cfP (x y:Pr):Int:=if Op.bytesLess x.1.toList y.1.toList then -1 else if x.1.toList == y.1.toList then 0 else 1
theorem lt_cfP (x y:Pr):ltOf cfP x y=decide (ltP x y):=by
 unfold ltOf cfP
 rw [ltP_iff]
 by_cases h:ltP x y
 ·simp [h]
 ·simp only [h,decide_false,Bool.false_eq_true,if_false]
  split <;> rfl
theorem swoP:SWO (ltOf cfP) where
 irrefl x:=by rw [lt_cfP];exact decide_eq_false (List.lt_irrefl _)
 trans x y z h1 h2:=by
  rw [lt_cfP]at *
  exact decide_eq_true (List.lt_trans (of_decide_eq_true h1) (of_decide_eq_true h2))
 ntrans x y z h1 h2:=by
  rw [lt_cfP]at *
  have h3:leP y x:=of_decide_eq_false h1
  have h4:leP z y:=of_decide_eq_false h2
  exact decide_eq_false (leP_trans h4 h3)
theorem closure71 (x y:Pr)(W:World):Calls Tryz.prog 71 #[.agg #[.string x.1,.string x.2],.agg #[.string y.1,.string y.2]] W (fun e w'=>e=.returned (.int .i64 (cfP x y))/\∃q os',w'=grow (W.drewN q) os'):=by
 unfold cfP
 cases h1:Op.bytesLess x.1.toList y.1.toList with
 | true=>
   go_enter Tryz.func71,Tryz.ntmps71
   go_wp2
   go_ret
   exact⟨rfl,0,_,by rw [alloc_eq_grow,alloc_eq_grow,grow_grow];rfl⟩
 | false=>
   cases h2:(x.1.toList == y.1.toList)with
   | true=>
     go_enter Tryz.func71,Tryz.ntmps71
     go_wp2
     go_ret
     exact⟨rfl,0,_,by rw [alloc_eq_grow,alloc_eq_grow,grow_grow];rfl⟩
   | false=>
     go_enter Tryz.func71,Tryz.ntmps71
     go_wp2
     go_ret
     exact⟨rfl,0,_,by rw [alloc_eq_grow,alloc_eq_grow,grow_grow];rfl⟩
theorem cmpP (blk off size:Nat)(w:World):CmpLays Tryz.prog 71 #[] prV 2 cfP blk off size w:=fun _ _ _ _ x y=>closure71 x y _
theorem flat_flatK (l:List Pr):(flatK prV 2 l.toArray).toList=l.flatMap prV:=by
 apply List.ext_getElem?
 intro t
 have hs:(flatK prV 2 l.toArray).size=l.length * 2:=by simp
 by_cases ht:t < l.length * 2
 ·obtain⟨s,hsl,he⟩:∃s,s < l.length/\(t=s * 2∨t=s * 2+1):=⟨t / 2,by omega,by omega⟩
  obtain⟨h0,h1⟩:=flat2_at l s hsl
  have hg:(flatK prV 2 l.toArray).toList[t]?=some ((flatK prV 2 l.toArray)[t]!):=by
   rw [Array.getElem?_toList,getElem!_pos _ t (by rw [hs];exact ht)]
   exact Array.getElem?_eq_getElem (by rw [hs];exact ht)
  rw [hg,get_flatK prV 2 l.toArray t (by simpa using ht)]
  have hd:∀j,j=t / 2->l.toArray[j]! =l[t / 2]'(by omega):=fun j hj=>by subst hj;rw [getElem!_pos _ _ (by simp;omega)];simp
  rw [hd _ rfl]
  rcases he with rfl|rfl
  ·have e1:s * 2 / 2=s:=by omega
   have e2:s * 2 % 2=0:=by omega
   simp only [e1,e2]
   rw [h0];rfl
  ·have e1:(s * 2+1) / 2=s:=by omega
   have e2:(s * 2+1) % 2=1:=by omega
   simp only [e1,e2]
   rw [h1];rfl
 ·rw [List.getElem?_eq_none (by rw [Array.length_toList,hs];omega),List.getElem?_eq_none (by rw [flat2_len];omega)]
theorem heap_put {w:World} {g n:Nat} {os:Array Obj} {cur:Array Value} {e:TypeId} {fr:Nat×Nat} (F:Array Value)(hb:w.heap[g]?=some (.cells cur e fr)):
 (grow (putRow id (Sort.ahead w n) g 0 F) os).heap[g]?=some (.cells (putCells id 0 F cur) e fr):=by
 have hg:g < w.heap.size:=(Array.getElem?_eq_some_iff.1 hb).1
 rw [heap_grow_old _ _ (by simpa using hg)]
 simp [putRow,mapBlock,Sort.ahead,Array.getElem?_modify,hb,onCells]
theorem grownBy_put {w:World} {g n:Nat} {os:Array Obj} (F:Array Value):w.grownBy (grow (putRow id (Sort.ahead w n) g 0 F) os) (some g):=by
 refine⟨rfl,rfl,rfl,by simp,fun k hk hne=>?_⟩
 rw [heap_grow_old _ _ (by simpa using hk)]
 have:g≠k:=fun e=>hne (by rw [e])
 simp [putRow,mapBlock,Sort.ahead,Array.getElem?_modify,this]
theorem take_put (cur F:Array Value)(h:F.size<=cur.size):(putCells id 0 F cur).toList.take F.size=F.toList:=by
 apply List.ext_getElem?
 intro j
 by_cases hj:j < F.size
 ·rw [List.getElem?_take_of_lt hj,Array.getElem?_toList]
  simp [putCells,hj,show j < cur.size by omega]
 ·rw [List.getElem?_take_eq_none (by omega),List.getElem?_eq_none (by simp;omega)]
theorem holds_pr {w:World} {g c:Nat} {cur:Array Value} {l:List Pr} (hb:w.heap[g]?=some (.cells cur 60 (0,0)))(ht:cur.toList.take (l.length * 2)=l.flatMap prV):HoldsK prV 2 w g 0 l.toArray:=by
 intro j hj
 have hj':j < l.length * 2:=by simpa using hj
 refine⟨?_,by simp [World.frozen?,hb]⟩
 have h1:(cur.toList.take (l.length * 2))[j]?=(l.flatMap prV)[j]?:=by rw [ht]
 rw [List.getElem?_take_of_lt hj',<-flat_flatK,Array.getElem?_toList,Array.getElem?_toList]at h1
 simp only [World.cell?,hb,Nat.zero_add,id]
 rw [getElem!_pos _ j hj]
 rw [h1]
 exact Array.getElem?_eq_getElem hj
theorem agg60 (w:World):(isAgg 60).run Tryz.prog w=.ok true w:=Tryz.isAgg60 w
theorem size60 (w:World):(Go.sizeOf 60).run Tryz.prog w=.ok 2 w:=Tryz.sizeOf60 w
def SrtP (B:Nat) (out:List Pr) (A:Option Addr) (c:Nat) (w:World):Ending->World->Prop:=fun e w'=>e=.returned (.slice A out.length c)/\w.grownBy w' (Value.slice A out.length c).ownBlock/\∃l:List Pr,l.Perm out/\l.Pairwise leP/\w'.ownsRow B 60 2 (.slice A out.length c) out.length (l.flatMap prV)
theorem sorted64 (out:List Pr)(A:Option Addr)(c:Nat)(B:Nat)(w:World)(hr:w.ownsRow B 60 2 (.slice A out.length c) out.length (out.flatMap prV))(hl:out.length<=1000):
 Calls Tryz.prog 64 #[.slice A out.length c] w (SrtP B out A c w):=by
 have eg:∀args w,(callFunc 71 args).run Tryz.prog w=.ok (.enter 71 args) w:=enters_of Tryz.func71 (by kernel_rfl) rfl
 have HR:=zh hr
 rcases hr.2 with ⟨hv,h0⟩|⟨g,cap,cur,hv,h3,h4,h5,h6,h7,h8⟩
 ·obtain⟨rfl,_,rfl⟩:A=none/\out.length=0/\c=0:=by simpa using hv
  obtain rfl:out=[]:=List.eq_nil_of_length_eq_zero h0
  have hcon:=AnyF.slices_SortFunc_none {sortPr with} none 0 (.func (.func 71) #[] #[]) w
  change Calls Tryz.prog 70 _ _ _ at hcon
  clear hr hv h0
  go_enter Tryz.func64,Tryz.ntmps64
  go_wp2_with (go_at_call 70;refine hcon.mono ?_;rintro e w' ⟨rfl,hw⟩;rw [hw];clear hw)
  go_ret
  exact⟨rfl,World.grownBy.refl _ _,[],List.Perm.refl _,List.Pairwise.nil,HR.out⟩
 ·obtain⟨rfl,rfl⟩:A=some ⟨g,0,none⟩/\c=cap:=by simpa using hv
  have hH:=holds_pr (c:=c) h4 h8
  have hg:g < w.heap.size:=(Array.getElem?_eq_some_iff.1 h4).1
  have hcon:=AnyQ.slices_SortFunc sortPr 2 agg60 size60 prV (fun _=>rfl) (fun x v hv=>by simp [prV]at hv;rcases hv with rfl|rfl <;> rfl) cfP swoP 71 #[] g 0 c out.toArray w eg (cmpP g 0 out.toArray.size w) hH hg (by simp;omega)
  change Calls Tryz.prog 70 _ _ _ at hcon
  rw [List.size_toArray]at hcon
  have HC:=zh hcon
  have H4:=zh h4
  have HQ:=zh (And.intro h3 (And.intro h5 (And.intro h6 h7)))
  clear hr hv h3 h4 h5 h6 h7 h8 hH hcon
  go_enter Tryz.func64,Tryz.ntmps64
  go_wp2_with (go_at_call 70;refine HC.out.mono ?_;rintro e w' ⟨rfl,d',n,os,hp,hs,hw⟩;have HP:=zh hp;have HS:=zh hs;have HW:=zh hw;clear hp hs hw)
  go_ret
  obtain⟨hp1,_,hp2⟩:=HP.out
  have hsz:d'.size=out.length:=by rw [hp1];simp
  have hpe:d'.toList.Perm out:=by
   have e1:d'.extract 0 out.length=d':=by rw [<-hsz];simp
   have e2:out.toArray.extract 0 out.length=out.toArray:=by simp
   rw [e1,e2]at hp2
   simpa using hp2
  have hfl:d'.toList.length=out.length:=hpe.length_eq
  refine⟨rfl,?_,d'.toList,hpe,?_,?_⟩
  ·rw [HW.out]
   exact grownBy_put _
  ·rw [List.pairwise_iff_getElem]
   intro i j hi hj hij
   have h9:=HS.out i j (Nat.zero_le _) hij (by rw [<-hfl];exact hj)
   rw [lt_cfP]at h9
   have e1:d'[i]! =d'.toList[i]:=by rw [getElem!_pos _ i (by simpa using hi)];simp
   have e2:d'[j]! =d'.toList[j]:=by rw [getElem!_pos _ j (by simpa using hj)];simp
   rw [e1,e2]at h9
   exact of_decide_eq_false h9
  ·rw [HW.out]
   obtain⟨h3,h5,h6,h7⟩:=HQ.out
   have hF:(flatK prV 2 d').toList=d'.toList.flatMap prV:=by
    have:=flat_flatK d'.toList
    simpa using this
   have hFs:(flatK prV 2 d').size=out.length * 2:=by simp [hsz]
   refine⟨by rw [flat2_len,hfl],.inr ⟨g,c,_,rfl,h3,heap_put _ H4.out,h5,h6,by simp [putCells,h7],?_⟩⟩
   rw [<-hFs,<-hF]
   exact take_put _ _ (by rw [hFs,h7];exact Nat.mul_le_mul_right 2 h5)
end Go.Proofs.YtdenjanihikolaaGreatDoor
