/- FnCut's walk. -/
import Derived.Test.YtdenjanihikolaaGreatDoorRqA0
import Derived.Test.YtdenjanihikolaaGreatDoorRqA1
import Derived.Test.YtdenjanihikolaaGreatDoorRqWrd
import Derived.Test.YtdenjanihikolaaGreatDoorRqFit
import Derived.Test.YtdenjanihikolaaGreatDoorRqPpc
import Derived.Test.YtdenjanihikolaaGreatDoorRqTdc
import Derived.Test.YtdenjanihikolaaGreatDoorRqTa
import Derived.Test.YtdenjanihikolaaGreatDoorRqBdd
import Derived.Test.YtdenjanihikolaaGreatDoorRqDcj
import Derived.Test.YtdenjanihikolaaGreatDoorRqBdh
import Derived.Test.YtdenjanihikolaaGreatDoorRqEncc
namespace Go.Proofs.YtdenjanihikolaaGreatDoor
set_option linter.unusedVariables false
set_option linter.unusedSimpArgs false
set_option maxRecDepth 100000
set_option maxHeartbeats 4000000
open Go.RowKit
theorem msg10 (a b:ByteArray)(kd n mm:Int)(A5 A6 A7 A9 A10 A8 A11 A12:Option Addr)(n5 n6 n7 n9 n10 c5 c6 c7 c9 c10 c8 c11 c12:Nat)(vls:List (Bool×List Int))(ps:List (ByteArray×ByteArray))(fs:List Sf)(w:World)
 (h8:RdM 2 isVal w (.slice A8 vls.length c8) vls) (h11:RdM 2 isPr w (.slice A11 ps.length c11) ps) (h12:RdM 7 isSf w (.slice A12 fs.length c12) fs) (hl8:vls.length<=2147483647) (hl11:ps.length<=2147483647) (hl12:fs.length<=2147483647) (P:Ending->World->Prop)
 (hP:∀w' B7 d7 B10 d10 B11 d11,Ext w w'->RdM 2 isVal w' (.slice B7 vls.length d7) vls->RdM 2 isPr w' (.slice B10 ps.length d10) ps->RdM 7 isSf w' (.slice B11 fs.length d11) fs->P (.returned (.agg #[.int .i64 kd,.string a,.string b,.int .u32 n,.slice A5 n5 c5,.slice A6 n6 c6,.slice A7 n7 c7,.slice B7 vls.length d7,.slice A9 n9 c9,.slice A10 n10 c10,.slice B10 ps.length d10,.slice B11 fs.length d11])) w'):
 Calls Tryz.prog 10 #[.agg #[.int .i64 kd,.string a,.string b,.int .u32 n,.int .u32 mm,.slice A5 n5 c5,.slice A6 n6 c6,.slice A7 n7 c7,.slice A8 vls.length c8,.slice A9 n9 c9,.slice A10 n10 c10,.slice A11 ps.length c11,.slice A12 fs.length c12]] w P:=by
 have H8:=zh h8
 have H11:=zh h11
 have H12:=zh h12
 have HPP:=zh hP
 clear h8 h11 h12 hP
 obtain⟨W1,hW1⟩:∃W1,W1=(((w.alloc (.cells #[.int .i64 kd,.string a,.string b,.int .u32 n,.int .u32 mm,.slice A5 n5 c5,.slice A6 n6 c6,.slice A7 n7 c7,.slice A8 vls.length c8,.slice A9 n9 c9,.slice A10 n10 c10,.slice A11 ps.length c11,.slice A12 fs.length c12] 31)).alloc (.cells #[.int .i64 0,.string ⟨#[]⟩,.string ⟨#[]⟩,.int .u32 0,.slice none 0 0,.slice none 0 0,.slice none 0 0,.slice none 0 0,.slice none 0 0,.slice none 0 0,.slice none 0 0,.slice none 0 0] 37)).alloc (.cells #[.int .i64 kd,.string a,.string b,.int .u32 n,.slice A5 n5 c5,.slice A6 n6 c6,.slice A7 n7 c7,.slice none 0 0,.slice A9 n9 c9,.slice A10 n10 c10,.slice none 0 0,.slice none 0 0] 37)):=⟨_,rfl⟩
 have EXT1:Hid (Ext w W1):=zh (by rw [hW1];exact((ext_alloc w _).alloc _).alloc _)
 have SZ1:Hid (w.heap.size+3<=W1.heap.size):=zh (by rw [hW1];simp)
 have BX1:Hid (W1.heap[w.heap.size]?=some (.cells #[.int .i64 kd,.string a,.string b,.int .u32 n,.int .u32 mm,.slice A5 n5 c5,.slice A6 n6 c6,.slice A7 n7 c7,.slice A8 vls.length c8,.slice A9 n9 c9,.slice A10 n10 c10,.slice A11 ps.length c11,.slice A12 fs.length c12] 31 (0,0))):=zh (by
  rw [hW1]
  have e1:=(((ext_alloc (w.alloc (.cells #[.int .i64 kd,.string a,.string b,.int .u32 n,.int .u32 mm,.slice A5 n5 c5,.slice A6 n6 c6,.slice A7 n7 c7,.slice A8 vls.length c8,.slice A9 n9 c9,.slice A10 n10 c10,.slice A11 ps.length c11,.slice A12 fs.length c12] 31)) (.cells #[.int .i64 0,.string ⟨#[]⟩,.string ⟨#[]⟩,.int .u32 0,.slice none 0 0,.slice none 0 0,.slice none 0 0,.slice none 0 0,.slice none 0 0,.slice none 0 0,.slice none 0 0,.slice none 0 0] 37)).alloc (.cells #[.int .i64 kd,.string a,.string b,.int .u32 n,.slice A5 n5 c5,.slice A6 n6 c6,.slice A7 n7 c7,.slice none 0 0,.slice A9 n9 c9,.slice A10 n10 c10,.slice none 0 0,.slice none 0 0] 37))).block w.heap.size (by simp)
  rw [e1];exact heap_alloc_new _ _)
 have BZ1:Hid (W1.heap[w.heap.size+1]?=some (.cells #[.int .i64 0,.string ⟨#[]⟩,.string ⟨#[]⟩,.int .u32 0,.slice none 0 0,.slice none 0 0,.slice none 0 0,.slice none 0 0,.slice none 0 0,.slice none 0 0,.slice none 0 0,.slice none 0 0] 37 (0,0))):=zh (by
  rw [hW1]
  have e1:=(ext_alloc ((w.alloc (.cells #[.int .i64 kd,.string a,.string b,.int .u32 n,.int .u32 mm,.slice A5 n5 c5,.slice A6 n6 c6,.slice A7 n7 c7,.slice A8 vls.length c8,.slice A9 n9 c9,.slice A10 n10 c10,.slice A11 ps.length c11,.slice A12 fs.length c12] 31)).alloc (.cells #[.int .i64 0,.string ⟨#[]⟩,.string ⟨#[]⟩,.int .u32 0,.slice none 0 0,.slice none 0 0,.slice none 0 0,.slice none 0 0,.slice none 0 0,.slice none 0 0,.slice none 0 0,.slice none 0 0] 37)) (.cells #[.int .i64 kd,.string a,.string b,.int .u32 n,.slice A5 n5 c5,.slice A6 n6 c6,.slice A7 n7 c7,.slice none 0 0,.slice A9 n9 c9,.slice A10 n10 c10,.slice none 0 0,.slice none 0 0] 37)).block (w.heap.size+1) (by simp)
  rw [e1]
  have:=heap_alloc_new (w.alloc (.cells #[.int .i64 kd,.string a,.string b,.int .u32 n,.int .u32 mm,.slice A5 n5 c5,.slice A6 n6 c6,.slice A7 n7 c7,.slice A8 vls.length c8,.slice A9 n9 c9,.slice A10 n10 c10,.slice A11 ps.length c11,.slice A12 fs.length c12] 31)) (.cells #[.int .i64 0,.string ⟨#[]⟩,.string ⟨#[]⟩,.int .u32 0,.slice none 0 0,.slice none 0 0,.slice none 0 0,.slice none 0 0,.slice none 0 0,.slice none 0 0,.slice none 0 0,.slice none 0 0] 37)
  simpa using this)
 have POS1:Hid (W1.heap[w.heap.size+1+1]?=some (.cells #[.int .i64 kd,.string a,.string b,.int .u32 n,.slice A5 n5 c5,.slice A6 n6 c6,.slice A7 n7 c7,.slice none 0 0,.slice A9 n9 c9,.slice A10 n10 c10,.slice none 0 0,.slice none 0 0] 37 (0,0))):=zh (by
  rw [hW1]
  have:=heap_alloc_new ((w.alloc (.cells #[.int .i64 kd,.string a,.string b,.int .u32 n,.int .u32 mm,.slice A5 n5 c5,.slice A6 n6 c6,.slice A7 n7 c7,.slice A8 vls.length c8,.slice A9 n9 c9,.slice A10 n10 c10,.slice A11 ps.length c11,.slice A12 fs.length c12] 31)).alloc (.cells #[.int .i64 0,.string ⟨#[]⟩,.string ⟨#[]⟩,.int .u32 0,.slice none 0 0,.slice none 0 0,.slice none 0 0,.slice none 0 0,.slice none 0 0,.slice none 0 0,.slice none 0 0,.slice none 0 0] 37)) (.cells #[.int .i64 kd,.string a,.string b,.int .u32 n,.slice A5 n5 c5,.slice A6 n6 c6,.slice A7 n7 c7,.slice none 0 0,.slice A9 n9 c9,.slice A10 n10 c10,.slice none 0 0,.slice none 0 0] 37)
  simpa using this)
 go_enter Tryz.func10,Tryz.ntmps10
 go_wp2
 rw [<-hW1]
 clear hW1
 go_loopw [32] (fun i wr=>∃k:Nat,k<=vls.length/\i=.int .i64 k/\∃v xs,Hid (Slot 59 2 W1 wr (w.heap.size+1+1) (fun v=> #[.int .i64 kd,.string a,.string b,.int .u32 n,.slice A5 n5 c5,.slice A6 n6 c6,.slice A7 n7 c7,v,.slice A9 n9 c9,.slice A10 n10 c10,.slice none 0 0,.slice none 0 0]) v k xs/\Rws 2 (isVal w) (vls.take k) xs)) (fun i _=>vls.length - (intOf i).toNat)
 case atStart=>exact⟨0,Nat.zero_le _,rfl,.slice none 0 0,[],zh ⟨Slot.start (fun v=> #[.int .i64 kd,.string a,.string b,.int .u32 n,.slice A5 n5 c5,.slice A6 n6 c6,.slice A7 n7 c7,v,.slice A9 n9 c9,.slice A10 n10 c10,.slice none 0 0,.slice none 0 0]) POS1.out,by simpa using Rws.nil 2 (isVal w)⟩⟩
 case round=>
  obtain⟨k,hk1,rfl,v,xs,HS⟩:=hrel
  by_cases hlt:k < vls.length
  ·obtain⟨b1,o1,f,rfl,hcell,hv⟩:=H8.out.at_ hlt
   have HEW:=zh (HS.out.1.below EXT1.out (by omega))
   obtain⟨⟨x1,x2⟩,hx⟩:∃x,x=vls[k]:=⟨_,rfl⟩
   rw [<-hx]at hv
   have hf0:f 0=.bool x1:=hv.1
   obtain⟨Ax,cx,hf1,hrd⟩:∃A c,f 1=.slice A x2.length c/\RdB w (.slice A x2.length c) x2:=hv.2
   have hd0:=HEW.out.cell (hcell 0 (by omega))
   rw [hf0,Nat.add_zero]at hd0
   have hd1:=HEW.out.cell (hcell 1 (by omega))
   rw [hf1]at hd1
   have HX:=zh hx
   have HD:=zh hrd
   clear hx hrd hf0 hf1 hcell hv
   have hpb:=HS.out.1.cell (.cells #[.bool x1,.slice Ax x2.length cx] 58) 7 v rfl
   have HO:=zh (HS.out.1.ext (ext_alloc _ (.cells #[.bool x1,.slice Ax x2.length cx] 58)))
   have HR:=zh HS.out.2
   obtain⟨Av,cv,rfl⟩:=own_slice HS.out.1.own
   clear HS
   go_wp2_with (at_builtin;refine ap_built rfl (.tmp 37) (.tmp 43) 33 59 2 32 _ _ _ rfl Tryz.underlying33 info59 rfl (by decide) (by simp) rfl HO.out.open rfl rfl (List.all_eq_true.1 rfl) (by omega) (by decide) ?_;intro v2 w2 hn;have hc1:=zc (HO.out.in_ hn) 7 (.slice Av k cv) rfl;have hf1:=free_slot (HO.out.in_ hn) 7;obtain⟨A2,c2,hv2⟩:=own_slice hn.own;subst hv2;have HN:=zh hn;clear hn)
   go_roundw
   case rel=>
    refine⟨k+1,by omega,by go_num,.slice A2 (k+1) c2,_,zh ⟨HO.out.shut HN.out rfl,?_⟩⟩
    rw [List.take_succ_eq_append_getElem hlt,<-HX.out]
    exact Rws.snoc (f:=fun k=>if k=0 then .bool x1 else .slice Ax x2.length cx) HR.out rfl (by intro j hj;rcases j with _|_|j <;> first|rfl|omega) ⟨rfl,Ax,cx,rfl,HD.out⟩
   case measure=>simp only [intOf];omega
  ·obtain rfl:k=vls.length:=by omega
   obtain⟨W2,hW2⟩:∃x:World,x=wr:=⟨_,rfl⟩
   subst hW2
   obtain⟨B7,d7,rfl⟩:=own_slice HS.out.1.own
   have HS7:=HS
   have SZ2:Hid (w.heap.size+3<=W2.heap.size):=zh (Nat.le_trans SZ1.out HS.out.1.le)
   have EXT2:=zh (HS.out.1.below EXT1.out (by omega))
   have POS2:=zh HS.out.1.blk
   have BX2:=zh ((HS.out.1.old (k:=w.heap.size) (by have:=SZ1.out;omega) (by omega)).trans BX1.out)
   have BZ2:=zh ((HS.out.1.old (k:=w.heap.size+1) (by have:=SZ1.out;omega) (by omega)).trans BZ1.out)
   clear HS
   have hb11:W2.cell? ⟨w.heap.size,11,none⟩=some (.slice A11 ps.length c11):=(cell_of_row _ _ _ _ _ _ BX2.out).trans rfl
   go_wp2
   go_loopw [50] (fun i wr=>∃k:Nat,k<=ps.length/\i=.int .i64 k/\∃v xs,Hid (Slot 48 2 W2 wr (w.heap.size+1+1) (fun v=> #[.int .i64 kd,.string a,.string b,.int .u32 n,.slice A5 n5 c5,.slice A6 n6 c6,.slice A7 n7 c7,.slice B7 vls.length d7,.slice A9 n9 c9,.slice A10 n10 c10,v,.slice none 0 0]) v k xs/\Rws 2 (isPr w) (ps.take k) xs)) (fun i _=>ps.length - (intOf i).toNat)
   case atStart=>exact⟨0,Nat.zero_le _,rfl,.slice none 0 0,[],zh ⟨Slot.start (fun v=> #[.int .i64 kd,.string a,.string b,.int .u32 n,.slice A5 n5 c5,.slice A6 n6 c6,.slice A7 n7 c7,.slice B7 vls.length d7,.slice A9 n9 c9,.slice A10 n10 c10,v,.slice none 0 0]) POS2.out,by simpa using Rws.nil 2 (isPr w)⟩⟩
   case round=>
    obtain⟨k,hk1,rfl,v,xs,HS⟩:=hrel
    by_cases hlt:k < ps.length
    ·obtain⟨b1,o1,f,rfl,hcell,hv⟩:=H11.out.at_ hlt
     have HEW:=zh (HS.out.1.below EXT2.out (by omega))
     obtain⟨⟨x1,x2⟩,hx⟩:∃x,x=ps[k]:=⟨_,rfl⟩
     rw [<-hx]at hv
     have hf0:f 0=.string x1:=hv.1
     have hf1:f 1=.string x2:=hv.2
     have hd0:=HEW.out.cell (hcell 0 (by omega))
     rw [hf0,Nat.add_zero]at hd0
     have hd1:=HEW.out.cell (hcell 1 (by omega))
     rw [hf1]at hd1
     have HX:=zh hx
     clear hx hf0 hf1 hcell hv
     have hpb:=HS.out.1.cell (.cells #[.string x1,.string x2] 60) 10 v rfl
     have HO:=zh (HS.out.1.ext (ext_alloc _ (.cells #[.string x1,.string x2] 60)))
     have HR:=zh HS.out.2
     obtain⟨Av,cv,rfl⟩:=own_slice HS.out.1.own
     clear HS
     go_wp2_with (at_builtin;refine ap_built rfl (.tmp 55) (.tmp 61) 34 48 2 32 _ _ _ rfl Tryz.underlying34 info48 rfl (by decide) (by simp) rfl HO.out.open rfl rfl (List.all_eq_true.1 rfl) (by omega) (by decide) ?_;intro v2 w2 hn;have hc1:=zc (HO.out.in_ hn) 10 (.slice Av k cv) rfl;have hf1:=free_slot (HO.out.in_ hn) 10;obtain⟨A2,c2,hv2⟩:=own_slice hn.own;subst hv2;have HN:=zh hn;clear hn)
     go_roundw
     case rel=>
      refine⟨k+1,by omega,by go_num,.slice A2 (k+1) c2,_,zh ⟨HO.out.shut HN.out rfl,?_⟩⟩
      rw [List.take_succ_eq_append_getElem hlt,<-HX.out]
      exact Rws.snoc (f:=fun k=>if k=0 then .string x1 else .string x2) HR.out rfl (by intro j hj;rcases j with _|_|j <;> first|rfl|omega) ⟨rfl,rfl⟩
     case measure=>simp only [intOf];omega
    ·obtain rfl:k=ps.length:=by omega
     obtain⟨W3,hW3⟩:∃x:World,x=wr:=⟨_,rfl⟩
     subst hW3
     obtain⟨B10,d10,rfl⟩:=own_slice HS.out.1.own
     have HS10:=HS
     have SZ3:Hid (w.heap.size+3<=W3.heap.size):=zh (Nat.le_trans SZ2.out HS.out.1.le)
     have EXT3:=zh (HS.out.1.below EXT2.out (by omega))
     have POS3:=zh HS.out.1.blk
     have BX3:=zh ((HS.out.1.old (k:=w.heap.size) (by have:=SZ2.out;omega) (by omega)).trans BX2.out)
     have BZ3:=zh ((HS.out.1.old (k:=w.heap.size+1) (by have:=SZ2.out;omega) (by omega)).trans BZ2.out)
     clear HS
     have hb12:W3.cell? ⟨w.heap.size,12,none⟩=some (.slice A12 fs.length c12):=(cell_of_row _ _ _ _ _ _ BX3.out).trans rfl
     go_wp2
     go_loopw [68] (fun i wr=>∃k:Nat,k<=fs.length/\i=.int .i64 k/\∃v xs,Hid (Slot 63 7 W3 wr (w.heap.size+1+1) (fun v=> #[.int .i64 kd,.string a,.string b,.int .u32 n,.slice A5 n5 c5,.slice A6 n6 c6,.slice A7 n7 c7,.slice B7 vls.length d7,.slice A9 n9 c9,.slice A10 n10 c10,.slice B10 ps.length d10,v]) v k xs/\Rws 7 (isSf w) (fs.take k) xs)) (fun i _=>fs.length - (intOf i).toNat)
     case atStart=>exact⟨0,Nat.zero_le _,rfl,.slice none 0 0,[],zh ⟨Slot.start (fun v=> #[.int .i64 kd,.string a,.string b,.int .u32 n,.slice A5 n5 c5,.slice A6 n6 c6,.slice A7 n7 c7,.slice B7 vls.length d7,.slice A9 n9 c9,.slice A10 n10 c10,.slice B10 ps.length d10,v]) POS3.out,by simpa using Rws.nil 7 (isSf w)⟩⟩
     case round=>
      obtain⟨k,hk1,rfl,v,xs,HS⟩:=hrel
      by_cases hlt:k < fs.length
      ·obtain⟨b1,o1,f,rfl,hcell,hv⟩:=H12.out.at_ hlt
       have HEW:=zh (HS.out.1.below EXT3.out (by omega))
       obtain⟨x,hx⟩:∃x,x=fs[k]:=⟨_,rfl⟩
       rw [<-hx]at hv
       obtain⟨hf0,hf1,hf2,hf3,hf4,hf5,hf6⟩:=hv
       have hd0:=HEW.out.cell (hcell 0 (by omega))
       rw [hf0,Nat.add_zero]at hd0
       have hd1:=HEW.out.cell (hcell 1 (by omega))
       rw [hf1]at hd1
       have hd2:=HEW.out.cell (hcell 2 (by omega))
       rw [hf2]at hd2
       have hd3:=HEW.out.cell (hcell 3 (by omega))
       rw [hf3]at hd3
       have hd4:=HEW.out.cell (hcell 4 (by omega))
       rw [hf4]at hd4
       have hd5:=HEW.out.cell (hcell 5 (by omega))
       rw [hf5]at hd5
       have hd6:=HEW.out.cell (hcell 6 (by omega))
       rw [hf6]at hd6
       have HX:=zh hx
       clear hx hf0 hf1 hf2 hf3 hf4 hf5 hf6 hcell
       have hpb:=HS.out.1.cell (.cells #[.string x.name,.int .u32 x.tab,.int .i64 x.col,.int .u32 x.typ,.int .i64 x.siz,.int .i64 x.mdf,.int .i64 x.fmt] 62) 11 v rfl
       have HO:=zh (HS.out.1.ext (ext_alloc _ (.cells #[.string x.name,.int .u32 x.tab,.int .i64 x.col,.int .u32 x.typ,.int .i64 x.siz,.int .i64 x.mdf,.int .i64 x.fmt] 62)))
       have HR:=zh HS.out.2
       obtain⟨Av,cv,rfl⟩:=own_slice HS.out.1.own
       clear HS
       go_wp2_with (at_builtin;refine ap_built rfl (.tmp 73) (.tmp 89) 35 63 7 64 _ _ _ rfl Tryz.underlying35 info63 rfl (by decide) (by simp) rfl HO.out.open rfl rfl (List.all_eq_true.1 rfl) (by omega) (by decide) ?_;intro v2 w2 hn;have hc1:=zc (HO.out.in_ hn) 11 (.slice Av k cv) rfl;have hf1:=free_slot (HO.out.in_ hn) 11;obtain⟨A2,c2,hv2⟩:=own_slice hn.own;subst hv2;have HN:=zh hn;clear hn)
       go_roundw
       case rel=>
        refine⟨k+1,by omega,by go_num,.slice A2 (k+1) c2,_,zh ⟨HO.out.shut HN.out rfl,?_⟩⟩
        rw [List.take_succ_eq_append_getElem hlt,<-HX.out]
        exact Rws.snoc (f:=fun k=>match k with|0=> .string x.name|1=> .int .u32 x.tab|2=> .int .i64 x.col|3=> .int .u32 x.typ|4=> .int .i64 x.siz|5=> .int .i64 x.mdf|_=> .int .i64 x.fmt) HR.out rfl (by intro j hj;rcases j with _|_|_|_|_|_|_|j <;> first|rfl|omega) ⟨rfl,rfl,rfl,rfl,rfl,rfl,rfl⟩
       case measure=>simp only [intOf];omega
      ·obtain rfl:k=fs.length:=by omega
       obtain⟨W4,hW4⟩:∃x:World,x=wr:=⟨_,rfl⟩
       subst hW4
       obtain⟨B11,d11,rfl⟩:=own_slice HS.out.1.own
       have HS11:=HS
       have SZ4:Hid (w.heap.size+3<=W4.heap.size):=zh (Nat.le_trans SZ3.out HS.out.1.le)
       have EXT4:=zh (HS.out.1.below EXT3.out (by omega))
       have POS4:=zh HS.out.1.blk
       have BX4:=zh ((HS.out.1.old (k:=w.heap.size) (by have:=SZ3.out;omega) (by omega)).trans BX3.out)
       have BZ4:=zh ((HS.out.1.old (k:=w.heap.size+1) (by have:=SZ3.out;omega) (by omega)).trans BZ3.out)
       clear HS
       have ht0:W4.cell? ⟨w.heap.size+1+1,0,none⟩=some (.int .i64 kd):=(cell_of_row _ _ _ _ _ _ POS4.out).trans rfl
       have ht1:W4.cell? ⟨w.heap.size+1+1,1,none⟩=some (.string a):=(cell_of_row _ _ _ _ _ _ POS4.out).trans rfl
       have ht2:W4.cell? ⟨w.heap.size+1+1,2,none⟩=some (.string b):=(cell_of_row _ _ _ _ _ _ POS4.out).trans rfl
       have ht3:W4.cell? ⟨w.heap.size+1+1,3,none⟩=some (.int .u32 n):=(cell_of_row _ _ _ _ _ _ POS4.out).trans rfl
       have ht4:W4.cell? ⟨w.heap.size+1+1,4,none⟩=some (.slice A5 n5 c5):=(cell_of_row _ _ _ _ _ _ POS4.out).trans rfl
       have ht5:W4.cell? ⟨w.heap.size+1+1,5,none⟩=some (.slice A6 n6 c6):=(cell_of_row _ _ _ _ _ _ POS4.out).trans rfl
       have ht6:W4.cell? ⟨w.heap.size+1+1,6,none⟩=some (.slice A7 n7 c7):=(cell_of_row _ _ _ _ _ _ POS4.out).trans rfl
       have ht7:W4.cell? ⟨w.heap.size+1+1,7,none⟩=some (.slice B7 vls.length d7):=(cell_of_row _ _ _ _ _ _ POS4.out).trans rfl
       have ht8:W4.cell? ⟨w.heap.size+1+1,8,none⟩=some (.slice A9 n9 c9):=(cell_of_row _ _ _ _ _ _ POS4.out).trans rfl
       have ht9:W4.cell? ⟨w.heap.size+1+1,9,none⟩=some (.slice A10 n10 c10):=(cell_of_row _ _ _ _ _ _ POS4.out).trans rfl
       have ht10:W4.cell? ⟨w.heap.size+1+1,10,none⟩=some (.slice B10 ps.length d10):=(cell_of_row _ _ _ _ _ _ POS4.out).trans rfl
       have ht11:W4.cell? ⟨w.heap.size+1+1,11,none⟩=some (.slice B11 fs.length d11):=(cell_of_row _ _ _ _ _ _ POS4.out).trans rfl
       have hz0:W4.cell? ⟨w.heap.size+1,0,none⟩=some (.int .i64 0):=(cell_of_row _ _ _ _ _ _ BZ4.out).trans rfl
       have hz1:W4.cell? ⟨w.heap.size+1,1,none⟩=some (.string ⟨#[]⟩):=(cell_of_row _ _ _ _ _ _ BZ4.out).trans rfl
       have hz2:W4.cell? ⟨w.heap.size+1,2,none⟩=some (.string ⟨#[]⟩):=(cell_of_row _ _ _ _ _ _ BZ4.out).trans rfl
       have hz3:W4.cell? ⟨w.heap.size+1,3,none⟩=some (.int .u32 0):=(cell_of_row _ _ _ _ _ _ BZ4.out).trans rfl
       have hz4:W4.cell? ⟨w.heap.size+1,4,none⟩=some (.slice none 0 0):=(cell_of_row _ _ _ _ _ _ BZ4.out).trans rfl
       have hz5:W4.cell? ⟨w.heap.size+1,5,none⟩=some (.slice none 0 0):=(cell_of_row _ _ _ _ _ _ BZ4.out).trans rfl
       have hz6:W4.cell? ⟨w.heap.size+1,6,none⟩=some (.slice none 0 0):=(cell_of_row _ _ _ _ _ _ BZ4.out).trans rfl
       have hz7:W4.cell? ⟨w.heap.size+1,7,none⟩=some (.slice none 0 0):=(cell_of_row _ _ _ _ _ _ BZ4.out).trans rfl
       have hz8:W4.cell? ⟨w.heap.size+1,8,none⟩=some (.slice none 0 0):=(cell_of_row _ _ _ _ _ _ BZ4.out).trans rfl
       have hz9:W4.cell? ⟨w.heap.size+1,9,none⟩=some (.slice none 0 0):=(cell_of_row _ _ _ _ _ _ BZ4.out).trans rfl
       have hz10:W4.cell? ⟨w.heap.size+1,10,none⟩=some (.slice none 0 0):=(cell_of_row _ _ _ _ _ _ BZ4.out).trans rfl
       have hz11:W4.cell? ⟨w.heap.size+1,11,none⟩=some (.slice none 0 0):=(cell_of_row _ _ _ _ _ _ BZ4.out).trans rfl
       have hy0:W4.frozen? ⟨w.heap.size+1,0,none⟩=false:=free_slot BZ4.out 0
       have hy1:W4.frozen? ⟨w.heap.size+1,1,none⟩=false:=free_slot BZ4.out 1
       have hy2:W4.frozen? ⟨w.heap.size+1,2,none⟩=false:=free_slot BZ4.out 2
       have hy3:W4.frozen? ⟨w.heap.size+1,3,none⟩=false:=free_slot BZ4.out 3
       have hy4:W4.frozen? ⟨w.heap.size+1,4,none⟩=false:=free_slot BZ4.out 4
       have hy5:W4.frozen? ⟨w.heap.size+1,5,none⟩=false:=free_slot BZ4.out 5
       have hy6:W4.frozen? ⟨w.heap.size+1,6,none⟩=false:=free_slot BZ4.out 6
       have hy7:W4.frozen? ⟨w.heap.size+1,7,none⟩=false:=free_slot BZ4.out 7
       have hy8:W4.frozen? ⟨w.heap.size+1,8,none⟩=false:=free_slot BZ4.out 8
       have hy9:W4.frozen? ⟨w.heap.size+1,9,none⟩=false:=free_slot BZ4.out 9
       have hy10:W4.frozen? ⟨w.heap.size+1,10,none⟩=false:=free_slot BZ4.out 10
       have hy11:W4.frozen? ⟨w.heap.size+1,11,none⟩=false:=free_slot BZ4.out 11
       go_wp2
       have hSA:=(((((((((((((Same.refl (w.heap.size+1) W4).set 0 (.int .i64 kd)).set 1 (.string a)).set 2 (.string b)).set 3 (.int .u32 n)).set 4 (.slice A5 n5 c5)).set 5 (.slice A6 n6 c6)).set 6 (.slice A7 n7 c7)).set 7 (.slice B7 vls.length d7)).set 8 (.slice A9 n9 c9)).set 9 (.slice A10 n10 c10)).set 10 (.slice B10 ps.length d10)).set 11 (.slice B11 fs.length d11))
       have hblk:=(slot_setCell (j:=11) (u:=.slice B11 fs.length d11) (slot_setCell (j:=10) (u:=.slice B10 ps.length d10) (slot_setCell (j:=9) (u:=.slice A10 n10 c10) (slot_setCell (j:=8) (u:=.slice A9 n9 c9) (slot_setCell (j:=7) (u:=.slice B7 vls.length d7) (slot_setCell (j:=6) (u:=.slice A7 n7 c7) (slot_setCell (j:=5) (u:=.slice A6 n6 c6) (slot_setCell (j:=4) (u:=.slice A5 n5 c5) (slot_setCell (j:=3) (u:=.int .u32 n) (slot_setCell (j:=2) (u:=.string b) (slot_setCell (j:=1) (u:=.string a) (slot_setCell (j:=0) (u:=.int .i64 kd) BZ4.out))))))))))))
       obtain⟨W5,hW5⟩:∃W5,W5=((((((((((((W4.setCell ⟨w.heap.size+1,0,none⟩ (.int .i64 kd)).setCell ⟨w.heap.size+1,1,none⟩ (.string a)).setCell ⟨w.heap.size+1,2,none⟩ (.string b)).setCell ⟨w.heap.size+1,3,none⟩ (.int .u32 n)).setCell ⟨w.heap.size+1,4,none⟩ (.slice A5 n5 c5)).setCell ⟨w.heap.size+1,5,none⟩ (.slice A6 n6 c6)).setCell ⟨w.heap.size+1,6,none⟩ (.slice A7 n7 c7)).setCell ⟨w.heap.size+1,7,none⟩ (.slice B7 vls.length d7)).setCell ⟨w.heap.size+1,8,none⟩ (.slice A9 n9 c9)).setCell ⟨w.heap.size+1,9,none⟩ (.slice A10 n10 c10)).setCell ⟨w.heap.size+1,10,none⟩ (.slice B10 ps.length d10)).setCell ⟨w.heap.size+1,11,none⟩ (.slice B11 fs.length d11)):=⟨_,rfl⟩
       rw [<-hW5]at hSA hblk⊢
       clear hW5
       rw [set12]at hblk
       have hEX:=hSA.ext EXT4.out (by omega)
       have o7a:=HS7.out.1.keep HS10.out.1
       have o7b:=own_keep o7a fun g hg=>HS11.out.1.old (o7a.lt g hg).2 (HS7.out.1.off g hg)
       have o7:=own_keep o7b fun g hg=>hSA.other g fun e=>HS7.out.1.row.off g hg ⟨by have:=SZ1.out;omega,by omega⟩
       have o10a:=HS10.out.1.keep HS11.out.1
       have o10:=own_keep o10a fun g hg=>hSA.other g fun e=>HS10.out.1.row.off g hg ⟨by have:=SZ2.out;omega,by omega⟩
       have o11:=own_keep HS11.out.1.own fun g hg=>hSA.other g fun e=>HS11.out.1.row.off g hg ⟨by have:=SZ3.out;omega,by omega⟩
       have r7:=HS7.out.2
       have r10:=HS10.out.2
       have r11:=HS11.out.2
       rw [List.take_length]at r7 r10 r11
       have f1:=HPP.out W5 B7 d7 B10 d10 B11 d11 hEX (rdm_of o7 (r7.mono (isVal.ext hEX))) (rdm_of o10 (r10.mono fun _ _ h=>h)) (rdm_of o11 (r11.mono fun _ _ h=>h))
       exact bodyPost_ret (results_cell_row rfl _ _ (w.heap.size+1) 37 #[.int .i64 kd,.string a,.string b,.int .u32 n,.slice A5 n5 c5,.slice A6 n6 c6,.slice A7 n7 c7,.slice B7 vls.length d7,.slice A9 n9 c9,.slice A10 n10 c10,.slice B10 ps.length d10,.slice B11 fs.length d11] (0,0) _ rfl hblk Tryz.underlying37 rfl size37) rfl f1
theorem fit1 (a b:ByteArray)(vk v3 v4:Value)(A5 A6 A7 A8 A9 A10 A11 A12:Option Addr)(c5 c6 c7 c8 c9 c10 c11 c12:Nat)(lf lr ty d:List Int)(vls:List (Bool×List Int))(ws:List ByteArray)(ps:List (ByteArray×ByteArray))(fs:List Sf)(w:World)
 (h8:RdM 2 isVal w (.slice A8 vls.length c8) vls) (h10:Rd1 isStr w (.slice A10 ws.length c10) ws) (h11:RdM 2 isPr w (.slice A11 ps.length c11) ps) (h12:RdM 7 isSf w (.slice A12 fs.length c12) fs):
 Calls Tryz.prog 9 #[.agg #[vk,.string a,.string b,v3,v4,.slice A5 lf.length c5,.slice A6 lr.length c6,.slice A7 ty.length c7,.slice A8 vls.length c8,.slice A9 d.length c9,.slice A10 ws.length c10,.slice A11 ps.length c11,.slice A12 fs.length c12]] w (Said w (a.size<=2147483647/\b.size<=2147483647/\lf.length<=2147483647/\lr.length<=2147483647/\ty.length<=2147483647/\d.length<=2147483647/\(vls.length<=2147483647/\∀y∈vls,y.2.length<=2147483647)/\(ws.length<=2147483647/\∀y∈ws,y.size<=2147483647)/\(ps.length<=2147483647/\∀y∈ps,y.1.size<=2147483647/\y.2.size<=2147483647)/\(fs.length<=2147483647/\∀y∈fs,y.name.size<=2147483647))):=by
 have H8:=zh (h8.ext (ext_alloc w (.cells #[vk,.string a,.string b,v3,v4,.slice A5 lf.length c5,.slice A6 lr.length c6,.slice A7 ty.length c7,.slice A8 vls.length c8,.slice A9 d.length c9,.slice A10 ws.length c10,.slice A11 ps.length c11,.slice A12 fs.length c12] 31)) (isVal.ext (ext_alloc w (.cells #[vk,.string a,.string b,v3,v4,.slice A5 lf.length c5,.slice A6 lr.length c6,.slice A7 ty.length c7,.slice A8 vls.length c8,.slice A9 d.length c9,.slice A10 ws.length c10,.slice A11 ps.length c11,.slice A12 fs.length c12] 31))))
 have H10:=zh (h10.ext (ext_alloc w (.cells #[vk,.string a,.string b,v3,v4,.slice A5 lf.length c5,.slice A6 lr.length c6,.slice A7 ty.length c7,.slice A8 vls.length c8,.slice A9 d.length c9,.slice A10 ws.length c10,.slice A11 ps.length c11,.slice A12 fs.length c12] 31)) (fun _ _ h=>h))
 have H11:=zh (h11.ext (ext_alloc w (.cells #[vk,.string a,.string b,v3,v4,.slice A5 lf.length c5,.slice A6 lr.length c6,.slice A7 ty.length c7,.slice A8 vls.length c8,.slice A9 d.length c9,.slice A10 ws.length c10,.slice A11 ps.length c11,.slice A12 fs.length c12] 31)) (fun _ _ h=>h))
 have H12:=zh (h12.ext (ext_alloc w (.cells #[vk,.string a,.string b,v3,v4,.slice A5 lf.length c5,.slice A6 lr.length c6,.slice A7 ty.length c7,.slice A8 vls.length c8,.slice A9 d.length c9,.slice A10 ws.length c10,.slice A11 ps.length c11,.slice A12 fs.length c12] 31)) (fun _ _ h=>h))
 clear h8 h10 h11 h12
 have HE:=zh (Ext.refl (w.alloc (.cells #[vk,.string a,.string b,v3,v4,.slice A5 lf.length c5,.slice A6 lr.length c6,.slice A7 ty.length c7,.slice A8 vls.length c8,.slice A9 d.length c9,.slice A10 ws.length c10,.slice A11 ps.length c11,.slice A12 fs.length c12] 31)))
 have hx8:True:=trivial
 have hx9:True:=trivial
 have hx10:True:=trivial
 have hx11:True:=trivial
 have hx12:True:=trivial
 go_enter Tryz.func9,Tryz.ntmps9
 go_wp2_with (first|(go_at_call 22;refine(fit2 vls A8 c8 _ (H8.out.ext HE.out (isVal.ext HE.out))).mono ?_;rintro e w1 ⟨bo,rfl,hbo,hbx⟩;have HE2:=HE;replace HE:=zh (HE2.out.trans hbx);clear HE2;have HBO8:=zh hbo;clear hbo hbx;clear hx8;have hx8:=box_at HE.out 8 (.slice A8 vls.length c8) rfl;clear hx9;have hx9:=box_at HE.out 9 (.slice A9 d.length c9) rfl;clear hx10;have hx10:=box_at HE.out 10 (.slice A10 ws.length c10) rfl;clear hx11;have hx11:=box_at HE.out 11 (.slice A11 ps.length c11) rfl;clear hx12;have hx12:=box_at HE.out 12 (.slice A12 fs.length c12) rfl;cases bo)|(go_at_call 23;refine(fit4 ws A10 c10 _ (H10.out.ext HE.out (fun _ _ h=>h))).mono ?_;rintro e w1 ⟨bo,rfl,hbo,hbx⟩;have HE2:=HE;replace HE:=zh (HE2.out.trans hbx);clear HE2;have HBO10:=zh hbo;clear hbo hbx;clear hx8;have hx8:=box_at HE.out 8 (.slice A8 vls.length c8) rfl;clear hx9;have hx9:=box_at HE.out 9 (.slice A9 d.length c9) rfl;clear hx10;have hx10:=box_at HE.out 10 (.slice A10 ws.length c10) rfl;clear hx11;have hx11:=box_at HE.out 11 (.slice A11 ps.length c11) rfl;clear hx12;have hx12:=box_at HE.out 12 (.slice A12 fs.length c12) rfl;cases bo)|(go_at_call 24;refine(fit5 ps A11 c11 _ (H11.out.ext HE.out (fun _ _ h=>h))).mono ?_;rintro e w1 ⟨bo,rfl,hbo,hbx⟩;have HE2:=HE;replace HE:=zh (HE2.out.trans hbx);clear HE2;have HBO11:=zh hbo;clear hbo hbx;clear hx8;have hx8:=box_at HE.out 8 (.slice A8 vls.length c8) rfl;clear hx9;have hx9:=box_at HE.out 9 (.slice A9 d.length c9) rfl;clear hx10;have hx10:=box_at HE.out 10 (.slice A10 ws.length c10) rfl;clear hx11;have hx11:=box_at HE.out 11 (.slice A11 ps.length c11) rfl;clear hx12;have hx12:=box_at HE.out 12 (.slice A12 fs.length c12) rfl;cases bo)|(go_at_call 25;refine(fit7 fs A12 c12 _ (H12.out.ext HE.out (fun _ _ h=>h))).mono ?_;rintro e w1 ⟨bo,rfl,hbo,hbx⟩;have HE2:=HE;replace HE:=zh (HE2.out.trans hbx);clear HE2;have HBO12:=zh hbo;clear hbo hbx;clear hx8;have hx8:=box_at HE.out 8 (.slice A8 vls.length c8) rfl;clear hx9;have hx9:=box_at HE.out 9 (.slice A9 d.length c9) rfl;clear hx10;have hx10:=box_at HE.out 10 (.slice A10 ws.length c10) rfl;clear hx11;have hx11:=box_at HE.out 11 (.slice A11 ps.length c11) rfl;clear hx12;have hx12:=box_at HE.out 12 (.slice A12 fs.length c12) rfl;cases bo))
 all_goals go_ret
 all_goals refine⟨_,rfl,?_,(ext_alloc w _).trans HE.out⟩
 all_goals first|(intro h;cases h;done)|skip
 intro _
 exact⟨by omega,by omega,by omega,by omega,by omega,by omega,HBO8.out trivial,HBO10.out trivial,HBO11.out trivial,HBO12.out trivial⟩
open Go Go.RowKit
theorem MsgIn.ext {w w':World} {v:Value} {a b:ByteArray} {kd n mm:Int} {A5 A6 A7 A8 A9 A10 A11 A12:Option Addr} {c5 c6 c7 c8 c9 c10 c11 c12:Nat} {lf lr ty d:List Int} {vls:List (Bool×List Int)} {ws:List ByteArray} {ps:List (ByteArray×ByteArray)} {fs:List Sf}
 (h:MsgIn w v a b kd n mm A5 A6 A7 A8 A9 A10 A11 A12 c5 c6 c7 c8 c9 c10 c11 c12 lf lr ty d vls ws ps fs) (hx:Ext w w'):MsgIn w' v a b kd n mm A5 A6 A7 A8 A9 A10 A11 A12 c5 c6 c7 c8 c9 c10 c11 c12 lf lr ty d vls ws ps fs:=
 ⟨h.val,h.rf.ext hx,h.rr.ext hx,h.rt.ext hx,h.rv.ext hx (isVal.ext hx),h.rd.ext hx,h.rw.ext hx (fun _ _ h=>h),h.rp.ext hx (fun _ _ h=>h),h.rl.ext hx (fun _ _ h=>h),h.n,h.kd,h.ty,h.d,h.vls,h.fs⟩
open Go.RowKit Og
def ptrC:Value->Nat
 | .pointer (some a)=>a.block
 | _=>0
end Go.Proofs.YtdenjanihikolaaGreatDoor
