/- FnRoad: for every message the law returns true, and the message reads as before. No condition. -/
import Derived.Test.YtdenjanihikolaaGreatDoorRqA0
import Derived.Test.YtdenjanihikolaaGreatDoorRqA1
import Derived.Lib.LaidTab
import Derived.Stop.LaidErr
import Derived.SevenTiedAt
import Derived.Test.YtdenjanihikolaaGreatDoorRqFnr
import Derived.Test.YtdenjanihikolaaGreatDoorRqFit
import Derived.Test.YtdenjanihikolaaGreatDoorRqRwa
import Derived.Test.YtdenjanihikolaaGreatDoorCards
import Derived.Test.YtdenjanihikolaaGreatDoorTie
namespace Go.Proofs.YtdenjanihikolaaGreatDoor
set_option linter.unusedVariables false
set_option linter.unusedSimpArgs false
set_option maxRecDepth 100000
set_option maxHeartbeats 4000000
open Go Go.ChangeShapes Go.WideShapes Go.RowKit
theorem roadlaw_lifted (os:Os)(started:os.Started)(H:Type)(enc:TypeId×Value->H):
 ReturnsInHanded {} Tryz.checked os 8 .any (fun w args=>(Rows.fnRoadSpec.pre enc Tryz.prog Tryz.f8 [] false w args/\laidMet Tryz.prog laid5 w)/\sizedMet enc Tryz.prog Tryz.f8 (OpenSpec.ofChange Rows.fnRoadSpec) false w args)
  (Rows.fnRoadSpec.post enc Tryz.prog Tryz.f8 false true false false):=by
 refine returnsInHanded_of_change_and (C:=Tryz.checked) (X:=fun w _=>laidMet Tryz.prog laid5 w) (fun _ _ _ hh h=>h.of_heap hh) Tryz.own started (by kernel_rfl) Tryz.func8
  (ChangeSpec.witness_at (enc:=enc) (C:=Tryz.checked) (os:=os) (X:=fun w _=>laidMet Tryz.prog laid5 w) false (laidWorld os) #[.agg #[.int .i64 0,.string ⟨#[]⟩,.string ⟨#[]⟩,.int .u32 0,.int .u32 0,.slice none 0 0,.slice none 0 0,.slice none 0 0,.slice none 0 0,.slice none 0 0,.slice none 0 0,.slice none 0 0,.slice none 0 0]] 8 rfl (by kernel_rfl) (by kernel_rfl) (by kernel_rfl) (by kernel_rfl) (by kernel_rfl) (laidWorld_met os _)) ?_
 intro W base args ds gs before hval0 hW _ _ hL _
 have hval:∀(j:Nat) t v,Tryz.f8.params[j]?=some t->args[j]?=some v->Value.okWide Tryz.prog W .any base t v:=hval0
 have hW':=hW
 obtain⟨p,q,hA0,hV0,rfl,hfz,hnd⟩:=hW
 have hA:DataW.TrodAll enc Tryz.prog W 0 (fun _=>true) true Tryz.f8.params.toList args.toList ds p:=hA0
 have hV:DataW.TrodVars enc Tryz.prog W (fun _=>true) [] gs q:=hV0
 rw [Tryz.params8]at hA hval
 obtain⟨v0,d0,rfl,rfl,h0⟩:=trodAll_one hA
 obtain⟨rfl,rfl⟩:=trodVars_none hV
 have hlt0:∀x∈p,x.block < W.heap.size:=fun x hx=>by simpa using hW'.lt x (by simp [hx])
 obtain⟨a,b,kd,n,mm,A5,A6,A7,A8,A9,A10,A11,A12,c5,c6,c7,c8,c9,c10,c11,c12,lf,lr,ty,d,vls,ws,ps,fs,hm⟩:=open_msg (hval 0 31 v0 rfl rfl) h0
 have e1:Rows.fnRoadSpec.fn H ([d0]++ [])={results:=[.lit (.bool true)],args:=[d0]} :=by simp [Rows.fnRoadSpec]
 have hL3:laidMet Tryz.prog (("internal/strconv.uint64pow10",Lib.tabData .u64 Lib.pow10Tab) :: [("strconv.ErrRange",Rows.laid_strconv_ErrRange),("strconv.ErrSyntax",Rows.laid_strconv_ErrSyntax)]) W:=hL.tail.tail
 have htab:Tab W:=Lib.tabIs_of_head (g:=2) (t:=309) (e:=277) (n:=20) (by kernel_rfl) (by kernel_rfl) (by kernel_rfl) (by kernel_rfl) (by kernel_rfl) (by kernel_rfl) hL3
 have hv:=hm.val
 subst hv
 refine(road8 a b kd n mm A5 A6 A7 A8 A9 A10 A11 A12 c5 c6 c7 c8 c9 c10 c11 c12 lf lr ty d vls ws ps fs W hm htab).mono fun e W' ⟨he,hw⟩=>?_
 subst he
 refine⟨_,rfl,_,_,_,[],p,[],hW',?_,?_,?_,hw.frame _,fun h=>by cases h⟩
 ·rw [e1];exact trodAll_mk1 (shut_bool Tryz.underlying4 true)
 ·rw [e1];exact trodAll_mk1 (Below.trod Tryz.laidOut (by kernel_rfl) (of_decide_eq_true (by kernel_rfl)) h0 hw hlt0)
 ·rw [e1];rfl
theorem roadlaw_and {a b:Bool} (h1:a=true)(h2:b=true):(a && b)=true:=by rw [h1,h2];rfl
theorem roadlaw_facts:joinedFacts Tryz.pinned.checked.prog 8 Tryz.f8 Rows.fnRoadSpec Rows.fnRoadRow=true:=by
 unfold joinedFacts
 repeat' (with_reducible refine roadlaw_and ?_ ?_)
 all_goals as_aux_lemma=>kernel_rfl
theorem roadlaw_row:Rows.FnRoadSaid:=
 OpenClaim.holds_of_wide 8 Tryz.f8 rfl rfl rfl rfl rfl rfl rfl ⟨rfl,rfl,rfl,rfl,rfl⟩ rfl rfl rfl rfl rfl (by kernel_rfl) Tryz.func8 roadlaw_facts
  (of_decide_eq_true (by kernel_rfl)) (by unfold Func.isWrapper;rw [if_neg (of_decide_eq_false (by kernel_rfl))];exact⟨rfl,rfl⟩)
  (fun os started H enc _=>roadlaw_lifted os started H enc)
theorem roadlaw_holds:Rows.FnRoadCardSaid:=
 Claim7.holds_tied_plain_at .later [] [.data,.data,.data,.sentinel,.sentinel] true (true, "346e666403ef8af61119100bf32cbdd4ac20cbf1fb5851f9df4e78e6eeef08de") true
  roadlaw_row (fun _ h=>by cases h) (by kernel_rfl) (fun _ h=>by cases h) fnRoad_row_tie rfl ⟨rfl,rfl⟩ (by kernel_rfl) rfl
  (fun f fn hf hfn=>by
    obtain rfl:f=8:=Option.some.inj ((show Tryz.prog.funcNamed "pgproto3/laws.FnRoad" =some 8 by kernel_rfl).symm.trans hf) |>.symm
    obtain rfl:fn=Tryz.f8:=(Option.some.inj (Tryz.func8.symm.trans hfn)).symm
    exact⟨by kernel_rfl,fun j t ht=>by
     rw [Tryz.params8]at ht
     have h3:t=31:=by
      rcases j with _|j
      ·simpa using ht.symm
      ·simp at ht
     subst h3
     exact(show Tryz.prog.wantsStandIn 31=false by kernel_rfl)⟩)
  (by kernel_rfl)
#print axioms roadlaw_holds
end Go.Proofs.YtdenjanihikolaaGreatDoor
