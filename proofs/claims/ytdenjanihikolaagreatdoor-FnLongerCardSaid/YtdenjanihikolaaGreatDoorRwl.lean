/- FnLonger: for every message and every bytes behind it the law returns true, and both read as before. No condition. -/
import Derived.Test.YtdenjanihikolaaGreatDoorLon
import Derived.Test.YtdenjanihikolaaGreatDoorOpn
import Derived.Test.YtdenjanihikolaaGreatDoorRwa
import Derived.Test.YtdenjanihikolaaGreatDoorCards
import Derived.Test.YtdenjanihikolaaGreatDoorTie
import Derived.SevenTiedAt
namespace Go.Proofs.YtdenjanihikolaaGreatDoor
open Go Go.ChangeShapes Go.WideShapes Go.RowKit
set_option maxRecDepth 100000

theorem longer_lifted (os : Os) (started : os.Started) (H : Type) (enc : TypeId × Value → H) :
    ReturnsInHanded {} Tryz.checked os 7 .any (fun w args => (Rows.fnLongerSpec.pre enc Tryz.prog Tryz.f7 [] false w args ∧ laidMet Tryz.prog laid5 w) ∧ sizedMet enc Tryz.prog Tryz.f7 (OpenSpec.ofChange Rows.fnLongerSpec) false w args)
      (Rows.fnLongerSpec.post enc Tryz.prog Tryz.f7 false true false false) := by
  refine returnsInHanded_of_change_and (C := Tryz.checked) (X := fun w _ => laidMet Tryz.prog laid5 w) (fun _ _ _ hh h => h.of_heap hh) Tryz.own started (by kernel_rfl) Tryz.func7
    (ChangeSpec.witness_at (enc := enc) (C := Tryz.checked) (os := os) (X := fun w _ => laidMet Tryz.prog laid5 w) false (laidWorld os) #[.agg #[.int .i64 0, .string ⟨#[]⟩, .string ⟨#[]⟩, .int .u32 0, .int .u32 0, .slice none 0 0, .slice none 0 0, .slice none 0 0, .slice none 0 0, .slice none 0 0, .slice none 0 0, .slice none 0 0, .slice none 0 0], .slice none 0 0] 8 rfl (by kernel_rfl) (by kernel_rfl) (by kernel_rfl) (by kernel_rfl) (by kernel_rfl) (laidWorld_met os _)) ?_
  intro W base args ds gs before hval0 hW _ _ hL _
  have hval : ∀ (j : Nat) t v, Tryz.f7.params[j]? = some t → args[j]? = some v → Value.okWide Tryz.prog W .any base t v := hval0
  have hW' := hW
  obtain ⟨p, q, hA0, hV0, rfl, hfz, hnd⟩ := hW
  have hA : DataW.TrodAll enc Tryz.prog W 0 (fun _ => true) true Tryz.f7.params.toList args.toList ds p := hA0
  have hV : DataW.TrodVars enc Tryz.prog W (fun _ => true) [] gs q := hV0
  rw [Tryz.params7] at hA hval
  obtain ⟨v0, v1, d0, d1, p0, p1, rfl, rfl, rfl, h0, h1⟩ := trodAll_two hA
  obtain ⟨rfl, rfl⟩ := trodVars_none hV
  have hlt0 : ∀ x ∈ p0, x.block < W.heap.size := fun x hx => by simpa using hW'.lt x (by simp [hx])
  have hlt1 : ∀ x ∈ p1, x.block < W.heap.size := fun x hx => by simpa using hW'.lt x (by simp [hx])
  obtain ⟨a, b, kd, n, mm, A5, A6, A7, A8, A9, A10, A11, A12, c5, c6, c7, c8, c9, c10, c11, c12, lf, lr, ty, d, vls, ws, ps, fs, hm⟩ := open_msg (hval 0 31 v0 rfl rfl) h0
  obtain ⟨fb, hfb⟩ := h1
  obtain ⟨bA, bl, bc, rfl⟩ := okWide_slice Tryz.underlying26 (hval 1 26 v1 rfl rfl)
  obtain ⟨bh, Ab, cb, hvb, hrb, _⟩ := rdB_of Tryz.underlying26 Tryz.underlying5 cl5 hfb
  have h1k : DataW.Trod enc Tryz.prog W 0 (fun _ => true) true 26 (.slice bA bl bc) d1 p1 := ⟨fb, hfb⟩
  have e1 : Rows.fnLongerSpec.fn H ([d0, d1] ++ []) = { results := [.lit (.bool true)], args := [d0, d1] } := by simp [Rows.fnLongerSpec]
  rw [hvb] at h1k hW' ⊢
  have hv := hm.val
  subst hv
  refine (longer7 a b kd n mm A5 A6 A7 A8 A9 A10 A11 A12 c5 c6 c7 c8 c9 c10 c11 c12 lf lr ty d vls ws ps fs Ab cb bh W hm.rf hm.rr hm.rv hm.rw hm.rp hm.rl hrb hm.n).mono fun e W' ⟨he, hw⟩ => ?_
  subst he
  refine ⟨_, rfl, _, _, _, [], p0 ++ p1, [], hW', ?_, ?_, ?_, hw.frame _, fun h => by cases h⟩
  · rw [e1]; exact trodAll_mk1 (shut_bool Tryz.underlying4 true)
  · rw [e1]; exact trodAll_mk2 (Below.trod Tryz.laidOut (by kernel_rfl) (of_decide_eq_true (by kernel_rfl)) h0 hw hlt0) (Below.trod Tryz.laidOut (by kernel_rfl) (of_decide_eq_true (by kernel_rfl)) h1k hw hlt1)
  · rw [e1]; rfl

theorem longer_row : Rows.FnLongerSaid :=
  OpenClaim.holds_of_wide 7 Tryz.f7 rfl rfl rfl rfl rfl rfl rfl ⟨rfl, rfl, rfl, rfl, rfl⟩ rfl rfl rfl rfl rfl (by kernel_rfl) Tryz.func7 (by kernel_rfl)
    (of_decide_eq_true (by kernel_rfl)) (by unfold Func.isWrapper; rw [if_neg (of_decide_eq_false (by kernel_rfl))]; exact ⟨rfl, rfl⟩)
    (fun os started H enc _ => longer_lifted os started H enc)

theorem longer_holds : Rows.FnLongerCardSaid :=
  Claim7.holds_tied_plain_at .later [] [.data, .data, .data, .sentinel, .sentinel] true (true, "346e666403ef8af61119100bf32cbdd4ac20cbf1fb5851f9df4e78e6eeef08de") true
    longer_row (fun _ h => by cases h) (by kernel_rfl) (fun _ h => by cases h) fnLonger_row_tie rfl ⟨rfl, rfl⟩ (by kernel_rfl) rfl
    (fun f fn hf hfn => by
      obtain rfl : f = 7 := Option.some.inj ((show Tryz.prog.funcNamed "pgproto3/laws.FnLonger" = some 7 by kernel_rfl).symm.trans hf) |>.symm
      obtain rfl : fn = Tryz.f7 := (Option.some.inj (Tryz.func7.symm.trans hfn)).symm
      exact ⟨by kernel_rfl, fun j t ht => by
        rw [Tryz.params7] at ht
        have h3 : t = 31 ∨ t = 26 := by
          rcases j with _ | _ | j
          · left; simpa using ht.symm
          · right; simpa using ht.symm
          · simp at ht
        rcases h3 with rfl | rfl
        · exact (show Tryz.prog.wantsStandIn 31 = false by kernel_rfl)
        · exact (show Tryz.prog.wantsStandIn 26 = false by kernel_rfl)⟩)
    (by kernel_rfl)
#print axioms longer_holds
end Go.Proofs.YtdenjanihikolaaGreatDoor
