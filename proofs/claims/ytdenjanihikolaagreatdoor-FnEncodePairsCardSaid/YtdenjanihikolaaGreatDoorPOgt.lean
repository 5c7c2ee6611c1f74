/- The law on a region with a tail, where the tail waits for the head by way of other operations. -/
import Derived.Test.YtdenjanihikolaaGreatDoorPOg
namespace Go.Proofs.YtdenjanihikolaaGreatDoor.Og
set_option linter.unusedVariables false
set_option linter.unusedSimpArgs false
open Go
section
variable {P : Program} {R : World → World → Prop}
/-- What has been done is closed: what it waited for has been done. -/
def Closed (ops : List Oper) (listed : Array Bool) : Prop := ∀ j o, ops[j]? = some o → listed.getD j false = true → ∀ d ∈ deps o, listed.getD d false = true
theorem Closed.start (ops : List Oper) (n : Nat) : Closed ops (Array.replicate n false) := fun j o _ h => by
  rw [getD_replicate_false] at h; cases h
theorem Closed.set {ops : List Oper} {listed : Array Bool} {i : Nat} {o : Oper} (h : Closed ops listed) (ho : ops[i]? = some o) (hd : ∀ d ∈ deps o, listed.getD d false = true) : Closed ops (listed.setIfInBounds i true) := by
  have mono : ∀ d, listed.getD d false = true → (listed.setIfInBounds i true).getD d false = true := by
    intro d hd
    by_cases e : i = d
    · subst e
      by_cases hs : i < listed.size
      · simp [Array.getD, hs]
      · simp [Array.getD, hs] at hd
    · rw [getD_set_ne false e]; exact hd
  intro j x hx hj d hd2
  by_cases e : i = j
  · subst e
    rw [ho] at hx
    obtain rfl := Option.some.inj hx
    exact mono d (hd d hd2)
  · rw [getD_set_ne false e] at hj
    exact mono d (h j x hx hj d hd2)
def clos (ops : List Oper) : Nat → List Nat → List Nat
  | 0, S => S
  | k + 1, S => clos ops k (S ++ S.flatMap fun j => match (ops[j]? : Option Oper) with | some o => deps o | none => [])
theorem clos_listed {ops : List Oper} {listed : Array Bool} (h : Closed ops listed) : ∀ (k : Nat) (S : List Nat), (∀ d ∈ S, listed.getD d false = true) → ∀ d ∈ clos ops k S, listed.getD d false = true
  | 0, S, hS, d, hd => hS d hd
  | k + 1, S, hS, d, hd => by
    refine clos_listed h k _ (fun e he => ?_) d hd
    rcases List.mem_append.1 he with he | he
    · exact hS e he
    · obtain ⟨j, hj, hje⟩ := List.mem_flatMap.1 he
      cases ho : (ops[j]? : Option Oper) with
      | none => rw [ho] at hje; cases hje
      | some o => rw [ho] at hje; exact h j o ho (hS j hj) e hje
def okOneT (ops hd : List Oper) (o : Oper) : Bool :=
  (match o.op with | .select .. => false | _ => true) &&
  (o.looksAt ops.toArray).all fun t => (List.range hd.length).all fun j =>
    match (hd[j]? : Option Oper) with
    | some oj => oj.dst != some t || (deps o).contains j
    | none => true
def waitT (ops : List Oper) (n : Nat) : Bool := (List.range ops.length).all fun i => decide (i < n) || match (ops[i]? : Option Oper) with | some o => (List.range n).all fun j => (clos ops 4 (deps o)).contains j | none => true
theorem exec_sameT {ops hd : List Oper} {a0 a : Act} {vs vs' : Nat → Value} {done : Nat → Bool} (hall : ∀ o ∈ hd, okOneT ops hd o = true) (hdist : distinct hd = true) (hpre : ∀ (j : Nat) (o : Oper), hd[j]? = some o → ops[j]? = some o) (h : Fits hd a0 vs done a) (i : Nat) (o : Oper) (ho : hd[i]? = some o)
    (hdeps : ∀ j ∈ deps o, done j = true) (hvs : ∀ j, done j = true → vs' j = vs j) :
    execOp (putAll vs' 0 hd a0).eval o = execOp a.eval o ∧ Region.wanted o (yielded ops.toArray (putAll vs' 0 hd a0).tmps) = Region.wanted o (yielded ops.toArray a.tmps) := by
  have hone := hall o (List.mem_of_getElem? ho)
  simp only [okOneT, Bool.and_eq_true, List.all_eq_true] at hone
  obtain ⟨hsel, hlook⟩ := hone
  have slot : ∀ t ∈ o.looksAt ops.toArray, (putAll vs' 0 hd a0).tmps[t]? = a.tmps[t]? := by
    intro t ht
    have hl := hlook t ht
    by_cases hex : ∃ (j : Nat) (oj : Oper), hd[j]? = some oj ∧ oj.dst = some t
    · obtain ⟨j, oj, hj, hjt⟩ := hex
      have hlt : j < hd.length := (List.getElem?_eq_some_iff.1 hj).1
      have hmem := hl j (List.mem_range.2 hlt)
      rw [hj] at hmem
      simp only [hjt, bne_self_eq_false, Bool.false_or] at hmem
      have hdj : j ∈ deps o := by simpa using hmem
      have hdone := hdeps j hdj
      rw [putAll_new vs' hd hdist 0 a0 j oj t hj hjt, h.new j oj t hj hdone hjt, Nat.zero_add, hvs j hdone]
    · have hno : ∀ (k : Nat) (x : Oper), hd[k]? = some x → x.dst ≠ some t := fun k x hx hc => hex ⟨k, x, hx, hc⟩
      rw [putAll_old vs' t hd 0 a0 hno, h.old t fun j x hx _ => hno j x hx]
  refine ⟨execOp_congr o ?_ ?_, ?_⟩
  · intro cs b hc; rw [hc] at hsel; simp at hsel
  · intro x hx
    cases x with
    | tmp t =>
      have hs := slot t (List.mem_append_left _ (List.mem_filterMap.2 ⟨.tmp t, by simpa using hx, rfl⟩))
      simp only [Act.eval, Array.getD_eq_getD_getElem?, hs]
    | _ => rfl
  · unfold Region.wanted
    cases hg : o.guard with
    | none => rfl
    | some gw =>
      obtain ⟨g, want⟩ := gw
      have hy : yielded ops.toArray (putAll vs' 0 hd a0).tmps g = yielded ops.toArray a.tmps g := by
        unfold yielded
        cases ht : (ops.toArray[g]?).bind (·.dst) with
        | none => rfl
        | some t =>
          have hs := slot t (by
            unfold Oper.looksAt
            rw [hg]
            refine List.mem_append_right _ ?_
            show t ∈ ((ops.toArray[g]?).bind fun x => x.dst).toList
            rw [ht]
            simp)
          simp only [Option.bind_some, hs]
      simp only [hy]
theorem anyT {hd tl : List Oper} {J : World → Prop} {a0 : Act} {ss : List (Sp R)} {Q : Exit → Act → World → Prop} (hall : ∀ o ∈ hd, okOneT (hd ++ tl) hd o = true) (hdist : distinct hd = true) (hS : sizeB hd a0.tmps.size = true) (hb : backB (hd ++ tl) = true)
    (hw : waitT (hd ++ tl) hd.length = true) (hseq : Region.seqB .any (hd ++ tl).toArray tl.length hd.length (headDone hd.length tl.length) = true) (hpos : 0 < hd.length)
    (hob : oblH P (hd ++ tl) hd J a0 ss 0 hd)
    (hfin : ∀ vs w, J w → (∀ j, j < hd.length → (ss.getD j (Sp.any R)).p (vs j) w) → wpList P (hd ++ tl).toArray Q tl (putAll vs 0 hd a0) w) :
    ∀ (fuel : Nat) (listed : Array Bool) (a : Act) (w : World) (vs : Nat → Value), listed.size = (hd ++ tl).length → (∀ j, hd.length ≤ j → listed.getD j false = false) → todo (hd ++ tl).length listed = fuel → J w → Closed (hd ++ tl) listed → Fits hd a0 vs (fun j => listed.getD j false) a →
      (∀ j, j < hd.length → listed.getD j false = true → (ss.getD j (Sp.any R)).p (valOf ((hd[j]?).bind (·.dst)) (vs j)) w) →
      wpAny P .any (hd ++ tl).toArray Q fuel listed a w := by
  have hpre : ∀ (j : Nat) (o : Oper), hd[j]? = some o → (hd ++ tl)[j]? = some o := by
    intro j o hj
    have hlt := (List.getElem?_eq_some_iff.1 hj).1
    rw [List.getElem?_append_left hlt]; exact hj
  have fin : ∀ (listed : Array Bool) (a : Act) (w : World) (vs : Nat → Value), listed.size = (hd ++ tl).length → (∀ j, hd.length ≤ j → listed.getD j false = false) → J w → Fits hd a0 vs (fun j => listed.getD j false) a →
      (∀ j, j < hd.length → listed.getD j false = true → (ss.getD j (Sp.any R)).p (valOf ((hd[j]?).bind (·.dst)) (vs j)) w) →
      (∀ j, j < hd.length → listed.getD j false = true) → wpAny P .any (hd ++ tl).toArray Q (todo (hd ++ tl).length listed) listed a w := by
    intro listed a w vs hs htl hJ hF hv hdn
    have ha : a = putAll (fun j => valOf ((hd[j]?).bind (·.dst)) (vs j)) 0 hd a0 := by
      have h1 : a.tmps = (putAll (fun j => valOf ((hd[j]?).bind (·.dst)) (vs j)) 0 hd a0).tmps := by
        refine Array.ext_getElem? fun t => ?_
        by_cases hex : ∃ (j : Nat) (oj : Oper), hd[j]? = some oj ∧ oj.dst = some t
        · obtain ⟨j, oj, hj, hjt⟩ := hex
          have hlt : j < hd.length := (List.getElem?_eq_some_iff.1 hj).1
          rw [putAll_new _ hd hdist 0 a0 j oj t hj hjt, hF.new j oj t hj (hdn j hlt) hjt, Nat.zero_add, hj]
          simp [valOf, hjt]
        · have hno : ∀ (k : Nat) (x : Oper), hd[k]? = some x → x.dst ≠ some t := fun k x hx hc => hex ⟨k, x, hx, hc⟩
          rw [putAll_old _ t hd 0 a0 hno, hF.old t fun j x hx _ => hno j x hx]
      have h2 := hF.defers
      rw [← putAll_def (fun j => valOf ((hd[j]?).bind (·.dst)) (vs j)) hd 0 a0] at h2
      cases a
      simp only at h1 h2
      subst h1; subst h2
      rfl
    have hlis : listed = headDone hd.length tl.length := by
      refine Array.ext_getElem? fun j => ?_
      have hsz : (headDone hd.length tl.length).size = (hd ++ tl).length := by simp [headDone]
      rcases Nat.lt_or_ge j (hd ++ tl).length with hj | hj
      · have e1 : listed[j]? = some (listed.getD j false) := by
          have : j < listed.size := by omega
          simp [this]
        rw [e1]
        rcases Nat.lt_or_ge j hd.length with hj' | hj'
        · rw [hdn j hj']
          simp [headDone, List.getElem?_append_left (show j < (List.replicate hd.length true).length by simpa using hj'), hj']
        · rw [htl j hj']
          have hj2 : j - hd.length < tl.length := by simp at hj; omega
          simp [headDone, List.getElem?_append_right (show (List.replicate hd.length true).length ≤ j by simpa using hj'), hj2]
      · rw [Array.getElem?_eq_none (by omega), Array.getElem?_eq_none (by omega)]
    have htd : todo (hd ++ tl).length listed = tl.length := by
      rw [hlis]
      unfold todo
      rw [List.length_append, List.range_add, List.countP_append, List.countP_map]
      have e1 : List.countP (fun j => !(headDone hd.length tl.length).getD j true) (List.range hd.length) = 0 := by
        refine List.countP_eq_zero.2 fun j hj => ?_
        have hj' := List.mem_range.1 hj
        simp [headDone, List.getElem?_append_left (show j < (List.replicate hd.length true).length by simpa using hj'), hj']
      have e2 : List.countP ((fun j => !(headDone hd.length tl.length).getD j true) ∘ fun x => hd.length + x) (List.range tl.length) = (List.range tl.length).length := by
        refine List.countP_eq_length.2 fun j hj => ?_
        have hj' := List.mem_range.1 hj
        simp [headDone, List.getElem?_append_right, hj']
      rw [e1, e2, List.length_range]
      omega
    rw [htd]
    refine wpAny_of_seq tl hd.length listed a w (fun j => ?_) (by rw [hlis]; exact hseq) ?_
    · rw [List.getElem?_toArray, List.getElem?_append_right (Nat.le_add_right _ _), Nat.add_sub_cancel_left]
    · rw [ha]
      exact hfin _ w hJ fun j hj => hv j hj (hdn j hj)
  intro fuel
  induction fuel with
  | zero =>
    intro listed a w vs hs htl ht hJ hcl hF hv
    have hall' : ∀ j, j < (hd ++ tl).length → listed.getD j true = true := todo_zero ht
    have hdn : ∀ j, j < hd.length → listed.getD j false = true := by
      intro j hj
      have hj2 : j < listed.size := by simp at hs; omega
      have := hall' j (by simp; omega)
      simpa [Array.getD, hj2] using this
    have := fin listed a w vs hs htl hJ hF hv hdn
    rwa [ht] at this
  | succ fuel ih =>
    intro listed a w vs hs htl ht hJ hcl hF hv
    by_cases hdn : ∀ j, j < hd.length → listed.getD j false = true
    · have := fin listed a w vs hs htl hJ hF hv hdn
      rwa [ht] at this
    have hnot : ∃ j, j < hd.length ∧ listed.getD j false = false := by
      apply Classical.byContradiction
      intro hc
      apply hdn
      intro j hj
      cases hb' : listed.getD j false with
      | true => rfl
      | false => exact absurd ⟨j, hj, hb'⟩ hc
    have ready_hd : ∀ i, i ∈ Region.ready .any (hd ++ tl).toArray listed → i < hd.length := by
      intro i hi
      rcases Nat.lt_or_ge i hd.length with h | h
      · exact h
      · exfalso
        obtain ⟨j, hj, hjf⟩ := hnot
        rw [mem_ready] at hi
        obtain ⟨_, o, ho, hdep⟩ := hi
        have ho' : (hd ++ tl)[i]? = some o := by simpa using ho
        have hil := (List.getElem?_eq_some_iff.1 ho').1
        simp only [waitT, List.all_eq_true] at hw
        have := hw i (List.mem_range.2 hil)
        rw [ho'] at this
        simp only [Bool.or_eq_true, decide_eq_true_eq, List.all_eq_true] at this
        have h2 := (this.resolve_left (by omega)) j (List.mem_range.2 hj)
        have h3 : j ∈ clos (hd ++ tl) 4 (deps o) := by simpa using h2
        have h4 : ∀ d ∈ deps o, listed.getD d false = true := by
          intro d hd'
          obtain ⟨e, he, rfl⟩ := List.mem_map.1 hd'
          obtain ⟨he1, he2⟩ := List.mem_filter.1 he
          exact hdep e (by simpa using he1) he2
        have := clos_listed hcl 4 _ h4 j h3
        rw [hjf] at this
        cases this
    refine ⟨fun hr => ?_, fun i hi => ?_⟩
    · exfalso
      obtain ⟨j, hj, hjf⟩ := hnot
      have := ready_some hb hs hr j (by simp; omega)
      rw [hjf] at this; cases this
    · have hih := ready_hd i hi
      rw [mem_ready] at hi
      obtain ⟨hi0, o, ho', hdep⟩ := hi
      have ho2 : (hd ++ tl)[i]? = some o := by simpa using ho'
      have ho : hd[i]? = some o := by rwa [List.getElem?_append_left hih] at ho2
      have hdl : ∀ j ∈ deps o, listed.getD j false = true := by
        intro j hj
        obtain ⟨e, he, rfl⟩ := List.mem_map.1 hj
        obtain ⟨he1, he2⟩ := List.mem_filter.1 he
        exact hdep e (by simpa using he1) he2
      have hi0' : listed.getD i false = false := getD_both hi0
      have hjl : ∀ j, listed.getD j false = true → j < hd.length := by
        intro j hj
        rcases Nat.lt_or_ge j hd.length with h | h
        · exact h
        · rw [htl j h] at hj; cases hj
      let vs1 : Nat → Value := fun j => valOf ((hd[j]?).bind (·.dst)) (vs j)
      have hFv1 : Fits hd a0 vs1 (fun j => listed.getD j false) a := ⟨hF.defers, hF.size, hF.old, fun j x d hx hj hxd => by
        rw [hF.new j x d hx hj hxd]
        simp [vs1, valOf, hx, hxd]⟩
      obtain ⟨hex, hwd⟩ := exec_sameT (vs' := vs1) hall hdist hpre hFv1 i o ho hdl (fun _ _ => rfl)
      have hobl := oblH_at hd 0 hob i o ho vs1 w hJ (fun j hj => hv j (hjl j (hdl j hj)) (hdl j hj))
      rw [Nat.zero_add] at hobl
      refine step_of (a0 := a0) ho2 (putAll_def _ _ _ _) ?_ hex hwd hobl ?_
      · intro d hd'
        rw [putAll_size]
        simp only [sizeB, List.all_eq_true] at hS
        have := hS o (List.mem_of_getElem? ho)
        rw [hd'] at this
        simpa using this
      · intro v w' hJ' hR hp
        have hsi : i < listed.size := by rw [hs]; simp; omega
        refine ih _ _ _ (fun j => if j = i then v else vs j) (by simpa using hs) ?_ ?_ hJ' (hcl.set ho2 hdl) ?_ ?_
        · intro j hj
          rw [getD_set_ne false (by omega)]
          exact htl j hj
        · have := todo_exact (n := (hd ++ tl).length) (by simp; omega) hi0 hsi
          omega
        · refine hF.put hdist i o ho v hi0' fun j => ?_
          by_cases e : i = j
          · subst e; simp [Array.getD, hsi]
          · rw [getD_set_ne false e]; simp [Ne.symm e]
        · intro j hj hjd
          by_cases e : i = j
          · subst e
            rw [ho]
            simp only [Option.bind_some, if_true]
            exact hp
          · rw [getD_set_ne false e] at hjd
            have := (ss.getD j (Sp.any R)).keep _ _ _ hR (hv j hj hjd)
            simpa [Ne.symm e] using this
def headT (hd tl : List Oper) (n : Nat) : Bool := hd.all (okOneT (hd ++ tl) hd) && distinct hd && sizeB hd n && backB (hd ++ tl) && waitT (hd ++ tl) hd.length && Region.seqB .any (hd ++ tl).toArray tl.length hd.length (headDone hd.length tl.length) && decide (0 < hd.length)
/-- THE LAW WITH A TAIL. -/
theorem wp_region_tail {l hd tl : List Oper} {id : Nat} {J : World → Prop} {a0 : Act} {w0 : World} {Q : Exit → Act → World → Prop} (ss : List (Sp R)) (hm : P.follows .mixedOrders = true)
    (hl : l = hd ++ tl) (hB : headT hd tl a0.tmps.size = true) (hJ : J w0.drew)
    (hob : oblH P l hd J a0 ss 0 hd)
    (hfin : ∀ vs w, J w → (∀ j, j < hd.length → (ss.getD j (Sp.any R)).p (vs j) w) → wpList P l.toArray Q tl (putAll vs 0 hd a0) w) :
    (Code.region id l.toArray true).wp P Q a0 w0 := by
  subst hl
  simp only [headT, Bool.and_eq_true, decide_eq_true_eq, List.all_eq_true] at hB
  obtain ⟨⟨⟨⟨⟨⟨h1, h2⟩, h3⟩, h4⟩, h5⟩, h6⟩, h7⟩ := hB
  refine wp_region_any hm ?_
  have hsz : (hd ++ tl).toArray.size = (hd ++ tl).length := by simp
  have ht : todo (hd ++ tl).length (Array.replicate (hd ++ tl).length false) = (hd ++ tl).length := by
    unfold todo
    have : List.countP (fun j => !(Array.replicate (hd ++ tl).length false).getD j true) (List.range (hd ++ tl).length) = (List.range (hd ++ tl).length).length := by
      refine List.countP_eq_length.2 fun j hj => ?_
      have hj' := List.mem_range.1 hj
      simp at hj'
      simp [Array.getD, hj']
    rw [this, List.length_range]
  rw [hsz]
  refine anyT h1 h2 h3 h4 h5 h6 h7 hob hfin _ _ _ _ (fun _ => undef) (by simp) ?_ ht hJ (Closed.start _ _) ?_ ?_
  · intro j _; exact getD_replicate_false _ _
  · refine ⟨rfl, rfl, fun _ _ => rfl, fun j o d _ hj => ?_⟩
    rw [getD_replicate_false] at hj; cases hj
  · intro j _ hj
    rw [getD_replicate_false] at hj; cases hj
theorem wp_region_cutT {l : List Oper} {id : Nat} {J : World → Prop} {a0 : Act} {w0 : World} {Q : Exit → Act → World → Prop} (n : Nat) (ss : List (Sp R)) (hm : P.follows .mixedOrders = true)
    (hB : headT (l.take n) (l.drop n) a0.tmps.size = true) (hJ : J w0.drew)
    (hob : oblH P l (l.take n) J a0 ss 0 (l.take n))
    (hfin : ∀ vs w, J w → (∀ j, j < (l.take n).length → (ss.getD j (Sp.any R)).p (vs j) w) → wpList P l.toArray Q (l.drop n) (putAll vs 0 (l.take n) a0) w) :
    (Code.region id l.toArray true).wp P Q a0 w0 :=
  wp_region_tail ss hm (List.take_append_drop n l).symm hB hJ hob hfin
end
end Go.Proofs.YtdenjanihikolaaGreatDoor.Og
