/- The cells of an error by its pairs. -/
import Derived.Deep.DeepCutAuto
import Derived.Deep.CutBlock
import Derived.Deep.Light
import Derived.Test.YtdenjanihikolaaGreatDoorPSmt
import Derived.Test.YtdenjanihikolaaGreatDoorPDcp
import Derived.Test.YtdenjanihikolaaGreatDoorPBase
import Derived.Test.YtdenjanihikolaaGreatDoorPErg
namespace Go.Proofs.YtdenjanihikolaaGreatDoor
set_option linter.unusedVariables false
set_option linter.unusedSimpArgs false
open Go.RowKit Go.Maps Go.Sort
set_option linter.unusedVariables false
set_option linter.unusedSimpArgs false
def ls18 : List Int := [83,86,67,77,68,72,80,112,113,87,115,116,99,100,110,70,76,82]
/-- One field, if it is there. -/
def flB (c : Int) (s : ByteArray) : List Int := if s.size = 0 then [] else [c] ++ sby s ++ [0]
def flZ (T : Nat → ByteArray) (X : List Int) (k : Nat) : List Int := X ++ (List.range k).flatMap fun i => flB (ls18.getD i 0) (T i)
theorem flB_len (c : Int) (s : ByteArray) (h : s.size ≤ 200) : (flB c s).length ≤ 202 := by
  unfold flB
  split
  · simp
  · simp only [List.length_append, List.length_cons, List.length_nil, sby_length]; omega
theorem flZ_succ (T : Nat → ByteArray) (X : List Int) (k : Nat) : flZ T X (k + 1) = flZ T X k ++ flB (ls18.getD k 0) (T k) := by
  simp [flZ, List.range_succ, List.flatMap_append]
theorem flZ_len (T : Nat → ByteArray) (X : List Int) (h : ∀ i, (T i).size ≤ 200) (hX : X.length ≤ 100) : ∀ k, (flZ T X k).length ≤ 100 + 202 * k
  | 0 => by simpa [flZ] using hX
  | k + 1 => by
    rw [flZ_succ, List.length_append]
    have h1 := flZ_len T X h hX k
    have h2 := flB_len (ls18.getD k 0) (T k) (h k)
    omega
theorem flB_nil (c : Int) : flB c ⟨#[]⟩ = [] := rfl
theorem flB_some (c : Int) (s : ByteArray) (h : s.size ≠ 0) : flB c s = [c] ++ sby s ++ [0] := if_neg h
theorem empty_or (s : ByteArray) : s = ⟨#[]⟩ ∨ (s.toList.isEmpty = false ∧ s.size ≠ 0) := by
  by_cases h : s.size = 0
  · left
    cases s with
    | mk d => 
      have : d.size = 0 := h
      rw [Array.eq_empty_of_size_eq_zero this]
  · right
    refine ⟨?_, h⟩
    rw [ByteArray.toList_eq]
    cases e : s.data.toList with
    | nil => exact absurd (by rw [← len_of, e]; rfl) h
    | cons a t => rfl
theorem empty_is : (⟨#[]⟩ : ByteArray).toList.isEmpty = true := by rw [ByteArray.toList_eq]; rfl
theorem numS_nil : numS ⟨#[]⟩ = 0 := rfl
def errCells (T : Nat → ByteArray) : Array Value := #[.string (T 0), .string (T 1), .string (T 2), .string (T 3), .string (T 4), .string (T 5), .int .i32 (numS (T 6)), .int .i32 (numS (T 7)), .string (T 8), .string (T 9), .string (T 10), .string (T 11), .string (T 12), .string (T 13), .string (T 14), .string (T 15), .int .i32 (numS (T 16)), .string (T 17), .map none]
set_option maxRecDepth 100000 in
set_option maxHeartbeats 4000000 in
theorem fields295 (T : Nat → ByteArray) (eb ty : Nat) (X : List Int) (v0 : Value) (w w1 : World) (hblk : w.heap[eb]? = some (.cells (errCells T) ty (0, 0))) (hT : ∀ i, (T i).size ≤ 200) (hN : ∀ i, i = 6 ∨ i = 7 ∨ i = 16 → T i = ⟨#[]⟩ ∨ digP (T i)) (htab : Tab w) (hB : Buf (Lt w.heap.size) w w1 v0 X) (hX : X.length ≤ 100) :
    Calls Tryz.prog 295 #[.pointer (some ⟨eb, 0, none⟩), v0] w1 (fun e w' => ∃ v, e = .returned v ∧ Buf (Lt w.heap.size) w w' v (flZ T X 18 ++ [0])) := by
  have HLT : Hid (Lt w.heap.size eb) := Lib.hid (lt_of_block hblk)
  have HC0 := Lib.hid (cell_slot hblk 0 (.string (T 0)) rfl)
  have HC1 := Lib.hid (cell_slot hblk 1 (.string (T 1)) rfl)
  have HC2 := Lib.hid (cell_slot hblk 2 (.string (T 2)) rfl)
  have HC3 := Lib.hid (cell_slot hblk 3 (.string (T 3)) rfl)
  have HC4 := Lib.hid (cell_slot hblk 4 (.string (T 4)) rfl)
  have HC5 := Lib.hid (cell_slot hblk 5 (.string (T 5)) rfl)
  have HC6 := Lib.hid (cell_slot hblk 6 (.int .i32 (numS (T 6))) rfl)
  have HC7 := Lib.hid (cell_slot hblk 7 (.int .i32 (numS (T 7))) rfl)
  have HC8 := Lib.hid (cell_slot hblk 8 (.string (T 8)) rfl)
  have HC9 := Lib.hid (cell_slot hblk 9 (.string (T 9)) rfl)
  have HC10 := Lib.hid (cell_slot hblk 10 (.string (T 10)) rfl)
  have HC11 := Lib.hid (cell_slot hblk 11 (.string (T 11)) rfl)
  have HC12 := Lib.hid (cell_slot hblk 12 (.string (T 12)) rfl)
  have HC13 := Lib.hid (cell_slot hblk 13 (.string (T 13)) rfl)
  have HC14 := Lib.hid (cell_slot hblk 14 (.string (T 14)) rfl)
  have HC15 := Lib.hid (cell_slot hblk 15 (.string (T 15)) rfl)
  have HC16 := Lib.hid (cell_slot hblk 16 (.int .i32 (numS (T 16))) rfl)
  have HC17 := Lib.hid (cell_slot hblk 17 (.string (T 17)) rfl)
  have HC18 := Lib.hid (cell_slot hblk 18 (.map none) rfl)
  have HZ : Hid (∀ k, (flZ T X k).length ≤ 100 + 202 * k) := Lib.hid (flZ_len T X hT hX)
  have HT := Lib.hid hT
  have HN := Lib.hid hN
  have HTAB := Lib.hid htab
  have e0 : flZ T X 0 = X := by simp [flZ]
  obtain ⟨Z, hz⟩ : ∃ Z, Z = flZ T X := ⟨_, rfl⟩
  have HZE := Lib.hid hz
  rw [← hz] at HZ e0
  have HB : Hid (Buf (Lt w.heap.size) w w1 v0 (Z 0)) := Lib.hid (by rw [e0]; exact hB)
  clear hblk hT hN htab hX hz e0 hB
  go_enter Tryz.func295, Tryz.ntmps295
  have hc := (cell_of_heap (HB.out.kept eb HLT.out) 0).trans HC0.out
  have hs : (T 0).size ≤ 200 := HT.out 0
  have hzl := HZ.out 0
  have HZS : Hid (Z 1 = Z 0 ++ flB 83 (T 0)) := Lib.hid (by rw [HZE.out]; exact flZ_succ T X 0)
  obtain ⟨s, hsv⟩ : ∃ s, s = T 0 := ⟨_, rfl⟩
  have HSV := Lib.hid hsv
  rw [← hsv] at hc hs HZS 
  clear hsv
  go_upto_if 12 with fail
  go_cut [1] from 8 to 24 (fun v wx => Hid (Buf (Lt w.heap.size) w wx v (Z 1)))
  case first =>
    rcases empty_or s with rfl | ⟨hne, hnz⟩
    · simp only [empty_is, Bool.not_true]
      go_wp2_with fail
      go_meet
      case rel =>
        have h1 := HZS.out
        rw [flB_nil, List.append_nil] at h1
        rw [h1]
        exact HB
    · have HNZ := Lib.hid hnz
      clear hnz
      simp only [hne, Bool.not_false]
      go_wp2_with (first | (at_builtin; refine ap_lit1 rfl _ _ 26 26 rfl Tryz.underlying26 Tryz.underlying26 rfl rfl HB.out (by first | omega | (simp only [List.length_append, List.length_cons, List.length_nil, sby_length]; omega)) ?_; intro v3 w7 hn; replace HB := Lib.hid hn; clear hn hc; have hc := (cell_of_heap (HB.out.kept eb HLT.out) 0).trans HC0.out; rw [← HSV.out] at hc) | (at_builtin; refine ap_str rfl _ _ 26 rfl Tryz.underlying26 rfl rfl HB.out (by first | omega | (simp only [List.length_append, List.length_cons, List.length_nil, sby_length]; omega)) ?_; intro v3 w7 hn; replace HB := Lib.hid hn; clear hn hc; have hc := (cell_of_heap (HB.out.kept eb HLT.out) 0).trans HC0.out; rw [← HSV.out] at hc))
      go_meet
      case rel =>
        have h1 := HZS.out
        rw [flB_some _ _ HNZ.out] at h1
        rw [h1]
        have h2 := HB.out
        simp only [List.append_assoc] at h2 ⊢
        exact Lib.hid h2
  case rest =>
  clear HB hc hs hzl HZS
  have HB := hcut
  clear hcut
  have hc := (cell_of_heap (HB.out.kept eb HLT.out) 1).trans HC1.out
  have hs : (T 1).size ≤ 200 := HT.out 1
  have hzl := HZ.out 1
  have HZS : Hid (Z 2 = Z 1 ++ flB 86 (T 1)) := Lib.hid (by rw [HZE.out]; exact flZ_succ T X 1)
  obtain ⟨s, hsv⟩ : ∃ s, s = T 1 := ⟨_, rfl⟩
  have HSV := Lib.hid hsv
  rw [← hsv] at hc hs HZS 
  clear hsv
  go_upto_if 29 with fail
  go_cut [1] from 25 to 41 (fun v wx => Hid (Buf (Lt w.heap.size) w wx v (Z 2)))
  case first =>
    rcases empty_or s with rfl | ⟨hne, hnz⟩
    · simp only [empty_is, Bool.not_true]
      go_wp2_with fail
      go_meet
      case rel =>
        have h1 := HZS.out
        rw [flB_nil, List.append_nil] at h1
        rw [h1]
        exact HB
    · have HNZ := Lib.hid hnz
      clear hnz
      simp only [hne, Bool.not_false]
      go_wp2_with (first | (at_builtin; refine ap_lit1 rfl _ _ 26 26 rfl Tryz.underlying26 Tryz.underlying26 rfl rfl HB.out (by first | omega | (simp only [List.length_append, List.length_cons, List.length_nil, sby_length]; omega)) ?_; intro v3 w7 hn; replace HB := Lib.hid hn; clear hn hc; have hc := (cell_of_heap (HB.out.kept eb HLT.out) 1).trans HC1.out; rw [← HSV.out] at hc) | (at_builtin; refine ap_str rfl _ _ 26 rfl Tryz.underlying26 rfl rfl HB.out (by first | omega | (simp only [List.length_append, List.length_cons, List.length_nil, sby_length]; omega)) ?_; intro v3 w7 hn; replace HB := Lib.hid hn; clear hn hc; have hc := (cell_of_heap (HB.out.kept eb HLT.out) 1).trans HC1.out; rw [← HSV.out] at hc))
      go_meet
      case rel =>
        have h1 := HZS.out
        rw [flB_some _ _ HNZ.out] at h1
        rw [h1]
        have h2 := HB.out
        simp only [List.append_assoc] at h2 ⊢
        exact Lib.hid h2
  case rest =>
  clear HB hc hs hzl HZS
  have HB := hcut
  clear hcut
  have hc := (cell_of_heap (HB.out.kept eb HLT.out) 2).trans HC2.out
  have hs : (T 2).size ≤ 200 := HT.out 2
  have hzl := HZ.out 2
  have HZS : Hid (Z 3 = Z 2 ++ flB 67 (T 2)) := Lib.hid (by rw [HZE.out]; exact flZ_succ T X 2)
  obtain ⟨s, hsv⟩ : ∃ s, s = T 2 := ⟨_, rfl⟩
  have HSV := Lib.hid hsv
  rw [← hsv] at hc hs HZS 
  clear hsv
  go_upto_if 46 with fail
  go_cut [1] from 42 to 58 (fun v wx => Hid (Buf (Lt w.heap.size) w wx v (Z 3)))
  case first =>
    rcases empty_or s with rfl | ⟨hne, hnz⟩
    · simp only [empty_is, Bool.not_true]
      go_wp2_with fail
      go_meet
      case rel =>
        have h1 := HZS.out
        rw [flB_nil, List.append_nil] at h1
        rw [h1]
        exact HB
    · have HNZ := Lib.hid hnz
      clear hnz
      simp only [hne, Bool.not_false]
      go_wp2_with (first | (at_builtin; refine ap_lit1 rfl _ _ 26 26 rfl Tryz.underlying26 Tryz.underlying26 rfl rfl HB.out (by first | omega | (simp only [List.length_append, List.length_cons, List.length_nil, sby_length]; omega)) ?_; intro v3 w7 hn; replace HB := Lib.hid hn; clear hn hc; have hc := (cell_of_heap (HB.out.kept eb HLT.out) 2).trans HC2.out; rw [← HSV.out] at hc) | (at_builtin; refine ap_str rfl _ _ 26 rfl Tryz.underlying26 rfl rfl HB.out (by first | omega | (simp only [List.length_append, List.length_cons, List.length_nil, sby_length]; omega)) ?_; intro v3 w7 hn; replace HB := Lib.hid hn; clear hn hc; have hc := (cell_of_heap (HB.out.kept eb HLT.out) 2).trans HC2.out; rw [← HSV.out] at hc))
      go_meet
      case rel =>
        have h1 := HZS.out
        rw [flB_some _ _ HNZ.out] at h1
        rw [h1]
        have h2 := HB.out
        simp only [List.append_assoc] at h2 ⊢
        exact Lib.hid h2
  case rest =>
  clear HB hc hs hzl HZS
  have HB := hcut
  clear hcut
  have hc := (cell_of_heap (HB.out.kept eb HLT.out) 3).trans HC3.out
  have hs : (T 3).size ≤ 200 := HT.out 3
  have hzl := HZ.out 3
  have HZS : Hid (Z 4 = Z 3 ++ flB 77 (T 3)) := Lib.hid (by rw [HZE.out]; exact flZ_succ T X 3)
  obtain ⟨s, hsv⟩ : ∃ s, s = T 3 := ⟨_, rfl⟩
  have HSV := Lib.hid hsv
  rw [← hsv] at hc hs HZS 
  clear hsv
  go_upto_if 63 with fail
  go_cut [1] from 59 to 75 (fun v wx => Hid (Buf (Lt w.heap.size) w wx v (Z 4)))
  case first =>
    rcases empty_or s with rfl | ⟨hne, hnz⟩
    · simp only [empty_is, Bool.not_true]
      go_wp2_with fail
      go_meet
      case rel =>
        have h1 := HZS.out
        rw [flB_nil, List.append_nil] at h1
        rw [h1]
        exact HB
    · have HNZ := Lib.hid hnz
      clear hnz
      simp only [hne, Bool.not_false]
      go_wp2_with (first | (at_builtin; refine ap_lit1 rfl _ _ 26 26 rfl Tryz.underlying26 Tryz.underlying26 rfl rfl HB.out (by first | omega | (simp only [List.length_append, List.length_cons, List.length_nil, sby_length]; omega)) ?_; intro v3 w7 hn; replace HB := Lib.hid hn; clear hn hc; have hc := (cell_of_heap (HB.out.kept eb HLT.out) 3).trans HC3.out; rw [← HSV.out] at hc) | (at_builtin; refine ap_str rfl _ _ 26 rfl Tryz.underlying26 rfl rfl HB.out (by first | omega | (simp only [List.length_append, List.length_cons, List.length_nil, sby_length]; omega)) ?_; intro v3 w7 hn; replace HB := Lib.hid hn; clear hn hc; have hc := (cell_of_heap (HB.out.kept eb HLT.out) 3).trans HC3.out; rw [← HSV.out] at hc))
      go_meet
      case rel =>
        have h1 := HZS.out
        rw [flB_some _ _ HNZ.out] at h1
        rw [h1]
        have h2 := HB.out
        simp only [List.append_assoc] at h2 ⊢
        exact Lib.hid h2
  case rest =>
  clear HB hc hs hzl HZS
  have HB := hcut
  clear hcut
  have hc := (cell_of_heap (HB.out.kept eb HLT.out) 4).trans HC4.out
  have hs : (T 4).size ≤ 200 := HT.out 4
  have hzl := HZ.out 4
  have HZS : Hid (Z 5 = Z 4 ++ flB 68 (T 4)) := Lib.hid (by rw [HZE.out]; exact flZ_succ T X 4)
  obtain ⟨s, hsv⟩ : ∃ s, s = T 4 := ⟨_, rfl⟩
  have HSV := Lib.hid hsv
  rw [← hsv] at hc hs HZS 
  clear hsv
  go_upto_if 80 with fail
  go_cut [1] from 76 to 92 (fun v wx => Hid (Buf (Lt w.heap.size) w wx v (Z 5)))
  case first =>
    rcases empty_or s with rfl | ⟨hne, hnz⟩
    · simp only [empty_is, Bool.not_true]
      go_wp2_with fail
      go_meet
      case rel =>
        have h1 := HZS.out
        rw [flB_nil, List.append_nil] at h1
        rw [h1]
        exact HB
    · have HNZ := Lib.hid hnz
      clear hnz
      simp only [hne, Bool.not_false]
      go_wp2_with (first | (at_builtin; refine ap_lit1 rfl _ _ 26 26 rfl Tryz.underlying26 Tryz.underlying26 rfl rfl HB.out (by first | omega | (simp only [List.length_append, List.length_cons, List.length_nil, sby_length]; omega)) ?_; intro v3 w7 hn; replace HB := Lib.hid hn; clear hn hc; have hc := (cell_of_heap (HB.out.kept eb HLT.out) 4).trans HC4.out; rw [← HSV.out] at hc) | (at_builtin; refine ap_str rfl _ _ 26 rfl Tryz.underlying26 rfl rfl HB.out (by first | omega | (simp only [List.length_append, List.length_cons, List.length_nil, sby_length]; omega)) ?_; intro v3 w7 hn; replace HB := Lib.hid hn; clear hn hc; have hc := (cell_of_heap (HB.out.kept eb HLT.out) 4).trans HC4.out; rw [← HSV.out] at hc))
      go_meet
      case rel =>
        have h1 := HZS.out
        rw [flB_some _ _ HNZ.out] at h1
        rw [h1]
        have h2 := HB.out
        simp only [List.append_assoc] at h2 ⊢
        exact Lib.hid h2
  case rest =>
  clear HB hc hs hzl HZS
  have HB := hcut
  clear hcut
  have hc := (cell_of_heap (HB.out.kept eb HLT.out) 5).trans HC5.out
  have hs : (T 5).size ≤ 200 := HT.out 5
  have hzl := HZ.out 5
  have HZS : Hid (Z 6 = Z 5 ++ flB 72 (T 5)) := Lib.hid (by rw [HZE.out]; exact flZ_succ T X 5)
  obtain ⟨s, hsv⟩ : ∃ s, s = T 5 := ⟨_, rfl⟩
  have HSV := Lib.hid hsv
  rw [← hsv] at hc hs HZS 
  clear hsv
  go_upto_if 97 with fail
  go_cut [1] from 93 to 109 (fun v wx => Hid (Buf (Lt w.heap.size) w wx v (Z 6)))
  case first =>
    rcases empty_or s with rfl | ⟨hne, hnz⟩
    · simp only [empty_is, Bool.not_true]
      go_wp2_with fail
      go_meet
      case rel =>
        have h1 := HZS.out
        rw [flB_nil, List.append_nil] at h1
        rw [h1]
        exact HB
    · have HNZ := Lib.hid hnz
      clear hnz
      simp only [hne, Bool.not_false]
      go_wp2_with (first | (at_builtin; refine ap_lit1 rfl _ _ 26 26 rfl Tryz.underlying26 Tryz.underlying26 rfl rfl HB.out (by first | omega | (simp only [List.length_append, List.length_cons, List.length_nil, sby_length]; omega)) ?_; intro v3 w7 hn; replace HB := Lib.hid hn; clear hn hc; have hc := (cell_of_heap (HB.out.kept eb HLT.out) 5).trans HC5.out; rw [← HSV.out] at hc) | (at_builtin; refine ap_str rfl _ _ 26 rfl Tryz.underlying26 rfl rfl HB.out (by first | omega | (simp only [List.length_append, List.length_cons, List.length_nil, sby_length]; omega)) ?_; intro v3 w7 hn; replace HB := Lib.hid hn; clear hn hc; have hc := (cell_of_heap (HB.out.kept eb HLT.out) 5).trans HC5.out; rw [← HSV.out] at hc))
      go_meet
      case rel =>
        have h1 := HZS.out
        rw [flB_some _ _ HNZ.out] at h1
        rw [h1]
        have h2 := HB.out
        simp only [List.append_assoc] at h2 ⊢
        exact Lib.hid h2
  case rest =>
  clear HB hc hs hzl HZS
  have HB := hcut
  clear hcut
  have hc := (cell_of_heap (HB.out.kept eb HLT.out) 6).trans HC6.out
  have hs : (T 6).size ≤ 200 := HT.out 6
  have hzl := HZ.out 6
  have HZS : Hid (Z 7 = Z 6 ++ flB 80 (T 6)) := Lib.hid (by rw [HZE.out]; exact flZ_succ T X 6)
  have HNI := Lib.hid (HN.out 6 (by decide))
  obtain ⟨s, hsv⟩ : ∃ s, s = T 6 := ⟨_, rfl⟩
  have HSV := Lib.hid hsv
  rw [← hsv] at hc hs HZS HNI
  clear hsv
  go_upto_if 114 with fail
  go_cut [1] from 110 to 128 (fun v wx => Hid (Buf (Lt w.heap.size) w wx v (Z 7)))
  case first =>
    rcases HNI.out with rfl | hd
    · simp only [numS_nil]
      go_wp2_with fail
      go_meet
      case rel =>
        have h1 := HZS.out
        rw [flB_nil, List.append_nil] at h1
        rw [h1]
        exact HB
    · have HD := Lib.hid hd
      have hnz : (numS s == 0) = false := by have := (num_facts hd).2.1; exact beq_eq_false_iff_ne.2 (by omega)
      have hnz2 : (numS s != 0) = true := by rw [bne, hnz]; rfl
      have hwr : IntKind.i64.wrap (numS s) = numS s := by have := (num_facts hd).2.1; have := (num_facts hd).2.2.1; rw [IntKind.wrap_i64]; omega
      clear hd
      simp only [hnz, hnz2, Bool.not_false]
      go_wp2_with (first | (go_at_call 78; refine (itoa78 s HD.out _ (HTAB.out.ext HB.out.bel)).mono ?_; rintro e w6 ⟨rfl, hx⟩; replace HB := Lib.hid (HB.out.ext hx); clear hx hc; have hc := (cell_of_heap (HB.out.kept eb HLT.out) 6).trans HC6.out; rw [← HSV.out] at hc) | (at_builtin; refine ap_lit1 rfl _ _ 26 26 rfl Tryz.underlying26 Tryz.underlying26 rfl rfl HB.out (by first | omega | (simp only [List.length_append, List.length_cons, List.length_nil, sby_length]; omega)) ?_; intro v3 w7 hn; replace HB := Lib.hid hn; clear hn hc; have hc := (cell_of_heap (HB.out.kept eb HLT.out) 6).trans HC6.out; rw [← HSV.out] at hc) | (at_builtin; refine ap_str rfl _ _ 26 rfl Tryz.underlying26 rfl rfl HB.out (by first | omega | (simp only [List.length_append, List.length_cons, List.length_nil, sby_length]; omega)) ?_; intro v3 w7 hn; replace HB := Lib.hid hn; clear hn hc; have hc := (cell_of_heap (HB.out.kept eb HLT.out) 6).trans HC6.out; rw [← HSV.out] at hc))
      go_meet
      case rel =>
        have h1 := HZS.out
        rw [flB_some _ _ HD.out.1] at h1
        rw [h1]
        have h2 := HB.out
        simp only [List.append_assoc] at h2 ⊢
        exact Lib.hid h2
  case rest =>
  clear HB hc hs hzl HZS
  have HB := hcut
  clear hcut
  have hc := (cell_of_heap (HB.out.kept eb HLT.out) 7).trans HC7.out
  have hs : (T 7).size ≤ 200 := HT.out 7
  have hzl := HZ.out 7
  have HZS : Hid (Z 8 = Z 7 ++ flB 112 (T 7)) := Lib.hid (by rw [HZE.out]; exact flZ_succ T X 7)
  have HNI := Lib.hid (HN.out 7 (by decide))
  obtain ⟨s, hsv⟩ : ∃ s, s = T 7 := ⟨_, rfl⟩
  have HSV := Lib.hid hsv
  rw [← hsv] at hc hs HZS HNI
  clear hsv
  go_upto_if 133 with fail
  go_cut [1] from 129 to 147 (fun v wx => Hid (Buf (Lt w.heap.size) w wx v (Z 8)))
  case first =>
    rcases HNI.out with rfl | hd
    · simp only [numS_nil]
      go_wp2_with fail
      go_meet
      case rel =>
        have h1 := HZS.out
        rw [flB_nil, List.append_nil] at h1
        rw [h1]
        exact HB
    · have HD := Lib.hid hd
      have hnz : (numS s == 0) = false := by have := (num_facts hd).2.1; exact beq_eq_false_iff_ne.2 (by omega)
      have hnz2 : (numS s != 0) = true := by rw [bne, hnz]; rfl
      have hwr : IntKind.i64.wrap (numS s) = numS s := by have := (num_facts hd).2.1; have := (num_facts hd).2.2.1; rw [IntKind.wrap_i64]; omega
      clear hd
      simp only [hnz, hnz2, Bool.not_false]
      go_wp2_with (first | (go_at_call 78; refine (itoa78 s HD.out _ (HTAB.out.ext HB.out.bel)).mono ?_; rintro e w6 ⟨rfl, hx⟩; replace HB := Lib.hid (HB.out.ext hx); clear hx hc; have hc := (cell_of_heap (HB.out.kept eb HLT.out) 7).trans HC7.out; rw [← HSV.out] at hc) | (at_builtin; refine ap_lit1 rfl _ _ 26 26 rfl Tryz.underlying26 Tryz.underlying26 rfl rfl HB.out (by first | omega | (simp only [List.length_append, List.length_cons, List.length_nil, sby_length]; omega)) ?_; intro v3 w7 hn; replace HB := Lib.hid hn; clear hn hc; have hc := (cell_of_heap (HB.out.kept eb HLT.out) 7).trans HC7.out; rw [← HSV.out] at hc) | (at_builtin; refine ap_str rfl _ _ 26 rfl Tryz.underlying26 rfl rfl HB.out (by first | omega | (simp only [List.length_append, List.length_cons, List.length_nil, sby_length]; omega)) ?_; intro v3 w7 hn; replace HB := Lib.hid hn; clear hn hc; have hc := (cell_of_heap (HB.out.kept eb HLT.out) 7).trans HC7.out; rw [← HSV.out] at hc))
      go_meet
      case rel =>
        have h1 := HZS.out
        rw [flB_some _ _ HD.out.1] at h1
        rw [h1]
        have h2 := HB.out
        simp only [List.append_assoc] at h2 ⊢
        exact Lib.hid h2
  case rest =>
  clear HB hc hs hzl HZS
  have HB := hcut
  clear hcut
  have hc := (cell_of_heap (HB.out.kept eb HLT.out) 8).trans HC8.out
  have hs : (T 8).size ≤ 200 := HT.out 8
  have hzl := HZ.out 8
  have HZS : Hid (Z 9 = Z 8 ++ flB 113 (T 8)) := Lib.hid (by rw [HZE.out]; exact flZ_succ T X 8)
  obtain ⟨s, hsv⟩ : ∃ s, s = T 8 := ⟨_, rfl⟩
  have HSV := Lib.hid hsv
  rw [← hsv] at hc hs HZS 
  clear hsv
  go_upto_if 152 with fail
  go_cut [1] from 148 to 164 (fun v wx => Hid (Buf (Lt w.heap.size) w wx v (Z 9)))
  case first =>
    rcases empty_or s with rfl | ⟨hne, hnz⟩
    · simp only [empty_is, Bool.not_true]
      go_wp2_with fail
      go_meet
      case rel =>
        have h1 := HZS.out
        rw [flB_nil, List.append_nil] at h1
        rw [h1]
        exact HB
    · have HNZ := Lib.hid hnz
      clear hnz
      simp only [hne, Bool.not_false]
      go_wp2_with (first | (at_builtin; refine ap_lit1 rfl _ _ 26 26 rfl Tryz.underlying26 Tryz.underlying26 rfl rfl HB.out (by first | omega | (simp only [List.length_append, List.length_cons, List.length_nil, sby_length]; omega)) ?_; intro v3 w7 hn; replace HB := Lib.hid hn; clear hn hc; have hc := (cell_of_heap (HB.out.kept eb HLT.out) 8).trans HC8.out; rw [← HSV.out] at hc) | (at_builtin; refine ap_str rfl _ _ 26 rfl Tryz.underlying26 rfl rfl HB.out (by first | omega | (simp only [List.length_append, List.length_cons, List.length_nil, sby_length]; omega)) ?_; intro v3 w7 hn; replace HB := Lib.hid hn; clear hn hc; have hc := (cell_of_heap (HB.out.kept eb HLT.out) 8).trans HC8.out; rw [← HSV.out] at hc))
      go_meet
      case rel =>
        have h1 := HZS.out
        rw [flB_some _ _ HNZ.out] at h1
        rw [h1]
        have h2 := HB.out
        simp only [List.append_assoc] at h2 ⊢
        exact Lib.hid h2
  case rest =>
  clear HB hc hs hzl HZS
  have HB := hcut
  clear hcut
  have hc := (cell_of_heap (HB.out.kept eb HLT.out) 9).trans HC9.out
  have hs : (T 9).size ≤ 200 := HT.out 9
  have hzl := HZ.out 9
  have HZS : Hid (Z 10 = Z 9 ++ flB 87 (T 9)) := Lib.hid (by rw [HZE.out]; exact flZ_succ T X 9)
  obtain ⟨s, hsv⟩ : ∃ s, s = T 9 := ⟨_, rfl⟩
  have HSV := Lib.hid hsv
  rw [← hsv] at hc hs HZS 
  clear hsv
  go_upto_if 169 with fail
  go_cut [1] from 165 to 181 (fun v wx => Hid (Buf (Lt w.heap.size) w wx v (Z 10)))
  case first =>
    rcases empty_or s with rfl | ⟨hne, hnz⟩
    · simp only [empty_is, Bool.not_true]
      go_wp2_with fail
      go_meet
      case rel =>
        have h1 := HZS.out
        rw [flB_nil, List.append_nil] at h1
        rw [h1]
        exact HB
    · have HNZ := Lib.hid hnz
      clear hnz
      simp only [hne, Bool.not_false]
      go_wp2_with (first | (at_builtin; refine ap_lit1 rfl _ _ 26 26 rfl Tryz.underlying26 Tryz.underlying26 rfl rfl HB.out (by first | omega | (simp only [List.length_append, List.length_cons, List.length_nil, sby_length]; omega)) ?_; intro v3 w7 hn; replace HB := Lib.hid hn; clear hn hc; have hc := (cell_of_heap (HB.out.kept eb HLT.out) 9).trans HC9.out; rw [← HSV.out] at hc) | (at_builtin; refine ap_str rfl _ _ 26 rfl Tryz.underlying26 rfl rfl HB.out (by first | omega | (simp only [List.length_append, List.length_cons, List.length_nil, sby_length]; omega)) ?_; intro v3 w7 hn; replace HB := Lib.hid hn; clear hn hc; have hc := (cell_of_heap (HB.out.kept eb HLT.out) 9).trans HC9.out; rw [← HSV.out] at hc))
      go_meet
      case rel =>
        have h1 := HZS.out
        rw [flB_some _ _ HNZ.out] at h1
        rw [h1]
        have h2 := HB.out
        simp only [List.append_assoc] at h2 ⊢
        exact Lib.hid h2
  case rest =>
  clear HB hc hs hzl HZS
  have HB := hcut
  clear hcut
  have hc := (cell_of_heap (HB.out.kept eb HLT.out) 10).trans HC10.out
  have hs : (T 10).size ≤ 200 := HT.out 10
  have hzl := HZ.out 10
  have HZS : Hid (Z 11 = Z 10 ++ flB 115 (T 10)) := Lib.hid (by rw [HZE.out]; exact flZ_succ T X 10)
  obtain ⟨s, hsv⟩ : ∃ s, s = T 10 := ⟨_, rfl⟩
  have HSV := Lib.hid hsv
  rw [← hsv] at hc hs HZS 
  clear hsv
  go_upto_if 186 with fail
  go_cut [1] from 182 to 198 (fun v wx => Hid (Buf (Lt w.heap.size) w wx v (Z 11)))
  case first =>
    rcases empty_or s with rfl | ⟨hne, hnz⟩
    · simp only [empty_is, Bool.not_true]
      go_wp2_with fail
      go_meet
      case rel =>
        have h1 := HZS.out
        rw [flB_nil, List.append_nil] at h1
        rw [h1]
        exact HB
    · have HNZ := Lib.hid hnz
      clear hnz
      simp only [hne, Bool.not_false]
      go_wp2_with (first | (at_builtin; refine ap_lit1 rfl _ _ 26 26 rfl Tryz.underlying26 Tryz.underlying26 rfl rfl HB.out (by first | omega | (simp only [List.length_append, List.length_cons, List.length_nil, sby_length]; omega)) ?_; intro v3 w7 hn; replace HB := Lib.hid hn; clear hn hc; have hc := (cell_of_heap (HB.out.kept eb HLT.out) 10).trans HC10.out; rw [← HSV.out] at hc) | (at_builtin; refine ap_str rfl _ _ 26 rfl Tryz.underlying26 rfl rfl HB.out (by first | omega | (simp only [List.length_append, List.length_cons, List.length_nil, sby_length]; omega)) ?_; intro v3 w7 hn; replace HB := Lib.hid hn; clear hn hc; have hc := (cell_of_heap (HB.out.kept eb HLT.out) 10).trans HC10.out; rw [← HSV.out] at hc))
      go_meet
      case rel =>
        have h1 := HZS.out
        rw [flB_some _ _ HNZ.out] at h1
        rw [h1]
        have h2 := HB.out
        simp only [List.append_assoc] at h2 ⊢
        exact Lib.hid h2
  case rest =>
  clear HB hc hs hzl HZS
  have HB := hcut
  clear hcut
  have hc := (cell_of_heap (HB.out.kept eb HLT.out) 11).trans HC11.out
  have hs : (T 11).size ≤ 200 := HT.out 11
  have hzl := HZ.out 11
  have HZS : Hid (Z 12 = Z 11 ++ flB 116 (T 11)) := Lib.hid (by rw [HZE.out]; exact flZ_succ T X 11)
  obtain ⟨s, hsv⟩ : ∃ s, s = T 11 := ⟨_, rfl⟩
  have HSV := Lib.hid hsv
  rw [← hsv] at hc hs HZS 
  clear hsv
  go_upto_if 203 with fail
  go_cut [1] from 199 to 215 (fun v wx => Hid (Buf (Lt w.heap.size) w wx v (Z 12)))
  case first =>
    rcases empty_or s with rfl | ⟨hne, hnz⟩
    · simp only [empty_is, Bool.not_true]
      go_wp2_with fail
      go_meet
      case rel =>
        have h1 := HZS.out
        rw [flB_nil, List.append_nil] at h1
        rw [h1]
        exact HB
    · have HNZ := Lib.hid hnz
      clear hnz
      simp only [hne, Bool.not_false]
      go_wp2_with (first | (at_builtin; refine ap_lit1 rfl _ _ 26 26 rfl Tryz.underlying26 Tryz.underlying26 rfl rfl HB.out (by first | omega | (simp only [List.length_append, List.length_cons, List.length_nil, sby_length]; omega)) ?_; intro v3 w7 hn; replace HB := Lib.hid hn; clear hn hc; have hc := (cell_of_heap (HB.out.kept eb HLT.out) 11).trans HC11.out; rw [← HSV.out] at hc) | (at_builtin; refine ap_str rfl _ _ 26 rfl Tryz.underlying26 rfl rfl HB.out (by first | omega | (simp only [List.length_append, List.length_cons, List.length_nil, sby_length]; omega)) ?_; intro v3 w7 hn; replace HB := Lib.hid hn; clear hn hc; have hc := (cell_of_heap (HB.out.kept eb HLT.out) 11).trans HC11.out; rw [← HSV.out] at hc))
      go_meet
      case rel =>
        have h1 := HZS.out
        rw [flB_some _ _ HNZ.out] at h1
        rw [h1]
        have h2 := HB.out
        simp only [List.append_assoc] at h2 ⊢
        exact Lib.hid h2
  case rest =>
  clear HB hc hs hzl HZS
  have HB := hcut
  clear hcut
  have hc := (cell_of_heap (HB.out.kept eb HLT.out) 12).trans HC12.out
  have hs : (T 12).size ≤ 200 := HT.out 12
  have hzl := HZ.out 12
  have HZS : Hid (Z 13 = Z 12 ++ flB 99 (T 12)) := Lib.hid (by rw [HZE.out]; exact flZ_succ T X 12)
  obtain ⟨s, hsv⟩ : ∃ s, s = T 12 := ⟨_, rfl⟩
  have HSV := Lib.hid hsv
  rw [← hsv] at hc hs HZS 
  clear hsv
  go_upto_if 220 with fail
  go_cut [1] from 216 to 232 (fun v wx => Hid (Buf (Lt w.heap.size) w wx v (Z 13)))
  case first =>
    rcases empty_or s with rfl | ⟨hne, hnz⟩
    · simp only [empty_is, Bool.not_true]
      go_wp2_with fail
      go_meet
      case rel =>
        have h1 := HZS.out
        rw [flB_nil, List.append_nil] at h1
        rw [h1]
        exact HB
    · have HNZ := Lib.hid hnz
      clear hnz
      simp only [hne, Bool.not_false]
      go_wp2_with (first | (at_builtin; refine ap_lit1 rfl _ _ 26 26 rfl Tryz.underlying26 Tryz.underlying26 rfl rfl HB.out (by first | omega | (simp only [List.length_append, List.length_cons, List.length_nil, sby_length]; omega)) ?_; intro v3 w7 hn; replace HB := Lib.hid hn; clear hn hc; have hc := (cell_of_heap (HB.out.kept eb HLT.out) 12).trans HC12.out; rw [← HSV.out] at hc) | (at_builtin; refine ap_str rfl _ _ 26 rfl Tryz.underlying26 rfl rfl HB.out (by first | omega | (simp only [List.length_append, List.length_cons, List.length_nil, sby_length]; omega)) ?_; intro v3 w7 hn; replace HB := Lib.hid hn; clear hn hc; have hc := (cell_of_heap (HB.out.kept eb HLT.out) 12).trans HC12.out; rw [← HSV.out] at hc))
      go_meet
      case rel =>
        have h1 := HZS.out
        rw [flB_some _ _ HNZ.out] at h1
        rw [h1]
        have h2 := HB.out
        simp only [List.append_assoc] at h2 ⊢
        exact Lib.hid h2
  case rest =>
  clear HB hc hs hzl HZS
  have HB := hcut
  clear hcut
  have hc := (cell_of_heap (HB.out.kept eb HLT.out) 13).trans HC13.out
  have hs : (T 13).size ≤ 200 := HT.out 13
  have hzl := HZ.out 13
  have HZS : Hid (Z 14 = Z 13 ++ flB 100 (T 13)) := Lib.hid (by rw [HZE.out]; exact flZ_succ T X 13)
  obtain ⟨s, hsv⟩ : ∃ s, s = T 13 := ⟨_, rfl⟩
  have HSV := Lib.hid hsv
  rw [← hsv] at hc hs HZS 
  clear hsv
  go_upto_if 237 with fail
  go_cut [1] from 233 to 249 (fun v wx => Hid (Buf (Lt w.heap.size) w wx v (Z 14)))
  case first =>
    rcases empty_or s with rfl | ⟨hne, hnz⟩
    · simp only [empty_is, Bool.not_true]
      go_wp2_with fail
      go_meet
      case rel =>
        have h1 := HZS.out
        rw [flB_nil, List.append_nil] at h1
        rw [h1]
        exact HB
    · have HNZ := Lib.hid hnz
      clear hnz
      simp only [hne, Bool.not_false]
      go_wp2_with (first | (at_builtin; refine ap_lit1 rfl _ _ 26 26 rfl Tryz.underlying26 Tryz.underlying26 rfl rfl HB.out (by first | omega | (simp only [List.length_append, List.length_cons, List.length_nil, sby_length]; omega)) ?_; intro v3 w7 hn; replace HB := Lib.hid hn; clear hn hc; have hc := (cell_of_heap (HB.out.kept eb HLT.out) 13).trans HC13.out; rw [← HSV.out] at hc) | (at_builtin; refine ap_str rfl _ _ 26 rfl Tryz.underlying26 rfl rfl HB.out (by first | omega | (simp only [List.length_append, List.length_cons, List.length_nil, sby_length]; omega)) ?_; intro v3 w7 hn; replace HB := Lib.hid hn; clear hn hc; have hc := (cell_of_heap (HB.out.kept eb HLT.out) 13).trans HC13.out; rw [← HSV.out] at hc))
      go_meet
      case rel =>
        have h1 := HZS.out
        rw [flB_some _ _ HNZ.out] at h1
        rw [h1]
        have h2 := HB.out
        simp only [List.append_assoc] at h2 ⊢
        exact Lib.hid h2
  case rest =>
  clear HB hc hs hzl HZS
  have HB := hcut
  clear hcut
  have hc := (cell_of_heap (HB.out.kept eb HLT.out) 14).trans HC14.out
  have hs : (T 14).size ≤ 200 := HT.out 14
  have hzl := HZ.out 14
  have HZS : Hid (Z 15 = Z 14 ++ flB 110 (T 14)) := Lib.hid (by rw [HZE.out]; exact flZ_succ T X 14)
  obtain ⟨s, hsv⟩ : ∃ s, s = T 14 := ⟨_, rfl⟩
  have HSV := Lib.hid hsv
  rw [← hsv] at hc hs HZS 
  clear hsv
  go_upto_if 254 with fail
  go_cut [1] from 250 to 266 (fun v wx => Hid (Buf (Lt w.heap.size) w wx v (Z 15)))
  case first =>
    rcases empty_or s with rfl | ⟨hne, hnz⟩
    · simp only [empty_is, Bool.not_true]
      go_wp2_with fail
      go_meet
      case rel =>
        have h1 := HZS.out
        rw [flB_nil, List.append_nil] at h1
        rw [h1]
        exact HB
    · have HNZ := Lib.hid hnz
      clear hnz
      simp only [hne, Bool.not_false]
      go_wp2_with (first | (at_builtin; refine ap_lit1 rfl _ _ 26 26 rfl Tryz.underlying26 Tryz.underlying26 rfl rfl HB.out (by first | omega | (simp only [List.length_append, List.length_cons, List.length_nil, sby_length]; omega)) ?_; intro v3 w7 hn; replace HB := Lib.hid hn; clear hn hc; have hc := (cell_of_heap (HB.out.kept eb HLT.out) 14).trans HC14.out; rw [← HSV.out] at hc) | (at_builtin; refine ap_str rfl _ _ 26 rfl Tryz.underlying26 rfl rfl HB.out (by first | omega | (simp only [List.length_append, List.length_cons, List.length_nil, sby_length]; omega)) ?_; intro v3 w7 hn; replace HB := Lib.hid hn; clear hn hc; have hc := (cell_of_heap (HB.out.kept eb HLT.out) 14).trans HC14.out; rw [← HSV.out] at hc))
      go_meet
      case rel =>
        have h1 := HZS.out
        rw [flB_some _ _ HNZ.out] at h1
        rw [h1]
        have h2 := HB.out
        simp only [List.append_assoc] at h2 ⊢
        exact Lib.hid h2
  case rest =>
  clear HB hc hs hzl HZS
  have HB := hcut
  clear hcut
  have hc := (cell_of_heap (HB.out.kept eb HLT.out) 15).trans HC15.out
  have hs : (T 15).size ≤ 200 := HT.out 15
  have hzl := HZ.out 15
  have HZS : Hid (Z 16 = Z 15 ++ flB 70 (T 15)) := Lib.hid (by rw [HZE.out]; exact flZ_succ T X 15)
  obtain ⟨s, hsv⟩ : ∃ s, s = T 15 := ⟨_, rfl⟩
  have HSV := Lib.hid hsv
  rw [← hsv] at hc hs HZS 
  clear hsv
  go_upto_if 271 with fail
  go_cut [1] from 267 to 283 (fun v wx => Hid (Buf (Lt w.heap.size) w wx v (Z 16)))
  case first =>
    rcases empty_or s with rfl | ⟨hne, hnz⟩
    · simp only [empty_is, Bool.not_true]
      go_wp2_with fail
      go_meet
      case rel =>
        have h1 := HZS.out
        rw [flB_nil, List.append_nil] at h1
        rw [h1]
        exact HB
    · have HNZ := Lib.hid hnz
      clear hnz
      simp only [hne, Bool.not_false]
      go_wp2_with (first | (at_builtin; refine ap_lit1 rfl _ _ 26 26 rfl Tryz.underlying26 Tryz.underlying26 rfl rfl HB.out (by first | omega | (simp only [List.length_append, List.length_cons, List.length_nil, sby_length]; omega)) ?_; intro v3 w7 hn; replace HB := Lib.hid hn; clear hn hc; have hc := (cell_of_heap (HB.out.kept eb HLT.out) 15).trans HC15.out; rw [← HSV.out] at hc) | (at_builtin; refine ap_str rfl _ _ 26 rfl Tryz.underlying26 rfl rfl HB.out (by first | omega | (simp only [List.length_append, List.length_cons, List.length_nil, sby_length]; omega)) ?_; intro v3 w7 hn; replace HB := Lib.hid hn; clear hn hc; have hc := (cell_of_heap (HB.out.kept eb HLT.out) 15).trans HC15.out; rw [← HSV.out] at hc))
      go_meet
      case rel =>
        have h1 := HZS.out
        rw [flB_some _ _ HNZ.out] at h1
        rw [h1]
        have h2 := HB.out
        simp only [List.append_assoc] at h2 ⊢
        exact Lib.hid h2
  case rest =>
  clear HB hc hs hzl HZS
  have HB := hcut
  clear hcut
  have hc := (cell_of_heap (HB.out.kept eb HLT.out) 16).trans HC16.out
  have hs : (T 16).size ≤ 200 := HT.out 16
  have hzl := HZ.out 16
  have HZS : Hid (Z 17 = Z 16 ++ flB 76 (T 16)) := Lib.hid (by rw [HZE.out]; exact flZ_succ T X 16)
  have HNI := Lib.hid (HN.out 16 (by decide))
  obtain ⟨s, hsv⟩ : ∃ s, s = T 16 := ⟨_, rfl⟩
  have HSV := Lib.hid hsv
  rw [← hsv] at hc hs HZS HNI
  clear hsv
  go_upto_if 288 with fail
  go_cut [1] from 284 to 302 (fun v wx => Hid (Buf (Lt w.heap.size) w wx v (Z 17)))
  case first =>
    rcases HNI.out with rfl | hd
    · simp only [numS_nil]
      go_wp2_with fail
      go_meet
      case rel =>
        have h1 := HZS.out
        rw [flB_nil, List.append_nil] at h1
        rw [h1]
        exact HB
    · have HD := Lib.hid hd
      have hnz : (numS s == 0) = false := by have := (num_facts hd).2.1; exact beq_eq_false_iff_ne.2 (by omega)
      have hnz2 : (numS s != 0) = true := by rw [bne, hnz]; rfl
      have hwr : IntKind.i64.wrap (numS s) = numS s := by have := (num_facts hd).2.1; have := (num_facts hd).2.2.1; rw [IntKind.wrap_i64]; omega
      clear hd
      simp only [hnz, hnz2, Bool.not_false]
      go_wp2_with (first | (go_at_call 78; refine (itoa78 s HD.out _ (HTAB.out.ext HB.out.bel)).mono ?_; rintro e w6 ⟨rfl, hx⟩; replace HB := Lib.hid (HB.out.ext hx); clear hx hc; have hc := (cell_of_heap (HB.out.kept eb HLT.out) 16).trans HC16.out; rw [← HSV.out] at hc) | (at_builtin; refine ap_lit1 rfl _ _ 26 26 rfl Tryz.underlying26 Tryz.underlying26 rfl rfl HB.out (by first | omega | (simp only [List.length_append, List.length_cons, List.length_nil, sby_length]; omega)) ?_; intro v3 w7 hn; replace HB := Lib.hid hn; clear hn hc; have hc := (cell_of_heap (HB.out.kept eb HLT.out) 16).trans HC16.out; rw [← HSV.out] at hc) | (at_builtin; refine ap_str rfl _ _ 26 rfl Tryz.underlying26 rfl rfl HB.out (by first | omega | (simp only [List.length_append, List.length_cons, List.length_nil, sby_length]; omega)) ?_; intro v3 w7 hn; replace HB := Lib.hid hn; clear hn hc; have hc := (cell_of_heap (HB.out.kept eb HLT.out) 16).trans HC16.out; rw [← HSV.out] at hc))
      go_meet
      case rel =>
        have h1 := HZS.out
        rw [flB_some _ _ HD.out.1] at h1
        rw [h1]
        have h2 := HB.out
        simp only [List.append_assoc] at h2 ⊢
        exact Lib.hid h2
  case rest =>
  clear HB hc hs hzl HZS
  have HB := hcut
  clear hcut
  have hc := (cell_of_heap (HB.out.kept eb HLT.out) 17).trans HC17.out
  have hs : (T 17).size ≤ 200 := HT.out 17
  have hzl := HZ.out 17
  have HZS : Hid (Z 18 = Z 17 ++ flB 82 (T 17)) := Lib.hid (by rw [HZE.out]; exact flZ_succ T X 17)
  obtain ⟨s, hsv⟩ : ∃ s, s = T 17 := ⟨_, rfl⟩
  have HSV := Lib.hid hsv
  rw [← hsv] at hc hs HZS 
  clear hsv
  go_upto_if 307 with fail
  go_cut [1] from 303 to 319 (fun v wx => Hid (Buf (Lt w.heap.size) w wx v (Z 18)))
  case first =>
    rcases empty_or s with rfl | ⟨hne, hnz⟩
    · simp only [empty_is, Bool.not_true]
      go_wp2_with fail
      go_meet
      case rel =>
        have h1 := HZS.out
        rw [flB_nil, List.append_nil] at h1
        rw [h1]
        exact HB
    · have HNZ := Lib.hid hnz
      clear hnz
      simp only [hne, Bool.not_false]
      go_wp2_with (first | (at_builtin; refine ap_lit1 rfl _ _ 26 26 rfl Tryz.underlying26 Tryz.underlying26 rfl rfl HB.out (by first | omega | (simp only [List.length_append, List.length_cons, List.length_nil, sby_length]; omega)) ?_; intro v3 w7 hn; replace HB := Lib.hid hn; clear hn hc; have hc := (cell_of_heap (HB.out.kept eb HLT.out) 17).trans HC17.out; rw [← HSV.out] at hc) | (at_builtin; refine ap_str rfl _ _ 26 rfl Tryz.underlying26 rfl rfl HB.out (by first | omega | (simp only [List.length_append, List.length_cons, List.length_nil, sby_length]; omega)) ?_; intro v3 w7 hn; replace HB := Lib.hid hn; clear hn hc; have hc := (cell_of_heap (HB.out.kept eb HLT.out) 17).trans HC17.out; rw [← HSV.out] at hc))
      go_meet
      case rel =>
        have h1 := HZS.out
        rw [flB_some _ _ HNZ.out] at h1
        rw [h1]
        have h2 := HB.out
        simp only [List.append_assoc] at h2 ⊢
        exact Lib.hid h2
  case rest =>
  clear HB hc hs hzl HZS
  have HB := hcut
  clear hcut
  have hc := (cell_of_heap (HB.out.kept eb HLT.out) 18).trans HC18.out
  have hzl := HZ.out 18
  go_wp2_with (go_at_call 296; refine (names296 _).mono ?_; rintro e w6 ⟨rfl, hx⟩; replace HB := Lib.hid (HB.out.ext hx); clear hx hc)
  refine wp_loop_rounds 1 ?_
  rw [rounds_succ]
  go_wp2_with (at_builtin; refine ap_lit1 rfl _ _ 26 26 rfl Tryz.underlying26 Tryz.underlying26 rfl rfl HB.out (by first | omega | (simp only [List.length_append, List.length_cons, List.length_nil, sby_length]; omega)) ?_; intro v3 w7 hn; replace HB := Lib.hid hn; clear hn)
  go_ret
  exact ⟨_, rfl, by rw [← HZE.out]; exact HB.out⟩
end Go.Proofs.YtdenjanihikolaaGreatDoor

namespace Go.Proofs.YtdenjanihikolaaGreatDoor
open Go.RowKit
set_option linter.unusedVariables false
set_option linter.unusedSimpArgs false
def flT (T : Nat → ByteArray) : List Int := (List.range 18).flatMap fun i => flB (ls18.getD i 0) (T i)
theorem flZ_eq (T : Nat → ByteArray) (X : List Int) : flZ T X 18 = X ++ flT T := rfl
theorem flT_len (T : Nat → ByteArray) (h : ∀ i, (T i).size ≤ 200) : (flT T).length ≤ 4000 := by
  have h1 := flZ_len T [] h (by simp) 18
  rw [flZ_eq, List.nil_append] at h1
  omega
set_option maxRecDepth 100000 in
theorem encError (T : Nat → ByteArray) (eb : Nat) (w : World) (hblk : w.heap[eb]? = some (.cells (errCells T) 216 (0, 0))) (hT : ∀ i, (T i).size ≤ 200) (hN : ∀ i, i = 6 ∨ i = 7 ∨ i = 16 → T i = ⟨#[]⟩ ∨ digP (T i)) (htab : Tab w) (R : List Int) (HR : Hid (R = msgB 69 (flT T ++ [0]))) :
    Calls Tryz.prog 293 #[.pointer (some ⟨eb, 0, none⟩), .slice none 0 0] w (Gives w R) := by
  have HB := Lib.hid (Buf.nil w)
  have HLEN := Lib.hid (flT_len T hT)
  have HK := Lib.hid (And.intro hblk (And.intro hT (And.intro hN htab)))
  clear hblk hT hN htab
  go_enter Tryz.func293, Tryz.ntmps293
  go_wp2_with (first | (go_at_call 139; refine (begin_any _ _ _ _ HB.out (by simp)).mono ?_; rintro e w1 ⟨v1, rfl, hn⟩; replace HB := Lib.hid hn; clear hn) | (go_at_call 295; refine (fields295 T eb 216 _ _ _ _ HK.out.1 HK.out.2.1 HK.out.2.2.1 HK.out.2.2.2 HB.out (by simp)).mono ?_; rintro e w2 ⟨v2, rfl, hn⟩; replace HB := Lib.hid hn; clear hn) | (go_at_call 143; refine (finish1 _ 69 _ (flT T ++ [0]) _ HB.out (by rw [flZ_eq]; simp only [List.append_assoc, List.cons_append, List.nil_append]) (by have := HLEN.out; simp only [List.length_append, List.length_cons, List.length_nil]; omega)).mono ?_; rintro e w3 ⟨v3, rfl, hn⟩; replace HB := Lib.hid hn; clear hn))
  go_ret2
  exact gives_of HB.out HR.out
set_option maxRecDepth 100000 in
theorem encNotice (T : Nat → ByteArray) (eb : Nat) (w : World) (hblk : w.heap[eb]? = some (.cells (errCells T) 218 (0, 0))) (hT : ∀ i, (T i).size ≤ 200) (hN : ∀ i, i = 6 ∨ i = 7 ∨ i = 16 → T i = ⟨#[]⟩ ∨ digP (T i)) (htab : Tab w) (R : List Int) (HR : Hid (R = msgB 78 (flT T ++ [0]))) :
    Calls Tryz.prog 315 #[.pointer (some ⟨eb, 0, none⟩), .slice none 0 0] w (Gives w R) := by
  have HB := Lib.hid (Buf.nil w)
  have HLEN := Lib.hid (flT_len T hT)
  have HK := Lib.hid (And.intro hblk (And.intro hT (And.intro hN htab)))
  clear hblk hT hN htab
  go_enter Tryz.func315, Tryz.ntmps315
  go_wp2_with (first | (go_at_call 139; refine (begin_any _ _ _ _ HB.out (by simp)).mono ?_; rintro e w1 ⟨v1, rfl, hn⟩; replace HB := Lib.hid hn; clear hn) | (go_at_call 295; refine (fields295 T eb 218 _ _ _ _ HK.out.1 HK.out.2.1 HK.out.2.2.1 HK.out.2.2.2 HB.out (by simp)).mono ?_; rintro e w2 ⟨v2, rfl, hn⟩; replace HB := Lib.hid hn; clear hn) | (go_at_call 143; refine (finish1 _ 78 _ (flT T ++ [0]) _ HB.out (by rw [flZ_eq]; simp only [List.append_assoc, List.cons_append, List.nil_append]) (by have := HLEN.out; simp only [List.length_append, List.length_cons, List.length_nil]; omega)).mono ?_; rintro e w3 ⟨v3, rfl, hn⟩; replace HB := Lib.hid hn; clear hn))
  go_ret2
  exact gives_of HB.out HR.out
end Go.Proofs.YtdenjanihikolaaGreatDoor

namespace Go.Proofs.YtdenjanihikolaaGreatDoor
open Go.RowKit Go.Maps Og
set_option linter.unusedVariables false
set_option linter.unusedSimpArgs false
def updT (T : Nat → ByteArray) (j : Nat) (v : ByteArray) : Nat → ByteArray := fun i => if i = j then v else T i
def numJ (j : Nat) : Prop := j = 6 ∨ j = 7 ∨ j = 16
instance (j : Nat) : Decidable (numJ j) := by unfold numJ; infer_instance
/-- The slot of a letter. -/
def slotC (c : Int) : Nat := ls18.idxOf c
def cOf (x : ByteArray) : Int := ((x.data.toList.headD 0).toNat : Int)
def tOf (ps : List (ByteArray × ByteArray)) : Nat → ByteArray := ps.foldl (fun T p => updT T (slotC (cOf p.1)) p.2) (fun _ => ⟨#[]⟩)
theorem tOf_snoc (ps : List (ByteArray × ByteArray)) (p : ByteArray × ByteArray) : tOf (ps ++ [p]) = updT (tOf ps) (slotC (cOf p.1)) p.2 := by
  simp [tOf, List.foldl_append]
theorem cases18 {j : Nat} (h : j < 18) : j = 0 ∨ j = 1 ∨ j = 2 ∨ j = 3 ∨ j = 4 ∨ j = 5 ∨ j = 6 ∨ j = 7 ∨ j = 8 ∨ j = 9 ∨ j = 10 ∨ j = 11 ∨ j = 12 ∨ j = 13 ∨ j = 14 ∨ j = 15 ∨ j = 16 ∨ j = 17 := by omega
theorem slot_at {j : Nat} (h : j < 18) : slotC (ls18.getD j 0) = j := by
  rcases cases18 h with rfl | rfl | rfl | rfl | rfl | rfl | rfl | rfl | rfl | rfl | rfl | rfl | rfl | rfl | rfl | rfl | rfl | rfl <;> decide
theorem cell_txt (T : Nat → ByteArray) {j : Nat} (h : j < 18) (hn : ¬ numJ j) : (errCells T)[j]? = some (.string (T j)) := by
  rcases cases18 h with rfl | rfl | rfl | rfl | rfl | rfl | rfl | rfl | rfl | rfl | rfl | rfl | rfl | rfl | rfl | rfl | rfl | rfl <;> first | rfl | exact absurd (by decide) hn
theorem cell_num (T : Nat → ByteArray) {j : Nat} (hn : numJ j) : (errCells T)[j]? = some (.int .i32 (numS (T j))) := by
  rcases hn with rfl | rfl | rfl <;> rfl
theorem set_txt (T : Nat → ByteArray) (v : ByteArray) {j : Nat} (h : j < 18) (hn : ¬ numJ j) : (errCells T).setIfInBounds j (.string v) = errCells (updT T j v) := by
  rcases cases18 h with rfl | rfl | rfl | rfl | rfl | rfl | rfl | rfl | rfl | rfl | rfl | rfl | rfl | rfl | rfl | rfl | rfl | rfl <;> first | rfl | exact absurd (by decide) hn
theorem set_num (T : Nat → ByteArray) (v : ByteArray) {j : Nat} (hn : numJ j) : (errCells T).setIfInBounds j (.int .i32 (numS v)) = errCells (updT T j v) := by
  rcases hn with rfl | rfl | rfl <;> rfl
theorem pick_txt {L : Nat → Bool} (h : ∀ e ∈ tab73, L e.1 = true) {j : Nat} (hj : j < 18) (hn : ¬ numJ j) (z : DataW Unit) : pick L (ls18.getD j 0) z tab73 = .lit (.int .i64 j) := by
  have h1 := h (4, 83, 0) (by decide)
  have h2 := h (8, 86, 1) (by decide)
  have h3 := h (12, 67, 2) (by decide)
  have h4 := h (16, 77, 3) (by decide)
  have h5 := h (20, 68, 4) (by decide)
  have h6 := h (24, 72, 5) (by decide)
  have h7 := h (28, 113, 8) (by decide)
  have h8 := h (32, 87, 9) (by decide)
  have h9 := h (36, 115, 10) (by decide)
  have h10 := h (40, 116, 11) (by decide)
  have h11 := h (44, 99, 12) (by decide)
  have h12 := h (48, 100, 13) (by decide)
  have h13 := h (52, 110, 14) (by decide)
  have h14 := h (56, 70, 15) (by decide)
  have h15 := h (60, 82, 17) (by decide)
  simp only [] at h1 h2 h3 h4 h5 h6 h7 h8 h9 h10 h11 h12 h13 h14 h15
  rcases cases18 hj with rfl | rfl | rfl | rfl | rfl | rfl | rfl | rfl | rfl | rfl | rfl | rfl | rfl | rfl | rfl | rfl | rfl | rfl <;> first | (exact absurd (by decide) hn) | simp [pick, tab73, ls18, h1, h2, h3, h4, h5, h6, h7, h8, h9, h10, h11, h12, h13, h14, h15]
theorem pick_num73 {L : Nat → Bool} {j : Nat} (hn : numJ j) (z : DataW Unit) : pick L (ls18.getD j 0) z tab73 = z := by
  rcases hn with rfl | rfl | rfl <;> simp [pick, tab73, ls18]
theorem pick_num {L : Nat → Bool} (h : ∀ e ∈ tab74, L e.1 = true) {j : Nat} (hn : numJ j) (z : DataW Unit) : pick L (ls18.getD j 0) z tab74 = .lit (.int .i64 j) := by
  have h1 := h (4, 80, 6) (by decide)
  have h2 := h (8, 112, 7) (by decide)
  have h3 := h (12, 76, 16) (by decide)
  simp only [] at h1 h2 h3
  rcases hn with rfl | rfl | rfl <;> simp [pick, tab74, ls18, h1, h2, h3]
theorem MapOwn.kept {eb : Nat} {tab : List (Nat × Int × Nat)} {L : Nat → Bool} {b : Nat} {w w' : World} (h : MapOwn eb tab L b w) (hk : w'.heap[b]? = w.heap[b]?) : MapOwn eb tab L b w' := by
  obtain ⟨n, D, h1, ⟨es, clock, hb, h2⟩, h3, h4⟩ := h
  exact ⟨n, D, h1, ⟨es, clock, hk.trans hb, h2⟩, h3, h4⟩
theorem MapOwn.lt {eb : Nat} {tab : List (Nat × Int × Nat)} {L : Nat → Bool} {b : Nat} {w : World} (h : MapOwn eb tab L b w) : b < w.heap.size := by
  obtain ⟨n, D, h1, h2, h3, h4⟩ := h
  exact h2.lt
/-- A letter of a field. -/
theorem let_of {x : ByteArray} (h : letP x) : ∃ j, j < 18 ∧ cOf x = ls18.getD j 0 ∧ x.size = 1 := by
  obtain ⟨j, hj, he⟩ := h
  refine ⟨j, hj, ?_⟩
  have e2 : x.data.toList = [UInt8.ofNat (ls18.getD j 0).toNat] := by
    rw [← ByteArray.toList_eq, he, ByteArray.toList_eq]
    rcases cases18 hj with rfl | rfl | rfl | rfl | rfl | rfl | rfl | rfl | rfl | rfl | rfl | rfl | rfl | rfl | rfl | rfl | rfl | rfl <;> rfl
  refine ⟨?_, ?_⟩
  · unfold cOf
    rw [e2]
    rcases cases18 hj with rfl | rfl | rfl | rfl | rfl | rfl | rfl | rfl | rfl | rfl | rfl | rfl | rfl | rfl | rfl | rfl | rfl | rfl <;> rfl
  · have h3 := len_of x
    rw [e2] at h3
    exact h3.symm
end Go.Proofs.YtdenjanihikolaaGreatDoor
