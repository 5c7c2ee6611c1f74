/- Bind's Decode on a strict prefix of a body. -/
import Derived.Test.YtdenjanihikolaaGreatDoorUDci
namespace Go.Proofs.YtdenjanihikolaaGreatDoor
open Go.RowKit Og
set_option linter.unusedVariables false
set_option linter.unusedSimpArgs false

set_option maxRecDepth 100000 in
set_option maxHeartbeats 8000000 in
theorem cut0 (a c : ByteArray) (lf lr : List Int) (vls : List (Bool × List Int)) (ha : plainP a) (hc : plainP c) (hlf : lf.length ≤ 20) (hgf : ∀ y ∈ lf, 0 ≤ y ∧ y < 32768) (hlv : vls.length ≤ 20) (hgv : ∀ y ∈ vls, y.2.length ≤ 200) (hlr : lr.length ≤ 20) (xs : List Int) (hx : SPre xs (sby a ++ 0 :: (sby c ++ 0 :: (numB (lf.length : Int) 2 ++ ((lf.flatMap fun n => numB n 2) ++ (numB (vls.length : Int) 2 ++ ((vls.flatMap fun x => valB x.1 x.2) ++ (numB (lr.length : Int) 2 ++ (lr.flatMap fun n => numB n 2))))))))) (hl : xs.length ≤ 100000) (wd : World) (b : Nat) (v : Value) (hb : wd.heap[b]? = some (.cells #[.string ⟨#[]⟩, .string ⟨#[]⟩, .slice none 0 0, .slice none 0 0, .slice none 0 0] 107 (0, 0))) (hv : RdB wd v xs) (hof : v.ownBlock ≠ some b) :
    Calls Tryz.prog 133 #[.pointer (some ⟨b, 0, none⟩), v] wd (NotD b wd) := by
  obtain ⟨A, c9, hvA⟩ := hv.len
  subst hvA
  obtain ⟨N, hN⟩ : ∃ m, m = xs.length := ⟨_, rfl⟩
  have HV : Hid (RdN b wd (.slice A xs.length c9) xs) := Lib.hid ⟨hv, fun _ => hof⟩
  have HLT := Lib.hid (lt_of_block hb)
  have HBK := Lib.hid hb
  have HGF := Lib.hid hgf
  have HGV := Lib.hid hgv
  have HX : Hid (ExtBut b wd wd) := Lib.hid (Ext.refl wd).but
  have hck0 := cell_slot hb 0 _ rfl
  have hfk0 := free_slot hb 0
  have hck1 := cell_slot hb 1 _ rfl
  have hfk1 := free_slot hb 1
  have hck2 := cell_slot hb 2 _ rfl
  have hfk2 := free_slot hb 2
  have hck3 := cell_slot hb 3 _ rfl
  have hfk3 := free_slot hb 3
  have hck4 := cell_slot hb 4 _ rfl
  have hfk4 := free_slot hb 4
  have hcap := hv.parts.2.1
  have HCM := Lib.hid hv.parts.2.2
  have HPa := Lib.hid (plain_pos ha)
  have HPc := Lib.hid (plain_pos hc)
  have hla : (sby a).length ≤ 200 := by rw [sby_length]; exact ha.1
  have hlc : (sby c).length ≤ 200 := by rw [sby_length]; exact hc.1
  have HNF : Hid (0 ≤ (lf.length : Int) ∧ (lf.length : Int) < 65536) := Lib.hid (by omega)
  have HNV : Hid (0 ≤ (vls.length : Int) ∧ (vls.length : Int) < 65536) := Lib.hid (by omega)
  have HNR : Hid (0 ≤ (lr.length : Int) ∧ (lr.length : Int) < 65536) := Lib.hid (by omega)
  rw [← hN] at hcap HV hl
  rw [← hN]
  clear hv hof hb hgf hgv
  rcases hx.textm with h0 | ⟨R1, hR1, hS1⟩
  · have HE := Lib.hid (show ∀ y ∈ xs, 0 < y ∧ y < 256 from fun y hy => HPa.out y (h0 y hy))
    clear hx h0 hN
    go_enter Tryz.func133, Tryz.ntmps133
    go_wp2_with (go_at_call_of 136 A; refine (idx_none _ _ _ _ _ (HV.out.at_ (by exact (((((HX.out.set _ _).set _ _).set _ _).set _ _).set _ _))).1 HE.out).mono ?_; rintro e w3 ⟨rfl, hw3⟩; have HXn : Hid (ExtBut b wd w3) := Lib.hid (by rw [hw3]; exact (((((HX.out.set _ _).set _ _).set _ _).set _ _).set _ _)); have HBn : Hid (w3.heap[b]? = some (.cells #[.string ⟨#[]⟩, .string ⟨#[]⟩, .slice none 0 0, .slice none 0 0, .slice none 0 0] 107 (0, 0))) := Lib.hid (by rw [hw3]; exact slot_setCell (slot_setCell (slot_setCell (slot_setCell (slot_setCell HBK.out))))); clear HX HBK; have HX := HXn; have HBK := HBn; clear HXn HBn hw3; (try clear hck0); (try clear hfk0); (try clear hck1); (try clear hfk1); (try clear hck2); (try clear hfk2); (try clear hck3); (try clear hfk3); (try clear hck4); (try clear hfk4); have hck0 := cell_slot HBK.out 0 _ rfl; have hfk0 := free_slot HBK.out 0; have hck1 := cell_slot HBK.out 1 _ rfl; have hfk1 := free_slot HBK.out 1; have hck2 := cell_slot HBK.out 2 _ rfl; have hfk2 := free_slot HBK.out 2; have hck3 := cell_slot HBK.out 3 _ rfl; have hfk3 := free_slot HBK.out 3; have hck4 := cell_slot HBK.out 4 _ rfl; have hfk4 := free_slot HBK.out 4)
    (go_ret; exact ⟨_, _, rfl, by first | exact HX.out | exact HX.out.trans (ext_alloc _ _).but | exact HXE.out.trans (ext_alloc _ _).but | exact ((HX.out.set _ _).trans (ext_alloc _ _).but) | exact (HXE.out.trans ((Ext.refl _).drewN _).but).trans (ext_alloc _ _).but⟩)
  · have hNl : N = (sby a).length + 1 + R1.length := by rw [hN, hR1]; simp only [List.length_append, List.length_cons]; omega
    have HNA : Hid ((sby a).length ≤ N) := Lib.hid (by omega)
    have hna1 : (sby a).length + 1 ≤ N := by omega
    have HV1 : Hid (RdN b wd (.slice A N c9) (sby a ++ 0 :: R1)) := Lib.hid (by have h9 := HV.out; rwa [hR1] at h9)
    have HTA : Hid (xs.take (sby a).length = sby a) := Lib.hid (by rw [hR1, List.take_left])
    obtain ⟨A4, c4, hsl, hsr⟩ := sl_at A N c9 ((sby a).length + 1) (by omega) hcap HCM.out
    have hN4 : N - ((sby a).length + 1) = R1.length := by omega
    rw [hN4] at hsl
    have hd1 : xs.drop ((sby a).length + 1) = R1 := by
      have h9 := drop_step (xs := xs) (B := sby a ++ [0]) (T := R1) (a := 0) (m := (sby a).length + 1) (by rw [hR1]; simp) (by simp)
      rwa [Nat.zero_add] at h9
    have HD0 : Hid (RdN b wd (.slice A4 R1.length c4) R1) := Lib.hid (by have h9 := hsr b wd xs HV.out; rwa [hd1, hN4] at h9)
    clear hsr hx hN hN4
    rcases hS1.textm with h0 | ⟨R, hR, hS⟩
    · have HE := Lib.hid (show ∀ y ∈ R1, 0 < y ∧ y < 256 from fun y hy => HPc.out y (h0 y hy))
      have HD1 := HD0
      clear h0 hS1 hNl hR1 hd1
      go_enter Tryz.func133, Tryz.ntmps133
      go_wp2_with (first | (go_at_call_of 136 A; refine (idx_found _ _ _ _ _ _ (HV1.out.at_ (by exact (((((HX.out.set _ _).set _ _).set _ _).set _ _).set _ _))).1 HPa.out).mono ?_; rintro e w3 ⟨rfl, hw3⟩; have HXn : Hid (ExtBut b wd w3) := Lib.hid (by rw [hw3]; exact (((((HX.out.set _ _).set _ _).set _ _).set _ _).set _ _)); have HBn : Hid (w3.heap[b]? = some (.cells #[.string ⟨#[]⟩, .string ⟨#[]⟩, .slice none 0 0, .slice none 0 0, .slice none 0 0] 107 (0, 0))) := Lib.hid (by rw [hw3]; exact slot_setCell (slot_setCell (slot_setCell (slot_setCell (slot_setCell HBK.out))))); clear HX HBK; have HX := HXn; have HBK := HBn; clear HXn HBn hw3; (try clear hck0); (try clear hfk0); (try clear hck1); (try clear hfk1); (try clear hck2); (try clear hfk2); (try clear hck3); (try clear hfk3); (try clear hck4); (try clear hfk4); have hck0 := cell_slot HBK.out 0 _ rfl; have hfk0 := free_slot HBK.out 0; have hck1 := cell_slot HBK.out 1 _ rfl; have hfk1 := free_slot HBK.out 1; have hck2 := cell_slot HBK.out 2 _ rfl; have hfk2 := free_slot HBK.out 2; have hck3 := cell_slot HBK.out 3 _ rfl; have hfk3 := free_slot HBK.out 3; have hck4 := cell_slot HBK.out 4 _ rfl; have hfk4 := free_slot HBK.out 4; have hcv1 := conv_rd (show RdB w3 (.slice A (sby a).length c9) (sby a) from by (have h9 := ((HV.out.at_ HX.out).1).take (sby a).length HNA.out; rw [HTA.out] at h9; exact h9))) | (go_at_call_of 136 A4; refine (idx_none _ _ _ _ _ (HD1.out.at_ (by exact HX.out.set _ _)).1 HE.out).mono ?_; rintro e w3 ⟨rfl, hw3⟩; have HXn : Hid (ExtBut b wd w3) := Lib.hid (by rw [hw3]; exact (HX.out.set _ _)); have HBn : Hid (w3.heap[b]? = some (.cells #[.string (strOf (sby a)), .string ⟨#[]⟩, .slice none 0 0, .slice none 0 0, .slice none 0 0] 107 (0, 0))) := Lib.hid (by rw [hw3]; exact slot_setCell HBK.out); clear HX HBK; have HX := HXn; have HBK := HBn; clear HXn HBn hw3; (try clear hck0); (try clear hfk0); (try clear hck1); (try clear hfk1); (try clear hck2); (try clear hfk2); (try clear hck3); (try clear hfk3); (try clear hck4); (try clear hfk4); have hck0 := cell_slot HBK.out 0 _ rfl; have hfk0 := free_slot HBK.out 0; have hck1 := cell_slot HBK.out 1 _ rfl; have hfk1 := free_slot HBK.out 1; have hck2 := cell_slot HBK.out 2 _ rfl; have hfk2 := free_slot HBK.out 2; have hck3 := cell_slot HBK.out 3 _ rfl; have hfk3 := free_slot HBK.out 3; have hck4 := cell_slot HBK.out 4 _ rfl; have hfk4 := free_slot HBK.out 4))
      (go_ret; exact ⟨_, _, rfl, by first | exact HX.out | exact HX.out.trans (ext_alloc _ _).but | exact HXE.out.trans (ext_alloc _ _).but | exact ((HX.out.set _ _).trans (ext_alloc _ _).but) | exact (HXE.out.trans ((Ext.refl _).drewN _).but).trans (ext_alloc _ _).but⟩)
    · have HD1 : Hid (RdN b wd (.slice A4 R1.length c4) (sby c ++ 0 :: R)) := Lib.hid (by rw [← hR]; exact HD0.out)
      have hl1 : R1.length = (sby c).length + 1 + R.length := by rw [hR]; simp only [List.length_append, List.length_cons]; omega
      have HLP : Hid (N = (sby a).length + 1 + ((sby c).length + 1) + R.length) := Lib.hid (by omega)
      have hP : xs.drop ((sby a).length + 1 + ((sby c).length + 1)) = R := drop_step (B := sby c ++ [0]) (by rw [hd1, hR]; simp) (by simp)
      obtain ⟨A5, c5, hs5, hr5⟩ := sl_midr A N c9 ((sby a).length + 1) (sby c).length (by omega) hcap HCM.out
      have HR5 : Hid (RdN b wd (.slice A5 (sby c).length c5) (sby c)) := Lib.hid (by have h9 := hr5 b wd xs HV.out; rwa [hd1, hR, List.take_left] at h9)
      have hnc1 : (sby a).length + 1 + ((sby c).length + 1) ≤ N := by omega
      clear hr5 hS1 hR hR1 hd1 HD0
      have hNBf : N - ((sby a).length + 1 + ((sby c).length + 1)) = R.length := by have := HLP.out; omega
      obtain ⟨Bf, dBf, hsBf, hrBf⟩ := sl_at A N c9 ((sby a).length + 1 + ((sby c).length + 1)) (by have := HLP.out; omega) hcap HCM.out
      rw [hNBf] at hsBf
      clear hl1 hNl
      rcases hS.fixed with h0 | ⟨Rf, hRf, hSf⟩
      · rw [numB_len] at h0
        clear hrBf hS hP
        go_enter Tryz.func133, Tryz.ntmps133; go_wp2_with (first | (go_at_call_of 136 A; refine (idx_found _ _ _ _ _ _ (HV1.out.at_ (by exact (((((HX.out.set _ _).set _ _).set _ _).set _ _).set _ _))).1 HPa.out).mono ?_; rintro e w3 ⟨rfl, hw3⟩; have HXn : Hid (ExtBut b wd w3) := Lib.hid (by rw [hw3]; exact (((((HX.out.set _ _).set _ _).set _ _).set _ _).set _ _)); have HBn : Hid (w3.heap[b]? = some (.cells #[.string ⟨#[]⟩, .string ⟨#[]⟩, .slice none 0 0, .slice none 0 0, .slice none 0 0] 107 (0, 0))) := Lib.hid (by rw [hw3]; exact slot_setCell (slot_setCell (slot_setCell (slot_setCell (slot_setCell HBK.out))))); clear HX HBK; have HX := HXn; have HBK := HBn; clear HXn HBn hw3; (try clear hck0); (try clear hfk0); (try clear hck1); (try clear hfk1); (try clear hck2); (try clear hfk2); (try clear hck3); (try clear hfk3); (try clear hck4); (try clear hfk4); have hck0 := cell_slot HBK.out 0 _ rfl; have hfk0 := free_slot HBK.out 0; have hck1 := cell_slot HBK.out 1 _ rfl; have hfk1 := free_slot HBK.out 1; have hck2 := cell_slot HBK.out 2 _ rfl; have hfk2 := free_slot HBK.out 2; have hck3 := cell_slot HBK.out 3 _ rfl; have hfk3 := free_slot HBK.out 3; have hck4 := cell_slot HBK.out 4 _ rfl; have hfk4 := free_slot HBK.out 4; have hcv1 := conv_rd (show RdB w3 (.slice A (sby a).length c9) (sby a) from by (have h9 := ((HV.out.at_ HX.out).1).take (sby a).length HNA.out; rw [HTA.out] at h9; exact h9))) | (go_at_call_of 136 A4; refine (idx_found _ _ _ _ _ _ (HD1.out.at_ (by exact HX.out.set _ _)).1 HPc.out).mono ?_; rintro e w3 ⟨rfl, hw3⟩; have HXn : Hid (ExtBut b wd w3) := Lib.hid (by rw [hw3]; exact (HX.out.set _ _)); have HBn : Hid (w3.heap[b]? = some (.cells #[.string (strOf (sby a)), .string ⟨#[]⟩, .slice none 0 0, .slice none 0 0, .slice none 0 0] 107 (0, 0))) := Lib.hid (by rw [hw3]; exact slot_setCell HBK.out); clear HX HBK; have HX := HXn; have HBK := HBn; clear HXn HBn hw3; (try clear hck0); (try clear hfk0); (try clear hck1); (try clear hfk1); (try clear hck2); (try clear hfk2); (try clear hck3); (try clear hfk3); (try clear hck4); (try clear hfk4); have hck0 := cell_slot HBK.out 0 _ rfl; have hfk0 := free_slot HBK.out 0; have hck1 := cell_slot HBK.out 1 _ rfl; have hfk1 := free_slot HBK.out 1; have hck2 := cell_slot HBK.out 2 _ rfl; have hfk2 := free_slot HBK.out 2; have hck3 := cell_slot HBK.out 3 _ rfl; have hfk3 := free_slot HBK.out 3; have hck4 := cell_slot HBK.out 4 _ rfl; have hfk4 := free_slot HBK.out 4; have hcv2 := conv_rd (show RdB w3 (.slice A5 (sby c).length c5) (sby c) from (HR5.out.at_ HX.out).1)))
        all_goals (go_ret; exact ⟨_, _, rfl, by first | exact HX.out | exact HX.out.trans (ext_alloc _ _).but | exact HXE.out.trans (ext_alloc _ _).but | exact ((HX.out.set _ _).trans (ext_alloc _ _).but) | exact (HXE.out.trans ((Ext.refl _).drewN _).but).trans (ext_alloc _ _).but⟩)
      · skip
        have h2Bf : ¬ R.length < 2 := by rw [hRf, List.length_append, numB_len]; omega
        have hlBf : R.length = 2 + Rf.length := by rw [hRf, List.length_append, numB_len]
        have HQBf : Hid (∀ w, ExtBut b wd w → RdB w (.slice Bf R.length dBf) (numB (lf.length : Int) 2 ++ Rf)) := Lib.hid (fun w hw => by have h9 := (hrBf b wd xs HV.out).at_ hw; rw [hP, hNBf] at h9; have h8 := h9.1; rwa [show R = numB (lf.length : Int) 2 ++ Rf from hRf] at h8 ⊢)
        have hPBf : xs.drop ((sby a).length + 1 + ((sby c).length + 1) + 2) = Rf := drop_step (by rw [hP, hRf]) (by rw [numB_len])
        have HLF : Hid (N = (sby a).length + 1 + ((sby c).length + 1) + 2 + Rf.length) := Lib.hid (by have := HLP.out; omega)
        by_cases hf0 : lf.length = 0
        · have hfn : lf = [] := List.eq_nil_of_length_eq_zero hf0
          have hS9 : SPre Rf (numB (vls.length : Int) 2 ++ ((vls.flatMap fun x => valB x.1 x.2) ++ (numB (lr.length : Int) 2 ++ (lr.flatMap fun n => numB n 2)))) := by rw [hfn] at hSf; simpa using hSf
          clear hSf hS hrBf hfn hP hRf hlBf HLP
          have hS := hS9
          have hP := hPBf
          have HLP := HLF
          clear hS9 hPBf HLF
          have hNBv : N - ((sby a).length + 1 + ((sby c).length + 1) + 2) = Rf.length := by have := HLP.out; omega
          obtain ⟨Bv, dBv, hsBv, hrBv⟩ := sl_at A N c9 ((sby a).length + 1 + ((sby c).length + 1) + 2) (by have := HLP.out; omega) hcap HCM.out
          rw [hNBv] at hsBv
          rcases hS.fixed with h0 | ⟨Rv, hRv, hSv⟩
          · rw [numB_len] at h0
            clear hrBv hS
            go_enter Tryz.func133, Tryz.ntmps133; go_wp2_with (first | (go_at_call_of 136 A; refine (idx_found _ _ _ _ _ _ (HV1.out.at_ (by exact (((((HX.out.set _ _).set _ _).set _ _).set _ _).set _ _))).1 HPa.out).mono ?_; rintro e w3 ⟨rfl, hw3⟩; have HXn : Hid (ExtBut b wd w3) := Lib.hid (by rw [hw3]; exact (((((HX.out.set _ _).set _ _).set _ _).set _ _).set _ _)); have HBn : Hid (w3.heap[b]? = some (.cells #[.string ⟨#[]⟩, .string ⟨#[]⟩, .slice none 0 0, .slice none 0 0, .slice none 0 0] 107 (0, 0))) := Lib.hid (by rw [hw3]; exact slot_setCell (slot_setCell (slot_setCell (slot_setCell (slot_setCell HBK.out))))); clear HX HBK; have HX := HXn; have HBK := HBn; clear HXn HBn hw3; (try clear hck0); (try clear hfk0); (try clear hck1); (try clear hfk1); (try clear hck2); (try clear hfk2); (try clear hck3); (try clear hfk3); (try clear hck4); (try clear hfk4); have hck0 := cell_slot HBK.out 0 _ rfl; have hfk0 := free_slot HBK.out 0; have hck1 := cell_slot HBK.out 1 _ rfl; have hfk1 := free_slot HBK.out 1; have hck2 := cell_slot HBK.out 2 _ rfl; have hfk2 := free_slot HBK.out 2; have hck3 := cell_slot HBK.out 3 _ rfl; have hfk3 := free_slot HBK.out 3; have hck4 := cell_slot HBK.out 4 _ rfl; have hfk4 := free_slot HBK.out 4; have hcv1 := conv_rd (show RdB w3 (.slice A (sby a).length c9) (sby a) from by (have h9 := ((HV.out.at_ HX.out).1).take (sby a).length HNA.out; rw [HTA.out] at h9; exact h9))) | (go_at_call_of 136 A4; refine (idx_found _ _ _ _ _ _ (HD1.out.at_ (by exact HX.out.set _ _)).1 HPc.out).mono ?_; rintro e w3 ⟨rfl, hw3⟩; have HXn : Hid (ExtBut b wd w3) := Lib.hid (by rw [hw3]; exact (HX.out.set _ _)); have HBn : Hid (w3.heap[b]? = some (.cells #[.string (strOf (sby a)), .string ⟨#[]⟩, .slice none 0 0, .slice none 0 0, .slice none 0 0] 107 (0, 0))) := Lib.hid (by rw [hw3]; exact slot_setCell HBK.out); clear HX HBK; have HX := HXn; have HBK := HBn; clear HXn HBn hw3; (try clear hck0); (try clear hfk0); (try clear hck1); (try clear hfk1); (try clear hck2); (try clear hfk2); (try clear hck3); (try clear hfk3); (try clear hck4); (try clear hfk4); have hck0 := cell_slot HBK.out 0 _ rfl; have hfk0 := free_slot HBK.out 0; have hck1 := cell_slot HBK.out 1 _ rfl; have hfk1 := free_slot HBK.out 1; have hck2 := cell_slot HBK.out 2 _ rfl; have hfk2 := free_slot HBK.out 2; have hck3 := cell_slot HBK.out 3 _ rfl; have hfk3 := free_slot HBK.out 3; have hck4 := cell_slot HBK.out 4 _ rfl; have hfk4 := free_slot HBK.out 4; have hcv2 := conv_rd (show RdB w3 (.slice A5 (sby c).length c5) (sby c) from (HR5.out.at_ HX.out).1)) | (go_at_call_of 137 Bf; refine (rd16n (lf.length : Int) HNF.out _ _ _ (Rf) _ (HQBf.out _ (by exact HX.out.set _ _))).mono ?_; rintro e w3 ⟨rfl, hx3⟩; have HXn : Hid (ExtBut b wd w3) := Lib.hid ((HX.out.set _ _).trans hx3.but); have HBn : Hid (w3.heap[b]? = some (.cells #[.string (strOf (sby a)), .string (strOf (sby c)), .slice none 0 0, .slice none 0 0, .slice none 0 0] 107 (0, 0))) := Lib.hid ((hx3.block b (lt_of_block (slot_setCell HBK.out))).trans (slot_setCell HBK.out)); clear HX HBK; have HX := HXn; have HBK := HBn; clear HXn HBn hx3; (try clear hck0); (try clear hfk0); (try clear hck1); (try clear hfk1); (try clear hck2); (try clear hfk2); (try clear hck3); (try clear hfk3); (try clear hck4); (try clear hfk4); have hck0 := cell_slot HBK.out 0 _ rfl; have hfk0 := free_slot HBK.out 0; have hck1 := cell_slot HBK.out 1 _ rfl; have hfk1 := free_slot HBK.out 1; have hck2 := cell_slot HBK.out 2 _ rfl; have hfk2 := free_slot HBK.out 2; have hck3 := cell_slot HBK.out 3 _ rfl; have hfk3 := free_slot HBK.out 3; have hck4 := cell_slot HBK.out 4 _ rfl; have hfk4 := free_slot HBK.out 4))
            all_goals (go_ret; exact ⟨_, _, rfl, by first | exact HX.out | exact HX.out.trans (ext_alloc _ _).but | exact HXE.out.trans (ext_alloc _ _).but | exact ((HX.out.set _ _).trans (ext_alloc _ _).but) | exact (HXE.out.trans ((Ext.refl _).drewN _).but).trans (ext_alloc _ _).but⟩)
          · have h2Bv : ¬ Rf.length < 2 := by rw [hRv, List.length_append, numB_len]; omega
            have hlBv : Rf.length = 2 + Rv.length := by rw [hRv, List.length_append, numB_len]
            have HQBv : Hid (∀ w, ExtBut b wd w → RdB w (.slice Bv Rf.length dBv) (numB (vls.length : Int) 2 ++ Rv)) := Lib.hid (fun w hw => by have h9 := (hrBv b wd xs HV.out).at_ hw; rw [hP, hNBv] at h9; have h8 := h9.1; rwa [show Rf = numB (vls.length : Int) 2 ++ Rv from hRv] at h8 ⊢)
            have hPBv : xs.drop ((sby a).length + 1 + ((sby c).length + 1) + 2 + 2) = Rv := drop_step (by rw [hP, hRv]) (by rw [numB_len])
            have HLV : Hid (N = (sby a).length + 1 + ((sby c).length + 1) + 2 + 2 + Rv.length) := Lib.hid (by have := HLP.out; omega)
            by_cases hv0 : vls.length = 0
            · have hvn : vls = [] := List.eq_nil_of_length_eq_zero hv0
              have hS9 : SPre Rv (numB (lr.length : Int) 2 ++ (lr.flatMap fun n => numB n 2)) := by rw [hvn] at hSv; simpa using hSv
              clear hSv hS hrBv hvn
              clear hP hRv hlBv
              have hS := hS9
              have hP := hPBv
              clear HLP
              have HLP := HLV
              clear hS9 hPBv HLV
              have hNBz : N - ((sby a).length + 1 + ((sby c).length + 1) + 2 + 2) = Rv.length := by have := HLP.out; omega
              obtain ⟨Bz, dBz, hsBz, hrBz⟩ := sl_at A N c9 ((sby a).length + 1 + ((sby c).length + 1) + 2 + 2) (by have := HLP.out; omega) hcap HCM.out
              rw [hNBz] at hsBz
              rcases hS.fixed with h0 | ⟨Rz, hRz, hSz⟩
              · rw [numB_len] at h0
                clear hrBz hS
                go_enter Tryz.func133, Tryz.ntmps133; go_wp2_with (first | (go_at_call_of 136 A; refine (idx_found _ _ _ _ _ _ (HV1.out.at_ (by exact (((((HX.out.set _ _).set _ _).set _ _).set _ _).set _ _))).1 HPa.out).mono ?_; rintro e w3 ⟨rfl, hw3⟩; have HXn : Hid (ExtBut b wd w3) := Lib.hid (by rw [hw3]; exact (((((HX.out.set _ _).set _ _).set _ _).set _ _).set _ _)); have HBn : Hid (w3.heap[b]? = some (.cells #[.string ⟨#[]⟩, .string ⟨#[]⟩, .slice none 0 0, .slice none 0 0, .slice none 0 0] 107 (0, 0))) := Lib.hid (by rw [hw3]; exact slot_setCell (slot_setCell (slot_setCell (slot_setCell (slot_setCell HBK.out))))); clear HX HBK; have HX := HXn; have HBK := HBn; clear HXn HBn hw3; (try clear hck0); (try clear hfk0); (try clear hck1); (try clear hfk1); (try clear hck2); (try clear hfk2); (try clear hck3); (try clear hfk3); (try clear hck4); (try clear hfk4); have hck0 := cell_slot HBK.out 0 _ rfl; have hfk0 := free_slot HBK.out 0; have hck1 := cell_slot HBK.out 1 _ rfl; have hfk1 := free_slot HBK.out 1; have hck2 := cell_slot HBK.out 2 _ rfl; have hfk2 := free_slot HBK.out 2; have hck3 := cell_slot HBK.out 3 _ rfl; have hfk3 := free_slot HBK.out 3; have hck4 := cell_slot HBK.out 4 _ rfl; have hfk4 := free_slot HBK.out 4; have hcv1 := conv_rd (show RdB w3 (.slice A (sby a).length c9) (sby a) from by (have h9 := ((HV.out.at_ HX.out).1).take (sby a).length HNA.out; rw [HTA.out] at h9; exact h9))) | (go_at_call_of 136 A4; refine (idx_found _ _ _ _ _ _ (HD1.out.at_ (by exact HX.out.set _ _)).1 HPc.out).mono ?_; rintro e w3 ⟨rfl, hw3⟩; have HXn : Hid (ExtBut b wd w3) := Lib.hid (by rw [hw3]; exact (HX.out.set _ _)); have HBn : Hid (w3.heap[b]? = some (.cells #[.string (strOf (sby a)), .string ⟨#[]⟩, .slice none 0 0, .slice none 0 0, .slice none 0 0] 107 (0, 0))) := Lib.hid (by rw [hw3]; exact slot_setCell HBK.out); clear HX HBK; have HX := HXn; have HBK := HBn; clear HXn HBn hw3; (try clear hck0); (try clear hfk0); (try clear hck1); (try clear hfk1); (try clear hck2); (try clear hfk2); (try clear hck3); (try clear hfk3); (try clear hck4); (try clear hfk4); have hck0 := cell_slot HBK.out 0 _ rfl; have hfk0 := free_slot HBK.out 0; have hck1 := cell_slot HBK.out 1 _ rfl; have hfk1 := free_slot HBK.out 1; have hck2 := cell_slot HBK.out 2 _ rfl; have hfk2 := free_slot HBK.out 2; have hck3 := cell_slot HBK.out 3 _ rfl; have hfk3 := free_slot HBK.out 3; have hck4 := cell_slot HBK.out 4 _ rfl; have hfk4 := free_slot HBK.out 4; have hcv2 := conv_rd (show RdB w3 (.slice A5 (sby c).length c5) (sby c) from (HR5.out.at_ HX.out).1)) | (go_at_call_of 137 Bf; refine (rd16n (lf.length : Int) HNF.out _ _ _ (Rf) _ (HQBf.out _ (by exact HX.out.set _ _))).mono ?_; rintro e w3 ⟨rfl, hx3⟩; have HXn : Hid (ExtBut b wd w3) := Lib.hid ((HX.out.set _ _).trans hx3.but); have HBn : Hid (w3.heap[b]? = some (.cells #[.string (strOf (sby a)), .string (strOf (sby c)), .slice none 0 0, .slice none 0 0, .slice none 0 0] 107 (0, 0))) := Lib.hid ((hx3.block b (lt_of_block (slot_setCell HBK.out))).trans (slot_setCell HBK.out)); clear HX HBK; have HX := HXn; have HBK := HBn; clear HXn HBn hx3; (try clear hck0); (try clear hfk0); (try clear hck1); (try clear hfk1); (try clear hck2); (try clear hfk2); (try clear hck3); (try clear hfk3); (try clear hck4); (try clear hfk4); have hck0 := cell_slot HBK.out 0 _ rfl; have hfk0 := free_slot HBK.out 0; have hck1 := cell_slot HBK.out 1 _ rfl; have hfk1 := free_slot HBK.out 1; have hck2 := cell_slot HBK.out 2 _ rfl; have hfk2 := free_slot HBK.out 2; have hck3 := cell_slot HBK.out 3 _ rfl; have hfk3 := free_slot HBK.out 3; have hck4 := cell_slot HBK.out 4 _ rfl; have hfk4 := free_slot HBK.out 4) | (go_at_call_of 137 Bv; refine (rd16n (vls.length : Int) HNV.out _ _ _ (Rv) _ (HQBv.out _ HX.out)).mono ?_; rintro e w3 ⟨rfl, hx3⟩; have HXn : Hid (ExtBut b wd w3) := Lib.hid (HX.out.trans hx3.but); have HBn : Hid (w3.heap[b]? = some (.cells #[.string (strOf (sby a)), .string (strOf (sby c)), .slice none 0 0, .slice none 0 0, .slice none 0 0] 107 (0, 0))) := Lib.hid ((hx3.block b (lt_of_block HBK.out)).trans HBK.out); clear HX HBK; have HX := HXn; have HBK := HBn; clear HXn HBn hx3; (try clear hck0); (try clear hfk0); (try clear hck1); (try clear hfk1); (try clear hck2); (try clear hfk2); (try clear hck3); (try clear hfk3); (try clear hck4); (try clear hfk4); have hck0 := cell_slot HBK.out 0 _ rfl; have hfk0 := free_slot HBK.out 0; have hck1 := cell_slot HBK.out 1 _ rfl; have hfk1 := free_slot HBK.out 1; have hck2 := cell_slot HBK.out 2 _ rfl; have hfk2 := free_slot HBK.out 2; have hck3 := cell_slot HBK.out 3 _ rfl; have hfk3 := free_slot HBK.out 3; have hck4 := cell_slot HBK.out 4 _ rfl; have hfk4 := free_slot HBK.out 4))
                all_goals (go_ret; exact ⟨_, _, rfl, by first | exact HX.out | exact HX.out.trans (ext_alloc _ _).but | exact HXE.out.trans (ext_alloc _ _).but | exact ((HX.out.set _ _).trans (ext_alloc _ _).but) | exact (HXE.out.trans ((Ext.refl _).drewN _).but).trans (ext_alloc _ _).but⟩)
              · have h2Bz : ¬ Rv.length < 2 := by rw [hRz, List.length_append, numB_len]; omega
                have hlBz : Rv.length = 2 + Rz.length := by rw [hRz, List.length_append, numB_len]
                have HQBz : Hid (∀ w, ExtBut b wd w → RdB w (.slice Bz Rv.length dBz) (numB (lr.length : Int) 2 ++ Rz)) := Lib.hid (fun w hw => by have h9 := (hrBz b wd xs HV.out).at_ hw; rw [hP, hNBz] at h9; have h8 := h9.1; rwa [show Rv = numB (lr.length : Int) 2 ++ Rz from hRz] at h8 ⊢)
                have hPBz : xs.drop ((sby a).length + 1 + ((sby c).length + 1) + 2 + 2 + 2) = Rz := drop_step (by rw [hP, hRz]) (by rw [numB_len])
                have hltz : Rz.length < lr.length * 2 := by have h9 := hSz.len; rwa [nums_len2] at h9
                have hN8 : N - ((sby a).length + 1 + ((sby c).length + 1) + 2 + 2 + 2) = Rz.length := by have := HLP.out; omega
                obtain ⟨By, dBy, hsBy, hrBy⟩ := sl_at A N c9 ((sby a).length + 1 + ((sby c).length + 1) + 2 + 2 + 2) (by have := HLP.out; omega) hcap HCM.out
                rw [hN8] at hsBy
                have hmk := mkH_run lr.length (by omega)
                have hwr : IntKind.i64.wrap ((lr.length : Int) * 2) = (lr.length : Int) * 2 := by rw [IntKind.wrap_i64]; omega
                have hlti : (Rz.length : Int) < (lr.length : Int) * 2 := by omega
                clear hrBz hrBy hS hSz hRz hlBz hN8 hPBz
                go_enter Tryz.func133, Tryz.ntmps133; go_wp2_with (first | (go_at_call_of 136 A; refine (idx_found _ _ _ _ _ _ (HV1.out.at_ (by exact (((((HX.out.set _ _).set _ _).set _ _).set _ _).set _ _))).1 HPa.out).mono ?_; rintro e w3 ⟨rfl, hw3⟩; have HXn : Hid (ExtBut b wd w3) := Lib.hid (by rw [hw3]; exact (((((HX.out.set _ _).set _ _).set _ _).set _ _).set _ _)); have HBn : Hid (w3.heap[b]? = some (.cells #[.string ⟨#[]⟩, .string ⟨#[]⟩, .slice none 0 0, .slice none 0 0, .slice none 0 0] 107 (0, 0))) := Lib.hid (by rw [hw3]; exact slot_setCell (slot_setCell (slot_setCell (slot_setCell (slot_setCell HBK.out))))); clear HX HBK; have HX := HXn; have HBK := HBn; clear HXn HBn hw3; (try clear hck0); (try clear hfk0); (try clear hck1); (try clear hfk1); (try clear hck2); (try clear hfk2); (try clear hck3); (try clear hfk3); (try clear hck4); (try clear hfk4); have hck0 := cell_slot HBK.out 0 _ rfl; have hfk0 := free_slot HBK.out 0; have hck1 := cell_slot HBK.out 1 _ rfl; have hfk1 := free_slot HBK.out 1; have hck2 := cell_slot HBK.out 2 _ rfl; have hfk2 := free_slot HBK.out 2; have hck3 := cell_slot HBK.out 3 _ rfl; have hfk3 := free_slot HBK.out 3; have hck4 := cell_slot HBK.out 4 _ rfl; have hfk4 := free_slot HBK.out 4; have hcv1 := conv_rd (show RdB w3 (.slice A (sby a).length c9) (sby a) from by (have h9 := ((HV.out.at_ HX.out).1).take (sby a).length HNA.out; rw [HTA.out] at h9; exact h9))) | (go_at_call_of 136 A4; refine (idx_found _ _ _ _ _ _ (HD1.out.at_ (by exact HX.out.set _ _)).1 HPc.out).mono ?_; rintro e w3 ⟨rfl, hw3⟩; have HXn : Hid (ExtBut b wd w3) := Lib.hid (by rw [hw3]; exact (HX.out.set _ _)); have HBn : Hid (w3.heap[b]? = some (.cells #[.string (strOf (sby a)), .string ⟨#[]⟩, .slice none 0 0, .slice none 0 0, .slice none 0 0] 107 (0, 0))) := Lib.hid (by rw [hw3]; exact slot_setCell HBK.out); clear HX HBK; have HX := HXn; have HBK := HBn; clear HXn HBn hw3; (try clear hck0); (try clear hfk0); (try clear hck1); (try clear hfk1); (try clear hck2); (try clear hfk2); (try clear hck3); (try clear hfk3); (try clear hck4); (try clear hfk4); have hck0 := cell_slot HBK.out 0 _ rfl; have hfk0 := free_slot HBK.out 0; have hck1 := cell_slot HBK.out 1 _ rfl; have hfk1 := free_slot HBK.out 1; have hck2 := cell_slot HBK.out 2 _ rfl; have hfk2 := free_slot HBK.out 2; have hck3 := cell_slot HBK.out 3 _ rfl; have hfk3 := free_slot HBK.out 3; have hck4 := cell_slot HBK.out 4 _ rfl; have hfk4 := free_slot HBK.out 4; have hcv2 := conv_rd (show RdB w3 (.slice A5 (sby c).length c5) (sby c) from (HR5.out.at_ HX.out).1)) | (go_at_call_of 137 Bf; refine (rd16n (lf.length : Int) HNF.out _ _ _ (Rf) _ (HQBf.out _ (by exact HX.out.set _ _))).mono ?_; rintro e w3 ⟨rfl, hx3⟩; have HXn : Hid (ExtBut b wd w3) := Lib.hid ((HX.out.set _ _).trans hx3.but); have HBn : Hid (w3.heap[b]? = some (.cells #[.string (strOf (sby a)), .string (strOf (sby c)), .slice none 0 0, .slice none 0 0, .slice none 0 0] 107 (0, 0))) := Lib.hid ((hx3.block b (lt_of_block (slot_setCell HBK.out))).trans (slot_setCell HBK.out)); clear HX HBK; have HX := HXn; have HBK := HBn; clear HXn HBn hx3; (try clear hck0); (try clear hfk0); (try clear hck1); (try clear hfk1); (try clear hck2); (try clear hfk2); (try clear hck3); (try clear hfk3); (try clear hck4); (try clear hfk4); have hck0 := cell_slot HBK.out 0 _ rfl; have hfk0 := free_slot HBK.out 0; have hck1 := cell_slot HBK.out 1 _ rfl; have hfk1 := free_slot HBK.out 1; have hck2 := cell_slot HBK.out 2 _ rfl; have hfk2 := free_slot HBK.out 2; have hck3 := cell_slot HBK.out 3 _ rfl; have hfk3 := free_slot HBK.out 3; have hck4 := cell_slot HBK.out 4 _ rfl; have hfk4 := free_slot HBK.out 4) | (go_at_call_of 137 Bv; refine (rd16n (vls.length : Int) HNV.out _ _ _ (Rv) _ (HQBv.out _ HX.out)).mono ?_; rintro e w3 ⟨rfl, hx3⟩; have HXn : Hid (ExtBut b wd w3) := Lib.hid (HX.out.trans hx3.but); have HBn : Hid (w3.heap[b]? = some (.cells #[.string (strOf (sby a)), .string (strOf (sby c)), .slice none 0 0, .slice none 0 0, .slice none 0 0] 107 (0, 0))) := Lib.hid ((hx3.block b (lt_of_block HBK.out)).trans HBK.out); clear HX HBK; have HX := HXn; have HBK := HBn; clear HXn HBn hx3; (try clear hck0); (try clear hfk0); (try clear hck1); (try clear hfk1); (try clear hck2); (try clear hfk2); (try clear hck3); (try clear hfk3); (try clear hck4); (try clear hfk4); have hck0 := cell_slot HBK.out 0 _ rfl; have hfk0 := free_slot HBK.out 0; have hck1 := cell_slot HBK.out 1 _ rfl; have hfk1 := free_slot HBK.out 1; have hck2 := cell_slot HBK.out 2 _ rfl; have hfk2 := free_slot HBK.out 2; have hck3 := cell_slot HBK.out 3 _ rfl; have hfk3 := free_slot HBK.out 3; have hck4 := cell_slot HBK.out 4 _ rfl; have hfk4 := free_slot HBK.out 4) | (go_at_call_of 137 Bz; refine (rd16n (lr.length : Int) HNR.out _ _ _ (Rz) _ (HQBz.out _ HX.out)).mono ?_; rintro e w3 ⟨rfl, hx3⟩; have HXn : Hid (ExtBut b wd w3) := Lib.hid (HX.out.trans hx3.but); have HBn : Hid (w3.heap[b]? = some (.cells #[.string (strOf (sby a)), .string (strOf (sby c)), .slice none 0 0, .slice none 0 0, .slice none 0 0] 107 (0, 0))) := Lib.hid ((hx3.block b (lt_of_block HBK.out)).trans HBK.out); clear HX HBK; have HX := HXn; have HBK := HBn; clear HXn HBn hx3; (try clear hck0); (try clear hfk0); (try clear hck1); (try clear hfk1); (try clear hck2); (try clear hfk2); (try clear hck3); (try clear hfk3); (try clear hck4); (try clear hfk4); have hck0 := cell_slot HBK.out 0 _ rfl; have hfk0 := free_slot HBK.out 0; have hck1 := cell_slot HBK.out 1 _ rfl; have hfk1 := free_slot HBK.out 1; have hck2 := cell_slot HBK.out 2 _ rfl; have hfk2 := free_slot HBK.out 2; have hck3 := cell_slot HBK.out 3 _ rfl; have hfk3 := free_slot HBK.out 3; have hck4 := cell_slot HBK.out 4 _ rfl; have hfk4 := free_slot HBK.out 4; have hbm := ((mkH_ext lr.length w3).block b (lt_of_block HBK.out)).trans HBK.out; have hmk0 := cell_slot hbm 0 _ rfl; have hmf0 := free_slot hbm 0; have hmk1 := cell_slot hbm 1 _ rfl; have hmf1 := free_slot hbm 1; have hmk2 := cell_slot hbm 2 _ rfl; have hmf2 := free_slot hbm 2; have hmk3 := cell_slot hbm 3 _ rfl; have hmf3 := free_slot hbm 3; have hmk4 := cell_slot hbm 4 _ rfl; have hmf4 := free_slot hbm 4; clear hbm))
                go_quiet (skip)
                have HXE := Lib.hid ((HX.out.trans (mkH_ext lr.length w3).but).set 4 (.slice (some ⟨w3.heap.size, 0, none⟩) lr.length lr.length))
                go_wp2
                all_goals (go_ret; exact ⟨_, _, rfl, by first | exact HX.out | exact HX.out.trans (ext_alloc _ _).but | exact HXE.out.trans (ext_alloc _ _).but | exact ((HX.out.set _ _).trans (ext_alloc _ _).but) | exact (HXE.out.trans ((Ext.refl _).drewN _).but).trans (ext_alloc _ _).but⟩)
            · have hvp : (0 : Int) < (vls.length : Int) := by omega
              have hvp2 : 0 < vls.length := by omega
              have hmk := mkV_run vls.length (by omega)
              have HSv := Lib.hid hSv
              have HPv := Lib.hid hPBv
              have HLv := HLV
              clear hSv hS hrBv hPBv HLV hP HLP hRv hlBv
              go_enter Tryz.func133, Tryz.ntmps133; go_wp2_with (first | (go_at_call_of 136 A; refine (idx_found _ _ _ _ _ _ (HV1.out.at_ (by exact (((((HX.out.set _ _).set _ _).set _ _).set _ _).set _ _))).1 HPa.out).mono ?_; rintro e w3 ⟨rfl, hw3⟩; have HXn : Hid (ExtBut b wd w3) := Lib.hid (by rw [hw3]; exact (((((HX.out.set _ _).set _ _).set _ _).set _ _).set _ _)); have HBn : Hid (w3.heap[b]? = some (.cells #[.string ⟨#[]⟩, .string ⟨#[]⟩, .slice none 0 0, .slice none 0 0, .slice none 0 0] 107 (0, 0))) := Lib.hid (by rw [hw3]; exact slot_setCell (slot_setCell (slot_setCell (slot_setCell (slot_setCell HBK.out))))); clear HX HBK; have HX := HXn; have HBK := HBn; clear HXn HBn hw3; (try clear hck0); (try clear hfk0); (try clear hck1); (try clear hfk1); (try clear hck2); (try clear hfk2); (try clear hck3); (try clear hfk3); (try clear hck4); (try clear hfk4); have hck0 := cell_slot HBK.out 0 _ rfl; have hfk0 := free_slot HBK.out 0; have hck1 := cell_slot HBK.out 1 _ rfl; have hfk1 := free_slot HBK.out 1; have hck2 := cell_slot HBK.out 2 _ rfl; have hfk2 := free_slot HBK.out 2; have hck3 := cell_slot HBK.out 3 _ rfl; have hfk3 := free_slot HBK.out 3; have hck4 := cell_slot HBK.out 4 _ rfl; have hfk4 := free_slot HBK.out 4; have hcv1 := conv_rd (show RdB w3 (.slice A (sby a).length c9) (sby a) from by (have h9 := ((HV.out.at_ HX.out).1).take (sby a).length HNA.out; rw [HTA.out] at h9; exact h9))) | (go_at_call_of 136 A4; refine (idx_found _ _ _ _ _ _ (HD1.out.at_ (by exact HX.out.set _ _)).1 HPc.out).mono ?_; rintro e w3 ⟨rfl, hw3⟩; have HXn : Hid (ExtBut b wd w3) := Lib.hid (by rw [hw3]; exact (HX.out.set _ _)); have HBn : Hid (w3.heap[b]? = some (.cells #[.string (strOf (sby a)), .string ⟨#[]⟩, .slice none 0 0, .slice none 0 0, .slice none 0 0] 107 (0, 0))) := Lib.hid (by rw [hw3]; exact slot_setCell HBK.out); clear HX HBK; have HX := HXn; have HBK := HBn; clear HXn HBn hw3; (try clear hck0); (try clear hfk0); (try clear hck1); (try clear hfk1); (try clear hck2); (try clear hfk2); (try clear hck3); (try clear hfk3); (try clear hck4); (try clear hfk4); have hck0 := cell_slot HBK.out 0 _ rfl; have hfk0 := free_slot HBK.out 0; have hck1 := cell_slot HBK.out 1 _ rfl; have hfk1 := free_slot HBK.out 1; have hck2 := cell_slot HBK.out 2 _ rfl; have hfk2 := free_slot HBK.out 2; have hck3 := cell_slot HBK.out 3 _ rfl; have hfk3 := free_slot HBK.out 3; have hck4 := cell_slot HBK.out 4 _ rfl; have hfk4 := free_slot HBK.out 4; have hcv2 := conv_rd (show RdB w3 (.slice A5 (sby c).length c5) (sby c) from (HR5.out.at_ HX.out).1)) | (go_at_call_of 137 Bf; refine (rd16n (lf.length : Int) HNF.out _ _ _ (Rf) _ (HQBf.out _ (by exact HX.out.set _ _))).mono ?_; rintro e w3 ⟨rfl, hx3⟩; have HXn : Hid (ExtBut b wd w3) := Lib.hid ((HX.out.set _ _).trans hx3.but); have HBn : Hid (w3.heap[b]? = some (.cells #[.string (strOf (sby a)), .string (strOf (sby c)), .slice none 0 0, .slice none 0 0, .slice none 0 0] 107 (0, 0))) := Lib.hid ((hx3.block b (lt_of_block (slot_setCell HBK.out))).trans (slot_setCell HBK.out)); clear HX HBK; have HX := HXn; have HBK := HBn; clear HXn HBn hx3; (try clear hck0); (try clear hfk0); (try clear hck1); (try clear hfk1); (try clear hck2); (try clear hfk2); (try clear hck3); (try clear hfk3); (try clear hck4); (try clear hfk4); have hck0 := cell_slot HBK.out 0 _ rfl; have hfk0 := free_slot HBK.out 0; have hck1 := cell_slot HBK.out 1 _ rfl; have hfk1 := free_slot HBK.out 1; have hck2 := cell_slot HBK.out 2 _ rfl; have hfk2 := free_slot HBK.out 2; have hck3 := cell_slot HBK.out 3 _ rfl; have hfk3 := free_slot HBK.out 3; have hck4 := cell_slot HBK.out 4 _ rfl; have hfk4 := free_slot HBK.out 4) | (go_at_call_of 137 Bv; refine (rd16n (vls.length : Int) HNV.out _ _ _ (Rv) _ (HQBv.out _ HX.out)).mono ?_; rintro e w3 ⟨rfl, hx3⟩; have HXn : Hid (ExtBut b wd w3) := Lib.hid (HX.out.trans hx3.but); have HBn : Hid (w3.heap[b]? = some (.cells #[.string (strOf (sby a)), .string (strOf (sby c)), .slice none 0 0, .slice none 0 0, .slice none 0 0] 107 (0, 0))) := Lib.hid ((hx3.block b (lt_of_block HBK.out)).trans HBK.out); clear HX HBK; have HX := HXn; have HBK := HBn; clear HXn HBn hx3; (try clear hck0); (try clear hfk0); (try clear hck1); (try clear hfk1); (try clear hck2); (try clear hfk2); (try clear hck3); (try clear hfk3); (try clear hck4); (try clear hfk4); have hck0 := cell_slot HBK.out 0 _ rfl; have hfk0 := free_slot HBK.out 0; have hck1 := cell_slot HBK.out 1 _ rfl; have hfk1 := free_slot HBK.out 1; have hck2 := cell_slot HBK.out 2 _ rfl; have hfk2 := free_slot HBK.out 2; have hck3 := cell_slot HBK.out 3 _ rfl; have hfk3 := free_slot HBK.out 3; have hck4 := cell_slot HBK.out 4 _ rfl; have hfk4 := free_slot HBK.out 4; have hbm := ((mkV_ext vls.length w3).block b (lt_of_block HBK.out)).trans HBK.out; have hmk0 := cell_slot hbm 0 _ rfl; have hmf0 := free_slot hbm 0; have hmk1 := cell_slot hbm 1 _ rfl; have hmf1 := free_slot hbm 1; have hmk2 := cell_slot hbm 2 _ rfl; have hmf2 := free_slot hbm 2; have hmk3 := cell_slot hbm 3 _ rfl; have hmf3 := free_slot hbm 3; have hmk4 := cell_slot hbm 4 _ rfl; have hmf4 := free_slot hbm 4; clear hbm))
              clear hmk hvp hvp2
              clear hck0 hck1 hck2 hck3 hck4 hfk0 hfk1 hfk2 hfk3 hfk4 hmk0 hmk1 hmk2 hmk3 hmk4 hmf0 hmf1 hmf2 hmf3 hmf4
              obtain ⟨g3, hg3⟩ : ∃ g3, g3 = w3.heap.size := ⟨_, rfl⟩
              have HG3 := Lib.hid hg3
              have hmE3 := mkV_ext vls.length w3
              have HXW := Lib.hid ((HX.out.trans hmE3.but).set 3 (.slice (some ⟨w3.heap.size, 0, none⟩) vls.length vls.length))
              have HBW : Hid (((mkV vls.length w3).setCell ⟨b, 3, none⟩ (.slice (some ⟨w3.heap.size, 0, none⟩) vls.length vls.length)).heap[b]? = some (.cells #[.string (strOf (sby a)), .string (strOf (sby c)), .slice none 0 0, .slice (some ⟨g3, 0, none⟩) vls.length vls.length, .slice none 0 0] 107 (0, 0))) := Lib.hid (by rw [HG3.out]; exact slot_setCell ((hmE3.block b (lt_of_block HBK.out)).trans HBK.out))
              have HAW : Hid (((mkV vls.length w3).setCell ⟨b, 3, none⟩ (.slice (some ⟨w3.heap.size, 0, none⟩) vls.length vls.length)).heap[g3]? = some (.cells (madeCells #[.slice none 0 0] vls.length) 26 (0, 0))) := Lib.hid (by rw [HG3.out]; exact (heap_setCell_other _ _ _ _ (by have := lt_of_block HBK.out; simp only []; omega)).trans (heap_alloc_new _ _))
              have HGL3 : Hid (wd.heap.size ≤ g3) := Lib.hid (by rw [HG3.out]; exact HX.out.size)
              clear HX HBK hg3 hmE3
              go_loopw [133, 6] (fun i rp wr => ∃ k p : Nat, k ≤ vls.length ∧ i = .int .i64 k ∧ rp = .int .i64 p ∧ ∃ R cs, Hid (ArS b g3 wd wr #[.string (strOf (sby a)), .string (strOf (sby c)), .slice none 0 0, .slice (some ⟨g3, 0, none⟩) vls.length vls.length, .slice none 0 0] 26 vls.length N xs p R ((vls.drop k).flatMap (fun x => valB x.1 x.2) ++ (numB (lr.length : Int) 2 ++ (lr.flatMap fun n => numB n 2))) cs)) (fun i _ _ => vls.length - (intOf i).toNat)
              case atStart =>
                refine ⟨0, ((sby a).length + 1 + ((sby c).length + 1) + 2) + 2, Nat.zero_le _, rfl, by go_num, Rv, madeCells #[.slice none 0 0] vls.length, Lib.hid ?_⟩
                exact ⟨HLv.out, HPv.out, by simpa using HSv.out, HXW.out, HBW.out, HAW.out, by rw [size_madeCells], HGL3.out⟩
              case round =>
                clear HXW HBW HAW HGL3
                obtain ⟨k, p, hk1, rfl, rfl, R3, cs, HH⟩ := hrel
                by_cases hlt : k < vls.length
                · obtain ⟨x, hx⟩ : ∃ x, x = vls[k] := ⟨_, rfl⟩
                  have hxr := HGV.out _ (List.getElem_mem hlt)
                  rw [← hx] at hxr
                  have hS0 := HH.out.pre
                  rw [List.drop_eq_getElem_cons hlt, List.flatMap_cons, ← hx, List.append_assoc] at hS0
                  have hNp : N - p = R3.length := by have := HH.out.len; omega
                  have hpN : p ≤ N := by have := HH.out.len; omega
                  have HX := Lib.hid HH.out.bel
                  obtain ⟨A7, c7, hs7, hr7⟩ := sl_at A N c9 p hpN hcap HCM.out
                  have HD : Hid (RdN b wd (.slice A7 R3.length c7) R3) := Lib.hid (by
                    have h9 := hr7 b wd xs HV.out
                    rwa [HH.out.rest, hNp] at h9)
                  rw [hNp] at hs7
                  clear hr7
                  by_cases h4 : R3.length < 4
                  · clear hS0 hx hxr
                    go_wp2
                    all_goals (go_ret; exact ⟨_, _, rfl, by first | exact HX.out | exact HX.out.trans (ext_alloc _ _).but | exact HXE.out.trans (ext_alloc _ _).but | exact ((HX.out.set _ _).trans (ext_alloc _ _).but) | exact (HXE.out.trans ((Ext.refl _).drewN _).but).trans (ext_alloc _ _).but⟩)
                  · obtain ⟨x1, x2⟩ := x
                    cases x1 with
                    | true =>
                      have e1 : valB (true, x2).1 (true, x2).2 = numB 4294967295 4 := by simp only [valB, if_true]; exact numB_mod4 (-1)
                      rw [e1] at hS0
                      rcases hS0.fixed with h0 | ⟨R4, hR4, hS4⟩
                      · exact absurd h0 (by rw [numB_len]; exact h4)
                      · have HS4 := Lib.hid hS4
                        have HR4 := Lib.hid hR4
                        have hw : IntKind.i32.wrap 4294967295 = -1 := by rw [IntKind.wrap_i32]; rfl
                        have HK4 : Hid (0 ≤ (4294967295 : Int) ∧ (4294967295 : Int) < 4294967296) := Lib.hid (by omega)
                        clear hS0 hx hxr hS4 hR4 e1
                        go_wp2_with (go_at_call 138; refine (rd32n 4294967295 HK4.out _ _ _ R4 _ (by rw [← HR4.out]; exact (HD.out.at_ HX.out).1)).mono ?_; rintro e w5 ⟨rfl, hx5⟩; have HX5 := Lib.hid hx5; have hb5 := (hx5.block b (lt_of_block HH.out.blk)).trans HH.out.blk; have hg5 := (hx5.block g3 (lt_of_block HH.out.arr)).trans HH.out.arr; have HG5 := Lib.hid hg5; have hc5 := cell_slot hb5 3 _ rfl; have HC5 := Lib.hid hc5; clear hx5 hb5 hg5)
                        go_roundw
                        case rel => exact ⟨k + 1, p + 4, by omega, by go_num, by go_num, R4, cs, Lib.hid (HH.out.skip HX5.out HR4.out HS4.out (by rw [numB_len]))⟩
                        case measure => simp only [intOf]; omega
                    | false =>
                      have e1 : valB (false, x2).1 (false, x2).2 = numB (x2.length : Int) 4 ++ x2 := by simp only [valB, Bool.false_eq_true, if_false]
                      rw [e1, List.append_assoc] at hS0
                      replace hxr : x2.length ≤ 200 := hxr
                      rcases hS0.fixed with h0 | ⟨R4, hR4, hS4⟩
                      · exact absurd h0 (by rw [numB_len]; exact h4)
                      · have HR4 := Lib.hid hR4
                        have hl4 : R3.length = 4 + R4.length := by rw [hR4]; simp only [List.length_append, numB_len]
                        have hw : IntKind.i32.wrap (x2.length : Int) = (x2.length : Int) := by rw [IntKind.wrap_i32]; omega
                        have hm : ((x2.length : Int) == -1) = false := beq_eq_false_iff_ne.2 (by omega)
                        have hm2 : ¬ ((x2.length : Int) = -1) := by omega
                        have HK4 : Hid (0 ≤ (x2.length : Int) ∧ (x2.length : Int) < 4294967296) := Lib.hid (by omega)
                        have hN5 : N - (p + 4) = R4.length := by omega
                        obtain ⟨A8, c8, hs8, hr8⟩ := sl_at A N c9 (p + 4) (by omega) hcap HCM.out
                        rw [hN5] at hs8
                        clear hr8
                        rcases hS4.fixed with h5 | ⟨R5, hR5, hS5⟩
                        · have hXE : True := trivial
                          clear hS0 hx hS4 hR4 e1 hl4
                          go_wp2_with (go_at_call 138; refine (rd32n x2.length HK4.out _ _ _ R4 _ (by rw [← HR4.out]; exact (HD.out.at_ HX.out).1)).mono ?_; rintro e w5 ⟨rfl, hx5⟩; have HX5 := Lib.hid hx5; have hb5 := (hx5.block b (lt_of_block HH.out.blk)).trans HH.out.blk; have hg5 := (hx5.block g3 (lt_of_block HH.out.arr)).trans HH.out.arr; have HG5 := Lib.hid hg5; have hc5 := cell_slot hb5 3 _ rfl; have HC5 := Lib.hid hc5; clear hx5 hb5 hg5)
                          have HXE := Lib.hid (HX.out.trans HX5.out.but)
                          (go_ret; exact ⟨_, _, rfl, by first | exact HX.out | exact HX.out.trans (ext_alloc _ _).but | exact HXE.out.trans (ext_alloc _ _).but | exact ((HX.out.set _ _).trans (ext_alloc _ _).but) | exact (HXE.out.trans ((Ext.refl _).drewN _).but).trans (ext_alloc _ _).but⟩)
                        · have hl5 : R4.length = x2.length + R5.length := by rw [hR5]; simp only [List.length_append]
                          have HR5 := Lib.hid (show R3 = (numB (x2.length : Int) 4 ++ x2) ++ R5 by rw [hR4, hR5, List.append_assoc])
                          have HS5 := Lib.hid hS5
                          have hcc : p + 4 + x2.length ≤ c9 := by omega
                          have h5n : ¬ R4.length < x2.length := by omega
                          clear hS0 hx hS4 hR4 hR5 hS5 e1 hl4 hl5
                          go_wp2_with (go_at_call 138; refine (rd32n x2.length HK4.out _ _ _ R4 _ (by rw [← HR4.out]; exact (HD.out.at_ HX.out).1)).mono ?_; rintro e w5 ⟨rfl, hx5⟩; have HX5 := Lib.hid hx5; have hb5 := (hx5.block b (lt_of_block HH.out.blk)).trans HH.out.blk; have hg5 := (hx5.block g3 (lt_of_block HH.out.arr)).trans HH.out.arr; have HG5 := Lib.hid hg5; have hc5 := cell_slot hb5 3 _ rfl; have HC5 := Lib.hid hc5; clear hx5 hb5 hg5)
                          refine wp_region_cut (J := fun x => Ext w5 x) (R := Ext) 11 [Sp.eq _ (.pointer (some ⟨b, 0, none⟩)), Sp.eq _ (.pointer (some ⟨b, 0, none⟩)), Sp.eq _ (.pointer (some ⟨b, 3, none⟩)), Sp.eq _ (.slice (some ⟨g3, 0, none⟩) vls.length vls.length), Sp.eq _ (.int .i64 k), Sp.eq _ (.slice A N c9), Sp.eq _ (.int .i64 ((p : Int) + 4)), Sp.eq _ (.int .i64 ((p : Int) + 4)), Sp.eq _ (.int .i64 (x2.length : Int)), Sp.eq _ (.int .i64 ((p : Int) + 4 + (x2.length : Int))), spSl] (by kernel_rfl) (by kernel_rfl) ?_ ?_ ?_
                          · exact (Ext.refl w5).drew
                          · refine ⟨?_, ?_, ?_, ?_, ?_, ?_, ?_, ?_, ?_, ?_, ?_, trivial⟩
                            · intro vs w1 hJ hp
                              have HJ := Lib.hid hJ
                              clear hp hJ
                              simp only [List.take_succ_cons, List.take_zero, putAll, Nat.reduceAdd]
                              go_wp2
                              exact ⟨rfl, HJ.out, Ext.refl _, rfl⟩
                            · intro vs w1 hJ hp
                              have q0 : vs 0 = .pointer (some ⟨b, 0, none⟩) := hp 0 (by decide)
                              have HJ := Lib.hid hJ
                              clear hp hJ
                              simp only [List.take_succ_cons, List.take_zero, putAll, Nat.reduceAdd]
                              go_wp2
                              exact ⟨rfl, HJ.out, Ext.refl _, rfl⟩
                            · intro vs w1 hJ hp
                              have q1 : vs 1 = .pointer (some ⟨b, 0, none⟩) := hp 1 (by decide)
                              have HJ := Lib.hid hJ
                              clear hp hJ
                              simp only [List.take_succ_cons, List.take_zero, putAll, Nat.reduceAdd]
                              go_wp2
                              exact ⟨rfl, HJ.out, Ext.refl _, rfl⟩
                            · intro vs w1 hJ hp
                              have q2 : vs 2 = .pointer (some ⟨b, 3, none⟩) := hp 2 (by decide)
                              have HJ := Lib.hid hJ
                              have hq := hJ.cell HC5.out
                              clear hp hJ
                              simp only [List.take_succ_cons, List.take_zero, putAll, Nat.reduceAdd]
                              go_wp2
                              exact ⟨rfl, HJ.out, Ext.refl _, rfl⟩
                            · intro vs w1 hJ hp
                              have HJ := Lib.hid hJ
                              clear hp hJ
                              simp only [List.take_succ_cons, List.take_zero, putAll, Nat.reduceAdd]
                              go_wp2
                              exact ⟨rfl, HJ.out, Ext.refl _, rfl⟩
                            · intro vs w1 hJ hp
                              have HJ := Lib.hid hJ
                              clear hp hJ
                              simp only [List.take_succ_cons, List.take_zero, putAll, Nat.reduceAdd]
                              go_wp2
                              exact ⟨rfl, HJ.out, Ext.refl _, rfl⟩
                            · intro vs w1 hJ hp
                              have HJ := Lib.hid hJ
                              clear hp hJ
                              simp only [List.take_succ_cons, List.take_zero, putAll, Nat.reduceAdd]
                              go_wp2
                              exact ⟨rfl, HJ.out, Ext.refl _, rfl⟩
                            · intro vs w1 hJ hp
                              have HJ := Lib.hid hJ
                              clear hp hJ
                              simp only [List.take_succ_cons, List.take_zero, putAll, Nat.reduceAdd]
                              go_wp2
                              exact ⟨rfl, HJ.out, Ext.refl _, rfl⟩
                            · intro vs w1 hJ hp
                              have HJ := Lib.hid hJ
                              clear hp hJ
                              simp only [List.take_succ_cons, List.take_zero, putAll, Nat.reduceAdd]
                              go_wp2
                              exact ⟨rfl, HJ.out, Ext.refl _, rfl⟩
                            · intro vs w1 hJ hp
                              have q7 : vs 7 = .int .i64 ((p : Int) + 4) := hp 7 (by decide)
                              have q8 : vs 8 = .int .i64 (x2.length : Int) := hp 8 (by decide)
                              have HJ := Lib.hid hJ
                              clear hp hJ
                              simp only [List.take_succ_cons, List.take_zero, putAll, Nat.reduceAdd]
                              go_wp2
                              exact ⟨rfl, HJ.out, Ext.refl _, rfl⟩
                            · intro vs w1 hJ hp
                              have q5 : vs 5 = .slice A N c9 := hp 5 (by decide)
                              have q6 : vs 6 = .int .i64 ((p : Int) + 4) := hp 6 (by decide)
                              have q9 : vs 9 = .int .i64 ((p : Int) + 4 + (x2.length : Int)) := hp 9 (by decide)
                              have HJ := Lib.hid hJ
                              clear hp hJ
                              simp only [List.take_succ_cons, List.take_zero, putAll, Nat.reduceAdd]
                              go_wp2
                              all_goals exact ⟨rfl, HJ.out, Ext.refl _, rfl⟩
                          · intro vs w1 hJ hp
                            have q0 : vs 0 = .pointer (some ⟨b, 0, none⟩) := hp 0 (by decide)
                            have q1 : vs 1 = .pointer (some ⟨b, 0, none⟩) := hp 1 (by decide)
                            have q2 : vs 2 = .pointer (some ⟨b, 3, none⟩) := hp 2 (by decide)
                            have q3 : vs 3 = .slice (some ⟨g3, 0, none⟩) vls.length vls.length := hp 3 (by decide)
                            have q4 : vs 4 = .int .i64 k := hp 4 (by decide)
                            have q5 : vs 5 = .slice A N c9 := hp 5 (by decide)
                            have q6 : vs 6 = .int .i64 ((p : Int) + 4) := hp 6 (by decide)
                            have q7 : vs 7 = .int .i64 ((p : Int) + 4) := hp 7 (by decide)
                            have q8 : vs 8 = .int .i64 (x2.length : Int) := hp 8 (by decide)
                            have q9 : vs 9 = .int .i64 ((p : Int) + 4 + (x2.length : Int)) := hp 9 (by decide)
                            have q10 : (spSl).p (vs 10) w1 := hp 10 (by decide)
                            have q10' : vs 10 = .slice (slA (vs 10)) (slN (vs 10)) (slC (vs 10)) := q10
                            obtain ⟨S13, hS13⟩ : ∃ y, y = slA (vs 10) := ⟨_, rfl⟩
                            obtain ⟨N13, hN13⟩ : ∃ y, y = slN (vs 10) := ⟨_, rfl⟩
                            obtain ⟨T13, hT13⟩ : ∃ y, y = slC (vs 10) := ⟨_, rfl⟩
                            rw [← hS13, ← hN13, ← hT13] at q10'
                            have HJ := Lib.hid hJ
                            have hcg' := cell_slot ((hJ.block _ (lt_of_block HG5.out)).trans HG5.out) k (cs.getD k undef) (HH.out.at_ hlt)
                            have hfg' := free_slot ((hJ.block _ (lt_of_block HG5.out)).trans HG5.out) k
                            clear hp hJ q10 hS13 hN13 hT13 hc5
                            simp only [List.drop_succ_cons, List.drop_zero, List.take_succ_cons, List.take_zero, putAll, Nat.reduceAdd, Act.put, q10', q0, q1, q2, q3, q4, q5, q6, q7, q8, q9, List.setIfInBounds_toArray, List.set_cons_zero, List.set_cons_succ]
                            clear q10' q0 q1 q2 q3 q4 q5 q6 q7 q8 q9
                            go_wp2
                            go_roundw
                            case rel =>
                              refine ⟨k + 1, p + (4 + x2.length), by omega, by go_num, by go_num, R5, cs.setIfInBounds k (.slice S13 N13 T13), Lib.hid ?_⟩
                              exact HH.out.next (HX5.out.trans HJ.out) HR5.out HS5.out (by rw [List.length_append, numB_len]) _ _ HLT.out
                            case measure => simp only [intOf]; omega
                · obtain rfl : k = vls.length := by omega
                  have hS := HH.out.pre
                  rw [List.drop_length] at hS
                  replace hS : SPre R3 (numB (lr.length : Int) 2 ++ (lr.flatMap fun n => numB n 2)) := by simpa using hS
                  obtain ⟨R, hRR⟩ : ∃ y, y = R3 := ⟨_, rfl⟩
                  rw [← hRR] at hS
                  have hP : xs.drop p = R := by rw [hRR]; exact HH.out.rest
                  have HLP : Hid (N = p + R.length) := Lib.hid (by rw [hRR]; exact HH.out.len)
                  have HX := Lib.hid HH.out.bel
                  have HBK := Lib.hid HH.out.blk
                  have hck0 := cell_slot HBK.out 0 _ rfl; have hfk0 := free_slot HBK.out 0; have hck1 := cell_slot HBK.out 1 _ rfl; have hfk1 := free_slot HBK.out 1; have hck2 := cell_slot HBK.out 2 _ rfl; have hfk2 := free_slot HBK.out 2; have hck3 := cell_slot HBK.out 3 _ rfl; have hfk3 := free_slot HBK.out 3; have hck4 := cell_slot HBK.out 4 _ rfl; have hfk4 := free_slot HBK.out 4
                  clear hRR
                  have hNBz : N - (p) = R.length := by have := HLP.out; omega
                  obtain ⟨Bz, dBz, hsBz, hrBz⟩ := sl_at A N c9 (p) (by have := HLP.out; omega) hcap HCM.out
                  rw [hNBz] at hsBz
                  rcases hS.fixed with h0 | ⟨Rz, hRz, hSz⟩
                  · rw [numB_len] at h0
                    clear hrBz hS
                    go_wp2
                    all_goals (go_ret; exact ⟨_, _, rfl, by first | exact HX.out | exact HX.out.trans (ext_alloc _ _).but | exact HXE.out.trans (ext_alloc _ _).but | exact ((HX.out.set _ _).trans (ext_alloc _ _).but) | exact (HXE.out.trans ((Ext.refl _).drewN _).but).trans (ext_alloc _ _).but⟩)
                  · have h2Bz : ¬ R.length < 2 := by rw [hRz, List.length_append, numB_len]; omega
                    have hlBz : R.length = 2 + Rz.length := by rw [hRz, List.length_append, numB_len]
                    have HQBz : Hid (∀ w, ExtBut b wd w → RdB w (.slice Bz R.length dBz) (numB (lr.length : Int) 2 ++ Rz)) := Lib.hid (fun w hw => by have h9 := (hrBz b wd xs HV.out).at_ hw; rw [hP, hNBz] at h9; have h8 := h9.1; rwa [show R = numB (lr.length : Int) 2 ++ Rz from hRz] at h8 ⊢)
                    have hPBz : xs.drop (p + 2) = Rz := drop_step (by rw [hP, hRz]) (by rw [numB_len])
                    have hltz : Rz.length < lr.length * 2 := by have h9 := hSz.len; rwa [nums_len2] at h9
                    have hN8 : N - (p + 2) = Rz.length := by have := HLP.out; omega
                    obtain ⟨By, dBy, hsBy, hrBy⟩ := sl_at A N c9 (p + 2) (by have := HLP.out; omega) hcap HCM.out
                    rw [hN8] at hsBy
                    have hmk := mkH_run lr.length (by omega)
                    have hwr : IntKind.i64.wrap ((lr.length : Int) * 2) = (lr.length : Int) * 2 := by rw [IntKind.wrap_i64]; omega
                    have hlti : (Rz.length : Int) < (lr.length : Int) * 2 := by omega
                    clear hrBz hrBy hS hSz hRz hlBz hN8 hPBz
                    go_wp2_with (first | (go_at_call_of 137 Bz; refine (rd16n (lr.length : Int) HNR.out _ _ _ (Rz) _ (HQBz.out _ HX.out)).mono ?_; rintro e w3 ⟨rfl, hx3⟩; have HXn : Hid (ExtBut b wd w3) := Lib.hid (HX.out.trans hx3.but); have HBn : Hid (w3.heap[b]? = some (.cells #[.string (strOf (sby a)), .string (strOf (sby c)), .slice none 0 0, .slice (some ⟨g3, 0, none⟩) vls.length vls.length, .slice none 0 0] 107 (0, 0))) := Lib.hid ((hx3.block b (lt_of_block HBK.out)).trans HBK.out); clear HX HBK; have HX := HXn; have HBK := HBn; clear HXn HBn hx3; (try clear hck0); (try clear hfk0); (try clear hck1); (try clear hfk1); (try clear hck2); (try clear hfk2); (try clear hck3); (try clear hfk3); (try clear hck4); (try clear hfk4); have hck0 := cell_slot HBK.out 0 _ rfl; have hfk0 := free_slot HBK.out 0; have hck1 := cell_slot HBK.out 1 _ rfl; have hfk1 := free_slot HBK.out 1; have hck2 := cell_slot HBK.out 2 _ rfl; have hfk2 := free_slot HBK.out 2; have hck3 := cell_slot HBK.out 3 _ rfl; have hfk3 := free_slot HBK.out 3; have hck4 := cell_slot HBK.out 4 _ rfl; have hfk4 := free_slot HBK.out 4; have hbm := ((mkH_ext lr.length w3).block b (lt_of_block HBK.out)).trans HBK.out; have hmk0 := cell_slot hbm 0 _ rfl; have hmf0 := free_slot hbm 0; have hmk1 := cell_slot hbm 1 _ rfl; have hmf1 := free_slot hbm 1; have hmk2 := cell_slot hbm 2 _ rfl; have hmf2 := free_slot hbm 2; have hmk3 := cell_slot hbm 3 _ rfl; have hmf3 := free_slot hbm 3; have hmk4 := cell_slot hbm 4 _ rfl; have hmf4 := free_slot hbm 4; clear hbm))
                    go_quiet (skip)
                    have HXE := Lib.hid ((HX.out.trans (mkH_ext lr.length w3).but).set 4 (.slice (some ⟨w3.heap.size, 0, none⟩) lr.length lr.length))
                    go_wp2
                    all_goals (go_ret; exact ⟨_, _, rfl, by first | exact HX.out | exact HX.out.trans (ext_alloc _ _).but | exact HXE.out.trans (ext_alloc _ _).but | exact ((HX.out.set _ _).trans (ext_alloc _ _).but) | exact (HXE.out.trans ((Ext.refl _).drewN _).but).trans (ext_alloc _ _).but⟩)
        · have hfp : (0 : Int) < (lf.length : Int) := by omega
          have hfp2 : 0 < lf.length := by omega
          have hmk := mkH_run lf.length (by omega)
          have hN7 : N - ((sby a).length + 1 + ((sby c).length + 1) + 2) = Rf.length := by have := HLF.out; omega
          obtain ⟨Bg, dBg, hsBg, hrBg⟩ := sl_at A N c9 ((sby a).length + 1 + ((sby c).length + 1) + 2) (by have := HLF.out; omega) hcap HCM.out
          rw [hN7] at hsBg
          have HSf := Lib.hid hSf
          have HPf := Lib.hid hPBf
          have HLf := HLF
          have hwr : IntKind.i64.wrap ((lf.length : Int) * 2) = (lf.length : Int) * 2 := by rw [IntKind.wrap_i64]; omega
          by_cases hsh : Rf.length < lf.length * 2
          · have hlti : (Rf.length : Int) < (lf.length : Int) * 2 := by omega
            clear hrBf hrBg hS hSf hRf hlBf hPBf hP HLP HLF hN7
            go_enter Tryz.func133, Tryz.ntmps133; go_wp2_with (first | (go_at_call_of 136 A; refine (idx_found _ _ _ _ _ _ (HV1.out.at_ (by exact (((((HX.out.set _ _).set _ _).set _ _).set _ _).set _ _))).1 HPa.out).mono ?_; rintro e w3 ⟨rfl, hw3⟩; have HXn : Hid (ExtBut b wd w3) := Lib.hid (by rw [hw3]; exact (((((HX.out.set _ _).set _ _).set _ _).set _ _).set _ _)); have HBn : Hid (w3.heap[b]? = some (.cells #[.string ⟨#[]⟩, .string ⟨#[]⟩, .slice none 0 0, .slice none 0 0, .slice none 0 0] 107 (0, 0))) := Lib.hid (by rw [hw3]; exact slot_setCell (slot_setCell (slot_setCell (slot_setCell (slot_setCell HBK.out))))); clear HX HBK; have HX := HXn; have HBK := HBn; clear HXn HBn hw3; (try clear hck0); (try clear hfk0); (try clear hck1); (try clear hfk1); (try clear hck2); (try clear hfk2); (try clear hck3); (try clear hfk3); (try clear hck4); (try clear hfk4); have hck0 := cell_slot HBK.out 0 _ rfl; have hfk0 := free_slot HBK.out 0; have hck1 := cell_slot HBK.out 1 _ rfl; have hfk1 := free_slot HBK.out 1; have hck2 := cell_slot HBK.out 2 _ rfl; have hfk2 := free_slot HBK.out 2; have hck3 := cell_slot HBK.out 3 _ rfl; have hfk3 := free_slot HBK.out 3; have hck4 := cell_slot HBK.out 4 _ rfl; have hfk4 := free_slot HBK.out 4; have hcv1 := conv_rd (show RdB w3 (.slice A (sby a).length c9) (sby a) from by (have h9 := ((HV.out.at_ HX.out).1).take (sby a).length HNA.out; rw [HTA.out] at h9; exact h9))) | (go_at_call_of 136 A4; refine (idx_found _ _ _ _ _ _ (HD1.out.at_ (by exact HX.out.set _ _)).1 HPc.out).mono ?_; rintro e w3 ⟨rfl, hw3⟩; have HXn : Hid (ExtBut b wd w3) := Lib.hid (by rw [hw3]; exact (HX.out.set _ _)); have HBn : Hid (w3.heap[b]? = some (.cells #[.string (strOf (sby a)), .string ⟨#[]⟩, .slice none 0 0, .slice none 0 0, .slice none 0 0] 107 (0, 0))) := Lib.hid (by rw [hw3]; exact slot_setCell HBK.out); clear HX HBK; have HX := HXn; have HBK := HBn; clear HXn HBn hw3; (try clear hck0); (try clear hfk0); (try clear hck1); (try clear hfk1); (try clear hck2); (try clear hfk2); (try clear hck3); (try clear hfk3); (try clear hck4); (try clear hfk4); have hck0 := cell_slot HBK.out 0 _ rfl; have hfk0 := free_slot HBK.out 0; have hck1 := cell_slot HBK.out 1 _ rfl; have hfk1 := free_slot HBK.out 1; have hck2 := cell_slot HBK.out 2 _ rfl; have hfk2 := free_slot HBK.out 2; have hck3 := cell_slot HBK.out 3 _ rfl; have hfk3 := free_slot HBK.out 3; have hck4 := cell_slot HBK.out 4 _ rfl; have hfk4 := free_slot HBK.out 4; have hcv2 := conv_rd (show RdB w3 (.slice A5 (sby c).length c5) (sby c) from (HR5.out.at_ HX.out).1)) | (go_at_call_of 137 Bf; refine (rd16n (lf.length : Int) HNF.out _ _ _ (Rf) _ (HQBf.out _ (by exact HX.out.set _ _))).mono ?_; rintro e w3 ⟨rfl, hx3⟩; have HXn : Hid (ExtBut b wd w3) := Lib.hid ((HX.out.set _ _).trans hx3.but); have HBn : Hid (w3.heap[b]? = some (.cells #[.string (strOf (sby a)), .string (strOf (sby c)), .slice none 0 0, .slice none 0 0, .slice none 0 0] 107 (0, 0))) := Lib.hid ((hx3.block b (lt_of_block (slot_setCell HBK.out))).trans (slot_setCell HBK.out)); clear HX HBK; have HX := HXn; have HBK := HBn; clear HXn HBn hx3; (try clear hck0); (try clear hfk0); (try clear hck1); (try clear hfk1); (try clear hck2); (try clear hfk2); (try clear hck3); (try clear hfk3); (try clear hck4); (try clear hfk4); have hck0 := cell_slot HBK.out 0 _ rfl; have hfk0 := free_slot HBK.out 0; have hck1 := cell_slot HBK.out 1 _ rfl; have hfk1 := free_slot HBK.out 1; have hck2 := cell_slot HBK.out 2 _ rfl; have hfk2 := free_slot HBK.out 2; have hck3 := cell_slot HBK.out 3 _ rfl; have hfk3 := free_slot HBK.out 3; have hck4 := cell_slot HBK.out 4 _ rfl; have hfk4 := free_slot HBK.out 4; have hbm := ((mkH_ext lf.length w3).block b (lt_of_block HBK.out)).trans HBK.out; have hmk0 := cell_slot hbm 0 _ rfl; have hmf0 := free_slot hbm 0; have hmk1 := cell_slot hbm 1 _ rfl; have hmf1 := free_slot hbm 1; have hmk2 := cell_slot hbm 2 _ rfl; have hmf2 := free_slot hbm 2; have hmk3 := cell_slot hbm 3 _ rfl; have hmf3 := free_slot hbm 3; have hmk4 := cell_slot hbm 4 _ rfl; have hmf4 := free_slot hbm 4; clear hbm))
            go_quiet (skip)
            have HXE := Lib.hid ((HX.out.trans (mkH_ext lf.length w3).but).set 2 (.slice (some ⟨w3.heap.size, 0, none⟩) lf.length lf.length))
            go_wp2
            (go_ret; exact ⟨_, _, rfl, by first | exact HX.out | exact HX.out.trans (ext_alloc _ _).but | exact HXE.out.trans (ext_alloc _ _).but | exact ((HX.out.set _ _).trans (ext_alloc _ _).but) | exact (HXE.out.trans ((Ext.refl _).drewN _).but).trans (ext_alloc _ _).but⟩)
          · have HSH : Hid (lf.length * 2 ≤ Rf.length) := Lib.hid (by omega)
            have hlti : ¬ (Rf.length : Int) < (lf.length : Int) * 2 := by omega
            clear hrBf hrBg hS hSf hRf hlBf hPBf hP HLP HLF hN7
            go_enter Tryz.func133, Tryz.ntmps133; go_wp2_with (first | (go_at_call_of 136 A; refine (idx_found _ _ _ _ _ _ (HV1.out.at_ (by exact (((((HX.out.set _ _).set _ _).set _ _).set _ _).set _ _))).1 HPa.out).mono ?_; rintro e w3 ⟨rfl, hw3⟩; have HXn : Hid (ExtBut b wd w3) := Lib.hid (by rw [hw3]; exact (((((HX.out.set _ _).set _ _).set _ _).set _ _).set _ _)); have HBn : Hid (w3.heap[b]? = some (.cells #[.string ⟨#[]⟩, .string ⟨#[]⟩, .slice none 0 0, .slice none 0 0, .slice none 0 0] 107 (0, 0))) := Lib.hid (by rw [hw3]; exact slot_setCell (slot_setCell (slot_setCell (slot_setCell (slot_setCell HBK.out))))); clear HX HBK; have HX := HXn; have HBK := HBn; clear HXn HBn hw3; (try clear hck0); (try clear hfk0); (try clear hck1); (try clear hfk1); (try clear hck2); (try clear hfk2); (try clear hck3); (try clear hfk3); (try clear hck4); (try clear hfk4); have hck0 := cell_slot HBK.out 0 _ rfl; have hfk0 := free_slot HBK.out 0; have hck1 := cell_slot HBK.out 1 _ rfl; have hfk1 := free_slot HBK.out 1; have hck2 := cell_slot HBK.out 2 _ rfl; have hfk2 := free_slot HBK.out 2; have hck3 := cell_slot HBK.out 3 _ rfl; have hfk3 := free_slot HBK.out 3; have hck4 := cell_slot HBK.out 4 _ rfl; have hfk4 := free_slot HBK.out 4; have hcv1 := conv_rd (show RdB w3 (.slice A (sby a).length c9) (sby a) from by (have h9 := ((HV.out.at_ HX.out).1).take (sby a).length HNA.out; rw [HTA.out] at h9; exact h9))) | (go_at_call_of 136 A4; refine (idx_found _ _ _ _ _ _ (HD1.out.at_ (by exact HX.out.set _ _)).1 HPc.out).mono ?_; rintro e w3 ⟨rfl, hw3⟩; have HXn : Hid (ExtBut b wd w3) := Lib.hid (by rw [hw3]; exact (HX.out.set _ _)); have HBn : Hid (w3.heap[b]? = some (.cells #[.string (strOf (sby a)), .string ⟨#[]⟩, .slice none 0 0, .slice none 0 0, .slice none 0 0] 107 (0, 0))) := Lib.hid (by rw [hw3]; exact slot_setCell HBK.out); clear HX HBK; have HX := HXn; have HBK := HBn; clear HXn HBn hw3; (try clear hck0); (try clear hfk0); (try clear hck1); (try clear hfk1); (try clear hck2); (try clear hfk2); (try clear hck3); (try clear hfk3); (try clear hck4); (try clear hfk4); have hck0 := cell_slot HBK.out 0 _ rfl; have hfk0 := free_slot HBK.out 0; have hck1 := cell_slot HBK.out 1 _ rfl; have hfk1 := free_slot HBK.out 1; have hck2 := cell_slot HBK.out 2 _ rfl; have hfk2 := free_slot HBK.out 2; have hck3 := cell_slot HBK.out 3 _ rfl; have hfk3 := free_slot HBK.out 3; have hck4 := cell_slot HBK.out 4 _ rfl; have hfk4 := free_slot HBK.out 4; have hcv2 := conv_rd (show RdB w3 (.slice A5 (sby c).length c5) (sby c) from (HR5.out.at_ HX.out).1)) | (go_at_call_of 137 Bf; refine (rd16n (lf.length : Int) HNF.out _ _ _ (Rf) _ (HQBf.out _ (by exact HX.out.set _ _))).mono ?_; rintro e w3 ⟨rfl, hx3⟩; have HXn : Hid (ExtBut b wd w3) := Lib.hid ((HX.out.set _ _).trans hx3.but); have HBn : Hid (w3.heap[b]? = some (.cells #[.string (strOf (sby a)), .string (strOf (sby c)), .slice none 0 0, .slice none 0 0, .slice none 0 0] 107 (0, 0))) := Lib.hid ((hx3.block b (lt_of_block (slot_setCell HBK.out))).trans (slot_setCell HBK.out)); clear HX HBK; have HX := HXn; have HBK := HBn; clear HXn HBn hx3; (try clear hck0); (try clear hfk0); (try clear hck1); (try clear hfk1); (try clear hck2); (try clear hfk2); (try clear hck3); (try clear hfk3); (try clear hck4); (try clear hfk4); have hck0 := cell_slot HBK.out 0 _ rfl; have hfk0 := free_slot HBK.out 0; have hck1 := cell_slot HBK.out 1 _ rfl; have hfk1 := free_slot HBK.out 1; have hck2 := cell_slot HBK.out 2 _ rfl; have hfk2 := free_slot HBK.out 2; have hck3 := cell_slot HBK.out 3 _ rfl; have hfk3 := free_slot HBK.out 3; have hck4 := cell_slot HBK.out 4 _ rfl; have hfk4 := free_slot HBK.out 4; have hbm := ((mkH_ext lf.length w3).block b (lt_of_block HBK.out)).trans HBK.out; have hmk0 := cell_slot hbm 0 _ rfl; have hmf0 := free_slot hbm 0; have hmk1 := cell_slot hbm 1 _ rfl; have hmf1 := free_slot hbm 1; have hmk2 := cell_slot hbm 2 _ rfl; have hmf2 := free_slot hbm 2; have hmk3 := cell_slot hbm 3 _ rfl; have hmf3 := free_slot hbm 3; have hmk4 := cell_slot hbm 4 _ rfl; have hmf4 := free_slot hbm 4; clear hbm))
            obtain ⟨g2, hg2⟩ : ∃ g2, g2 = w3.heap.size := ⟨_, rfl⟩
            have HG2 := Lib.hid hg2
            have hmE := Lib.hid (mkH_ext lf.length w3)
            go_quiet (skip)
            have HXW := Lib.hid (((HX.out.trans hmE.out.but).set 2 (.slice (some ⟨w3.heap.size, 0, none⟩) lf.length lf.length)).trans ((Ext.refl _).drewN nq).but)
            have HBW : Hid (((((mkH lf.length w3).setCell ⟨b, 2, none⟩ (.slice (some ⟨w3.heap.size, 0, none⟩) lf.length lf.length)).drewN nq).heap[b]? = some (.cells #[.string (strOf (sby a)), .string (strOf (sby c)), .slice (some ⟨g2, 0, none⟩) lf.length lf.length, .slice none 0 0, .slice none 0 0] 107 (0, 0)))) := Lib.hid (by rw [HG2.out]; exact slot_setCell ((hmE.out.block b (lt_of_block HBK.out)).trans HBK.out))
            have HAW : Hid (((((mkH lf.length w3).setCell ⟨b, 2, none⟩ (.slice (some ⟨w3.heap.size, 0, none⟩) lf.length lf.length)).drewN nq).heap[g2]? = some (.cells (madeCells #[.int .i16 0] lf.length) 243 (0, 0)))) := Lib.hid (by rw [HG2.out]; exact (heap_setCell_other _ _ _ _ (by have := lt_of_block HBK.out; simp only []; omega)).trans (heap_alloc_new _ _))
            have HGL : Hid (wd.heap.size ≤ g2) := Lib.hid (by rw [HG2.out]; exact HX.out.size)
            clear hck0 hck1 hck2 hck3 hck4 hfk0 hfk1 hfk2 hfk3 hfk4 hmk0 hmk1 hmk2 hmk3 hmk4 hmf0 hmf1 hmf2 hmf3 hmf4 HX HBK hmk hg2
            go_wp2
            clear hfp hfp2
            go_loopw [93, 6] (fun i rp wr => ∃ k p : Nat, k ≤ lf.length ∧ i = .int .i64 k ∧ rp = .int .i64 p ∧ ∃ R cs, Hid (ArS b g2 wd wr #[.string (strOf (sby a)), .string (strOf (sby c)), .slice (some ⟨g2, 0, none⟩) lf.length lf.length, .slice none 0 0, .slice none 0 0] 243 lf.length N xs p R ((lf.drop k).flatMap (fun n => numB n 2) ++ (numB (vls.length : Int) 2 ++ ((vls.flatMap fun x => valB x.1 x.2) ++ (numB (lr.length : Int) 2 ++ (lr.flatMap fun n => numB n 2))))) cs ∧ (lf.length - k) * 2 ≤ R.length)) (fun i _ _ => lf.length - (intOf i).toNat)
            case atStart => exact ⟨0, (sby a).length + 1 + ((sby c).length + 1) + 2, Nat.zero_le _, rfl, by go_num, Rf, madeCells #[.int .i16 0] lf.length, Lib.hid ⟨⟨HLf.out, HPf.out, by simpa using HSf.out, HXW.out, HBW.out, HAW.out, by rw [size_madeCells], HGL.out⟩, by have := HSH.out; omega⟩⟩
            case round =>
              clear HXW HBW HAW HGL hmE
              obtain ⟨k, p, hk1, rfl, rfl, R3, cs, HH0⟩ := hrel
              have HH := Lib.hid HH0.out.1
              have HMR := Lib.hid HH0.out.2
              clear HH0
              by_cases hlt : k < lf.length
              · obtain ⟨x, hx⟩ : ∃ x, x = lf[k] := ⟨_, rfl⟩
                have hxr := HGF.out _ (List.getElem_mem hlt)
                rw [← hx] at hxr
                have hS0 := HH.out.pre
                rw [List.drop_eq_getElem_cons hlt, List.flatMap_cons, ← hx, List.append_assoc] at hS0
                have hNp : N - p = R3.length := by have := HH.out.len; omega
                have hpN : p ≤ N := by have := HH.out.len; omega
                have HX := Lib.hid HH.out.bel
                have HCW := Lib.hid (cell_slot HH.out.blk 2 (.slice (some ⟨g2, 0, none⟩) lf.length lf.length) rfl)
                obtain ⟨A7, c7, hs7, hr7⟩ := sl_at A N c9 p hpN hcap HCM.out
                have HD : Hid (RdN b wd (.slice A7 R3.length c7) R3) := Lib.hid (by
                  have h9 := hr7 b wd xs HV.out
                  rwa [HH.out.rest, hNp] at h9)
                rw [hNp] at hs7
                clear hr7
                have HLE := HH.out.len
                rcases hS0.fixed with h0 | ⟨R4, hR4, hS4⟩
                · exact absurd h0 (by rw [numB_len]; have := HMR.out; omega)
                · have HR4 := Lib.hid hR4
                  have HS4 := Lib.hid hS4
                  have hw : IntKind.i16.wrap x = x := by rw [wrapI16]; omega
                  have HKX : Hid (0 ≤ x ∧ x < 65536) := Lib.hid (by omega)
                  clear hS0 hx hxr hS4 hR4 HLE
                  go_wp2
                  refine wp_region_cut (J := fun x => Ext wr x) (R := Ext) 10 [Sp.eq _ (.pointer (some ⟨b, 0, none⟩)), Sp.eq _ (.pointer (some ⟨b, 0, none⟩)), Sp.eq _ (.pointer (some ⟨b, 2, none⟩)), Sp.eq _ (.slice (some ⟨g2, 0, none⟩) lf.length lf.length), Sp.eq _ (.int .i64 k), Sp.eq _ (.slice A N c9), Sp.eq _ (.int .i64 (p : Int)), Sp.eq _ (.slice A7 R3.length c7), Sp.eq _ (.int .u16 x), Sp.eq _ (.int .i16 x)] (by kernel_rfl) (by kernel_rfl) ?_ ?_ ?_
                  · exact (Ext.refl wr).drew
                  · refine ⟨?_, ?_, ?_, ?_, ?_, ?_, ?_, ?_, ?_, ?_, trivial⟩
                    · intro vs w1 hJ hp
                      have HJ := Lib.hid hJ
                      clear hp hJ
                      simp only [List.take_succ_cons, List.take_zero, putAll, Nat.reduceAdd]
                      go_wp2
                      exact ⟨rfl, HJ.out, Ext.refl _, rfl⟩
                    · intro vs w1 hJ hp
                      have q0 : vs 0 = .pointer (some ⟨b, 0, none⟩) := hp 0 (by decide)
                      have HJ := Lib.hid hJ
                      clear hp hJ
                      simp only [List.take_succ_cons, List.take_zero, putAll, Nat.reduceAdd]
                      go_wp2
                      exact ⟨rfl, HJ.out, Ext.refl _, rfl⟩
                    · intro vs w1 hJ hp
                      have q1 : vs 1 = .pointer (some ⟨b, 0, none⟩) := hp 1 (by decide)
                      have HJ := Lib.hid hJ
                      clear hp hJ
                      simp only [List.take_succ_cons, List.take_zero, putAll, Nat.reduceAdd]
                      go_wp2
                      exact ⟨rfl, HJ.out, Ext.refl _, rfl⟩
                    · intro vs w1 hJ hp
                      have q2 : vs 2 = .pointer (some ⟨b, 2, none⟩) := hp 2 (by decide)
                      have HJ := Lib.hid hJ
                      have hq := hJ.cell HCW.out
                      clear hp hJ
                      simp only [List.take_succ_cons, List.take_zero, putAll, Nat.reduceAdd]
                      go_wp2
                      exact ⟨rfl, HJ.out, Ext.refl _, rfl⟩
                    · intro vs w1 hJ hp
                      have HJ := Lib.hid hJ
                      clear hp hJ
                      simp only [List.take_succ_cons, List.take_zero, putAll, Nat.reduceAdd]
                      go_wp2
                      exact ⟨rfl, HJ.out, Ext.refl _, rfl⟩
                    · intro vs w1 hJ hp
                      have HJ := Lib.hid hJ
                      clear hp hJ
                      simp only [List.take_succ_cons, List.take_zero, putAll, Nat.reduceAdd]
                      go_wp2
                      exact ⟨rfl, HJ.out, Ext.refl _, rfl⟩
                    · intro vs w1 hJ hp
                      have HJ := Lib.hid hJ
                      clear hp hJ
                      simp only [List.take_succ_cons, List.take_zero, putAll, Nat.reduceAdd]
                      go_wp2
                      exact ⟨rfl, HJ.out, Ext.refl _, rfl⟩
                    · intro vs w1 hJ hp
                      have q5 : vs 5 = .slice A N c9 := hp 5 (by decide)
                      have q6 : vs 6 = .int .i64 (p : Int) := hp 6 (by decide)
                      have HJ := Lib.hid hJ
                      clear hp hJ
                      simp only [List.take_succ_cons, List.take_zero, putAll, Nat.reduceAdd]
                      go_wp2
                      exact ⟨rfl, HJ.out, Ext.refl _, rfl⟩
                    · intro vs w1 hJ hp
                      have q7 : vs 7 = .slice A7 R3.length c7 := hp 7 (by decide)
                      have HJ := Lib.hid hJ
                      clear hp hJ
                      simp only [List.take_succ_cons, List.take_zero, putAll, Nat.reduceAdd]
                      go_wp2_with (go_at_call 137; refine (rd16n x HKX.out _ _ _ R4 _ (by rw [← HR4.out]; exact (HD.out.at_ (HX.out.trans HJ.out.but)).1)).mono ?_; rintro e w2' ⟨rfl, hx2⟩; have HX2 := Lib.hid hx2; clear hx2)
                      exact ⟨rfl, HJ.out.trans HX2.out, HX2.out, rfl⟩
                    · intro vs w1 hJ hp
                      have q8 : vs 8 = .int .u16 x := hp 8 (by decide)
                      have HJ := Lib.hid hJ
                      clear hp hJ
                      simp only [List.take_succ_cons, List.take_zero, putAll, Nat.reduceAdd]
                      go_wp2
                      exact ⟨rfl, HJ.out, Ext.refl _, rfl⟩
                  · intro vs w1 hJ hp
                    have q0 : vs 0 = .pointer (some ⟨b, 0, none⟩) := hp 0 (by decide)
                    have q1 : vs 1 = .pointer (some ⟨b, 0, none⟩) := hp 1 (by decide)
                    have q2 : vs 2 = .pointer (some ⟨b, 2, none⟩) := hp 2 (by decide)
                    have q3 : vs 3 = .slice (some ⟨g2, 0, none⟩) lf.length lf.length := hp 3 (by decide)
                    have q4 : vs 4 = .int .i64 k := hp 4 (by decide)
                    have q5 : vs 5 = .slice A N c9 := hp 5 (by decide)
                    have q6 : vs 6 = .int .i64 (p : Int) := hp 6 (by decide)
                    have q7 : vs 7 = .slice A7 R3.length c7 := hp 7 (by decide)
                    have q8 : vs 8 = .int .u16 x := hp 8 (by decide)
                    have q9 : vs 9 = .int .i16 x := hp 9 (by decide)
                    have HJ := Lib.hid hJ
                    have hcg' := cell_slot ((hJ.block _ (lt_of_block HH.out.arr)).trans HH.out.arr) k (cs.getD k undef) (HH.out.at_ hlt)
                    have hfg' := free_slot ((hJ.block _ (lt_of_block HH.out.arr)).trans HH.out.arr) k
                    clear hp hJ
                    simp only [List.drop_succ_cons, List.drop_zero, List.take_succ_cons, List.take_zero, putAll, Nat.reduceAdd, Act.put, q0, q1, q2, q3, q4, q5, q6, q7, q8, q9, List.setIfInBounds_toArray, List.set_cons_zero, List.set_cons_succ]
                    clear q0 q1 q2 q3 q4 q5 q6 q7 q8 q9
                    go_wp2
                    go_roundw
                    case rel => exact ⟨k + 1, p + 2, by omega, by go_num, by go_num, R4, cs.setIfInBounds k (.int .i16 x), Lib.hid ⟨HH.out.next HJ.out HR4.out HS4.out (by rw [numB_len]) _ _ HLT.out, by have h9 := HMR.out; have h8 := HR4.out; rw [h8, List.length_append, numB_len] at h9; omega⟩⟩
                    case measure => simp only [intOf]; omega
              · obtain rfl : k = lf.length := by omega
                have hS := HH.out.pre
                rw [List.drop_length] at hS
                replace hS : SPre R3 (numB (vls.length : Int) 2 ++ ((vls.flatMap fun x => valB x.1 x.2) ++ (numB (lr.length : Int) 2 ++ (lr.flatMap fun n => numB n 2)))) := by simpa using hS
                obtain ⟨R, hRR⟩ : ∃ y, y = R3 := ⟨_, rfl⟩
                rw [← hRR] at hS
                have hP : xs.drop p = R := by rw [hRR]; exact HH.out.rest
                have HLP : Hid (N = p + R.length) := Lib.hid (by rw [hRR]; exact HH.out.len)
                have HX := Lib.hid HH.out.bel
                have HBK := Lib.hid HH.out.blk
                have hck0 := cell_slot HBK.out 0 _ rfl; have hfk0 := free_slot HBK.out 0; have hck1 := cell_slot HBK.out 1 _ rfl; have hfk1 := free_slot HBK.out 1; have hck2 := cell_slot HBK.out 2 _ rfl; have hfk2 := free_slot HBK.out 2; have hck3 := cell_slot HBK.out 3 _ rfl; have hfk3 := free_slot HBK.out 3; have hck4 := cell_slot HBK.out 4 _ rfl; have hfk4 := free_slot HBK.out 4
                clear hRR
                have hNBv : N - (p) = R.length := by have := HLP.out; omega
                obtain ⟨Bv, dBv, hsBv, hrBv⟩ := sl_at A N c9 (p) (by have := HLP.out; omega) hcap HCM.out
                rw [hNBv] at hsBv
                rcases hS.fixed with h0 | ⟨Rv, hRv, hSv⟩
                · rw [numB_len] at h0
                  clear hrBv hS
                  go_wp2
                  all_goals (go_ret; exact ⟨_, _, rfl, by first | exact HX.out | exact HX.out.trans (ext_alloc _ _).but | exact HXE.out.trans (ext_alloc _ _).but | exact ((HX.out.set _ _).trans (ext_alloc _ _).but) | exact (HXE.out.trans ((Ext.refl _).drewN _).but).trans (ext_alloc _ _).but⟩)
                · have h2Bv : ¬ R.length < 2 := by rw [hRv, List.length_append, numB_len]; omega
                  have hlBv : R.length = 2 + Rv.length := by rw [hRv, List.length_append, numB_len]
                  have HQBv : Hid (∀ w, ExtBut b wd w → RdB w (.slice Bv R.length dBv) (numB (vls.length : Int) 2 ++ Rv)) := Lib.hid (fun w hw => by have h9 := (hrBv b wd xs HV.out).at_ hw; rw [hP, hNBv] at h9; have h8 := h9.1; rwa [show R = numB (vls.length : Int) 2 ++ Rv from hRv] at h8 ⊢)
                  have hPBv : xs.drop (p + 2) = Rv := drop_step (by rw [hP, hRv]) (by rw [numB_len])
                  have HLV : Hid (N = p + 2 + Rv.length) := Lib.hid (by have := HLP.out; omega)
                  by_cases hv0 : vls.length = 0
                  · have hvn : vls = [] := List.eq_nil_of_length_eq_zero hv0
                    have hS9 : SPre Rv (numB (lr.length : Int) 2 ++ (lr.flatMap fun n => numB n 2)) := by rw [hvn] at hSv; simpa using hSv
                    clear hSv hS hrBv hvn
                    clear hP hRv hlBv
                    have hS := hS9
                    have hP := hPBv
                    clear HLP
                    have HLP := HLV
                    clear hS9 hPBv HLV
                    have hNBz : N - (p + 2) = Rv.length := by have := HLP.out; omega
                    obtain ⟨Bz, dBz, hsBz, hrBz⟩ := sl_at A N c9 (p + 2) (by have := HLP.out; omega) hcap HCM.out
                    rw [hNBz] at hsBz
                    rcases hS.fixed with h0 | ⟨Rz, hRz, hSz⟩
                    · rw [numB_len] at h0
                      clear hrBz hS
                      go_wp2_with (first | (go_at_call_of 137 Bv; refine (rd16n (vls.length : Int) HNV.out _ _ _ (Rv) _ (HQBv.out _ HX.out)).mono ?_; rintro e w3 ⟨rfl, hx3⟩; have HXn : Hid (ExtBut b wd w3) := Lib.hid (HX.out.trans hx3.but); have HBn : Hid (w3.heap[b]? = some (.cells #[.string (strOf (sby a)), .string (strOf (sby c)), .slice (some ⟨g2, 0, none⟩) lf.length lf.length, .slice none 0 0, .slice none 0 0] 107 (0, 0))) := Lib.hid ((hx3.block b (lt_of_block HBK.out)).trans HBK.out); clear HX HBK; have HX := HXn; have HBK := HBn; clear HXn HBn hx3; (try clear hck0); (try clear hfk0); (try clear hck1); (try clear hfk1); (try clear hck2); (try clear hfk2); (try clear hck3); (try clear hfk3); (try clear hck4); (try clear hfk4); have hck0 := cell_slot HBK.out 0 _ rfl; have hfk0 := free_slot HBK.out 0; have hck1 := cell_slot HBK.out 1 _ rfl; have hfk1 := free_slot HBK.out 1; have hck2 := cell_slot HBK.out 2 _ rfl; have hfk2 := free_slot HBK.out 2; have hck3 := cell_slot HBK.out 3 _ rfl; have hfk3 := free_slot HBK.out 3; have hck4 := cell_slot HBK.out 4 _ rfl; have hfk4 := free_slot HBK.out 4))
                      all_goals (go_ret; exact ⟨_, _, rfl, by first | exact HX.out | exact HX.out.trans (ext_alloc _ _).but | exact HXE.out.trans (ext_alloc _ _).but | exact ((HX.out.set _ _).trans (ext_alloc _ _).but) | exact (HXE.out.trans ((Ext.refl _).drewN _).but).trans (ext_alloc _ _).but⟩)
                    · have h2Bz : ¬ Rv.length < 2 := by rw [hRz, List.length_append, numB_len]; omega
                      have hlBz : Rv.length = 2 + Rz.length := by rw [hRz, List.length_append, numB_len]
                      have HQBz : Hid (∀ w, ExtBut b wd w → RdB w (.slice Bz Rv.length dBz) (numB (lr.length : Int) 2 ++ Rz)) := Lib.hid (fun w hw => by have h9 := (hrBz b wd xs HV.out).at_ hw; rw [hP, hNBz] at h9; have h8 := h9.1; rwa [show Rv = numB (lr.length : Int) 2 ++ Rz from hRz] at h8 ⊢)
                      have hPBz : xs.drop (p + 2 + 2) = Rz := drop_step (by rw [hP, hRz]) (by rw [numB_len])
                      have hltz : Rz.length < lr.length * 2 := by have h9 := hSz.len; rwa [nums_len2] at h9
                      have hN8 : N - (p + 2 + 2) = Rz.length := by have := HLP.out; omega
                      obtain ⟨By, dBy, hsBy, hrBy⟩ := sl_at A N c9 (p + 2 + 2) (by have := HLP.out; omega) hcap HCM.out
                      rw [hN8] at hsBy
                      have hmk := mkH_run lr.length (by omega)
                      have hwr : IntKind.i64.wrap ((lr.length : Int) * 2) = (lr.length : Int) * 2 := by rw [IntKind.wrap_i64]; omega
                      have hlti : (Rz.length : Int) < (lr.length : Int) * 2 := by omega
                      clear hrBz hrBy hS hSz hRz hlBz hN8 hPBz
                      go_wp2_with (first | (go_at_call_of 137 Bv; refine (rd16n (vls.length : Int) HNV.out _ _ _ (Rv) _ (HQBv.out _ HX.out)).mono ?_; rintro e w3 ⟨rfl, hx3⟩; have HXn : Hid (ExtBut b wd w3) := Lib.hid (HX.out.trans hx3.but); have HBn : Hid (w3.heap[b]? = some (.cells #[.string (strOf (sby a)), .string (strOf (sby c)), .slice (some ⟨g2, 0, none⟩) lf.length lf.length, .slice none 0 0, .slice none 0 0] 107 (0, 0))) := Lib.hid ((hx3.block b (lt_of_block HBK.out)).trans HBK.out); clear HX HBK; have HX := HXn; have HBK := HBn; clear HXn HBn hx3; (try clear hck0); (try clear hfk0); (try clear hck1); (try clear hfk1); (try clear hck2); (try clear hfk2); (try clear hck3); (try clear hfk3); (try clear hck4); (try clear hfk4); have hck0 := cell_slot HBK.out 0 _ rfl; have hfk0 := free_slot HBK.out 0; have hck1 := cell_slot HBK.out 1 _ rfl; have hfk1 := free_slot HBK.out 1; have hck2 := cell_slot HBK.out 2 _ rfl; have hfk2 := free_slot HBK.out 2; have hck3 := cell_slot HBK.out 3 _ rfl; have hfk3 := free_slot HBK.out 3; have hck4 := cell_slot HBK.out 4 _ rfl; have hfk4 := free_slot HBK.out 4) | (go_at_call_of 137 Bz; refine (rd16n (lr.length : Int) HNR.out _ _ _ (Rz) _ (HQBz.out _ HX.out)).mono ?_; rintro e w3 ⟨rfl, hx3⟩; have HXn : Hid (ExtBut b wd w3) := Lib.hid (HX.out.trans hx3.but); have HBn : Hid (w3.heap[b]? = some (.cells #[.string (strOf (sby a)), .string (strOf (sby c)), .slice (some ⟨g2, 0, none⟩) lf.length lf.length, .slice none 0 0, .slice none 0 0] 107 (0, 0))) := Lib.hid ((hx3.block b (lt_of_block HBK.out)).trans HBK.out); clear HX HBK; have HX := HXn; have HBK := HBn; clear HXn HBn hx3; (try clear hck0); (try clear hfk0); (try clear hck1); (try clear hfk1); (try clear hck2); (try clear hfk2); (try clear hck3); (try clear hfk3); (try clear hck4); (try clear hfk4); have hck0 := cell_slot HBK.out 0 _ rfl; have hfk0 := free_slot HBK.out 0; have hck1 := cell_slot HBK.out 1 _ rfl; have hfk1 := free_slot HBK.out 1; have hck2 := cell_slot HBK.out 2 _ rfl; have hfk2 := free_slot HBK.out 2; have hck3 := cell_slot HBK.out 3 _ rfl; have hfk3 := free_slot HBK.out 3; have hck4 := cell_slot HBK.out 4 _ rfl; have hfk4 := free_slot HBK.out 4; have hbm := ((mkH_ext lr.length w3).block b (lt_of_block HBK.out)).trans HBK.out; have hmk0 := cell_slot hbm 0 _ rfl; have hmf0 := free_slot hbm 0; have hmk1 := cell_slot hbm 1 _ rfl; have hmf1 := free_slot hbm 1; have hmk2 := cell_slot hbm 2 _ rfl; have hmf2 := free_slot hbm 2; have hmk3 := cell_slot hbm 3 _ rfl; have hmf3 := free_slot hbm 3; have hmk4 := cell_slot hbm 4 _ rfl; have hmf4 := free_slot hbm 4; clear hbm))
                      go_quiet (skip)
                      have HXE := Lib.hid ((HX.out.trans (mkH_ext lr.length w3).but).set 4 (.slice (some ⟨w3.heap.size, 0, none⟩) lr.length lr.length))
                      go_wp2
                      all_goals (go_ret; exact ⟨_, _, rfl, by first | exact HX.out | exact HX.out.trans (ext_alloc _ _).but | exact HXE.out.trans (ext_alloc _ _).but | exact ((HX.out.set _ _).trans (ext_alloc _ _).but) | exact (HXE.out.trans ((Ext.refl _).drewN _).but).trans (ext_alloc _ _).but⟩)
                  · have hvp : (0 : Int) < (vls.length : Int) := by omega
                    have hvp2 : 0 < vls.length := by omega
                    have hmk := mkV_run vls.length (by omega)
                    have HSv := Lib.hid hSv
                    have HPv := Lib.hid hPBv
                    have HLv := HLV
                    clear hSv hS hrBv hPBv HLV hP HLP hRv hlBv
                    go_wp2_with (first | (go_at_call_of 137 Bv; refine (rd16n (vls.length : Int) HNV.out _ _ _ (Rv) _ (HQBv.out _ HX.out)).mono ?_; rintro e w3 ⟨rfl, hx3⟩; have HXn : Hid (ExtBut b wd w3) := Lib.hid (HX.out.trans hx3.but); have HBn : Hid (w3.heap[b]? = some (.cells #[.string (strOf (sby a)), .string (strOf (sby c)), .slice (some ⟨g2, 0, none⟩) lf.length lf.length, .slice none 0 0, .slice none 0 0] 107 (0, 0))) := Lib.hid ((hx3.block b (lt_of_block HBK.out)).trans HBK.out); clear HX HBK; have HX := HXn; have HBK := HBn; clear HXn HBn hx3; (try clear hck0); (try clear hfk0); (try clear hck1); (try clear hfk1); (try clear hck2); (try clear hfk2); (try clear hck3); (try clear hfk3); (try clear hck4); (try clear hfk4); have hck0 := cell_slot HBK.out 0 _ rfl; have hfk0 := free_slot HBK.out 0; have hck1 := cell_slot HBK.out 1 _ rfl; have hfk1 := free_slot HBK.out 1; have hck2 := cell_slot HBK.out 2 _ rfl; have hfk2 := free_slot HBK.out 2; have hck3 := cell_slot HBK.out 3 _ rfl; have hfk3 := free_slot HBK.out 3; have hck4 := cell_slot HBK.out 4 _ rfl; have hfk4 := free_slot HBK.out 4; have hbm := ((mkV_ext vls.length w3).block b (lt_of_block HBK.out)).trans HBK.out; have hmk0 := cell_slot hbm 0 _ rfl; have hmf0 := free_slot hbm 0; have hmk1 := cell_slot hbm 1 _ rfl; have hmf1 := free_slot hbm 1; have hmk2 := cell_slot hbm 2 _ rfl; have hmf2 := free_slot hbm 2; have hmk3 := cell_slot hbm 3 _ rfl; have hmf3 := free_slot hbm 3; have hmk4 := cell_slot hbm 4 _ rfl; have hmf4 := free_slot hbm 4; clear hbm))
                    clear hmk hvp hvp2
                    clear hck0 hck1 hck2 hck3 hck4 hfk0 hfk1 hfk2 hfk3 hfk4 hmk0 hmk1 hmk2 hmk3 hmk4 hmf0 hmf1 hmf2 hmf3 hmf4
                    obtain ⟨g3, hg3⟩ : ∃ g3, g3 = w3.heap.size := ⟨_, rfl⟩
                    have HG3 := Lib.hid hg3
                    have hmE3 := mkV_ext vls.length w3
                    have HXW := Lib.hid ((HX.out.trans hmE3.but).set 3 (.slice (some ⟨w3.heap.size, 0, none⟩) vls.length vls.length))
                    have HBW : Hid (((mkV vls.length w3).setCell ⟨b, 3, none⟩ (.slice (some ⟨w3.heap.size, 0, none⟩) vls.length vls.length)).heap[b]? = some (.cells #[.string (strOf (sby a)), .string (strOf (sby c)), .slice (some ⟨g2, 0, none⟩) lf.length lf.length, .slice (some ⟨g3, 0, none⟩) vls.length vls.length, .slice none 0 0] 107 (0, 0))) := Lib.hid (by rw [HG3.out]; exact slot_setCell ((hmE3.block b (lt_of_block HBK.out)).trans HBK.out))
                    have HAW : Hid (((mkV vls.length w3).setCell ⟨b, 3, none⟩ (.slice (some ⟨w3.heap.size, 0, none⟩) vls.length vls.length)).heap[g3]? = some (.cells (madeCells #[.slice none 0 0] vls.length) 26 (0, 0))) := Lib.hid (by rw [HG3.out]; exact (heap_setCell_other _ _ _ _ (by have := lt_of_block HBK.out; simp only []; omega)).trans (heap_alloc_new _ _))
                    have HGL3 : Hid (wd.heap.size ≤ g3) := Lib.hid (by rw [HG3.out]; exact HX.out.size)
                    clear HX HBK hg3 hmE3
                    go_loopw [133, 6] (fun i rp wr => ∃ k p : Nat, k ≤ vls.length ∧ i = .int .i64 k ∧ rp = .int .i64 p ∧ ∃ R cs, Hid (ArS b g3 wd wr #[.string (strOf (sby a)), .string (strOf (sby c)), .slice (some ⟨g2, 0, none⟩) lf.length lf.length, .slice (some ⟨g3, 0, none⟩) vls.length vls.length, .slice none 0 0] 26 vls.length N xs p R ((vls.drop k).flatMap (fun x => valB x.1 x.2) ++ (numB (lr.length : Int) 2 ++ (lr.flatMap fun n => numB n 2))) cs)) (fun i _ _ => vls.length - (intOf i).toNat)
                    case atStart =>
                      refine ⟨0, (p) + 2, Nat.zero_le _, rfl, by go_num, Rv, madeCells #[.slice none 0 0] vls.length, Lib.hid ?_⟩
                      exact ⟨HLv.out, HPv.out, by simpa using HSv.out, HXW.out, HBW.out, HAW.out, by rw [size_madeCells], HGL3.out⟩
                    case round =>
                      clear HXW HBW HAW HGL3
                      obtain ⟨k, p, hk1, rfl, rfl, R3, cs, HH⟩ := hrel
                      by_cases hlt : k < vls.length
                      · obtain ⟨x, hx⟩ : ∃ x, x = vls[k] := ⟨_, rfl⟩
                        have hxr := HGV.out _ (List.getElem_mem hlt)
                        rw [← hx] at hxr
                        have hS0 := HH.out.pre
                        rw [List.drop_eq_getElem_cons hlt, List.flatMap_cons, ← hx, List.append_assoc] at hS0
                        have hNp : N - p = R3.length := by have := HH.out.len; omega
                        have hpN : p ≤ N := by have := HH.out.len; omega
                        have HX := Lib.hid HH.out.bel
                        obtain ⟨A7, c7, hs7, hr7⟩ := sl_at A N c9 p hpN hcap HCM.out
                        have HD : Hid (RdN b wd (.slice A7 R3.length c7) R3) := Lib.hid (by
                          have h9 := hr7 b wd xs HV.out
                          rwa [HH.out.rest, hNp] at h9)
                        rw [hNp] at hs7
                        clear hr7
                        by_cases h4 : R3.length < 4
                        · clear hS0 hx hxr
                          go_wp2
                          all_goals (go_ret; exact ⟨_, _, rfl, by first | exact HX.out | exact HX.out.trans (ext_alloc _ _).but | exact HXE.out.trans (ext_alloc _ _).but | exact ((HX.out.set _ _).trans (ext_alloc _ _).but) | exact (HXE.out.trans ((Ext.refl _).drewN _).but).trans (ext_alloc _ _).but⟩)
                        · obtain ⟨x1, x2⟩ := x
                          cases x1 with
                          | true =>
                            have e1 : valB (true, x2).1 (true, x2).2 = numB 4294967295 4 := by simp only [valB, if_true]; exact numB_mod4 (-1)
                            rw [e1] at hS0
                            rcases hS0.fixed with h0 | ⟨R4, hR4, hS4⟩
                            · exact absurd h0 (by rw [numB_len]; exact h4)
                            · have HS4 := Lib.hid hS4
                              have HR4 := Lib.hid hR4
                              have hw : IntKind.i32.wrap 4294967295 = -1 := by rw [IntKind.wrap_i32]; rfl
                              have HK4 : Hid (0 ≤ (4294967295 : Int) ∧ (4294967295 : Int) < 4294967296) := Lib.hid (by omega)
                              clear hS0 hx hxr hS4 hR4 e1
                              go_wp2_with (go_at_call 138; refine (rd32n 4294967295 HK4.out _ _ _ R4 _ (by rw [← HR4.out]; exact (HD.out.at_ HX.out).1)).mono ?_; rintro e w5 ⟨rfl, hx5⟩; have HX5 := Lib.hid hx5; have hb5 := (hx5.block b (lt_of_block HH.out.blk)).trans HH.out.blk; have hg5 := (hx5.block g3 (lt_of_block HH.out.arr)).trans HH.out.arr; have HG5 := Lib.hid hg5; have hc5 := cell_slot hb5 3 _ rfl; have HC5 := Lib.hid hc5; clear hx5 hb5 hg5)
                              go_roundw
                              case rel => exact ⟨k + 1, p + 4, by omega, by go_num, by go_num, R4, cs, Lib.hid (HH.out.skip HX5.out HR4.out HS4.out (by rw [numB_len]))⟩
                              case measure => simp only [intOf]; omega
                          | false =>
                            have e1 : valB (false, x2).1 (false, x2).2 = numB (x2.length : Int) 4 ++ x2 := by simp only [valB, Bool.false_eq_true, if_false]
                            rw [e1, List.append_assoc] at hS0
                            replace hxr : x2.length ≤ 200 := hxr
                            rcases hS0.fixed with h0 | ⟨R4, hR4, hS4⟩
                            · exact absurd h0 (by rw [numB_len]; exact h4)
                            · have HR4 := Lib.hid hR4
                              have hl4 : R3.length = 4 + R4.length := by rw [hR4]; simp only [List.length_append, numB_len]
                              have hw : IntKind.i32.wrap (x2.length : Int) = (x2.length : Int) := by rw [IntKind.wrap_i32]; omega
                              have hm : ((x2.length : Int) == -1) = false := beq_eq_false_iff_ne.2 (by omega)
                              have hm2 : ¬ ((x2.length : Int) = -1) := by omega
                              have HK4 : Hid (0 ≤ (x2.length : Int) ∧ (x2.length : Int) < 4294967296) := Lib.hid (by omega)
                              have hN5 : N - (p + 4) = R4.length := by omega
                              obtain ⟨A8, c8, hs8, hr8⟩ := sl_at A N c9 (p + 4) (by omega) hcap HCM.out
                              rw [hN5] at hs8
                              clear hr8
                              rcases hS4.fixed with h5 | ⟨R5, hR5, hS5⟩
                              · have hXE : True := trivial
                                clear hS0 hx hS4 hR4 e1 hl4
                                go_wp2_with (go_at_call 138; refine (rd32n x2.length HK4.out _ _ _ R4 _ (by rw [← HR4.out]; exact (HD.out.at_ HX.out).1)).mono ?_; rintro e w5 ⟨rfl, hx5⟩; have HX5 := Lib.hid hx5; have hb5 := (hx5.block b (lt_of_block HH.out.blk)).trans HH.out.blk; have hg5 := (hx5.block g3 (lt_of_block HH.out.arr)).trans HH.out.arr; have HG5 := Lib.hid hg5; have hc5 := cell_slot hb5 3 _ rfl; have HC5 := Lib.hid hc5; clear hx5 hb5 hg5)
                                have HXE := Lib.hid (HX.out.trans HX5.out.but)
                                (go_ret; exact ⟨_, _, rfl, by first | exact HX.out | exact HX.out.trans (ext_alloc _ _).but | exact HXE.out.trans (ext_alloc _ _).but | exact ((HX.out.set _ _).trans (ext_alloc _ _).but) | exact (HXE.out.trans ((Ext.refl _).drewN _).but).trans (ext_alloc _ _).but⟩)
                              · have hl5 : R4.length = x2.length + R5.length := by rw [hR5]; simp only [List.length_append]
                                have HR5 := Lib.hid (show R3 = (numB (x2.length : Int) 4 ++ x2) ++ R5 by rw [hR4, hR5, List.append_assoc])
                                have HS5 := Lib.hid hS5
                                have hcc : p + 4 + x2.length ≤ c9 := by omega
                                have h5n : ¬ R4.length < x2.length := by omega
                                clear hS0 hx hS4 hR4 hR5 hS5 e1 hl4 hl5
                                go_wp2_with (go_at_call 138; refine (rd32n x2.length HK4.out _ _ _ R4 _ (by rw [← HR4.out]; exact (HD.out.at_ HX.out).1)).mono ?_; rintro e w5 ⟨rfl, hx5⟩; have HX5 := Lib.hid hx5; have hb5 := (hx5.block b (lt_of_block HH.out.blk)).trans HH.out.blk; have hg5 := (hx5.block g3 (lt_of_block HH.out.arr)).trans HH.out.arr; have HG5 := Lib.hid hg5; have hc5 := cell_slot hb5 3 _ rfl; have HC5 := Lib.hid hc5; clear hx5 hb5 hg5)
                                refine wp_region_cut (J := fun x => Ext w5 x) (R := Ext) 11 [Sp.eq _ (.pointer (some ⟨b, 0, none⟩)), Sp.eq _ (.pointer (some ⟨b, 0, none⟩)), Sp.eq _ (.pointer (some ⟨b, 3, none⟩)), Sp.eq _ (.slice (some ⟨g3, 0, none⟩) vls.length vls.length), Sp.eq _ (.int .i64 k), Sp.eq _ (.slice A N c9), Sp.eq _ (.int .i64 ((p : Int) + 4)), Sp.eq _ (.int .i64 ((p : Int) + 4)), Sp.eq _ (.int .i64 (x2.length : Int)), Sp.eq _ (.int .i64 ((p : Int) + 4 + (x2.length : Int))), spSl] (by kernel_rfl) (by kernel_rfl) ?_ ?_ ?_
                                · exact (Ext.refl w5).drew
                                · refine ⟨?_, ?_, ?_, ?_, ?_, ?_, ?_, ?_, ?_, ?_, ?_, trivial⟩
                                  · intro vs w1 hJ hp
                                    have HJ := Lib.hid hJ
                                    clear hp hJ
                                    simp only [List.take_succ_cons, List.take_zero, putAll, Nat.reduceAdd]
                                    go_wp2
                                    exact ⟨rfl, HJ.out, Ext.refl _, rfl⟩
                                  · intro vs w1 hJ hp
                                    have q0 : vs 0 = .pointer (some ⟨b, 0, none⟩) := hp 0 (by decide)
                                    have HJ := Lib.hid hJ
                                    clear hp hJ
                                    simp only [List.take_succ_cons, List.take_zero, putAll, Nat.reduceAdd]
                                    go_wp2
                                    exact ⟨rfl, HJ.out, Ext.refl _, rfl⟩
                                  · intro vs w1 hJ hp
                                    have q1 : vs 1 = .pointer (some ⟨b, 0, none⟩) := hp 1 (by decide)
                                    have HJ := Lib.hid hJ
                                    clear hp hJ
                                    simp only [List.take_succ_cons, List.take_zero, putAll, Nat.reduceAdd]
                                    go_wp2
                                    exact ⟨rfl, HJ.out, Ext.refl _, rfl⟩
                                  · intro vs w1 hJ hp
                                    have q2 : vs 2 = .pointer (some ⟨b, 3, none⟩) := hp 2 (by decide)
                                    have HJ := Lib.hid hJ
                                    have hq := hJ.cell HC5.out
                                    clear hp hJ
                                    simp only [List.take_succ_cons, List.take_zero, putAll, Nat.reduceAdd]
                                    go_wp2
                                    exact ⟨rfl, HJ.out, Ext.refl _, rfl⟩
                                  · intro vs w1 hJ hp
                                    have HJ := Lib.hid hJ
                                    clear hp hJ
                                    simp only [List.take_succ_cons, List.take_zero, putAll, Nat.reduceAdd]
                                    go_wp2
                                    exact ⟨rfl, HJ.out, Ext.refl _, rfl⟩
                                  · intro vs w1 hJ hp
                                    have HJ := Lib.hid hJ
                                    clear hp hJ
                                    simp only [List.take_succ_cons, List.take_zero, putAll, Nat.reduceAdd]
                                    go_wp2
                                    exact ⟨rfl, HJ.out, Ext.refl _, rfl⟩
                                  · intro vs w1 hJ hp
                                    have HJ := Lib.hid hJ
                                    clear hp hJ
                                    simp only [List.take_succ_cons, List.take_zero, putAll, Nat.reduceAdd]
                                    go_wp2
                                    exact ⟨rfl, HJ.out, Ext.refl _, rfl⟩
                                  · intro vs w1 hJ hp
                                    have HJ := Lib.hid hJ
                                    clear hp hJ
                                    simp only [List.take_succ_cons, List.take_zero, putAll, Nat.reduceAdd]
                                    go_wp2
                                    exact ⟨rfl, HJ.out, Ext.refl _, rfl⟩
                                  · intro vs w1 hJ hp
                                    have HJ := Lib.hid hJ
                                    clear hp hJ
                                    simp only [List.take_succ_cons, List.take_zero, putAll, Nat.reduceAdd]
                                    go_wp2
                                    exact ⟨rfl, HJ.out, Ext.refl _, rfl⟩
                                  · intro vs w1 hJ hp
                                    have q7 : vs 7 = .int .i64 ((p : Int) + 4) := hp 7 (by decide)
                                    have q8 : vs 8 = .int .i64 (x2.length : Int) := hp 8 (by decide)
                                    have HJ := Lib.hid hJ
                                    clear hp hJ
                                    simp only [List.take_succ_cons, List.take_zero, putAll, Nat.reduceAdd]
                                    go_wp2
                                    exact ⟨rfl, HJ.out, Ext.refl _, rfl⟩
                                  · intro vs w1 hJ hp
                                    have q5 : vs 5 = .slice A N c9 := hp 5 (by decide)
                                    have q6 : vs 6 = .int .i64 ((p : Int) + 4) := hp 6 (by decide)
                                    have q9 : vs 9 = .int .i64 ((p : Int) + 4 + (x2.length : Int)) := hp 9 (by decide)
                                    have HJ := Lib.hid hJ
                                    clear hp hJ
                                    simp only [List.take_succ_cons, List.take_zero, putAll, Nat.reduceAdd]
                                    go_wp2
                                    all_goals exact ⟨rfl, HJ.out, Ext.refl _, rfl⟩
                                · intro vs w1 hJ hp
                                  have q0 : vs 0 = .pointer (some ⟨b, 0, none⟩) := hp 0 (by decide)
                                  have q1 : vs 1 = .pointer (some ⟨b, 0, none⟩) := hp 1 (by decide)
                                  have q2 : vs 2 = .pointer (some ⟨b, 3, none⟩) := hp 2 (by decide)
                                  have q3 : vs 3 = .slice (some ⟨g3, 0, none⟩) vls.length vls.length := hp 3 (by decide)
                                  have q4 : vs 4 = .int .i64 k := hp 4 (by decide)
                                  have q5 : vs 5 = .slice A N c9 := hp 5 (by decide)
                                  have q6 : vs 6 = .int .i64 ((p : Int) + 4) := hp 6 (by decide)
                                  have q7 : vs 7 = .int .i64 ((p : Int) + 4) := hp 7 (by decide)
                                  have q8 : vs 8 = .int .i64 (x2.length : Int) := hp 8 (by decide)
                                  have q9 : vs 9 = .int .i64 ((p : Int) + 4 + (x2.length : Int)) := hp 9 (by decide)
                                  have q10 : (spSl).p (vs 10) w1 := hp 10 (by decide)
                                  have q10' : vs 10 = .slice (slA (vs 10)) (slN (vs 10)) (slC (vs 10)) := q10
                                  obtain ⟨S13, hS13⟩ : ∃ y, y = slA (vs 10) := ⟨_, rfl⟩
                                  obtain ⟨N13, hN13⟩ : ∃ y, y = slN (vs 10) := ⟨_, rfl⟩
                                  obtain ⟨T13, hT13⟩ : ∃ y, y = slC (vs 10) := ⟨_, rfl⟩
                                  rw [← hS13, ← hN13, ← hT13] at q10'
                                  have HJ := Lib.hid hJ
                                  have hcg' := cell_slot ((hJ.block _ (lt_of_block HG5.out)).trans HG5.out) k (cs.getD k undef) (HH.out.at_ hlt)
                                  have hfg' := free_slot ((hJ.block _ (lt_of_block HG5.out)).trans HG5.out) k
                                  clear hp hJ q10 hS13 hN13 hT13 hc5
                                  simp only [List.drop_succ_cons, List.drop_zero, List.take_succ_cons, List.take_zero, putAll, Nat.reduceAdd, Act.put, q10', q0, q1, q2, q3, q4, q5, q6, q7, q8, q9, List.setIfInBounds_toArray, List.set_cons_zero, List.set_cons_succ]
                                  clear q10' q0 q1 q2 q3 q4 q5 q6 q7 q8 q9
                                  go_wp2
                                  go_roundw
                                  case rel =>
                                    refine ⟨k + 1, p + (4 + x2.length), by omega, by go_num, by go_num, R5, cs.setIfInBounds k (.slice S13 N13 T13), Lib.hid ?_⟩
                                    exact HH.out.next (HX5.out.trans HJ.out) HR5.out HS5.out (by rw [List.length_append, numB_len]) _ _ HLT.out
                                  case measure => simp only [intOf]; omega
                      · obtain rfl : k = vls.length := by omega
                        have hS := HH.out.pre
                        rw [List.drop_length] at hS
                        replace hS : SPre R3 (numB (lr.length : Int) 2 ++ (lr.flatMap fun n => numB n 2)) := by simpa using hS
                        obtain ⟨R, hRR⟩ : ∃ y, y = R3 := ⟨_, rfl⟩
                        rw [← hRR] at hS
                        have hP : xs.drop p = R := by rw [hRR]; exact HH.out.rest
                        have HLP : Hid (N = p + R.length) := Lib.hid (by rw [hRR]; exact HH.out.len)
                        have HX := Lib.hid HH.out.bel
                        have HBK := Lib.hid HH.out.blk
                        have hck0 := cell_slot HBK.out 0 _ rfl; have hfk0 := free_slot HBK.out 0; have hck1 := cell_slot HBK.out 1 _ rfl; have hfk1 := free_slot HBK.out 1; have hck2 := cell_slot HBK.out 2 _ rfl; have hfk2 := free_slot HBK.out 2; have hck3 := cell_slot HBK.out 3 _ rfl; have hfk3 := free_slot HBK.out 3; have hck4 := cell_slot HBK.out 4 _ rfl; have hfk4 := free_slot HBK.out 4
                        clear hRR
                        have hNBz : N - (p) = R.length := by have := HLP.out; omega
                        obtain ⟨Bz, dBz, hsBz, hrBz⟩ := sl_at A N c9 (p) (by have := HLP.out; omega) hcap HCM.out
                        rw [hNBz] at hsBz
                        rcases hS.fixed with h0 | ⟨Rz, hRz, hSz⟩
                        · rw [numB_len] at h0
                          clear hrBz hS
                          go_wp2
                          all_goals (go_ret; exact ⟨_, _, rfl, by first | exact HX.out | exact HX.out.trans (ext_alloc _ _).but | exact HXE.out.trans (ext_alloc _ _).but | exact ((HX.out.set _ _).trans (ext_alloc _ _).but) | exact (HXE.out.trans ((Ext.refl _).drewN _).but).trans (ext_alloc _ _).but⟩)
                        · have h2Bz : ¬ R.length < 2 := by rw [hRz, List.length_append, numB_len]; omega
                          have hlBz : R.length = 2 + Rz.length := by rw [hRz, List.length_append, numB_len]
                          have HQBz : Hid (∀ w, ExtBut b wd w → RdB w (.slice Bz R.length dBz) (numB (lr.length : Int) 2 ++ Rz)) := Lib.hid (fun w hw => by have h9 := (hrBz b wd xs HV.out).at_ hw; rw [hP, hNBz] at h9; have h8 := h9.1; rwa [show R = numB (lr.length : Int) 2 ++ Rz from hRz] at h8 ⊢)
                          have hPBz : xs.drop (p + 2) = Rz := drop_step (by rw [hP, hRz]) (by rw [numB_len])
                          have hltz : Rz.length < lr.length * 2 := by have h9 := hSz.len; rwa [nums_len2] at h9
                          have hN8 : N - (p + 2) = Rz.length := by have := HLP.out; omega
                          obtain ⟨By, dBy, hsBy, hrBy⟩ := sl_at A N c9 (p + 2) (by have := HLP.out; omega) hcap HCM.out
                          rw [hN8] at hsBy
                          have hmk := mkH_run lr.length (by omega)
                          have hwr : IntKind.i64.wrap ((lr.length : Int) * 2) = (lr.length : Int) * 2 := by rw [IntKind.wrap_i64]; omega
                          have hlti : (Rz.length : Int) < (lr.length : Int) * 2 := by omega
                          clear hrBz hrBy hS hSz hRz hlBz hN8 hPBz
                          go_wp2_with (first | (go_at_call_of 137 Bz; refine (rd16n (lr.length : Int) HNR.out _ _ _ (Rz) _ (HQBz.out _ HX.out)).mono ?_; rintro e w3 ⟨rfl, hx3⟩; have HXn : Hid (ExtBut b wd w3) := Lib.hid (HX.out.trans hx3.but); have HBn : Hid (w3.heap[b]? = some (.cells #[.string (strOf (sby a)), .string (strOf (sby c)), .slice (some ⟨g2, 0, none⟩) lf.length lf.length, .slice (some ⟨g3, 0, none⟩) vls.length vls.length, .slice none 0 0] 107 (0, 0))) := Lib.hid ((hx3.block b (lt_of_block HBK.out)).trans HBK.out); clear HX HBK; have HX := HXn; have HBK := HBn; clear HXn HBn hx3; (try clear hck0); (try clear hfk0); (try clear hck1); (try clear hfk1); (try clear hck2); (try clear hfk2); (try clear hck3); (try clear hfk3); (try clear hck4); (try clear hfk4); have hck0 := cell_slot HBK.out 0 _ rfl; have hfk0 := free_slot HBK.out 0; have hck1 := cell_slot HBK.out 1 _ rfl; have hfk1 := free_slot HBK.out 1; have hck2 := cell_slot HBK.out 2 _ rfl; have hfk2 := free_slot HBK.out 2; have hck3 := cell_slot HBK.out 3 _ rfl; have hfk3 := free_slot HBK.out 3; have hck4 := cell_slot HBK.out 4 _ rfl; have hfk4 := free_slot HBK.out 4; have hbm := ((mkH_ext lr.length w3).block b (lt_of_block HBK.out)).trans HBK.out; have hmk0 := cell_slot hbm 0 _ rfl; have hmf0 := free_slot hbm 0; have hmk1 := cell_slot hbm 1 _ rfl; have hmf1 := free_slot hbm 1; have hmk2 := cell_slot hbm 2 _ rfl; have hmf2 := free_slot hbm 2; have hmk3 := cell_slot hbm 3 _ rfl; have hmf3 := free_slot hbm 3; have hmk4 := cell_slot hbm 4 _ rfl; have hmf4 := free_slot hbm 4; clear hbm))
                          go_quiet (skip)
                          have HXE := Lib.hid ((HX.out.trans (mkH_ext lr.length w3).but).set 4 (.slice (some ⟨w3.heap.size, 0, none⟩) lr.length lr.length))
                          go_wp2
                          all_goals (go_ret; exact ⟨_, _, rfl, by first | exact HX.out | exact HX.out.trans (ext_alloc _ _).but | exact HXE.out.trans (ext_alloc _ _).but | exact ((HX.out.set _ _).trans (ext_alloc _ _).but) | exact (HXE.out.trans ((Ext.refl _).drewN _).but).trans (ext_alloc _ _).but⟩)
end Go.Proofs.YtdenjanihikolaaGreatDoor

