/- The package answers at all. -/
import Derived.Test.YtdenjanihikolaaGreatDoorUMda
import Derived.Test.YtdenjanihikolaaGreatDoorUEncb
import Derived.Test.YtdenjanihikolaaGreatDoorUEncc
import Derived.Laws.IdiomStrings
namespace Go.Proofs.YtdenjanihikolaaGreatDoor
open Go.RowKit
set_option linter.unusedVariables false
set_option linter.unusedSimpArgs false

/-- the string of some bytes -/
def strOf (xs : List Int) : ByteArray := xs.foldl (fun r n => r.push (UInt8.ofNat n.toNat)) ByteArray.empty
theorem conv_rd {w : World} {v : Value} {xs : List Int} (h : RdB w v xs) : (convert 26 9 v).run Tryz.prog w = .ok (.string (strOf xs)) w := by
  obtain ⟨A, c, rfl, h1, h2, h3⟩ := h
  rw [run_convert_bytes_string w 26 9 5 A xs.length c Tryz.underlying26 Tryz.underlying5 Tryz.underlying9]
  by_cases hn : 0 < xs.length
  · obtain ⟨b, off, rfl, hc⟩ := h3 hn
    refine run_bytesToString w ⟨b, off, none⟩ xs.length c xs ?_
    have := run_loadCells_list (P := Tryz.prog) w ⟨b, off, none⟩ (xs.map (Value.int .u8)) (fun j v hj => by
      have hj' : j < xs.length := by
        have := (List.getElem?_eq_some_iff.1 hj).1
        simpa using this
      rw [add_lit0, hc j hj']
      simp [List.getElem?_eq_getElem hj'] at hj
      rw [← hj]
      simp [List.getD, List.getElem?_eq_getElem hj'])
    simpa using this
  · have hx : xs = [] := List.eq_nil_of_length_eq_zero (by omega)
    subst hx
    cases A with
    | none => simp [Conv.bytesToString, strOf, Sem.run_pure]
    | some a => exact run_bytesToString w a 0 c [] (by simpa using run_loadCells_list (P := Tryz.prog) w a [] (fun j v hj => by simp at hj))

theorem meth19 (b : Nat) (w : World) : (method 480 163 (.pointer (some ⟨b, 0, none⟩)) "Encode").run Tryz.prog w = .ok (226, .pointer (some ⟨b, 0, none⟩)) w := by kernel_rfl
theorem cf226 (args : Array Value) (w : World) : (callFunc 226 args).run Tryz.prog w = .ok (.enter 226 args) w := by kernel_rfl
theorem made19 (n : Int) (v1 v2 v4 v5 v6 v7 v8 v9 v10 v11 v12 : Value) (w : World) (R : List Int) (HR : Hid (R = msgB 83 [])) : Calls Tryz.prog 34 #[.agg #[.int .i64 19, v1, v2, .int .u32 n, v4, v5, v6, v7, v8, v9, v10, v11, v12]] w (Made 163 226 w R) :=
  made_dflt 163 226 164 #[] 19 n v1 v2 v4 v5 v6 v7 v8 v9 v10 v11 v12 w R (by decide) emp19 fun w1 b hx _ _ => ans_triv 163 226 b 19 n v1 v2 v4 v5 v6 v7 v8 v9 v10 v11 v12 w w1 R (by decide) hx fun w2 => encSync b w2 R HR
theorem enc19 (n : Int) (v1 v2 v4 v5 v6 v7 v8 v9 v10 v11 v12 : Value) (w : World) (R : List Int) (HR : Hid (R = msgB 83 [])) : Calls Tryz.prog 14 #[.agg #[.int .i64 19, v1, v2, .int .u32 n, v4, v5, v6, v7, v8, v9, v10, v11, v12]] w (Encs w R) :=
  enc14 163 226 _ _ _ _ _ _ _ _ _ _ _ _ _ w R meth19 cf226 fun w' _ => made19 n v1 v2 v4 v5 v6 v7 v8 v9 v10 v11 v12 w' R HR

theorem str5 : (strOf [83, 0, 0, 0, 4]).toList = [83, 0, 0, 0, 4] := by
  rw [ByteArray.toList_eq]; rfl

set_option maxRecDepth 100000 in
theorem works13 (w : World) : Calls Tryz.prog 13 #[] w (fun e w' => e = .returned (.bool true) ∧ Ext w w') := by
  have h5 := str5
  go_enter Tryz.func13, Tryz.ntmps13
  go_wp2_with (go_at_call 14; refine (enc19 _ _ _ _ _ _ _ _ _ _ _ _ _ [83, 0, 0, 0, 4] (Lib.hid (by decide))).mono ?_; rintro e w1 ⟨A, c, rfl, hx, hr⟩; have HX := Lib.hid hx; have hcv : (convert 26 9 (.slice A 5 c)).run Tryz.prog w1 = .ok (.string (strOf [83, 0, 0, 0, 4])) w1 := conv_rd hr; clear hr hx)
  go_ret
  exact ⟨rfl, HX.out⟩
end Go.Proofs.YtdenjanihikolaaGreatDoor

