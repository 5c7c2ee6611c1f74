/- Kinds whose pairs may stand in any order. -/
import Derived.Test.YtdenjanihikolaaGreatDoorVMkd
import Derived.Test.YtdenjanihikolaaGreatDoorVBya
import Derived.Test.YtdenjanihikolaaGreatDoorVMth
namespace Go.Proofs.YtdenjanihikolaaGreatDoor
open Go.RowKit
set_option linter.unusedVariables false
set_option linter.unusedSimpArgs false

theorem numB1 (n : Int) : numB n 1 = [n % 256] := by simp [numB]
theorem numB2 (n : Int) : numB n 2 = b16 n := by
  unfold b16 be16
  simp only [numB, Int.pow_succ, Int.pow_zero]
  refine List.cons_eq_cons.2 ⟨by omega, List.cons_eq_cons.2 ⟨by omega, rfl⟩⟩
theorem numB4 (n : Int) : numB n 4 = b32 n := by
  unfold b32 be32
  simp only [numB, Int.pow_succ, Int.pow_zero]
  refine List.cons_eq_cons.2 ⟨by omega, List.cons_eq_cons.2 ⟨by omega, List.cons_eq_cons.2 ⟨by omega, List.cons_eq_cons.2 ⟨by omega, rfl⟩⟩⟩⟩
theorem valB_opt (x : Bool × List Int) : valB x.1 x.2 = optB (optV x) := by
  obtain ⟨b, d⟩ := x
  cases b <;> simp [valB, optV, optB, numB4]
theorem vals_opt (l : List (Bool × List Int)) : (l.flatMap fun x => valB x.1 x.2) = (l.map optV).flatMap optB := by
  rw [List.flatMap_map]
  congr 1
  funext x
  exact valB_opt x
theorem nums2 (l : List Int) : (l.flatMap fun n => numB n 2) = l.flatMap b16 := by
  congr 1; funext n; exact numB2 n
theorem nums4 (l : List Int) : (l.flatMap fun n => numB n 4) = l.flatMap b32 := by
  congr 1; funext n; exact numB4 n
/-- A message with its type, by the reference and by the package. -/
theorem all_msg {L : Int} (h : 0 < L ∧ L < 256) (body : List Int) : allB L body = msgB L body := by
  unfold allB msgB
  rw [if_neg (by omega), numB1, numB4]
  have : L % 256 = L := by omega
  rw [this]
  rfl
theorem all_msg0 (body : List Int) : allB 0 body = msg0 body := by
  unfold allB msg0
  rw [if_pos rfl, numB4]
  rfl
end Go.Proofs.YtdenjanihikolaaGreatDoor

namespace Go.Proofs.YtdenjanihikolaaGreatDoor
open Go.RowKit
set_option linter.unusedVariables false

def turnedQ (kd : Int) : Bool := kd == 18 || kd == 47 || kd == 48
set_option maxRecDepth 100000 in
theorem turned12 (kd : Int) (w : World) : Calls Tryz.prog 12 #[.int .i64 kd] w (fun e w' => e = .returned (.bool (turnedQ kd)) ∧ w' = w) := by
  by_cases h18 : kd = 18
  · subst h18
    go_enter Tryz.func12, Tryz.ntmps12
    go_wp2
    go_ret
    exact ⟨rfl, rfl⟩
  by_cases h47 : kd = 47
  · subst h47
    go_enter Tryz.func12, Tryz.ntmps12
    go_wp2
    go_ret
    exact ⟨rfl, rfl⟩
  by_cases h48 : kd = 48
  · subst h48
    go_enter Tryz.func12, Tryz.ntmps12
    go_wp2
    go_ret
    exact ⟨rfl, rfl⟩
  have e18 : (kd == 18) = false := beq_eq_false_iff_ne.2 h18
  have e47 : (kd == 47) = false := beq_eq_false_iff_ne.2 h47
  have e48 : (kd == 48) = false := beq_eq_false_iff_ne.2 h48
  have hs : turnedQ kd = false := by unfold turnedQ; simp only [e18, e47, e48]; rfl
  rw [hs]
  go_enter Tryz.func12, Tryz.ntmps12
  go_wp2
  go_ret
  exact ⟨rfl, rfl⟩
end Go.Proofs.YtdenjanihikolaaGreatDoor

