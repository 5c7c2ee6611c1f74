/- The decoders of the kinds that have nothing or one byte, where they can't. -/
import Derived.Test.YtdenjanihikolaaGreatDoorUDec
import Derived.Test.YtdenjanihikolaaGreatDoorUPpd
import Derived.Test.YtdenjanihikolaaGreatDoorUBdb
import Derived.Test.YtdenjanihikolaaGreatDoorUBdd
import Derived.Test.YtdenjanihikolaaGreatDoorUBdf
namespace Go.Proofs.YtdenjanihikolaaGreatDoor
open Go.RowKit
set_option linter.unusedVariables false
set_option linter.unusedSimpArgs false

set_option maxRecDepth 100000 in
theorem dl4 (b : Nat) (v : Value) (xs : List Int) (w : World) (h : RdB w v xs) (hl : xs.length ≤ 1000000) (hn : xs.length ≠ 0) : Calls Tryz.prog 214 #[.pointer (some ⟨b, 0, none⟩), v] w (fun e w2 => ∃ Te ve, e = .returned (.iface Te ve) ∧ ExtBut b w w2) := by
  obtain ⟨A, c, rfl, _⟩ := h
  have hne : ((xs.length : Int) != 0) = true := bne_iff_ne.2 (fun h => hn (by omega))
  go_enter Tryz.func214, Tryz.ntmps214
  go_wp2
  all_goals (go_ret; exact ⟨_, _, rfl, (ext_alloc _ _).but⟩)
theorem md4 (b : Nat) (w : World) : (method 480 154 (.pointer (some ⟨b, 0, none⟩)) "Decode").run Tryz.prog w = .ok (214, .pointer (some ⟨b, 0, none⟩)) w := by kernel_rfl
theorem nd4 (b : Nat) (w : World) : (nilAhead 480 154 (.pointer (some ⟨b, 0, none⟩)) "Decode").run Tryz.prog w = .ok (some false) w := by kernel_rfl
theorem cd4 (args : Array Value) (w : World) : (callFunc 214 args).run Tryz.prog w = .ok (.enter 214 args) w := by kernel_rfl
theorem nodec4 (v : Value) (xs : List Int) (w : World) (h : RdB w v xs) (hl : xs.length ≤ 1000000) (hn : xs.length ≠ 0) : Calls Tryz.prog 19 #[.int .i64 4, v] w (NoDec w) :=
  dec_err 154 214 156 #[] 4 v xs w h hl md4 nd4 cd4 emp4 fun w1 b v1 _ _ h1 => dl4 b v1 xs w1 h1 hl hn
set_option maxRecDepth 100000 in
theorem dl8 (b : Nat) (v : Value) (xs : List Int) (w : World) (h : RdB w v xs) (hl : xs.length ≤ 1000000) (hn : xs.length ≠ 0) : Calls Tryz.prog 216 #[.pointer (some ⟨b, 0, none⟩), v] w (fun e w2 => ∃ Te ve, e = .returned (.iface Te ve) ∧ ExtBut b w w2) := by
  obtain ⟨A, c, rfl, _⟩ := h
  have hne : ((xs.length : Int) != 0) = true := bne_iff_ne.2 (fun h => hn (by omega))
  go_enter Tryz.func216, Tryz.ntmps216
  go_wp2
  all_goals (go_ret; exact ⟨_, _, rfl, (ext_alloc _ _).but⟩)
theorem md8 (b : Nat) (w : World) : (method 480 157 (.pointer (some ⟨b, 0, none⟩)) "Decode").run Tryz.prog w = .ok (216, .pointer (some ⟨b, 0, none⟩)) w := by kernel_rfl
theorem nd8 (b : Nat) (w : World) : (nilAhead 480 157 (.pointer (some ⟨b, 0, none⟩)) "Decode").run Tryz.prog w = .ok (some false) w := by kernel_rfl
theorem cd8 (args : Array Value) (w : World) : (callFunc 216 args).run Tryz.prog w = .ok (.enter 216 args) w := by kernel_rfl
theorem nodec8 (v : Value) (xs : List Int) (w : World) (h : RdB w v xs) (hl : xs.length ≤ 1000000) (hn : xs.length ≠ 0) : Calls Tryz.prog 19 #[.int .i64 8, v] w (NoDec w) :=
  dec_err 157 216 158 #[] 8 v xs w h hl md8 nd8 cd8 emp8 fun w1 b v1 _ _ h1 => dl8 b v1 xs w1 h1 hl hn
set_option maxRecDepth 100000 in
theorem dl19 (b : Nat) (v : Value) (xs : List Int) (w : World) (h : RdB w v xs) (hl : xs.length ≤ 1000000) (hn : xs.length ≠ 0) : Calls Tryz.prog 225 #[.pointer (some ⟨b, 0, none⟩), v] w (fun e w2 => ∃ Te ve, e = .returned (.iface Te ve) ∧ ExtBut b w w2) := by
  obtain ⟨A, c, rfl, _⟩ := h
  have hne : ((xs.length : Int) != 0) = true := bne_iff_ne.2 (fun h => hn (by omega))
  go_enter Tryz.func225, Tryz.ntmps225
  go_wp2
  all_goals (go_ret; exact ⟨_, _, rfl, (ext_alloc _ _).but⟩)
theorem md19 (b : Nat) (w : World) : (method 480 163 (.pointer (some ⟨b, 0, none⟩)) "Decode").run Tryz.prog w = .ok (225, .pointer (some ⟨b, 0, none⟩)) w := by kernel_rfl
theorem nd19 (b : Nat) (w : World) : (nilAhead 480 163 (.pointer (some ⟨b, 0, none⟩)) "Decode").run Tryz.prog w = .ok (some false) w := by kernel_rfl
theorem cd19 (args : Array Value) (w : World) : (callFunc 225 args).run Tryz.prog w = .ok (.enter 225 args) w := by kernel_rfl
theorem nodec19 (v : Value) (xs : List Int) (w : World) (h : RdB w v xs) (hl : xs.length ≤ 1000000) (hn : xs.length ≠ 0) : Calls Tryz.prog 19 #[.int .i64 19, v] w (NoDec w) :=
  dec_err 163 225 164 #[] 19 v xs w h hl md19 nd19 cd19 emp19 fun w1 b v1 _ _ h1 => dl19 b v1 xs w1 h1 hl hn
set_option maxRecDepth 100000 in
theorem dl20 (b : Nat) (v : Value) (xs : List Int) (w : World) (h : RdB w v xs) (hl : xs.length ≤ 1000000) (hn : xs.length ≠ 0) : Calls Tryz.prog 228 #[.pointer (some ⟨b, 0, none⟩), v] w (fun e w2 => ∃ Te ve, e = .returned (.iface Te ve) ∧ ExtBut b w w2) := by
  obtain ⟨A, c, rfl, _⟩ := h
  have hne : ((xs.length : Int) != 0) = true := bne_iff_ne.2 (fun h => hn (by omega))
  go_enter Tryz.func228, Tryz.ntmps228
  go_wp2
  all_goals (go_ret; exact ⟨_, _, rfl, (ext_alloc _ _).but⟩)
theorem md20 (b : Nat) (w : World) : (method 480 165 (.pointer (some ⟨b, 0, none⟩)) "Decode").run Tryz.prog w = .ok (228, .pointer (some ⟨b, 0, none⟩)) w := by kernel_rfl
theorem nd20 (b : Nat) (w : World) : (nilAhead 480 165 (.pointer (some ⟨b, 0, none⟩)) "Decode").run Tryz.prog w = .ok (some false) w := by kernel_rfl
theorem cd20 (args : Array Value) (w : World) : (callFunc 228 args).run Tryz.prog w = .ok (.enter 228 args) w := by kernel_rfl
theorem nodec20 (v : Value) (xs : List Int) (w : World) (h : RdB w v xs) (hl : xs.length ≤ 1000000) (hn : xs.length ≠ 0) : Calls Tryz.prog 19 #[.int .i64 20, v] w (NoDec w) :=
  dec_err 165 228 166 #[] 20 v xs w h hl md20 nd20 cd20 emp20 fun w1 b v1 _ _ h1 => dl20 b v1 xs w1 h1 hl hn
set_option maxRecDepth 100000 in
theorem dl39 (b : Nat) (v : Value) (xs : List Int) (w : World) (h : RdB w v xs) (hl : xs.length ≤ 1000000) (hn : xs.length ≠ 0) : Calls Tryz.prog 241 #[.pointer (some ⟨b, 0, none⟩), v] w (fun e w2 => ∃ Te ve, e = .returned (.iface Te ve) ∧ ExtBut b w w2) := by
  obtain ⟨A, c, rfl, _⟩ := h
  have hne : ((xs.length : Int) != 0) = true := bne_iff_ne.2 (fun h => hn (by omega))
  go_enter Tryz.func241, Tryz.ntmps241
  go_wp2
  all_goals (go_ret; exact ⟨_, _, rfl, (ext_alloc _ _).but⟩)
theorem md39 (b : Nat) (w : World) : (method 480 173 (.pointer (some ⟨b, 0, none⟩)) "Decode").run Tryz.prog w = .ok (241, .pointer (some ⟨b, 0, none⟩)) w := by kernel_rfl
theorem nd39 (b : Nat) (w : World) : (nilAhead 480 173 (.pointer (some ⟨b, 0, none⟩)) "Decode").run Tryz.prog w = .ok (some false) w := by kernel_rfl
theorem cd39 (args : Array Value) (w : World) : (callFunc 241 args).run Tryz.prog w = .ok (.enter 241 args) w := by kernel_rfl
theorem nodec39 (v : Value) (xs : List Int) (w : World) (h : RdB w v xs) (hl : xs.length ≤ 1000000) (hn : xs.length ≠ 0) : Calls Tryz.prog 19 #[.int .i64 39, v] w (NoDec w) :=
  dec_err 173 241 174 #[] 39 v xs w h hl md39 nd39 cd39 emp39 fun w1 b v1 _ _ h1 => dl39 b v1 xs w1 h1 hl hn
set_option maxRecDepth 100000 in
theorem dl40 (b : Nat) (v : Value) (xs : List Int) (w : World) (h : RdB w v xs) (hl : xs.length ≤ 1000000) (hn : xs.length ≠ 0) : Calls Tryz.prog 244 #[.pointer (some ⟨b, 0, none⟩), v] w (fun e w2 => ∃ Te ve, e = .returned (.iface Te ve) ∧ ExtBut b w w2) := by
  obtain ⟨A, c, rfl, _⟩ := h
  have hne : ((xs.length : Int) != 0) = true := bne_iff_ne.2 (fun h => hn (by omega))
  go_enter Tryz.func244, Tryz.ntmps244
  go_wp2
  all_goals (go_ret; exact ⟨_, _, rfl, (ext_alloc _ _).but⟩)
theorem md40 (b : Nat) (w : World) : (method 480 175 (.pointer (some ⟨b, 0, none⟩)) "Decode").run Tryz.prog w = .ok (244, .pointer (some ⟨b, 0, none⟩)) w := by kernel_rfl
theorem nd40 (b : Nat) (w : World) : (nilAhead 480 175 (.pointer (some ⟨b, 0, none⟩)) "Decode").run Tryz.prog w = .ok (some false) w := by kernel_rfl
theorem cd40 (args : Array Value) (w : World) : (callFunc 244 args).run Tryz.prog w = .ok (.enter 244 args) w := by kernel_rfl
theorem nodec40 (v : Value) (xs : List Int) (w : World) (h : RdB w v xs) (hl : xs.length ≤ 1000000) (hn : xs.length ≠ 0) : Calls Tryz.prog 19 #[.int .i64 40, v] w (NoDec w) :=
  dec_err 175 244 176 #[] 40 v xs w h hl md40 nd40 cd40 emp40 fun w1 b v1 _ _ h1 => dl40 b v1 xs w1 h1 hl hn
set_option maxRecDepth 100000 in
theorem dl46 (b : Nat) (v : Value) (xs : List Int) (w : World) (h : RdB w v xs) (hl : xs.length ≤ 1000000) (hn : xs.length ≠ 0) : Calls Tryz.prog 247 #[.pointer (some ⟨b, 0, none⟩), v] w (fun e w2 => ∃ Te ve, e = .returned (.iface Te ve) ∧ ExtBut b w w2) := by
  obtain ⟨A, c, rfl, _⟩ := h
  have hne : ((xs.length : Int) != 0) = true := bne_iff_ne.2 (fun h => hn (by omega))
  go_enter Tryz.func247, Tryz.ntmps247
  go_wp2
  all_goals (go_ret; exact ⟨_, _, rfl, (ext_alloc _ _).but⟩)
theorem md46 (b : Nat) (w : World) : (method 480 177 (.pointer (some ⟨b, 0, none⟩)) "Decode").run Tryz.prog w = .ok (247, .pointer (some ⟨b, 0, none⟩)) w := by kernel_rfl
theorem nd46 (b : Nat) (w : World) : (nilAhead 480 177 (.pointer (some ⟨b, 0, none⟩)) "Decode").run Tryz.prog w = .ok (some false) w := by kernel_rfl
theorem cd46 (args : Array Value) (w : World) : (callFunc 247 args).run Tryz.prog w = .ok (.enter 247 args) w := by kernel_rfl
theorem nodec46 (v : Value) (xs : List Int) (w : World) (h : RdB w v xs) (hl : xs.length ≤ 1000000) (hn : xs.length ≠ 0) : Calls Tryz.prog 19 #[.int .i64 46, v] w (NoDec w) :=
  dec_err 177 247 178 #[] 46 v xs w h hl md46 nd46 cd46 emp46 fun w1 b v1 _ _ h1 => dl46 b v1 xs w1 h1 hl hn
set_option maxRecDepth 100000 in
theorem dl50 (b : Nat) (v : Value) (xs : List Int) (w : World) (h : RdB w v xs) (hl : xs.length ≤ 1000000) (hn : xs.length ≠ 0) : Calls Tryz.prog 250 #[.pointer (some ⟨b, 0, none⟩), v] w (fun e w2 => ∃ Te ve, e = .returned (.iface Te ve) ∧ ExtBut b w w2) := by
  obtain ⟨A, c, rfl, _⟩ := h
  have hne : ((xs.length : Int) != 0) = true := bne_iff_ne.2 (fun h => hn (by omega))
  go_enter Tryz.func250, Tryz.ntmps250
  go_wp2
  all_goals (go_ret; exact ⟨_, _, rfl, (ext_alloc _ _).but⟩)
theorem md50 (b : Nat) (w : World) : (method 480 179 (.pointer (some ⟨b, 0, none⟩)) "Decode").run Tryz.prog w = .ok (250, .pointer (some ⟨b, 0, none⟩)) w := by kernel_rfl
theorem nd50 (b : Nat) (w : World) : (nilAhead 480 179 (.pointer (some ⟨b, 0, none⟩)) "Decode").run Tryz.prog w = .ok (some false) w := by kernel_rfl
theorem cd50 (args : Array Value) (w : World) : (callFunc 250 args).run Tryz.prog w = .ok (.enter 250 args) w := by kernel_rfl
theorem nodec50 (v : Value) (xs : List Int) (w : World) (h : RdB w v xs) (hl : xs.length ≤ 1000000) (hn : xs.length ≠ 0) : Calls Tryz.prog 19 #[.int .i64 50, v] w (NoDec w) :=
  dec_err 179 250 180 #[] 50 v xs w h hl md50 nd50 cd50 emp50 fun w1 b v1 _ _ h1 => dl50 b v1 xs w1 h1 hl hn
set_option maxRecDepth 100000 in
theorem dl54 (b : Nat) (v : Value) (xs : List Int) (w : World) (h : RdB w v xs) (hl : xs.length ≤ 1000000) (hn : xs.length ≠ 0) : Calls Tryz.prog 253 #[.pointer (some ⟨b, 0, none⟩), v] w (fun e w2 => ∃ Te ve, e = .returned (.iface Te ve) ∧ ExtBut b w w2) := by
  obtain ⟨A, c, rfl, _⟩ := h
  have hne : ((xs.length : Int) != 0) = true := bne_iff_ne.2 (fun h => hn (by omega))
  go_enter Tryz.func253, Tryz.ntmps253
  go_wp2
  all_goals (go_ret; exact ⟨_, _, rfl, (ext_alloc _ _).but⟩)
theorem md54 (b : Nat) (w : World) : (method 480 181 (.pointer (some ⟨b, 0, none⟩)) "Decode").run Tryz.prog w = .ok (253, .pointer (some ⟨b, 0, none⟩)) w := by kernel_rfl
theorem nd54 (b : Nat) (w : World) : (nilAhead 480 181 (.pointer (some ⟨b, 0, none⟩)) "Decode").run Tryz.prog w = .ok (some false) w := by kernel_rfl
theorem cd54 (args : Array Value) (w : World) : (callFunc 253 args).run Tryz.prog w = .ok (.enter 253 args) w := by kernel_rfl
theorem nodec54 (v : Value) (xs : List Int) (w : World) (h : RdB w v xs) (hl : xs.length ≤ 1000000) (hn : xs.length ≠ 0) : Calls Tryz.prog 19 #[.int .i64 54, v] w (NoDec w) :=
  dec_err 181 253 182 #[] 54 v xs w h hl md54 nd54 cd54 emp54 fun w1 b v1 _ _ h1 => dl54 b v1 xs w1 h1 hl hn
set_option maxRecDepth 100000 in
theorem dl55 (b : Nat) (v : Value) (xs : List Int) (w : World) (h : RdB w v xs) (hl : xs.length ≤ 1000000) (hn : xs.length ≠ 0) : Calls Tryz.prog 256 #[.pointer (some ⟨b, 0, none⟩), v] w (fun e w2 => ∃ Te ve, e = .returned (.iface Te ve) ∧ ExtBut b w w2) := by
  obtain ⟨A, c, rfl, _⟩ := h
  have hne : ((xs.length : Int) != 0) = true := bne_iff_ne.2 (fun h => hn (by omega))
  go_enter Tryz.func256, Tryz.ntmps256
  go_wp2
  all_goals (go_ret; exact ⟨_, _, rfl, (ext_alloc _ _).but⟩)
theorem md55 (b : Nat) (w : World) : (method 480 183 (.pointer (some ⟨b, 0, none⟩)) "Decode").run Tryz.prog w = .ok (256, .pointer (some ⟨b, 0, none⟩)) w := by kernel_rfl
theorem nd55 (b : Nat) (w : World) : (nilAhead 480 183 (.pointer (some ⟨b, 0, none⟩)) "Decode").run Tryz.prog w = .ok (some false) w := by kernel_rfl
theorem cd55 (args : Array Value) (w : World) : (callFunc 256 args).run Tryz.prog w = .ok (.enter 256 args) w := by kernel_rfl
theorem nodec55 (v : Value) (xs : List Int) (w : World) (h : RdB w v xs) (hl : xs.length ≤ 1000000) (hn : xs.length ≠ 0) : Calls Tryz.prog 19 #[.int .i64 55, v] w (NoDec w) :=
  dec_err 183 256 184 #[] 55 v xs w h hl md55 nd55 cd55 emp55 fun w1 b v1 _ _ h1 => dl55 b v1 xs w1 h1 hl hn
set_option maxRecDepth 100000 in
theorem dl56 (b : Nat) (v : Value) (xs : List Int) (w : World) (h : RdB w v xs) (hl : xs.length ≤ 1000000) (hn : xs.length ≠ 1) : Calls Tryz.prog 329 #[.pointer (some ⟨b, 0, none⟩), v] w (fun e w2 => ∃ Te ve, e = .returned (.iface Te ve) ∧ ExtBut b w w2) := by
  obtain ⟨A, c, rfl, _⟩ := h
  have hne : ((xs.length : Int) != 1) = true := bne_iff_ne.2 (fun h => hn (by omega))
  go_enter Tryz.func329, Tryz.ntmps329
  go_wp2
  all_goals (go_ret; exact ⟨_, _, rfl, (ext_alloc _ _).but⟩)
theorem md56 (b : Nat) (w : World) : (method 480 230 (.pointer (some ⟨b, 0, none⟩)) "Decode").run Tryz.prog w = .ok (329, .pointer (some ⟨b, 0, none⟩)) w := by kernel_rfl
theorem nd56 (b : Nat) (w : World) : (nilAhead 480 230 (.pointer (some ⟨b, 0, none⟩)) "Decode").run Tryz.prog w = .ok (some false) w := by kernel_rfl
theorem cd56 (args : Array Value) (w : World) : (callFunc 329 args).run Tryz.prog w = .ok (.enter 329 args) w := by kernel_rfl
theorem nodec56 (v : Value) (xs : List Int) (w : World) (h : RdB w v xs) (hl : xs.length ≤ 1000000) (hn : xs.length ≠ 1) : Calls Tryz.prog 19 #[.int .i64 56, v] w (NoDec w) :=
  dec_err 230 329 232 #[.int .u8 0] 56 v xs w h hl md56 nd56 cd56 emp56 fun w1 b v1 _ _ h1 => dl56 b v1 xs w1 h1 hl hn

/-- The kinds that have nothing or one byte. -/
def strictQ (kd : Int) : Bool := kd == 4 || kd == 8 || kd == 19 || kd == 20 || kd == 39 || kd == 40 || kd == 46 || kd == 50 || kd == 54 || kd == 55 || kd == 56
set_option maxRecDepth 100000 in
theorem strict21 (kd : Int) (w : World) : Calls Tryz.prog 21 #[.int .i64 kd] w (fun e w' => e = .returned (.bool (strictQ kd)) ∧ w' = w) := by
  by_cases h4 : kd = 4
  · subst h4
    go_enter Tryz.func21, Tryz.ntmps21
    go_wp2
    go_ret
    exact ⟨rfl, rfl⟩
  by_cases h8 : kd = 8
  · subst h8
    go_enter Tryz.func21, Tryz.ntmps21
    go_wp2
    go_ret
    exact ⟨rfl, rfl⟩
  by_cases h19 : kd = 19
  · subst h19
    go_enter Tryz.func21, Tryz.ntmps21
    go_wp2
    go_ret
    exact ⟨rfl, rfl⟩
  by_cases h20 : kd = 20
  · subst h20
    go_enter Tryz.func21, Tryz.ntmps21
    go_wp2
    go_ret
    exact ⟨rfl, rfl⟩
  by_cases h39 : kd = 39
  · subst h39
    go_enter Tryz.func21, Tryz.ntmps21
    go_wp2
    go_ret
    exact ⟨rfl, rfl⟩
  by_cases h40 : kd = 40
  · subst h40
    go_enter Tryz.func21, Tryz.ntmps21
    go_wp2
    go_ret
    exact ⟨rfl, rfl⟩
  by_cases h46 : kd = 46
  · subst h46
    go_enter Tryz.func21, Tryz.ntmps21
    go_wp2
    go_ret
    exact ⟨rfl, rfl⟩
  by_cases h50 : kd = 50
  · subst h50
    go_enter Tryz.func21, Tryz.ntmps21
    go_wp2
    go_ret
    exact ⟨rfl, rfl⟩
  by_cases h54 : kd = 54
  · subst h54
    go_enter Tryz.func21, Tryz.ntmps21
    go_wp2
    go_ret
    exact ⟨rfl, rfl⟩
  by_cases h55 : kd = 55
  · subst h55
    go_enter Tryz.func21, Tryz.ntmps21
    go_wp2
    go_ret
    exact ⟨rfl, rfl⟩
  by_cases h56 : kd = 56
  · subst h56
    go_enter Tryz.func21, Tryz.ntmps21
    go_wp2
    go_ret
    exact ⟨rfl, rfl⟩
  have e4 : (kd == 4) = false := beq_eq_false_iff_ne.2 h4
  have e8 : (kd == 8) = false := beq_eq_false_iff_ne.2 h8
  have e19 : (kd == 19) = false := beq_eq_false_iff_ne.2 h19
  have e20 : (kd == 20) = false := beq_eq_false_iff_ne.2 h20
  have e39 : (kd == 39) = false := beq_eq_false_iff_ne.2 h39
  have e40 : (kd == 40) = false := beq_eq_false_iff_ne.2 h40
  have e46 : (kd == 46) = false := beq_eq_false_iff_ne.2 h46
  have e50 : (kd == 50) = false := beq_eq_false_iff_ne.2 h50
  have e54 : (kd == 54) = false := beq_eq_false_iff_ne.2 h54
  have e55 : (kd == 55) = false := beq_eq_false_iff_ne.2 h55
  have e56 : (kd == 56) = false := beq_eq_false_iff_ne.2 h56
  have hs : strictQ kd = false := by unfold strictQ; simp only [e4, e8, e19, e20, e39, e40, e46, e50, e54, e55, e56]; rfl
  rw [hs]
  go_enter Tryz.func21, Tryz.ntmps21
  go_wp2
  go_ret
  exact ⟨rfl, rfl⟩
/-- A strict kind: its body, and that Decode fails where more stands behind it. -/
theorem strict_facts (kd : Int) (h : strictQ kd = true) (a b : ByteArray) (n : Int) (vf vr vt vv vd vw vp vl : Value) (hn : 0 ≤ n ∧ n < 4294967296) :
    ∃ R : List Int, R.length ≤ 1 ∧ (∀ w, Calls Tryz.prog 16 #[.agg #[.int .i64 kd, .string a, .string b, .int .u32 n, vf, vr, vt, vv, vd, vw, vp, vl]] w (Gave w R)) ∧ ∀ (bh : List Int) (v : Value) (w : World), bh ≠ [] → bh.length ≤ 1000 → RdB w v (R ++ bh) → Calls Tryz.prog 19 #[.int .i64 kd, v] w (NoDec w) := by
  unfold strictQ at h
  simp only [Bool.or_eq_true, beq_iff_eq] at h
  have hp : ∀ bh : List Int, bh ≠ [] → 0 < bh.length := fun bh h => List.length_pos_iff.2 h
  rcases h with ((((((((((rfl | rfl) | rfl) | rfl) | rfl) | rfl) | rfl) | rfl) | rfl) | rfl) | rfl)
  · exact ⟨[], by simp, fun w => body4 a b n vf vr vt vv vd vw vp vl w _ rfl, fun bh v w h1 h2 h3 => nodec4 v _ w h3 (by simp; omega) (by have := hp bh h1; simp; omega)⟩
  · exact ⟨[], by simp, fun w => body8 a b n vf vr vt vv vd vw vp vl w _ rfl, fun bh v w h1 h2 h3 => nodec8 v _ w h3 (by simp; omega) (by have := hp bh h1; simp; omega)⟩
  · exact ⟨[], by simp, fun w => body19 a b n vf vr vt vv vd vw vp vl w _ rfl, fun bh v w h1 h2 h3 => nodec19 v _ w h3 (by simp; omega) (by have := hp bh h1; simp; omega)⟩
  · exact ⟨[], by simp, fun w => body20 a b n vf vr vt vv vd vw vp vl w _ rfl, fun bh v w h1 h2 h3 => nodec20 v _ w h3 (by simp; omega) (by have := hp bh h1; simp; omega)⟩
  · exact ⟨[], by simp, fun w => body39 a b n vf vr vt vv vd vw vp vl w _ rfl, fun bh v w h1 h2 h3 => nodec39 v _ w h3 (by simp; omega) (by have := hp bh h1; simp; omega)⟩
  · exact ⟨[], by simp, fun w => body40 a b n vf vr vt vv vd vw vp vl w _ rfl, fun bh v w h1 h2 h3 => nodec40 v _ w h3 (by simp; omega) (by have := hp bh h1; simp; omega)⟩
  · exact ⟨[], by simp, fun w => body46 a b n vf vr vt vv vd vw vp vl w _ rfl, fun bh v w h1 h2 h3 => nodec46 v _ w h3 (by simp; omega) (by have := hp bh h1; simp; omega)⟩
  · exact ⟨[], by simp, fun w => body50 a b n vf vr vt vv vd vw vp vl w _ rfl, fun bh v w h1 h2 h3 => nodec50 v _ w h3 (by simp; omega) (by have := hp bh h1; simp; omega)⟩
  · exact ⟨[], by simp, fun w => body54 a b n vf vr vt vv vd vw vp vl w _ rfl, fun bh v w h1 h2 h3 => nodec54 v _ w h3 (by simp; omega) (by have := hp bh h1; simp; omega)⟩
  · exact ⟨[], by simp, fun w => body55 a b n vf vr vt vv vd vw vp vl w _ rfl, fun bh v w h1 h2 h3 => nodec55 v _ w h3 (by simp; omega) (by have := hp bh h1; simp; omega)⟩
  · exact ⟨numB n 1, by simp [numB_len], fun w => body56 a b n vf vr vt vv vd vw vp vl w hn _ rfl, fun bh v w h1 h2 h3 => nodec56 v _ w h3 (by simp [numB_len]; omega) (by have := hp bh h1; simp [numB_len]; omega)⟩
end Go.Proofs.YtdenjanihikolaaGreatDoor

