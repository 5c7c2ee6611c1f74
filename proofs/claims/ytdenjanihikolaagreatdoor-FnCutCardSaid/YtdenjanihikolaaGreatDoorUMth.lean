/- The methods of the messages: closed facts. -/
import Derived.Test.YtdenjanihikolaaGreatDoorUSd
namespace Go.Proofs.YtdenjanihikolaaGreatDoor
open Go.RowKit
set_option linter.unusedVariables false

theorem me0 (b : Nat) (w : World) : (method 480 101 (.pointer (some ⟨b, 0, none⟩)) "Encode").run Tryz.prog w = .ok (134, .pointer (some ⟨b, 0, none⟩)) w := by kernel_rfl
theorem ce0 (args : Array Value) (w : World) : (callFunc 134 args).run Tryz.prog w = .ok (.enter 134 args) w := by kernel_rfl
theorem md0 (b : Nat) (w : World) : (method 480 101 (.pointer (some ⟨b, 0, none⟩)) "Decode").run Tryz.prog w = .ok (133, .pointer (some ⟨b, 0, none⟩)) w := by kernel_rfl
theorem nd0 (b : Nat) (w : World) : (nilAhead 480 101 (.pointer (some ⟨b, 0, none⟩)) "Decode").run Tryz.prog w = .ok (some false) w := by kernel_rfl
theorem cd0 (args : Array Value) (w : World) : (callFunc 133 args).run Tryz.prog w = .ok (.enter 133 args) w := by kernel_rfl
theorem me1 (b : Nat) (w : World) : (method 480 108 (.pointer (some ⟨b, 0, none⟩)) "Encode").run Tryz.prog w = .ok (148, .pointer (some ⟨b, 0, none⟩)) w := by kernel_rfl
theorem ce1 (args : Array Value) (w : World) : (callFunc 148 args).run Tryz.prog w = .ok (.enter 148 args) w := by kernel_rfl
theorem md1 (b : Nat) (w : World) : (method 480 108 (.pointer (some ⟨b, 0, none⟩)) "Decode").run Tryz.prog w = .ok (147, .pointer (some ⟨b, 0, none⟩)) w := by kernel_rfl
theorem nd1 (b : Nat) (w : World) : (nilAhead 480 108 (.pointer (some ⟨b, 0, none⟩)) "Decode").run Tryz.prog w = .ok (some false) w := by kernel_rfl
theorem cd1 (args : Array Value) (w : World) : (callFunc 147 args).run Tryz.prog w = .ok (.enter 147 args) w := by kernel_rfl
theorem me2 (b : Nat) (w : World) : (method 480 111 (.pointer (some ⟨b, 0, none⟩)) "Encode").run Tryz.prog w = .ok (151, .pointer (some ⟨b, 0, none⟩)) w := by kernel_rfl
theorem ce2 (args : Array Value) (w : World) : (callFunc 151 args).run Tryz.prog w = .ok (.enter 151 args) w := by kernel_rfl
theorem md2 (b : Nat) (w : World) : (method 480 111 (.pointer (some ⟨b, 0, none⟩)) "Decode").run Tryz.prog w = .ok (150, .pointer (some ⟨b, 0, none⟩)) w := by kernel_rfl
theorem nd2 (b : Nat) (w : World) : (nilAhead 480 111 (.pointer (some ⟨b, 0, none⟩)) "Decode").run Tryz.prog w = .ok (some false) w := by kernel_rfl
theorem cd2 (args : Array Value) (w : World) : (callFunc 150 args).run Tryz.prog w = .ok (.enter 150 args) w := by kernel_rfl
theorem me3 (b : Nat) (w : World) : (method 480 116 (.pointer (some ⟨b, 0, none⟩)) "Encode").run Tryz.prog w = .ok (158, .pointer (some ⟨b, 0, none⟩)) w := by kernel_rfl
theorem ce3 (args : Array Value) (w : World) : (callFunc 158 args).run Tryz.prog w = .ok (.enter 158 args) w := by kernel_rfl
theorem md3 (b : Nat) (w : World) : (method 480 116 (.pointer (some ⟨b, 0, none⟩)) "Decode").run Tryz.prog w = .ok (157, .pointer (some ⟨b, 0, none⟩)) w := by kernel_rfl
theorem nd3 (b : Nat) (w : World) : (nilAhead 480 116 (.pointer (some ⟨b, 0, none⟩)) "Decode").run Tryz.prog w = .ok (some false) w := by kernel_rfl
theorem cd3 (args : Array Value) (w : World) : (callFunc 157 args).run Tryz.prog w = .ok (.enter 157 args) w := by kernel_rfl
theorem me4 (b : Nat) (w : World) : (method 480 154 (.pointer (some ⟨b, 0, none⟩)) "Encode").run Tryz.prog w = .ok (215, .pointer (some ⟨b, 0, none⟩)) w := by kernel_rfl
theorem ce4 (args : Array Value) (w : World) : (callFunc 215 args).run Tryz.prog w = .ok (.enter 215 args) w := by kernel_rfl
theorem me5 (b : Nat) (w : World) : (method 480 119 (.pointer (some ⟨b, 0, none⟩)) "Encode").run Tryz.prog w = .ok (160, .pointer (some ⟨b, 0, none⟩)) w := by kernel_rfl
theorem ce5 (args : Array Value) (w : World) : (callFunc 160 args).run Tryz.prog w = .ok (.enter 160 args) w := by kernel_rfl
theorem md5 (b : Nat) (w : World) : (method 480 119 (.pointer (some ⟨b, 0, none⟩)) "Decode").run Tryz.prog w = .ok (159, .pointer (some ⟨b, 0, none⟩)) w := by kernel_rfl
theorem nd5 (b : Nat) (w : World) : (nilAhead 480 119 (.pointer (some ⟨b, 0, none⟩)) "Decode").run Tryz.prog w = .ok (some false) w := by kernel_rfl
theorem cd5 (args : Array Value) (w : World) : (callFunc 159 args).run Tryz.prog w = .ok (.enter 159 args) w := by kernel_rfl
theorem me6 (b : Nat) (w : World) : (method 480 114 (.pointer (some ⟨b, 0, none⟩)) "Encode").run Tryz.prog w = .ok (154, .pointer (some ⟨b, 0, none⟩)) w := by kernel_rfl
theorem ce6 (args : Array Value) (w : World) : (callFunc 154 args).run Tryz.prog w = .ok (.enter 154 args) w := by kernel_rfl
theorem md6 (b : Nat) (w : World) : (method 480 114 (.pointer (some ⟨b, 0, none⟩)) "Decode").run Tryz.prog w = .ok (153, .pointer (some ⟨b, 0, none⟩)) w := by kernel_rfl
theorem nd6 (b : Nat) (w : World) : (nilAhead 480 114 (.pointer (some ⟨b, 0, none⟩)) "Decode").run Tryz.prog w = .ok (some false) w := by kernel_rfl
theorem cd6 (args : Array Value) (w : World) : (callFunc 153 args).run Tryz.prog w = .ok (.enter 153 args) w := by kernel_rfl
theorem me7 (b : Nat) (w : World) : (method 480 122 (.pointer (some ⟨b, 0, none⟩)) "Encode").run Tryz.prog w = .ok (163, .pointer (some ⟨b, 0, none⟩)) w := by kernel_rfl
theorem ce7 (args : Array Value) (w : World) : (callFunc 163 args).run Tryz.prog w = .ok (.enter 163 args) w := by kernel_rfl
theorem md7 (b : Nat) (w : World) : (method 480 122 (.pointer (some ⟨b, 0, none⟩)) "Decode").run Tryz.prog w = .ok (162, .pointer (some ⟨b, 0, none⟩)) w := by kernel_rfl
theorem nd7 (b : Nat) (w : World) : (nilAhead 480 122 (.pointer (some ⟨b, 0, none⟩)) "Decode").run Tryz.prog w = .ok (some false) w := by kernel_rfl
theorem cd7 (args : Array Value) (w : World) : (callFunc 162 args).run Tryz.prog w = .ok (.enter 162 args) w := by kernel_rfl
theorem me8 (b : Nat) (w : World) : (method 480 157 (.pointer (some ⟨b, 0, none⟩)) "Encode").run Tryz.prog w = .ok (217, .pointer (some ⟨b, 0, none⟩)) w := by kernel_rfl
theorem ce8 (args : Array Value) (w : World) : (callFunc 217 args).run Tryz.prog w = .ok (.enter 217 args) w := by kernel_rfl
theorem me9 (b : Nat) (w : World) : (method 480 125 (.pointer (some ⟨b, 0, none⟩)) "Encode").run Tryz.prog w = .ok (170, .pointer (some ⟨b, 0, none⟩)) w := by kernel_rfl
theorem ce9 (args : Array Value) (w : World) : (callFunc 170 args).run Tryz.prog w = .ok (.enter 170 args) w := by kernel_rfl
theorem md9 (b : Nat) (w : World) : (method 480 125 (.pointer (some ⟨b, 0, none⟩)) "Decode").run Tryz.prog w = .ok (169, .pointer (some ⟨b, 0, none⟩)) w := by kernel_rfl
theorem nd9 (b : Nat) (w : World) : (nilAhead 480 125 (.pointer (some ⟨b, 0, none⟩)) "Decode").run Tryz.prog w = .ok (some false) w := by kernel_rfl
theorem cd9 (args : Array Value) (w : World) : (callFunc 169 args).run Tryz.prog w = .ok (.enter 169 args) w := by kernel_rfl
theorem me10 (b : Nat) (w : World) : (method 480 159 (.pointer (some ⟨b, 0, none⟩)) "Encode").run Tryz.prog w = .ok (220, .pointer (some ⟨b, 0, none⟩)) w := by kernel_rfl
theorem ce10 (args : Array Value) (w : World) : (callFunc 220 args).run Tryz.prog w = .ok (.enter 220 args) w := by kernel_rfl
theorem md10 (b : Nat) (w : World) : (method 480 159 (.pointer (some ⟨b, 0, none⟩)) "Decode").run Tryz.prog w = .ok (219, .pointer (some ⟨b, 0, none⟩)) w := by kernel_rfl
theorem nd10 (b : Nat) (w : World) : (nilAhead 480 159 (.pointer (some ⟨b, 0, none⟩)) "Decode").run Tryz.prog w = .ok (some false) w := by kernel_rfl
theorem cd10 (args : Array Value) (w : World) : (callFunc 219 args).run Tryz.prog w = .ok (.enter 219 args) w := by kernel_rfl
theorem me11 (b : Nat) (w : World) : (method 480 132 (.pointer (some ⟨b, 0, none⟩)) "Encode").run Tryz.prog w = .ok (173, .pointer (some ⟨b, 0, none⟩)) w := by kernel_rfl
theorem ce11 (args : Array Value) (w : World) : (callFunc 173 args).run Tryz.prog w = .ok (.enter 173 args) w := by kernel_rfl
theorem md11 (b : Nat) (w : World) : (method 480 132 (.pointer (some ⟨b, 0, none⟩)) "Decode").run Tryz.prog w = .ok (172, .pointer (some ⟨b, 0, none⟩)) w := by kernel_rfl
theorem nd11 (b : Nat) (w : World) : (nilAhead 480 132 (.pointer (some ⟨b, 0, none⟩)) "Decode").run Tryz.prog w = .ok (some false) w := by kernel_rfl
theorem cd11 (args : Array Value) (w : World) : (callFunc 172 args).run Tryz.prog w = .ok (.enter 172 args) w := by kernel_rfl
theorem me12 (b : Nat) (w : World) : (method 480 134 (.pointer (some ⟨b, 0, none⟩)) "Encode").run Tryz.prog w = .ok (176, .pointer (some ⟨b, 0, none⟩)) w := by kernel_rfl
theorem ce12 (args : Array Value) (w : World) : (callFunc 176 args).run Tryz.prog w = .ok (.enter 176 args) w := by kernel_rfl
theorem md12 (b : Nat) (w : World) : (method 480 134 (.pointer (some ⟨b, 0, none⟩)) "Decode").run Tryz.prog w = .ok (175, .pointer (some ⟨b, 0, none⟩)) w := by kernel_rfl
theorem nd12 (b : Nat) (w : World) : (nilAhead 480 134 (.pointer (some ⟨b, 0, none⟩)) "Decode").run Tryz.prog w = .ok (some false) w := by kernel_rfl
theorem cd12 (args : Array Value) (w : World) : (callFunc 175 args).run Tryz.prog w = .ok (.enter 175 args) w := by kernel_rfl
theorem me13 (b : Nat) (w : World) : (method 480 138 (.pointer (some ⟨b, 0, none⟩)) "Encode").run Tryz.prog w = .ok (179, .pointer (some ⟨b, 0, none⟩)) w := by kernel_rfl
theorem ce13 (args : Array Value) (w : World) : (callFunc 179 args).run Tryz.prog w = .ok (.enter 179 args) w := by kernel_rfl
theorem md13 (b : Nat) (w : World) : (method 480 138 (.pointer (some ⟨b, 0, none⟩)) "Decode").run Tryz.prog w = .ok (178, .pointer (some ⟨b, 0, none⟩)) w := by kernel_rfl
theorem nd13 (b : Nat) (w : World) : (nilAhead 480 138 (.pointer (some ⟨b, 0, none⟩)) "Decode").run Tryz.prog w = .ok (some false) w := by kernel_rfl
theorem cd13 (args : Array Value) (w : World) : (callFunc 178 args).run Tryz.prog w = .ok (.enter 178 args) w := by kernel_rfl
theorem me14 (b : Nat) (w : World) : (method 480 141 (.pointer (some ⟨b, 0, none⟩)) "Encode").run Tryz.prog w = .ok (182, .pointer (some ⟨b, 0, none⟩)) w := by kernel_rfl
theorem ce14 (args : Array Value) (w : World) : (callFunc 182 args).run Tryz.prog w = .ok (.enter 182 args) w := by kernel_rfl
theorem md14 (b : Nat) (w : World) : (method 480 141 (.pointer (some ⟨b, 0, none⟩)) "Decode").run Tryz.prog w = .ok (181, .pointer (some ⟨b, 0, none⟩)) w := by kernel_rfl
theorem nd14 (b : Nat) (w : World) : (nilAhead 480 141 (.pointer (some ⟨b, 0, none⟩)) "Decode").run Tryz.prog w = .ok (some false) w := by kernel_rfl
theorem cd14 (args : Array Value) (w : World) : (callFunc 181 args).run Tryz.prog w = .ok (.enter 181 args) w := by kernel_rfl
theorem me15 (b : Nat) (w : World) : (method 480 144 (.pointer (some ⟨b, 0, none⟩)) "Encode").run Tryz.prog w = .ok (185, .pointer (some ⟨b, 0, none⟩)) w := by kernel_rfl
theorem ce15 (args : Array Value) (w : World) : (callFunc 185 args).run Tryz.prog w = .ok (.enter 185 args) w := by kernel_rfl
theorem md15 (b : Nat) (w : World) : (method 480 144 (.pointer (some ⟨b, 0, none⟩)) "Decode").run Tryz.prog w = .ok (184, .pointer (some ⟨b, 0, none⟩)) w := by kernel_rfl
theorem nd15 (b : Nat) (w : World) : (nilAhead 480 144 (.pointer (some ⟨b, 0, none⟩)) "Decode").run Tryz.prog w = .ok (some false) w := by kernel_rfl
theorem cd15 (args : Array Value) (w : World) : (callFunc 184 args).run Tryz.prog w = .ok (.enter 184 args) w := by kernel_rfl
theorem me16 (b : Nat) (w : World) : (method 480 147 (.pointer (some ⟨b, 0, none⟩)) "Encode").run Tryz.prog w = .ok (188, .pointer (some ⟨b, 0, none⟩)) w := by kernel_rfl
theorem ce16 (args : Array Value) (w : World) : (callFunc 188 args).run Tryz.prog w = .ok (.enter 188 args) w := by kernel_rfl
theorem md16 (b : Nat) (w : World) : (method 480 147 (.pointer (some ⟨b, 0, none⟩)) "Decode").run Tryz.prog w = .ok (187, .pointer (some ⟨b, 0, none⟩)) w := by kernel_rfl
theorem nd16 (b : Nat) (w : World) : (nilAhead 480 147 (.pointer (some ⟨b, 0, none⟩)) "Decode").run Tryz.prog w = .ok (some false) w := by kernel_rfl
theorem cd16 (args : Array Value) (w : World) : (callFunc 187 args).run Tryz.prog w = .ok (.enter 187 args) w := by kernel_rfl
theorem me17 (b : Nat) (w : World) : (method 480 161 (.pointer (some ⟨b, 0, none⟩)) "Encode").run Tryz.prog w = .ok (223, .pointer (some ⟨b, 0, none⟩)) w := by kernel_rfl
theorem ce17 (args : Array Value) (w : World) : (callFunc 223 args).run Tryz.prog w = .ok (.enter 223 args) w := by kernel_rfl
theorem md17 (b : Nat) (w : World) : (method 480 161 (.pointer (some ⟨b, 0, none⟩)) "Decode").run Tryz.prog w = .ok (222, .pointer (some ⟨b, 0, none⟩)) w := by kernel_rfl
theorem nd17 (b : Nat) (w : World) : (nilAhead 480 161 (.pointer (some ⟨b, 0, none⟩)) "Decode").run Tryz.prog w = .ok (some false) w := by kernel_rfl
theorem cd17 (args : Array Value) (w : World) : (callFunc 222 args).run Tryz.prog w = .ok (.enter 222 args) w := by kernel_rfl
theorem me18 (b : Nat) (w : World) : (method 480 149 (.pointer (some ⟨b, 0, none⟩)) "Encode").run Tryz.prog w = .ok (191, .pointer (some ⟨b, 0, none⟩)) w := by kernel_rfl
theorem ce18 (args : Array Value) (w : World) : (callFunc 191 args).run Tryz.prog w = .ok (.enter 191 args) w := by kernel_rfl
theorem md18 (b : Nat) (w : World) : (method 480 149 (.pointer (some ⟨b, 0, none⟩)) "Decode").run Tryz.prog w = .ok (190, .pointer (some ⟨b, 0, none⟩)) w := by kernel_rfl
theorem nd18 (b : Nat) (w : World) : (nilAhead 480 149 (.pointer (some ⟨b, 0, none⟩)) "Decode").run Tryz.prog w = .ok (some false) w := by kernel_rfl
theorem cd18 (args : Array Value) (w : World) : (callFunc 190 args).run Tryz.prog w = .ok (.enter 190 args) w := by kernel_rfl
theorem me19 (b : Nat) (w : World) : (method 480 163 (.pointer (some ⟨b, 0, none⟩)) "Encode").run Tryz.prog w = .ok (226, .pointer (some ⟨b, 0, none⟩)) w := by kernel_rfl
theorem ce19 (args : Array Value) (w : World) : (callFunc 226 args).run Tryz.prog w = .ok (.enter 226 args) w := by kernel_rfl
theorem me20 (b : Nat) (w : World) : (method 480 165 (.pointer (some ⟨b, 0, none⟩)) "Encode").run Tryz.prog w = .ok (229, .pointer (some ⟨b, 0, none⟩)) w := by kernel_rfl
theorem ce20 (args : Array Value) (w : World) : (callFunc 229 args).run Tryz.prog w = .ok (.enter 229 args) w := by kernel_rfl
theorem me30 (b : Nat) (w : World) : (method 480 167 (.pointer (some ⟨b, 0, none⟩)) "Encode").run Tryz.prog w = .ok (233, .pointer (some ⟨b, 0, none⟩)) w := by kernel_rfl
theorem ce30 (args : Array Value) (w : World) : (callFunc 233 args).run Tryz.prog w = .ok (.enter 233 args) w := by kernel_rfl
theorem md30 (b : Nat) (w : World) : (method 480 167 (.pointer (some ⟨b, 0, none⟩)) "Decode").run Tryz.prog w = .ok (232, .pointer (some ⟨b, 0, none⟩)) w := by kernel_rfl
theorem nd30 (b : Nat) (w : World) : (nilAhead 480 167 (.pointer (some ⟨b, 0, none⟩)) "Decode").run Tryz.prog w = .ok (some false) w := by kernel_rfl
theorem cd30 (args : Array Value) (w : World) : (callFunc 232 args).run Tryz.prog w = .ok (.enter 232 args) w := by kernel_rfl
theorem me31 (b : Nat) (w : World) : (method 480 169 (.pointer (some ⟨b, 0, none⟩)) "Encode").run Tryz.prog w = .ok (236, .pointer (some ⟨b, 0, none⟩)) w := by kernel_rfl
theorem ce31 (args : Array Value) (w : World) : (callFunc 236 args).run Tryz.prog w = .ok (.enter 236 args) w := by kernel_rfl
theorem md31 (b : Nat) (w : World) : (method 480 169 (.pointer (some ⟨b, 0, none⟩)) "Decode").run Tryz.prog w = .ok (235, .pointer (some ⟨b, 0, none⟩)) w := by kernel_rfl
theorem nd31 (b : Nat) (w : World) : (nilAhead 480 169 (.pointer (some ⟨b, 0, none⟩)) "Decode").run Tryz.prog w = .ok (some false) w := by kernel_rfl
theorem cd31 (args : Array Value) (w : World) : (callFunc 235 args).run Tryz.prog w = .ok (.enter 235 args) w := by kernel_rfl
theorem me32 (b : Nat) (w : World) : (method 480 185 (.pointer (some ⟨b, 0, none⟩)) "Encode").run Tryz.prog w = .ok (260, .pointer (some ⟨b, 0, none⟩)) w := by kernel_rfl
theorem ce32 (args : Array Value) (w : World) : (callFunc 260 args).run Tryz.prog w = .ok (.enter 260 args) w := by kernel_rfl
theorem md32 (b : Nat) (w : World) : (method 480 185 (.pointer (some ⟨b, 0, none⟩)) "Decode").run Tryz.prog w = .ok (259, .pointer (some ⟨b, 0, none⟩)) w := by kernel_rfl
theorem nd32 (b : Nat) (w : World) : (nilAhead 480 185 (.pointer (some ⟨b, 0, none⟩)) "Decode").run Tryz.prog w = .ok (some false) w := by kernel_rfl
theorem cd32 (args : Array Value) (w : World) : (callFunc 259 args).run Tryz.prog w = .ok (.enter 259 args) w := by kernel_rfl
theorem me33 (b : Nat) (w : World) : (method 480 171 (.pointer (some ⟨b, 0, none⟩)) "Encode").run Tryz.prog w = .ok (239, .pointer (some ⟨b, 0, none⟩)) w := by kernel_rfl
theorem ce33 (args : Array Value) (w : World) : (callFunc 239 args).run Tryz.prog w = .ok (.enter 239 args) w := by kernel_rfl
theorem md33 (b : Nat) (w : World) : (method 480 171 (.pointer (some ⟨b, 0, none⟩)) "Decode").run Tryz.prog w = .ok (238, .pointer (some ⟨b, 0, none⟩)) w := by kernel_rfl
theorem nd33 (b : Nat) (w : World) : (nilAhead 480 171 (.pointer (some ⟨b, 0, none⟩)) "Decode").run Tryz.prog w = .ok (some false) w := by kernel_rfl
theorem cd33 (args : Array Value) (w : World) : (callFunc 238 args).run Tryz.prog w = .ok (.enter 238 args) w := by kernel_rfl
theorem me34 (b : Nat) (w : World) : (method 480 189 (.pointer (some ⟨b, 0, none⟩)) "Encode").run Tryz.prog w = .ok (263, .pointer (some ⟨b, 0, none⟩)) w := by kernel_rfl
theorem ce34 (args : Array Value) (w : World) : (callFunc 263 args).run Tryz.prog w = .ok (.enter 263 args) w := by kernel_rfl
theorem md34 (b : Nat) (w : World) : (method 480 189 (.pointer (some ⟨b, 0, none⟩)) "Decode").run Tryz.prog w = .ok (262, .pointer (some ⟨b, 0, none⟩)) w := by kernel_rfl
theorem nd34 (b : Nat) (w : World) : (nilAhead 480 189 (.pointer (some ⟨b, 0, none⟩)) "Decode").run Tryz.prog w = .ok (some false) w := by kernel_rfl
theorem cd34 (args : Array Value) (w : World) : (callFunc 262 args).run Tryz.prog w = .ok (.enter 262 args) w := by kernel_rfl
theorem me35 (b : Nat) (w : World) : (method 480 191 (.pointer (some ⟨b, 0, none⟩)) "Encode").run Tryz.prog w = .ok (266, .pointer (some ⟨b, 0, none⟩)) w := by kernel_rfl
theorem ce35 (args : Array Value) (w : World) : (callFunc 266 args).run Tryz.prog w = .ok (.enter 266 args) w := by kernel_rfl
theorem md35 (b : Nat) (w : World) : (method 480 191 (.pointer (some ⟨b, 0, none⟩)) "Decode").run Tryz.prog w = .ok (265, .pointer (some ⟨b, 0, none⟩)) w := by kernel_rfl
theorem nd35 (b : Nat) (w : World) : (nilAhead 480 191 (.pointer (some ⟨b, 0, none⟩)) "Decode").run Tryz.prog w = .ok (some false) w := by kernel_rfl
theorem cd35 (args : Array Value) (w : World) : (callFunc 265 args).run Tryz.prog w = .ok (.enter 265 args) w := by kernel_rfl
theorem me36 (b : Nat) (w : World) : (method 480 194 (.pointer (some ⟨b, 0, none⟩)) "Encode").run Tryz.prog w = .ok (269, .pointer (some ⟨b, 0, none⟩)) w := by kernel_rfl
theorem ce36 (args : Array Value) (w : World) : (callFunc 269 args).run Tryz.prog w = .ok (.enter 269 args) w := by kernel_rfl
theorem md36 (b : Nat) (w : World) : (method 480 194 (.pointer (some ⟨b, 0, none⟩)) "Decode").run Tryz.prog w = .ok (268, .pointer (some ⟨b, 0, none⟩)) w := by kernel_rfl
theorem nd36 (b : Nat) (w : World) : (nilAhead 480 194 (.pointer (some ⟨b, 0, none⟩)) "Decode").run Tryz.prog w = .ok (some false) w := by kernel_rfl
theorem cd36 (args : Array Value) (w : World) : (callFunc 268 args).run Tryz.prog w = .ok (.enter 268 args) w := by kernel_rfl
theorem me37 (b : Nat) (w : World) : (method 480 196 (.pointer (some ⟨b, 0, none⟩)) "Encode").run Tryz.prog w = .ok (272, .pointer (some ⟨b, 0, none⟩)) w := by kernel_rfl
theorem ce37 (args : Array Value) (w : World) : (callFunc 272 args).run Tryz.prog w = .ok (.enter 272 args) w := by kernel_rfl
theorem md37 (b : Nat) (w : World) : (method 480 196 (.pointer (some ⟨b, 0, none⟩)) "Decode").run Tryz.prog w = .ok (271, .pointer (some ⟨b, 0, none⟩)) w := by kernel_rfl
theorem nd37 (b : Nat) (w : World) : (nilAhead 480 196 (.pointer (some ⟨b, 0, none⟩)) "Decode").run Tryz.prog w = .ok (some false) w := by kernel_rfl
theorem cd37 (args : Array Value) (w : World) : (callFunc 271 args).run Tryz.prog w = .ok (.enter 271 args) w := by kernel_rfl
theorem me38 (b : Nat) (w : World) : (method 480 198 (.pointer (some ⟨b, 0, none⟩)) "Encode").run Tryz.prog w = .ok (275, .pointer (some ⟨b, 0, none⟩)) w := by kernel_rfl
theorem ce38 (args : Array Value) (w : World) : (callFunc 275 args).run Tryz.prog w = .ok (.enter 275 args) w := by kernel_rfl
theorem md38 (b : Nat) (w : World) : (method 480 198 (.pointer (some ⟨b, 0, none⟩)) "Decode").run Tryz.prog w = .ok (274, .pointer (some ⟨b, 0, none⟩)) w := by kernel_rfl
theorem nd38 (b : Nat) (w : World) : (nilAhead 480 198 (.pointer (some ⟨b, 0, none⟩)) "Decode").run Tryz.prog w = .ok (some false) w := by kernel_rfl
theorem cd38 (args : Array Value) (w : World) : (callFunc 274 args).run Tryz.prog w = .ok (.enter 274 args) w := by kernel_rfl
theorem me39 (b : Nat) (w : World) : (method 480 173 (.pointer (some ⟨b, 0, none⟩)) "Encode").run Tryz.prog w = .ok (242, .pointer (some ⟨b, 0, none⟩)) w := by kernel_rfl
theorem ce39 (args : Array Value) (w : World) : (callFunc 242 args).run Tryz.prog w = .ok (.enter 242 args) w := by kernel_rfl
theorem me40 (b : Nat) (w : World) : (method 480 175 (.pointer (some ⟨b, 0, none⟩)) "Encode").run Tryz.prog w = .ok (245, .pointer (some ⟨b, 0, none⟩)) w := by kernel_rfl
theorem ce40 (args : Array Value) (w : World) : (callFunc 245 args).run Tryz.prog w = .ok (.enter 245 args) w := by kernel_rfl
theorem me41 (b : Nat) (w : World) : (method 480 200 (.pointer (some ⟨b, 0, none⟩)) "Encode").run Tryz.prog w = .ok (278, .pointer (some ⟨b, 0, none⟩)) w := by kernel_rfl
theorem ce41 (args : Array Value) (w : World) : (callFunc 278 args).run Tryz.prog w = .ok (.enter 278 args) w := by kernel_rfl
theorem md41 (b : Nat) (w : World) : (method 480 200 (.pointer (some ⟨b, 0, none⟩)) "Decode").run Tryz.prog w = .ok (277, .pointer (some ⟨b, 0, none⟩)) w := by kernel_rfl
theorem nd41 (b : Nat) (w : World) : (nilAhead 480 200 (.pointer (some ⟨b, 0, none⟩)) "Decode").run Tryz.prog w = .ok (some false) w := by kernel_rfl
theorem cd41 (args : Array Value) (w : World) : (callFunc 277 args).run Tryz.prog w = .ok (.enter 277 args) w := by kernel_rfl
theorem me42 (b : Nat) (w : World) : (method 480 203 (.pointer (some ⟨b, 0, none⟩)) "Encode").run Tryz.prog w = .ok (281, .pointer (some ⟨b, 0, none⟩)) w := by kernel_rfl
theorem ce42 (args : Array Value) (w : World) : (callFunc 281 args).run Tryz.prog w = .ok (.enter 281 args) w := by kernel_rfl
theorem md42 (b : Nat) (w : World) : (method 480 203 (.pointer (some ⟨b, 0, none⟩)) "Decode").run Tryz.prog w = .ok (280, .pointer (some ⟨b, 0, none⟩)) w := by kernel_rfl
theorem nd42 (b : Nat) (w : World) : (nilAhead 480 203 (.pointer (some ⟨b, 0, none⟩)) "Decode").run Tryz.prog w = .ok (some false) w := by kernel_rfl
theorem cd42 (args : Array Value) (w : World) : (callFunc 280 args).run Tryz.prog w = .ok (.enter 280 args) w := by kernel_rfl
theorem me43 (b : Nat) (w : World) : (method 480 206 (.pointer (some ⟨b, 0, none⟩)) "Encode").run Tryz.prog w = .ok (284, .pointer (some ⟨b, 0, none⟩)) w := by kernel_rfl
theorem ce43 (args : Array Value) (w : World) : (callFunc 284 args).run Tryz.prog w = .ok (.enter 284 args) w := by kernel_rfl
theorem md43 (b : Nat) (w : World) : (method 480 206 (.pointer (some ⟨b, 0, none⟩)) "Decode").run Tryz.prog w = .ok (283, .pointer (some ⟨b, 0, none⟩)) w := by kernel_rfl
theorem nd43 (b : Nat) (w : World) : (nilAhead 480 206 (.pointer (some ⟨b, 0, none⟩)) "Decode").run Tryz.prog w = .ok (some false) w := by kernel_rfl
theorem cd43 (args : Array Value) (w : World) : (callFunc 283 args).run Tryz.prog w = .ok (.enter 283 args) w := by kernel_rfl
theorem me44 (b : Nat) (w : World) : (method 480 208 (.pointer (some ⟨b, 0, none⟩)) "Encode").run Tryz.prog w = .ok (287, .pointer (some ⟨b, 0, none⟩)) w := by kernel_rfl
theorem ce44 (args : Array Value) (w : World) : (callFunc 287 args).run Tryz.prog w = .ok (.enter 287 args) w := by kernel_rfl
theorem md44 (b : Nat) (w : World) : (method 480 208 (.pointer (some ⟨b, 0, none⟩)) "Decode").run Tryz.prog w = .ok (286, .pointer (some ⟨b, 0, none⟩)) w := by kernel_rfl
theorem nd44 (b : Nat) (w : World) : (nilAhead 480 208 (.pointer (some ⟨b, 0, none⟩)) "Decode").run Tryz.prog w = .ok (some false) w := by kernel_rfl
theorem cd44 (args : Array Value) (w : World) : (callFunc 286 args).run Tryz.prog w = .ok (.enter 286 args) w := by kernel_rfl
theorem me45 (b : Nat) (w : World) : (method 480 210 (.pointer (some ⟨b, 0, none⟩)) "Encode").run Tryz.prog w = .ok (290, .pointer (some ⟨b, 0, none⟩)) w := by kernel_rfl
theorem ce45 (args : Array Value) (w : World) : (callFunc 290 args).run Tryz.prog w = .ok (.enter 290 args) w := by kernel_rfl
theorem md45 (b : Nat) (w : World) : (method 480 210 (.pointer (some ⟨b, 0, none⟩)) "Decode").run Tryz.prog w = .ok (289, .pointer (some ⟨b, 0, none⟩)) w := by kernel_rfl
theorem nd45 (b : Nat) (w : World) : (nilAhead 480 210 (.pointer (some ⟨b, 0, none⟩)) "Decode").run Tryz.prog w = .ok (some false) w := by kernel_rfl
theorem cd45 (args : Array Value) (w : World) : (callFunc 289 args).run Tryz.prog w = .ok (.enter 289 args) w := by kernel_rfl
theorem me46 (b : Nat) (w : World) : (method 480 177 (.pointer (some ⟨b, 0, none⟩)) "Encode").run Tryz.prog w = .ok (248, .pointer (some ⟨b, 0, none⟩)) w := by kernel_rfl
theorem ce46 (args : Array Value) (w : World) : (callFunc 248 args).run Tryz.prog w = .ok (.enter 248 args) w := by kernel_rfl
theorem me47 (b : Nat) (w : World) : (method 480 213 (.pointer (some ⟨b, 0, none⟩)) "Encode").run Tryz.prog w = .ok (293, .pointer (some ⟨b, 0, none⟩)) w := by kernel_rfl
theorem ce47 (args : Array Value) (w : World) : (callFunc 293 args).run Tryz.prog w = .ok (.enter 293 args) w := by kernel_rfl
theorem md47 (b : Nat) (w : World) : (method 480 213 (.pointer (some ⟨b, 0, none⟩)) "Decode").run Tryz.prog w = .ok (292, .pointer (some ⟨b, 0, none⟩)) w := by kernel_rfl
theorem nd47 (b : Nat) (w : World) : (nilAhead 480 213 (.pointer (some ⟨b, 0, none⟩)) "Decode").run Tryz.prog w = .ok (some false) w := by kernel_rfl
theorem cd47 (args : Array Value) (w : World) : (callFunc 292 args).run Tryz.prog w = .ok (.enter 292 args) w := by kernel_rfl
theorem me48 (b : Nat) (w : World) : (method 480 217 (.pointer (some ⟨b, 0, none⟩)) "Encode").run Tryz.prog w = .ok (315, .pointer (some ⟨b, 0, none⟩)) w := by kernel_rfl
theorem ce48 (args : Array Value) (w : World) : (callFunc 315 args).run Tryz.prog w = .ok (.enter 315 args) w := by kernel_rfl
theorem md48 (b : Nat) (w : World) : (method 480 217 (.pointer (some ⟨b, 0, none⟩)) "Decode").run Tryz.prog w = .ok (314, .pointer (some ⟨b, 0, none⟩)) w := by kernel_rfl
theorem nd48 (b : Nat) (w : World) : (nilAhead 480 217 (.pointer (some ⟨b, 0, none⟩)) "Decode").run Tryz.prog w = .ok (some false) w := by kernel_rfl
theorem cd48 (args : Array Value) (w : World) : (callFunc 314 args).run Tryz.prog w = .ok (.enter 314 args) w := by kernel_rfl
theorem me49 (b : Nat) (w : World) : (method 480 219 (.pointer (some ⟨b, 0, none⟩)) "Encode").run Tryz.prog w = .ok (318, .pointer (some ⟨b, 0, none⟩)) w := by kernel_rfl
theorem ce49 (args : Array Value) (w : World) : (callFunc 318 args).run Tryz.prog w = .ok (.enter 318 args) w := by kernel_rfl
theorem md49 (b : Nat) (w : World) : (method 480 219 (.pointer (some ⟨b, 0, none⟩)) "Decode").run Tryz.prog w = .ok (317, .pointer (some ⟨b, 0, none⟩)) w := by kernel_rfl
theorem nd49 (b : Nat) (w : World) : (nilAhead 480 219 (.pointer (some ⟨b, 0, none⟩)) "Decode").run Tryz.prog w = .ok (some false) w := by kernel_rfl
theorem cd49 (args : Array Value) (w : World) : (callFunc 317 args).run Tryz.prog w = .ok (.enter 317 args) w := by kernel_rfl
theorem me50 (b : Nat) (w : World) : (method 480 179 (.pointer (some ⟨b, 0, none⟩)) "Encode").run Tryz.prog w = .ok (251, .pointer (some ⟨b, 0, none⟩)) w := by kernel_rfl
theorem ce50 (args : Array Value) (w : World) : (callFunc 251 args).run Tryz.prog w = .ok (.enter 251 args) w := by kernel_rfl
theorem me51 (b : Nat) (w : World) : (method 480 222 (.pointer (some ⟨b, 0, none⟩)) "Encode").run Tryz.prog w = .ok (321, .pointer (some ⟨b, 0, none⟩)) w := by kernel_rfl
theorem ce51 (args : Array Value) (w : World) : (callFunc 321 args).run Tryz.prog w = .ok (.enter 321 args) w := by kernel_rfl
theorem md51 (b : Nat) (w : World) : (method 480 222 (.pointer (some ⟨b, 0, none⟩)) "Decode").run Tryz.prog w = .ok (320, .pointer (some ⟨b, 0, none⟩)) w := by kernel_rfl
theorem nd51 (b : Nat) (w : World) : (nilAhead 480 222 (.pointer (some ⟨b, 0, none⟩)) "Decode").run Tryz.prog w = .ok (some false) w := by kernel_rfl
theorem cd51 (args : Array Value) (w : World) : (callFunc 320 args).run Tryz.prog w = .ok (.enter 320 args) w := by kernel_rfl
theorem me52 (b : Nat) (w : World) : (method 480 225 (.pointer (some ⟨b, 0, none⟩)) "Encode").run Tryz.prog w = .ok (324, .pointer (some ⟨b, 0, none⟩)) w := by kernel_rfl
theorem ce52 (args : Array Value) (w : World) : (callFunc 324 args).run Tryz.prog w = .ok (.enter 324 args) w := by kernel_rfl
theorem md52 (b : Nat) (w : World) : (method 480 225 (.pointer (some ⟨b, 0, none⟩)) "Decode").run Tryz.prog w = .ok (323, .pointer (some ⟨b, 0, none⟩)) w := by kernel_rfl
theorem nd52 (b : Nat) (w : World) : (nilAhead 480 225 (.pointer (some ⟨b, 0, none⟩)) "Decode").run Tryz.prog w = .ok (some false) w := by kernel_rfl
theorem cd52 (args : Array Value) (w : World) : (callFunc 323 args).run Tryz.prog w = .ok (.enter 323 args) w := by kernel_rfl
theorem me53 (b : Nat) (w : World) : (method 480 228 (.pointer (some ⟨b, 0, none⟩)) "Encode").run Tryz.prog w = .ok (327, .pointer (some ⟨b, 0, none⟩)) w := by kernel_rfl
theorem ce53 (args : Array Value) (w : World) : (callFunc 327 args).run Tryz.prog w = .ok (.enter 327 args) w := by kernel_rfl
theorem md53 (b : Nat) (w : World) : (method 480 228 (.pointer (some ⟨b, 0, none⟩)) "Decode").run Tryz.prog w = .ok (326, .pointer (some ⟨b, 0, none⟩)) w := by kernel_rfl
theorem nd53 (b : Nat) (w : World) : (nilAhead 480 228 (.pointer (some ⟨b, 0, none⟩)) "Decode").run Tryz.prog w = .ok (some false) w := by kernel_rfl
theorem cd53 (args : Array Value) (w : World) : (callFunc 326 args).run Tryz.prog w = .ok (.enter 326 args) w := by kernel_rfl
theorem me54 (b : Nat) (w : World) : (method 480 181 (.pointer (some ⟨b, 0, none⟩)) "Encode").run Tryz.prog w = .ok (254, .pointer (some ⟨b, 0, none⟩)) w := by kernel_rfl
theorem ce54 (args : Array Value) (w : World) : (callFunc 254 args).run Tryz.prog w = .ok (.enter 254 args) w := by kernel_rfl
theorem me55 (b : Nat) (w : World) : (method 480 183 (.pointer (some ⟨b, 0, none⟩)) "Encode").run Tryz.prog w = .ok (257, .pointer (some ⟨b, 0, none⟩)) w := by kernel_rfl
theorem ce55 (args : Array Value) (w : World) : (callFunc 257 args).run Tryz.prog w = .ok (.enter 257 args) w := by kernel_rfl
theorem me56 (b : Nat) (w : World) : (method 480 230 (.pointer (some ⟨b, 0, none⟩)) "Encode").run Tryz.prog w = .ok (330, .pointer (some ⟨b, 0, none⟩)) w := by kernel_rfl
theorem ce56 (args : Array Value) (w : World) : (callFunc 330 args).run Tryz.prog w = .ok (.enter 330 args) w := by kernel_rfl
theorem me57 (b : Nat) (w : World) : (method 480 233 (.pointer (some ⟨b, 0, none⟩)) "Encode").run Tryz.prog w = .ok (333, .pointer (some ⟨b, 0, none⟩)) w := by kernel_rfl
theorem ce57 (args : Array Value) (w : World) : (callFunc 333 args).run Tryz.prog w = .ok (.enter 333 args) w := by kernel_rfl
theorem md57 (b : Nat) (w : World) : (method 480 233 (.pointer (some ⟨b, 0, none⟩)) "Decode").run Tryz.prog w = .ok (332, .pointer (some ⟨b, 0, none⟩)) w := by kernel_rfl
theorem nd57 (b : Nat) (w : World) : (nilAhead 480 233 (.pointer (some ⟨b, 0, none⟩)) "Decode").run Tryz.prog w = .ok (some false) w := by kernel_rfl
theorem cd57 (args : Array Value) (w : World) : (callFunc 332 args).run Tryz.prog w = .ok (.enter 332 args) w := by kernel_rfl
end Go.Proofs.YtdenjanihikolaaGreatDoor

