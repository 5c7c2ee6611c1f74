/- Reading of bytes by a method of decoding: sub-slices, numbers, the Buffer's methods, by contract. -/
import Derived.Test.YtdenjanihikolaaGreatDoorPWrb
import Derived.Test.YtdenjanihikolaaGreatDoorPBase
import Derived.Laws.IdiomStrings
import Derived.Test.YtdenjanihikolaaGreatDoorPRdl
import Derived.Laws.IdiomCopy
import Derived.Shelf.Sort.Plain
import Derived.Shelf.Strings.Search1
import Derived.Shelf.Small.Strs
import Derived.Lib.EndianBits
namespace Go.Proofs.YtdenjanihikolaaGreatDoor
set_option linter.unusedVariables false
set_option linter.unusedSimpArgs false
open Go.RowKit
set_option linter.unusedVariables false
/-- What made and answer hand back, seen from a world. -/
def Ans (T FN b : Nat) (w : World) (R : List Int) : Ending → World → Prop := fun e w2 => e = .returned (.tuple #[.iface T (.pointer (some ⟨b, 0, none⟩)), .bool true]) ∧ Ext w w2 ∧ Calls Tryz.prog FN #[.pointer (some ⟨b, 0, none⟩), .slice none 0 0] w2 (Gives w2 R)
set_option maxRecDepth 100000 in
set_option maxHeartbeats 1000000 in
theorem made_dflt (T FN ty : Nat) (cs0 : Array Value) (kd n : Int) (v1 v2 v4 v5 v6 v7 v8 v9 v10 v11 v12 : Value) (w : World) (R : List Int) (hT : T ∉ [101, 108, 111, 114, 116, 119, 122, 125, 132, 134, 138, 141, 144, 147, 149])
    (hE : ∀ w, Calls Tryz.prog 46 #[.int .i64 kd] w (fun e w' => e = .returned (.iface T (.pointer (some ⟨w.heap.size, 0, none⟩))) ∧ w' = w.alloc (.cells cs0 ty)))
    (hA : ∀ w1 b, Ext w w1 → w.heap.size ≤ b → w1.heap[b]? = some (.cells cs0 ty (0, 0)) → Calls Tryz.prog 60 #[.iface T (.pointer (some ⟨b, 0, none⟩)), .agg #[.int .i64 kd, v1, v2, .int .u32 n, v4, v5, v6, v7, v8, v9, v10, v11, v12], .bool true] w1 (Ans T FN b w R)) :
    Calls Tryz.prog 34 #[.agg #[.int .i64 kd, v1, v2, .int .u32 n, v4, v5, v6, v7, v8, v9, v10, v11, v12]] w (Made T FN w R) := by
  have n101 := no101 T (fun e => hT (by simp [e]))
  have n108 := no108 T (fun e => hT (by simp [e]))
  have n111 := no111 T (fun e => hT (by simp [e]))
  have n114 := no114 T (fun e => hT (by simp [e]))
  have n116 := no116 T (fun e => hT (by simp [e]))
  have n119 := no119 T (fun e => hT (by simp [e]))
  have n122 := no122 T (fun e => hT (by simp [e]))
  have n125 := no125 T (fun e => hT (by simp [e]))
  have n132 := no132 T (fun e => hT (by simp [e]))
  have n134 := no134 T (fun e => hT (by simp [e]))
  have n138 := no138 T (fun e => hT (by simp [e]))
  have n141 := no141 T (fun e => hT (by simp [e]))
  have n144 := no144 T (fun e => hT (by simp [e]))
  have n147 := no147 T (fun e => hT (by simp [e]))
  have n149 := no149 T (fun e => hT (by simp [e]))
  have HE := Lib.hid hE
  have HA := Lib.hid hA
  clear hE hA hT
  obtain ⟨W1, hW1⟩ : ∃ W1, W1 = (w.alloc (.cells #[.int .i64 kd, v1, v2, .int .u32 n, v4, v5, v6, v7, v8, v9, v10, v11, v12] 31)).alloc (.cells cs0 ty) := ⟨_, rfl⟩
  have hx : Hid (Ext w W1) := Lib.hid (by rw [hW1]; exact (ext_alloc w _).alloc _)
  have hb : Hid (W1.heap[w.heap.size + 1]? = some (.cells cs0 ty (0, 0))) := Lib.hid (by
    rw [hW1]
    have := heap_alloc_new (w.alloc (.cells #[.int .i64 kd, v1, v2, .int .u32 n, v4, v5, v6, v7, v8, v9, v10, v11, v12] 31)) (.cells cs0 ty)
    simpa using this)
  go_enter Tryz.func34, Tryz.ntmps34
  go_wp2_with (first | (go_at_call 46; refine (HE.out _).mono ?_; rintro e w1 ⟨rfl, rfl⟩) | (go_at_call 54; refine (let54 n _).mono ?_; rintro e w1 ⟨rfl, rfl⟩) | (go_at_call 60; rw [← hW1]; refine (HA.out W1 (w.heap.size + 1) hx.out (by omega) hb.out).mono ?_; rintro e w2 ⟨rfl, hx2, hc2⟩; have HX2 := Lib.hid hx2; have HC2 := Lib.hid hc2; clear hx2 hc2))
  go_ret2
  exact ⟨_, rfl, HX2.out, HC2.out⟩
set_option maxRecDepth 100000 in
set_option maxHeartbeats 1000000 in
theorem ans_triv (T FN b : Nat) (kd n : Int) (v1 v2 v4 v5 v6 v7 v8 v9 v10 v11 v12 : Value) (w w1 : World) (R : List Int) (hT : T ∉ [185, 189, 191, 194, 196, 198, 200, 203, 206, 208, 210, 213, 217, 219, 222, 225, 228, 230, 233]) (hx : Ext w w1)
    (hc : ∀ w2, Calls Tryz.prog FN #[.pointer (some ⟨b, 0, none⟩), .slice none 0 0] w2 (Gives w2 R)) :
    Calls Tryz.prog 60 #[.iface T (.pointer (some ⟨b, 0, none⟩)), .agg #[.int .i64 kd, v1, v2, .int .u32 n, v4, v5, v6, v7, v8, v9, v10, v11, v12], .bool true] w1 (Ans T FN b w R) := by
  have n185 := no185 T (fun e => hT (by simp [e]))
  have n189 := no189 T (fun e => hT (by simp [e]))
  have n191 := no191 T (fun e => hT (by simp [e]))
  have n194 := no194 T (fun e => hT (by simp [e]))
  have n196 := no196 T (fun e => hT (by simp [e]))
  have n198 := no198 T (fun e => hT (by simp [e]))
  have n200 := no200 T (fun e => hT (by simp [e]))
  have n203 := no203 T (fun e => hT (by simp [e]))
  have n206 := no206 T (fun e => hT (by simp [e]))
  have n208 := no208 T (fun e => hT (by simp [e]))
  have n210 := no210 T (fun e => hT (by simp [e]))
  have n213 := no213 T (fun e => hT (by simp [e]))
  have n217 := no217 T (fun e => hT (by simp [e]))
  have n219 := no219 T (fun e => hT (by simp [e]))
  have n222 := no222 T (fun e => hT (by simp [e]))
  have n225 := no225 T (fun e => hT (by simp [e]))
  have n228 := no228 T (fun e => hT (by simp [e]))
  have n230 := no230 T (fun e => hT (by simp [e]))
  have n233 := no233 T (fun e => hT (by simp [e]))
  have HC := Lib.hid hc
  clear hc hT
  go_enter Tryz.func60, Tryz.ntmps60
  go_wp2_with (first | (go_at_call 54; refine (let54 n _).mono ?_; rintro e w1 ⟨rfl, rfl⟩))
  go_ret2
  exact ⟨rfl, hx.alloc _, HC.out _⟩
end Go.Proofs.YtdenjanihikolaaGreatDoor

namespace Go.Proofs.YtdenjanihikolaaGreatDoor
open Go.RowKit
set_option linter.unusedVariables false
set_option maxRecDepth 100000 in
theorem emp18 (w : World) : Calls Tryz.prog 46 #[.int .i64 18] w (fun e w' => e = .returned (.iface 149 (.pointer (some ⟨w.heap.size, 0, none⟩))) ∧ w' = w.alloc (.cells #[.int .u32 0, .map none] 152)) := by
  go_enter Tryz.func46, Tryz.ntmps46
  go_wp2
  go_ret
  exact ⟨rfl, rfl⟩
set_option maxRecDepth 100000 in
theorem emp19 (w : World) : Calls Tryz.prog 46 #[.int .i64 19] w (fun e w' => e = .returned (.iface 163 (.pointer (some ⟨w.heap.size, 0, none⟩))) ∧ w' = w.alloc (.cells #[] 164)) := by
  go_enter Tryz.func46, Tryz.ntmps46
  go_wp2
  go_ret
  exact ⟨rfl, rfl⟩
set_option maxRecDepth 100000 in
theorem emp47 (w : World) : Calls Tryz.prog 46 #[.int .i64 47] w (fun e w' => e = .returned (.iface 213 (.pointer (some ⟨w.heap.size, 0, none⟩))) ∧ w' = w.alloc (.cells #[.string ⟨#[]⟩, .string ⟨#[]⟩, .string ⟨#[]⟩, .string ⟨#[]⟩, .string ⟨#[]⟩, .string ⟨#[]⟩, .int .i32 0, .int .i32 0, .string ⟨#[]⟩, .string ⟨#[]⟩, .string ⟨#[]⟩, .string ⟨#[]⟩, .string ⟨#[]⟩, .string ⟨#[]⟩, .string ⟨#[]⟩, .string ⟨#[]⟩, .int .i32 0, .string ⟨#[]⟩, .map none] 216)) := by
  go_enter Tryz.func46, Tryz.ntmps46
  go_wp2
  go_ret
  exact ⟨rfl, rfl⟩
set_option maxRecDepth 100000 in
theorem emp48 (w : World) : Calls Tryz.prog 46 #[.int .i64 48] w (fun e w' => e = .returned (.iface 217 (.pointer (some ⟨w.heap.size, 0, none⟩))) ∧ w' = w.alloc (.cells #[.string ⟨#[]⟩, .string ⟨#[]⟩, .string ⟨#[]⟩, .string ⟨#[]⟩, .string ⟨#[]⟩, .string ⟨#[]⟩, .int .i32 0, .int .i32 0, .string ⟨#[]⟩, .string ⟨#[]⟩, .string ⟨#[]⟩, .string ⟨#[]⟩, .string ⟨#[]⟩, .string ⟨#[]⟩, .string ⟨#[]⟩, .string ⟨#[]⟩, .int .i32 0, .string ⟨#[]⟩, .map none] 218)) := by
  go_enter Tryz.func46, Tryz.ntmps46
  go_wp2
  go_ret
  exact ⟨rfl, rfl⟩
end Go.Proofs.YtdenjanihikolaaGreatDoor

namespace Go.Proofs.YtdenjanihikolaaGreatDoor
open Go.RowKit
set_option linter.unusedVariables false
set_option linter.unusedSimpArgs false
set_option maxRecDepth 100000 in
theorem encSync (b : Nat)  (w : World)   (R : List Int) (HR : Hid (R = msgB 83 ([]))) :
    Calls Tryz.prog 226 #[.pointer (some ⟨b, 0, none⟩), .slice none 0 0] w (Gives w R) := by
  have HB := Lib.hid (Buf.nil w)
  go_enter Tryz.func226, Tryz.ntmps226
  go_wp2_with (first | (go_at_call 139; refine (begin_any _ _ _ _ HB.out (by simp)).mono ?_; rintro e w1 ⟨v1, rfl, hn⟩; replace HB := Lib.hid hn; clear hn) | (go_at_call 145; refine (appendU32 _ _ _ _ (by omega) (by omega) HB.out (by simp only [List.length_append, List.length_cons, List.length_nil, sby_length, b16_len, b32_len]; omega)).mono ?_; rintro e w1 ⟨v1, rfl, hn⟩; replace HB := Lib.hid hn; clear hn) | (go_at_call 142; refine (appendI32 _ _ _ _ HB.out (by simp only [List.length_append, List.length_cons, List.length_nil, sby_length, b16_len, b32_len]; omega)).mono ?_; rintro e w1 ⟨v1, rfl, hn⟩; replace HB := Lib.hid hn; clear hn) | (go_at_call 143; refine (finish1 _ 83 _ ([]) _ HB.out (by simp only [txt, List.append_assoc, List.cons_append, List.nil_append]) (by first | omega | (simp only [txt, List.length_append, List.length_cons, List.length_nil, sby_length, b16_len, b32_len]; omega))).mono ?_; rintro e w1 ⟨v1, rfl, hn⟩; clear HB; have HB := Lib.hid hn; clear hn) | (at_builtin; refine ap_lit1 rfl _ _ 26 26 rfl Tryz.underlying26 Tryz.underlying26 rfl rfl HB.out (by simp only [List.length_append, List.length_cons, List.length_nil, sby_length, b16_len, b32_len]; omega) ?_; intro v3 w3 hn; replace HB := Lib.hid hn; clear hn) | (at_builtin; refine ap_lit5 rfl _ _ 26 26 rfl Tryz.underlying26 Tryz.underlying26 rfl rfl HB.out (by simp only [List.length_append, List.length_cons, List.length_nil, sby_length, b16_len, b32_len]; omega) ?_; intro v3 w3 hn; replace HB := Lib.hid hn; clear hn) | (at_builtin; refine ap_lit6 rfl _ _ 26 26 rfl Tryz.underlying26 Tryz.underlying26 rfl rfl HB.out (by simp only [List.length_append, List.length_cons, List.length_nil, sby_length, b16_len, b32_len]; omega) ?_; intro v3 w3 hn; replace HB := Lib.hid hn; clear hn))
  go_ret2
  exact gives_of HB.out (by rw [HR.out]; rfl)
end Go.Proofs.YtdenjanihikolaaGreatDoor

namespace Go.Proofs.YtdenjanihikolaaGreatDoor
open Go.RowKit
set_option linter.unusedVariables false
set_option linter.unusedSimpArgs false
/-- the string of some bytes -/
def strOf (xs : List Int) : ByteArray := xs.foldl (fun r n => r.push (UInt8.ofNat n.toNat)) ByteArray.empty
theorem conv_rd {w : World} {v : Value} {xs : List Int} (h : RdB w v xs) : (convert 26 9 v).run Tryz.prog w = .ok (.string (strOf xs)) w := by
  obtain ⟨A, c, rfl, h1, h2, h3⟩ := h
  rw [run_convert_bytes_string w 26 9 5 A xs.length c Tryz.underlying26 Tryz.underlying5 Tryz.underlying9]
  by_cases hn : 0 < xs.length
  · obtain ⟨b, off, rfl, hc⟩ := h3 hn
    refine run_bytesToString w ⟨b, off, none⟩ xs.length c xs ?_
    have := run_loadCells_list (P := Tryz.prog) w ⟨b, off, none⟩ (xs.map (Value.int .u8)) (fun j v hj => by
      have hj' : j < xs.length := by
        have := (List.getElem?_eq_some_iff.1 hj).1
        simpa using this
      rw [add_lit0, hc j hj']
      simp [List.getElem?_eq_getElem hj'] at hj
      rw [← hj]
      simp [List.getD, List.getElem?_eq_getElem hj'])
    simpa using this
  · have hx : xs = [] := List.eq_nil_of_length_eq_zero (by omega)
    subst hx
    cases A with
    | none => simp [Conv.bytesToString, strOf, Sem.run_pure]
    | some a => exact run_bytesToString w a 0 c [] (by simpa using run_loadCells_list (P := Tryz.prog) w a [] (fun j v hj => by simp at hj))
theorem meth19 (b : Nat) (w : World) : (method 480 163 (.pointer (some ⟨b, 0, none⟩)) "Encode").run Tryz.prog w = .ok (226, .pointer (some ⟨b, 0, none⟩)) w := by kernel_rfl
theorem cf226 (args : Array Value) (w : World) : (callFunc 226 args).run Tryz.prog w = .ok (.enter 226 args) w := by kernel_rfl
theorem made19 (n : Int) (v1 v2 v4 v5 v6 v7 v8 v9 v10 v11 v12 : Value) (w : World) (R : List Int) (HR : Hid (R = msgB 83 [])) : Calls Tryz.prog 34 #[.agg #[.int .i64 19, v1, v2, .int .u32 n, v4, v5, v6, v7, v8, v9, v10, v11, v12]] w (Made 163 226 w R) :=
  made_dflt 163 226 164 #[] 19 n v1 v2 v4 v5 v6 v7 v8 v9 v10 v11 v12 w R (by decide) emp19 fun w1 b hx _ _ => ans_triv 163 226 b 19 n v1 v2 v4 v5 v6 v7 v8 v9 v10 v11 v12 w w1 R (by decide) hx fun w2 => encSync b w2 R HR
theorem enc19 (n : Int) (v1 v2 v4 v5 v6 v7 v8 v9 v10 v11 v12 : Value) (w : World) (R : List Int) (HR : Hid (R = msgB 83 [])) : Calls Tryz.prog 14 #[.agg #[.int .i64 19, v1, v2, .int .u32 n, v4, v5, v6, v7, v8, v9, v10, v11, v12]] w (Encs w R) :=
  enc14 163 226 _ _ _ _ _ _ _ _ _ _ _ _ _ w R meth19 cf226 fun w' _ => made19 n v1 v2 v4 v5 v6 v7 v8 v9 v10 v11 v12 w' R HR
theorem str5 : (strOf [83, 0, 0, 0, 4]).toList = [83, 0, 0, 0, 4] := by
  rw [ByteArray.toList_eq]; rfl
set_option maxRecDepth 100000 in
theorem works13 (w : World) : Calls Tryz.prog 13 #[] w (fun e w' => e = .returned (.bool true) ∧ Ext w w') := by
  have h5 := str5
  go_enter Tryz.func13, Tryz.ntmps13
  go_wp2_with (go_at_call 14; refine (enc19 _ _ _ _ _ _ _ _ _ _ _ _ _ [83, 0, 0, 0, 4] (Lib.hid (by decide))).mono ?_; rintro e w1 ⟨A, c, rfl, hx, hr⟩; have HX := Lib.hid hx; have hcv : (convert 26 9 (.slice A 5 c)).run Tryz.prog w1 = .ok (.string (strOf [83, 0, 0, 0, 4])) w1 := conv_rd hr; clear hr hx)
  go_ret
  exact ⟨rfl, HX.out⟩
end Go.Proofs.YtdenjanihikolaaGreatDoor

namespace Go.Proofs.YtdenjanihikolaaGreatDoor
open Go.RowKit Og
set_option linter.unusedVariables false
set_option linter.unusedSimpArgs false
/-- All blocks but one stand. -/
structure ExtBut (b : Nat) (w w' : World) : Prop where
  os : w'.os = w.os
  tape : w'.tape = w.tape
  output : w'.output = w.output
  size : w.heap.size ≤ w'.heap.size
  block : ∀ k, k < w.heap.size → k ≠ b → w'.heap[k]? = w.heap[k]?
theorem Ext.but {b : Nat} {w w' : World} (h : Ext w w') : ExtBut b w w' := ⟨h.os, h.tape, h.output, h.size, fun k hk _ => h.block k hk⟩
theorem ExtBut.trans {b : Nat} {w w1 w2 : World} (h : ExtBut b w w1) (h2 : ExtBut b w1 w2) : ExtBut b w w2 :=
  ⟨h2.os.trans h.os, h2.tape.trans h.tape, h2.output.trans h.output, Nat.le_trans h.size h2.size, fun k hk hb => (h2.block k (Nat.lt_of_lt_of_le hk h.size) hb).trans (h.block k hk hb)⟩
theorem ExtBut.set {b : Nat} {w w1 : World} (h : ExtBut b w w1) (j : Nat) (v : Value) : ExtBut b w (w1.setCell ⟨b, j, none⟩ v) :=
  ⟨h.os, h.tape, h.output, by simpa [World.setCell] using h.size, fun k hk hb => (heap_setCell_other w1 ⟨b, j, none⟩ k v hb).trans (h.block k hk hb)⟩
theorem ExtBut.ext {b : Nat} {w w1 w2 : World} (h : ExtBut b w1 w2) (hx : Ext w w1) (hb : w.heap.size ≤ b) : Ext w w2 :=
  ⟨h.os.trans hx.os, h.tape.trans hx.tape, h.output.trans hx.output, Nat.le_trans hx.size h.size, fun k hk => (h.block k (Nat.lt_of_lt_of_le hk hx.size) (by omega)).trans (hx.block k hk)⟩
/-- Where Decode stands: the copy made or not, the method called or not. -/
def DecJ (W0 : World) (xs : List Int) (D : Value → World → Prop) (L : Nat → Bool) (vs : Nat → Value) (w : World) : Prop :=
  if L 9 then D (vs 9) w else Ext W0 w ∧ (L 5 = true → RdB w (vs 5) xs)
theorem DecJ.keep {W0 : World} {xs : List Int} {D : Value → World → Prop} {L : Nat → Bool} {vs : Nat → Value} {w : World} (h : DecJ W0 xs D L vs w) (i : Nat) (u : Value) (h5 : 5 ≠ i) (h9 : 9 ≠ i) : DecJ W0 xs D (updB L i) (upd vs i u) w := by
  unfold DecJ at *
  simpa [updB, upd, h5, h9] using h
end Go.Proofs.YtdenjanihikolaaGreatDoor

namespace Go.Proofs.YtdenjanihikolaaGreatDoor
open Go.RowKit
set_option linter.unusedVariables false
set_option linter.unusedSimpArgs false
/-- What stays true while the blocks between two worlds stand. -/
def Keeps (w w' : World) (R : World → Prop) : Prop := ∀ w3 : World, (∀ k, w.heap.size ≤ k → k < w'.heap.size → w3.heap[k]? = w'.heap[k]?) → R w3
theorem Keeps.at_ {w w' : World} {R : World → Prop} (h : Keeps w w' R) (b : Nat) (w3 : World) (hb : b < w.heap.size) (hx : ExtBut b w' w3) : R w3 :=
  h w3 fun k h1 h2 => hx.block k h2 (by omega)
theorem own_stay {w w' w3 : World} {e size n : Nat} {v : Value} {xs : List Value} (h : w'.ownsRow 0 e size v n xs) (hoff : ∀ g, v.ownBlock = some g → ¬ g < w.heap.size) (hx : ∀ k, w.heap.size ≤ k → k < w'.heap.size → w3.heap[k]? = w'.heap[k]?) : w3.ownsRow 0 e size v n xs :=
  own_keep h fun g hg => hx g (Nat.le_of_not_lt (hoff g hg)) (h.lt g hg).2
theorem Buf.keeps {w w' : World} {v : Value} {xs : List Int} (h : Buf (Lt w.heap.size) w w' v xs) : Keeps w w' (fun w3 => RdB w3 v xs) :=
  fun w3 hx => RdB.of_own (own_stay h.own h.off hx)
end Go.Proofs.YtdenjanihikolaaGreatDoor

namespace Go.Proofs.YtdenjanihikolaaGreatDoor
open Go.RowKit
set_option linter.unusedVariables false
set_option linter.unusedSimpArgs false
theorem Row.bel {e size : Nat} {w0 w : World} {v : Value} {n : Nat} {xs : List Value} (h : Row e size (Lt w0.heap.size) w0 w v n xs) : Ext w0 w :=
  ⟨h.os, h.tape, h.output, Nat.le_of_not_lt fun hl => Nat.lt_irrefl _ (h.lt _ hl), fun k hk => h.kept k hk⟩
theorem Row.start (e size : Nat) (w : World) : Row e size (Lt w.heap.size) w w (.slice none 0 0) 0 [] :=
  ⟨World.ownsRow_nil _ _ _ _, fun g hg => by simp [Value.ownBlock] at hg, fun _ _ => rfl, fun k hk => hk, rfl, rfl, rfl⟩
theorem RdI.of_own {kd : IntKind} {w : World} {B e : Nat} {v : Value} {xs : List Int} (h : w.ownsRow B e 1 v xs.length (xs.map (Value.int kd))) : RdI kd w v xs := by
  rcases h.2 with ⟨rfl, hn⟩ | ⟨g, cap, cur, rfl, hbg, hg, hnc, hcm, hcs, htake⟩
  · exact ⟨none, 0, by rw [hn], by omega, by unfold maxLen; omega, fun h => by omega⟩
  · refine ⟨_, cap, rfl, hnc, hcm, fun _ => ⟨g, 0, rfl, fun j hj => ?_⟩⟩
    have := h.cells (g := g) rfl j (.int kd (xs.getD j 0)) (by
      rw [List.getElem?_map, List.getElem?_eq_getElem hj]
      simp [List.getD, List.getElem?_eq_getElem hj])
    rwa [add_lit0] at this
end Go.Proofs.YtdenjanihikolaaGreatDoor

namespace Go.Proofs.YtdenjanihikolaaGreatDoor
open Go.RowKit
set_option linter.unusedVariables false
set_option linter.unusedSimpArgs false
/-- a value as bytes -/
def optV (x : Bool × List Int) : Option (List Int) := if x.1 then none else some x.2
end Go.Proofs.YtdenjanihikolaaGreatDoor

namespace Go.Proofs.YtdenjanihikolaaGreatDoor
open Go.RowKit
set_option linter.unusedVariables false
set_option linter.unusedSimpArgs false
theorem Row.rebase {e size : Nat} {K K' : Nat → Prop} {w0 w : World} {v : Value} {n : Nat} {xs : List Value} (h : Row e size K w0 w v n xs) (hlt : ∀ k, K' k → k < w.heap.size) (hne : ∀ g, v.ownBlock = some g → ¬ K' g) : Row e size K' w w v n xs :=
  ⟨h.own, hne, fun _ _ => rfl, hlt, rfl, rfl, rfl⟩
/-- all blocks but the row's own -/
def But (w : World) (v : Value) (k : Nat) : Prop := k < w.heap.size ∧ v.ownBlock ≠ some k
theorem Row.but {e size : Nat} {K : Nat → Prop} {w0 w : World} {v : Value} {n : Nat} {xs : List Value} (h : Row e size K w0 w v n xs) : Row e size (But w v) w w v n xs :=
  h.rebase (fun k hk => hk.1) fun g hg hk => hk.2 hg
/-- What an element's bytes lean on: blocks made since w, but the row's own. -/
def ElK (w wr : World) (v : Value) (o : Option (List Int)) (u : Value) : Prop := (∃ A n c, u = .slice A n c) ∧ ∀ w3 : World, (∀ q, w.heap.size ≤ q → q < wr.heap.size → v.ownBlock ≠ some q → w3.heap[q]? = wr.heap[q]?) → isOpt w3 o u
theorem ElK.step {w wr w2 w3 : World} {v v2 : Value} {o : Option (List Int)} {u : Value} {e size m : Nat} {ys : List Value} (h : ElK w wr v o u) (hx : Ext wr w2) (h2 : Row e size (But w2 v) w2 w3 v2 m ys) : ElK w w3 v2 o u := by
  refine ⟨h.1, fun w4 h4 => h.2 w4 fun q h1 h3 h5 => ?_⟩
  have hq : But w2 v q := ⟨Nat.lt_of_lt_of_le h3 hx.size, h5⟩
  have h6 := h4 q h1 (h2.lt q hq) fun e => h2.off q e hq
  exact h6.trans ((h2.kept q hq).trans (hx.block q h3))
theorem ElK.new {w wr w2 w3 : World} {v v2 : Value} {o : Option (List Int)} {A : Option Addr} {n c : Nat} {e size m : Nat} {ys : List Value} (h : Keeps wr w2 (fun w3 => isOpt w3 o (.slice A n c))) (hw : w.heap.size ≤ wr.heap.size) (hv : ∀ g, v.ownBlock = some g → g < wr.heap.size) (h2 : Row e size (But w2 v) w2 w3 v2 m ys) : ElK w w3 v2 o (.slice A n c) := by
  refine ⟨⟨A, n, c, rfl⟩, fun w4 h4 => h w4 fun q h1 h3 => ?_⟩
  have hq : But w2 v q := ⟨h3, fun e => by have := hv q e; omega⟩
  exact (h4 q (by omega) (h2.lt q hq) fun e => h2.off q e hq).trans (h2.kept q hq)
/-- elements by elements -/
def Els (w wr : World) (v : Value) (l : List (Bool × List Int)) (xs : List Value) : Prop := xs.length = l.length ∧ ∀ j (h : j < l.length), ∃ u, xs[j]? = some u ∧ ElK w wr v (optV l[j]) u
theorem Els.snoc {w wr w2 w3 : World} {v v2 : Value} {l : List (Bool × List Int)} {xs ys : List Value} {x : Bool × List Int} {u : Value} {e size m : Nat} (h : Els w wr v l xs) (hx : Ext wr w2) (h2 : Row e size (But w2 v) w2 w3 v2 m ys) (hu : ElK w w3 v2 (optV x) u) : Els w w3 v2 (l ++ [x]) (xs ++ [u]) := by
  refine ⟨by simp [h.1], fun j hj => ?_⟩
  rcases Nat.lt_or_ge j l.length with hl | hl
  · obtain ⟨u', h1, h3⟩ := h.2 j hl
    refine ⟨u', by rw [List.getElem?_append_left (by rw [h.1]; exact hl)]; exact h1, ?_⟩
    rw [List.getElem_append_left hl]
    exact h3.step hx h2
  · have hj2 : j = l.length := by simp at hj; omega
    subst hj2
    refine ⟨u, by rw [List.getElem?_append_right (by rw [h.1]; omega), h.1]; simp, by simpa using hu⟩
theorem Els.rd {w wr : World} {v : Value} {l : List (Bool × List Int)} {xs : List Value} (h : Els w wr v l xs) (hb : Row 26 1 (Lt w.heap.size) w wr v l.length xs) : Keeps w wr (fun w3 => Rd1 isOpt w3 v (l.map optV)) := by
  intro w3 h3
  have hown := own_stay hb.own hb.off h3
  rcases hown.2 with ⟨rfl, hn⟩ | ⟨g, cap, cur, rfl, _, hg, hnc, hcm, hcs, ht⟩
  · exact ⟨none, 0, by simp [hn], by simp [hn], by unfold maxLen; omega, fun h0 => by simp at h0; omega⟩
  · refine ⟨some ⟨g, 0, none⟩, cap, by simp, by simpa using hnc, hcm, fun _ => ⟨g, 0, rfl, fun j hj => ?_⟩⟩
    have hj' : j < l.length := by simpa using hj
    obtain ⟨u, h1, h2⟩ := h.2 j hj'
    refine ⟨u, ?_, ?_⟩
    · rw [← ht, List.getElem?_take] at h1
      split at h1
      · refine (cell_of_row _ _ _ _ _ _ hg).trans ?_
        rw [Nat.zero_add, ← Array.getElem?_toList]
        exact h1
      · cases h1
    · simpa using h2.2 w3 fun q a1 a2 _ => h3 q a1 a2
end Go.Proofs.YtdenjanihikolaaGreatDoor

namespace Go.Proofs.YtdenjanihikolaaGreatDoor
open Go.RowKit Og
set_option linter.unusedVariables false
set_option linter.unusedSimpArgs false
def slA : Value → Option Addr
  | .slice a _ _ => a
  | _ => none
def slC : Value → Nat
  | .slice _ _ c => c
  | _ => 0
/-- a slice that stays readable -/
def PR (R : Value → World → Prop) (n : Nat) (W1 : World) (u : Value) (x : World) : Prop :=
  u = .slice (slA u) n (slC u) ∧ ∀ w3 : World, (∀ k, W1.heap.size ≤ k → k < x.heap.size → w3.heap[k]? = x.heap[k]?) → R (.slice (slA u) n (slC u)) w3
theorem PR.ext {R : Value → World → Prop} {n : Nat} {W1 x y : World} {u : Value} (h : PR R n W1 u x) (hx : Ext x y) : PR R n W1 u y :=
  ⟨h.1, fun w3 h3 => h.2 w3 fun k h1 h2 => (h3 k h1 (Nat.lt_of_lt_of_le h2 hx.size)).trans (hx.block k h2)⟩
theorem PR.of {R : Value → World → Prop} {n : Nat} {W1 x y : World} {A : Option Addr} {c : Nat} (h : Keeps x y (R (.slice A n c))) (hx : Ext W1 x) : PR R n W1 (.slice A n c) y :=
  ⟨rfl, fun w3 h3 => h w3 fun k h1 h2 => h3 k (Nat.le_trans hx.size h1) h2⟩
theorem PR.at_ {R : Value → World → Prop} {n : Nat} {W1 x : World} {u : Value} (h : PR R n W1 u x) (b : Nat) (w3 : World) (hb : b < W1.heap.size) (hx : ExtBut b x w3) : R (.slice (slA u) n (slC u)) w3 :=
  h.2 w3 fun k h1 h2 => hx.block k h2 (by omega)
end Go.Proofs.YtdenjanihikolaaGreatDoor

namespace Go.Proofs.YtdenjanihikolaaGreatDoor
open Go.RowKit Og
set_option linter.unusedVariables false
set_option linter.unusedSimpArgs false
def toFd (x : Sf) : Fd := ⟨sby x.name, x.tab, x.col, x.typ, x.siz, x.mdf, x.fmt⟩
/-- A row's name: its bytes lean on blocks made since w, but the row's own. -/
def NmK (w wr : World) (v : Value) (nm : List Int) (u : Value) : Prop := u = .slice (slA u) nm.length (slC u) ∧ ∀ w3 : World, (∀ q, w.heap.size ≤ q → q < wr.heap.size → v.ownBlock ≠ some q → w3.heap[q]? = wr.heap[q]?) → RdB w3 (.slice (slA u) nm.length (slC u)) nm
def fdK (w wr : World) (v : Value) (x : Sf) (f : Nat → Value) : Prop :=
  NmK w wr v (sby x.name) (f 0) ∧ f 1 = .int .u32 x.tab ∧ f 2 = .int .u16 x.col ∧ f 3 = .int .u32 x.typ ∧ f 4 = .int .i16 x.siz ∧ f 5 = .int .i32 x.mdf ∧ f 6 = .int .i16 x.fmt
def cells7 (x : Sf) (u : Value) : Array Value := #[.slice (slA u) x.name.size (slC u), .int .u32 x.tab, .int .u16 x.col, .int .u32 x.typ, .int .i16 x.siz, .int .i32 x.mdf, .int .i16 x.fmt]
def slB (u : Value) : Nat := match slA u with | some a => a.block | none => 0
def Ne1 (W : World) (bk q : Nat) : Prop := q < W.heap.size ∧ q ≠ bk
structure Cols (bk : Nat) (W wr : World) (v : Value) (l : List Sf) (xs : List Value) : Prop where
  blk : wr.heap[bk]? = some (.cells #[v] 236 (0, 0))
  row : Row 249 7 (Ne1 W bk) W wr v l.length xs
  off : ∀ g, v.ownBlock = some g → g ≠ bk
  lt : bk < W.heap.size
  els : Rws 7 (fdK W wr v) l xs
theorem Cols.start {bk : Nat} {W : World} (h : W.heap[bk]? = some (.cells #[.slice none 0 0] 236 (0, 0))) : Cols bk W W (.slice none 0 0) [] [] :=
  ⟨h, (Row.start 249 7 W).rebase (fun k hk => hk.1) (nofun), (nofun), lt_of_block h, Rws.nil _ _⟩
theorem Cols.size {bk : Nat} {W wr : World} {v : Value} {l : List Sf} {xs : List Value} (h : Cols bk W wr v l xs) : W.heap.size ≤ wr.heap.size := by
  have h1 := h.lt
  have h2 := lt_of_block h.blk
  rcases Nat.lt_or_ge (W.heap.size - 1) wr.heap.size with h3 | h3
  · omega
  · by_cases e : W.heap.size - 1 = bk
    · omega
    · have := h.row.lt (W.heap.size - 1) ⟨by omega, e⟩
      omega
theorem NmK.step {w wr w3 : World} {v v2 : Value} {nm : List Int} {u : Value} {K : Nat → Prop} {e size m : Nat} {ys : List Value} (h : NmK w wr v nm u) (h2 : Row e size K wr w3 v2 m ys) (hK : ∀ q, w.heap.size ≤ q → q < wr.heap.size → v.ownBlock ≠ some q → K q) : NmK w w3 v2 nm u := by
  refine ⟨h.1, fun w4 h4 => h.2 w4 fun q h1 h3 h5 => ?_⟩
  have hq := hK q h1 h3 h5
  have h6 := h4 q h1 (h2.lt q hq) fun e => h2.off q e hq
  exact h6.trans (h2.kept q hq)
theorem NmK.ext {w wr w3 : World} {v : Value} {nm : List Int} {u : Value} (h : NmK w wr v nm u) (hx : Ext wr w3) : NmK w w3 v nm u :=
  ⟨h.1, fun w4 h4 => h.2 w4 fun q h1 h3 h5 => (h4 q h1 (Nat.lt_of_lt_of_le h3 hx.size) h5).trans (hx.block q h3)⟩
def K0 (W0 : World) (v : Value) (bk q : Nat) : Prop := But W0 v q ∧ q ≠ bk
/-- What the region keeps: 7 the name's bytes, 24 the struct, 25 its block, 26 the row appended, 29 the store. -/
structure ColJ (bk : Nat) (W0 : World) (v : Value) (n : Nat) (xs : List Value) (x : Sf) (L : Nat → Bool) (vs : Nat → Value) (w : World) : Prop where
  A : L 26 = false → Ext W0 w
  B : L 7 = true → L 26 = false → NmK W0 w v (sby x.name) (vs 7)
  C : L 24 = true → vs 24 = .agg (cells7 x (vs 7))
  D : L 25 = true → L 26 = false → vs 25 = .slice (some ⟨slB (vs 25), 0, none⟩) 1 1 ∧ w.heap[slB (vs 25)]? = some (.cells (cells7 x (vs 7)) 249 (0, 0))
  E : L 26 = true → Row 249 7 (K0 W0 v bk) W0 w (vs 26) (n + 1) (xs ++ (cells7 x (vs 7)).toList) ∧ NmK W0 w (vs 26) (sby x.name) (vs 7) ∧ ∀ g, (vs 26).ownBlock = some g → g ≠ bk
  F : L 29 = false → w.heap[bk]? = W0.heap[bk]?
  G : L 29 = true → w.heap[bk]? = some (.cells #[vs 26] 236 (0, 0))
  M1 : L 26 = true → L 25 = true
  M2 : L 25 = true → L 24 = true
  M3 : L 24 = true → L 7 = true
  M4 : L 29 = true → L 26 = true
theorem ColJ.start (bk : Nat) (W0 : World) (v : Value) (n : Nat) (xs : List Value) (x : Sf) (vs : Nat → Value) : ColJ bk W0 v n xs x (fun _ => false) vs W0.drew :=
  ⟨fun _ => (Ext.refl W0).drew, (nofun), (nofun), (nofun), (nofun), fun _ => rfl, (nofun), (nofun), (nofun), (nofun), (nofun)⟩
theorem ColJ.keep {bk : Nat} {W0 w : World} {v : Value} {n : Nat} {xs : List Value} {x : Sf} {L : Nat → Bool} {vs : Nat → Value} (h : ColJ bk W0 v n xs x L vs w) (i : Nat) (u : Value) (h7 : 7 ≠ i) (h24 : 24 ≠ i) (h25 : 25 ≠ i) (h26 : 26 ≠ i) (h29 : 29 ≠ i) : ColJ bk W0 v n xs x (updB L i) (upd vs i u) w := by
  obtain ⟨A, B, C, D, E, F, G, M1, M2, M3, M4⟩ := h
  constructor <;> simp only [updB, upd, h7, h24, h25, h26, h29, if_false, beq_eq_false_iff_ne.2, Bool.or_false, ne_eq, not_false_eq_true] <;> assumption
theorem ColJ.box {bk : Nat} {W0 w : World} {v : Value} {n : Nat} {xs : List Value} {x : Sf} {L : Nat → Bool} {vs : Nat → Value} (h : ColJ bk W0 v n xs x L vs w) {q : Nat} (hq : But W0 v q) (hne : q ≠ bk) : w.heap[q]? = W0.heap[q]? := by
  cases e : L 26 with
  | false => exact (h.A e).block q hq.1
  | true => exact (h.E e).1.kept q ⟨hq, hne⟩
theorem fdK.step {w wr w2 : World} {v v2 : Value} {x : Sf} {f : Nat → Value} (h : fdK w wr v x f) (hq : ∀ q, w.heap.size ≤ q → q < wr.heap.size → v.ownBlock ≠ some q → q < w2.heap.size ∧ v2.ownBlock ≠ some q ∧ w2.heap[q]? = wr.heap[q]?) : fdK w w2 v2 x f :=
  ⟨⟨h.1.1, fun w3 h3 => h.1.2 w3 fun q h1 h2 h4 => (h3 q h1 (hq q h1 h2 h4).1 (hq q h1 h2 h4).2.1).trans (hq q h1 h2 h4).2.2⟩, h.2⟩
theorem Cols.round {bk : Nat} {W wr w : World} {v v2 : Value} {l : List Sf} {xs : List Value} {x : Sf} {L : Nat → Bool} {vs : Nat → Value} {o : Obj} (h : Cols bk W wr v l xs) (hJ : ColJ bk (wr.alloc o) v l.length xs x L vs w) (e26 : L 26 = true) (e29 : L 29 = true) (h2 : vs 26 = v2) : Cols bk W w v2 (l ++ [x]) (xs ++ (cells7 x (vs 7)).toList) := by
  subst h2
  obtain ⟨hr, hn, ho⟩ := hJ.E e26
  have hs := h.size
  have hA := ext_alloc wr o
  have hk : ∀ q, q < wr.heap.size → q ≠ bk → v.ownBlock ≠ some q → K0 (wr.alloc o) v bk q := fun q h1 h2 h3 => ⟨⟨Nat.lt_of_lt_of_le h1 hA.size, h3⟩, h2⟩
  have hn1 : ∀ q, Ne1 W bk q → K0 (wr.alloc o) v bk q := fun q hq => hk q (Nat.lt_of_lt_of_le hq.1 hs) hq.2 fun e => h.row.off q e hq
  refine ⟨hJ.G e29, ⟨?_, fun g hg hK => hr.off g hg (hn1 g hK), fun q hq => (hr.kept q (hn1 q hq)).trans ((hA.block q (Nat.lt_of_lt_of_le hq.1 hs)).trans (h.row.kept q hq)), fun q hq => hr.lt q (hn1 q hq), hr.os.trans (hA.os.trans h.row.os), hr.tape.trans (hA.tape.trans h.row.tape), hr.output.trans (hA.output.trans h.row.output)⟩, ho, h.lt, ?_⟩
  · rw [List.length_append]; exact hr.own
  · have hold : Rws 7 (fdK W w (vs 26)) l xs := by
      refine ⟨h.els.1, fun j hj => ?_⟩
      obtain ⟨f, hf, hR⟩ := h.els.2 j hj
      refine ⟨f, hf, hR.step fun q h1 h2 h3 => ?_⟩
      have hq := hk q h2 (fun e => by have := h.lt; omega) h3
      exact ⟨hr.lt q hq, fun e => hr.off q e hq, (hr.kept q hq).trans (hA.block q h2)⟩
    refine hold.snoc (f := fun k => (cells7 x (vs 7)).toList.getD k undef) rfl (fun k hk => ?_) ?_
    · match k, hk with
      | 0, _ => rfl
      | 1, _ => rfl
      | 2, _ => rfl
      | 3, _ => rfl
      | 4, _ => rfl
      | 5, _ => rfl
      | 6, _ => rfl
    · refine ⟨?_, rfl, rfl, rfl, rfl, rfl, rfl⟩
      have hs0 : (sby x.name).length = x.name.size := sby_length _
      refine ⟨by show Value.slice _ _ _ = Value.slice _ _ _; rw [hs0]; rfl, fun w3 h3 => hn.2 w3 fun q h1 h4 h5 => h3 q (Nat.le_trans hs (Nat.le_trans hA.size h1)) h4 h5⟩
theorem Cols.rd {bk : Nat} {W w : World} {v : Value} {l : List Sf} {xs : List Value} (h : Cols bk W w v l xs) : RdM 7 isFd w v (l.map toFd) := by
  have h1 : w.ownsRow 0 249 7 v (l.map toFd).length xs := by rw [List.length_map]; exact h.row.own
  refine rdm_of h1 ⟨by rw [List.length_map]; exact h.els.1, fun j hj => ?_⟩
  have hj' : j < l.length := by simpa using hj
  obtain ⟨f, hf, hR⟩ := h.els.2 j hj'
  refine ⟨f, hf, ?_⟩
  rw [List.getElem_map]
  exact ⟨⟨_, _, hR.1.1, hR.1.2 w fun _ _ _ _ => rfl⟩, hR.2⟩
end Go.Proofs.YtdenjanihikolaaGreatDoor

namespace Go.Proofs.YtdenjanihikolaaGreatDoor
open Go.RowKit Og
set_option linter.unusedVariables false
set_option linter.unusedSimpArgs false
def CpJ (bk : Nat) (W2 : World) (d0 d1 d2 d3 : Int) (L : Nat → Bool) (vs : Nat → Value) (x : World) : Prop :=
  ExtBut bk W2 x ∧ (L 6 = false → Ext W2 x) ∧ (L 6 = true → x.heap[bk]? = some (.cells #[.int .u8 d0, .int .u8 d1, .int .u8 d2, .int .u8 d3] 188 (0, 0)))
theorem CpJ.keep {bk : Nat} {W2 : World} {d0 d1 d2 d3 : Int} {L : Nat → Bool} {vs : Nat → Value} {x : World} (h : CpJ bk W2 d0 d1 d2 d3 L vs x) (i : Nat) (u : Value) (h6 : 6 ≠ i) : CpJ bk W2 d0 d1 d2 d3 (updB L i) (upd vs i u) x := by
  unfold CpJ at *
  simpa [updB, h6] using h
theorem CpJ.start (bk : Nat) (W2 : World) (d0 d1 d2 d3 : Int) : CpJ bk W2 d0 d1 d2 d3 (fun _ => false) (fun _ => undef) W2.drew :=
  ⟨(Ext.refl W2).drew.but, fun _ => (Ext.refl W2).drew, fun h => by cases h⟩
theorem CpJ.cell {bk : Nat} {W2 : World} {d0 d1 d2 d3 : Int} {L : Nat → Bool} {vs : Nat → Value} {x : World} (h : CpJ bk W2 d0 d1 d2 d3 L vs x) {g j : Nat} {v : Value} (hc : W2.cell? ⟨g, j, none⟩ = some v ∧ g ≠ bk) : x.cell? ⟨g, j, none⟩ = some v :=
  (cell_of_heap (h.1.block g (lt_of_cell hc.1) hc.2) j).trans hc.1
end Go.Proofs.YtdenjanihikolaaGreatDoor

namespace Go.Proofs.YtdenjanihikolaaGreatDoor
open Go.RowKit Og
set_option linter.unusedVariables false
set_option linter.unusedSimpArgs false
theorem ExtBut.cell {b : Nat} {w w' : World} (h : ExtBut b w w') {g j : Nat} {v : Value} (hc : w.cell? ⟨g, j, none⟩ = some v) (hne : g ≠ b) : w'.cell? ⟨g, j, none⟩ = some v :=
  (cell_of_heap (h.block g (lt_of_cell hc) hne) j).trans hc
end Go.Proofs.YtdenjanihikolaaGreatDoor

namespace Go.Proofs.YtdenjanihikolaaGreatDoor
open Go.RowKit Go.Maps Go.Sort
open Go.Shelf
def lays190_ren : Go.Shelf.Ren := ⟨fun | 190 => 195 | 125 => 77 | 258 => 197 | 128 => 89 | 129 => 90 | 302 => 199 | 303 => 200 | 304 => 201 | 305 => 202 | 306 => 203 | 307 => 204 | 308 => 205 | 309 => 206 | 310 => 207 | 333 => 208 | 329 => 98 | 330 => 99 | 334 => 209 | 335 => 210 | 336 => 211 | 344 => 212 | n => n, fun | 31 => 27 | 9 => 9 | 3 => 3 | 46 => 264 | 0 => 0 | 51 => 22 | 53 => 277 | 4 => 4 | 183 => 269 | 182 => 268 | 131 => 273 | 5 => 5 | 218 => 284 | 222 => 288 | 228 => 296 | 229 => 297 | n => n, fun | n => n⟩
theorem lays190 : Go.Proofs.Lays.n190 Tryz.prog lays190_ren :=
  { mixed := by kernel_rfl,
    f125 := Tryz.func77.trans (congrArg some (by kernel_rfl)),
    f128 := Tryz.func89.trans (congrArg some (by kernel_rfl)),
    f129 := Tryz.func90.trans (congrArg some (by kernel_rfl)),
    f190 := Tryz.func195.trans (congrArg some (by kernel_rfl)),
    f258 := Tryz.func197.trans (congrArg some (by kernel_rfl)),
    f302 := Tryz.func199.trans (congrArg some (by kernel_rfl)),
    f303 := Tryz.func200.trans (congrArg some (by kernel_rfl)),
    f304 := Tryz.func201.trans (congrArg some (by kernel_rfl)),
    f305 := Tryz.func202.trans (congrArg some (by kernel_rfl)),
    f306 := Tryz.func203.trans (congrArg some (by kernel_rfl)),
    f307 := Tryz.func204.trans (congrArg some (by kernel_rfl)),
    f308 := Tryz.func205.trans (congrArg some (by kernel_rfl)),
    f309 := Tryz.func206.trans (congrArg some (by kernel_rfl)),
    f310 := Tryz.func207.trans (congrArg some (by kernel_rfl)),
    f329 := Tryz.func98.trans (congrArg some (by kernel_rfl)),
    f330 := Tryz.func99.trans (congrArg some (by kernel_rfl)),
    f333 := Tryz.func208.trans (congrArg some (by kernel_rfl)),
    f334 := Tryz.func209.trans (congrArg some (by kernel_rfl)),
    f335 := Tryz.func210.trans (congrArg some (by kernel_rfl)),
    f336 := Tryz.func211.trans (congrArg some (by kernel_rfl)),
    f344 := Tryz.func212.trans (congrArg some (by kernel_rfl)),
    t0 := Tryz.underlying0,
    a0 := Tryz.isAgg0,
    z0 := Tryz.sizeOf0,
    v0 := Tryz.zeroValue0,
    t3 := Tryz.underlying3,
    a3 := Tryz.isAgg3,
    z3 := Tryz.sizeOf3,
    v3 := Tryz.zeroValue3,
    t4 := Tryz.underlying4,
    a4 := Tryz.isAgg4,
    z4 := Tryz.sizeOf4,
    v4 := Tryz.zeroValue4,
    t5 := Tryz.underlying5,
    a5 := Tryz.isAgg5,
    z5 := Tryz.sizeOf5,
    v5 := Tryz.zeroValue5,
    t9 := Tryz.underlying9,
    a9 := Tryz.isAgg9,
    z9 := Tryz.sizeOf9,
    v9 := Tryz.zeroValue9,
    t31 := Tryz.underlying27,
    a31 := Tryz.isAgg27,
    z31 := Tryz.sizeOf27,
    v31 := Tryz.zeroValue27,
    t46 := Tryz.underlying264,
    a46 := Tryz.isAgg264,
    z46 := Tryz.sizeOf264,
    v46 := Tryz.zeroValue264,
    t51 := Tryz.underlying22,
    a51 := Tryz.isAgg22,
    z51 := Tryz.sizeOf22,
    v51 := Tryz.zeroValue22,
    t53 := Tryz.underlying277,
    a53 := Tryz.isAgg277,
    z53 := Tryz.sizeOf277,
    v53 := Tryz.zeroValue277,
    t131 := Tryz.underlying273,
    a131 := Tryz.isAgg273,
    z131 := Tryz.sizeOf273,
    v131 := Tryz.zeroValue273,
    t182 := Tryz.underlying268,
    a182 := Tryz.isAgg268,
    z182 := Tryz.sizeOf268,
    v182 := Tryz.zeroValue268,
    t183 := Tryz.underlying269,
    a183 := Tryz.isAgg269,
    z183 := Tryz.sizeOf269,
    v183 := Tryz.zeroValue269,
    t218 := Tryz.underlying284,
    a218 := Tryz.isAgg284,
    z218 := Tryz.sizeOf284,
    v218 := Tryz.zeroValue284,
    t222 := Tryz.underlying288,
    a222 := Tryz.isAgg288,
    z222 := Tryz.sizeOf288,
    v222 := Tryz.zeroValue288,
    t228 := Tryz.underlying296,
    a228 := Tryz.isAgg296,
    z228 := Tryz.sizeOf296,
    v228 := Tryz.zeroValue296,
    t229 := Tryz.underlying297,
    a229 := Tryz.isAgg297,
    z229 := Tryz.sizeOf297,
    v229 := Tryz.zeroValue297 }
def lays137_ren : Go.Shelf.Ren := ⟨fun | 137 => 194 | 217 => 196 | 266 => 198 | n => n, fun | 9 => 9 | 5 => 5 | 3 => 3 | n => n, fun | n => n⟩
theorem lays137 : Go.Proofs.Lays.n137 Tryz.prog lays137_ren :=
  { mixed := by kernel_rfl,
    f137 := Tryz.func194.trans (congrArg some (by kernel_rfl)),
    f217 := Tryz.func196.trans (congrArg some (by kernel_rfl)),
    f266 := Tryz.func198.trans (congrArg some (by kernel_rfl)),
    t3 := Tryz.underlying3,
    a3 := Tryz.isAgg3,
    z3 := Tryz.sizeOf3,
    v3 := Tryz.zeroValue3,
    t5 := Tryz.underlying5,
    a5 := Tryz.isAgg5,
    z5 := Tryz.sizeOf5,
    v5 := Tryz.zeroValue5,
    t9 := Tryz.underlying9,
    a9 := Tryz.isAgg9,
    z9 := Tryz.sizeOf9,
    v9 := Tryz.zeroValue9 }
theorem sortS : SortS := fun blk off cap ss w hH hb hl => Any.slices_Sort_string lays190 blk off cap ss w hH hb hl
theorem idxS (s : ByteArray) (c : Int) (w : World) : Calls Tryz.prog 194 #[.string s, .int .u8 c] w fun e w' => e = .returned (.int .i64 (Lib.indexByte s.data.toList c.toNat.toUInt8)) ∧ w' = w := Any.strings_IndexByte lays137 s c w
end Go.Proofs.YtdenjanihikolaaGreatDoor

namespace Go.Proofs.YtdenjanihikolaaGreatDoor
open Go.RowKit Og
set_option linter.unusedVariables false
set_option linter.unusedSimpArgs false
/-- Where Decode stands: the copy made or not, the method called or not. -/
def DecK (W0 : World) (bk : Nat) (xs : List Int) (D : Value → World → Prop) (L : Nat → Bool) (vs : Nat → Value) (w : World) : Prop :=
  if L 9 then D (vs 9) w else Ext W0 w ∧ (L 5 = true → RdB w (vs 5) xs ∧ (vs 5).ownBlock ≠ some bk)
theorem DecK.keep {W0 : World} {bk : Nat} {xs : List Int} {D : Value → World → Prop} {L : Nat → Bool} {vs : Nat → Value} {w : World} (h : DecK W0 bk xs D L vs w) (i : Nat) (u : Value) (h5 : 5 ≠ i) (h9 : 9 ≠ i) : DecK W0 bk xs D (updB L i) (upd vs i u) w := by
  unfold DecK at *
  simpa [updB, upd, h5, h9] using h
end Go.Proofs.YtdenjanihikolaaGreatDoor

namespace Go.Proofs.YtdenjanihikolaaGreatDoor
open Go.RowKit Og
set_option linter.unusedVariables false
set_option linter.unusedSimpArgs false
/-- bytes that lie outside the block bk -/
def RdN (bk : Nat) (w : World) (v : Value) (xs : List Int) : Prop := RdB w v xs ∧ (0 < xs.length → v.ownBlock ≠ some bk)
theorem RdN.at_ {bk : Nat} {w w' : World} {v : Value} {xs : List Int} (h : RdN bk w v xs) (hx : ExtBut bk w w') : RdN bk w' v xs := by
  refine ⟨?_, h.2⟩
  obtain ⟨⟨A, c, hv, h1, h2, h3⟩, h4⟩ := h
  refine ⟨A, c, hv, h1, h2, fun hn => ?_⟩
  obtain ⟨b, off, hA, hc⟩ := h3 hn
  refine ⟨b, off, hA, fun j hj => ?_⟩
  have hne : b ≠ bk := fun e => h4 hn (by rw [hv, hA, e]; rfl)
  exact (cell_of_heap (hx.block b (lt_of_cell (hc j hj)) hne) _).trans (hc j hj)
theorem RdB.len {w : World} {v : Value} {xs : List Int} (h : RdB w v xs) : ∃ A c, v = .slice A xs.length c := by
  obtain ⟨A, c, hv, _⟩ := h
  exact ⟨A, c, hv⟩
theorem RdB.sub {w : World} {A A' : Option Addr} {c n l : Nat} {xs : List Int} (h : RdB w (.slice A xs.length c) xs) (hl : l + n ≤ xs.length) (hA : 0 < n → A' = A.map (·.add l)) (c' : Nat) (hc : n ≤ c' ∧ c' ≤ maxLen) : RdB w (.slice A' n c') ((xs.drop l).take n) := by
  obtain ⟨A0, c0, hv, h1, h2, h3⟩ := h
  obtain ⟨rfl, rfl⟩ : A = A0 ∧ c = c0 := by simpa using hv
  have hlen : ((xs.drop l).take n).length = n := by rw [List.length_take, List.length_drop]; omega
  refine ⟨A', c', by rw [hlen], by omega, hc.2, fun hn => ?_⟩
  rw [hlen] at hn
  obtain ⟨b, off, hA0, hcell⟩ := h3 (by omega)
  subst hA0
  refine ⟨b, off + l, by rw [hA hn]; simp [add_lit0], fun j hj => ?_⟩
  rw [hlen] at hj
  have := hcell (l + j) (by omega)
  rw [show off + l + j = off + (l + j) by omega, this]
  congr 2
  simp [List.getD, List.getElem?_take, List.getElem?_drop, hj]
theorem RdN.sub {bk : Nat} {w : World} {A A' : Option Addr} {c n l : Nat} {xs : List Int} (h : RdN bk w (.slice A xs.length c) xs) (hl : l + n ≤ xs.length) (hA : 0 < n → A' = A.map (·.add l)) (c' : Nat) (hc : n ≤ c' ∧ c' ≤ maxLen) : RdN bk w (.slice A' n c') ((xs.drop l).take n) := by
  refine ⟨h.1.sub hl hA c' hc, fun hn => ?_⟩
  have hlen : ((xs.drop l).take n).length = n := by rw [List.length_take, List.length_drop]; omega
  rw [hlen] at hn
  have h2 := h.2 (by omega)
  rw [hA hn]
  cases A with
  | none => simp [Value.ownBlock]
  | some a =>
    simp only [Value.ownBlock, Option.map_some] at h2 ⊢
    have : (a.add l).block = a.block := by unfold Addr.add; split <;> rfl
    rw [this]
    exact h2
theorem add_zero_map (A : Option Addr) : A.map (·.add 0) = A := by
  cases A with
  | none => rfl
  | some a => obtain ⟨b, o, p⟩ := a; cases p <;> simp [Addr.add]
theorem RdB.parts {w : World} {A : Option Addr} {n c : Nat} {xs : List Int} (h : RdB w (.slice A n c) xs) : n = xs.length ∧ xs.length ≤ c ∧ c ≤ maxLen := by
  obtain ⟨A0, c0, hv, h1, h2, _⟩ := h
  obtain ⟨rfl, rfl, rfl⟩ : A = A0 ∧ n = xs.length ∧ c = c0 := by simpa using hv
  exact ⟨rfl, h1, h2⟩
theorem RdB.take {w : World} {A : Option Addr} {n c : Nat} {xs : List Int} (h : RdB w (.slice A n c) xs) (k : Nat) (hk : k ≤ n) : RdB w (.slice A k c) (xs.take k) := by
  obtain ⟨rfl, h1, h2⟩ := h.parts
  have := h.sub (l := 0) (n := k) (A' := A) (by omega) (fun _ => (add_zero_map A).symm) c (by omega)
  simpa using this
theorem RdN.take {bk : Nat} {w : World} {A : Option Addr} {n c : Nat} {xs : List Int} (h : RdN bk w (.slice A n c) xs) (k : Nat) (hk : k ≤ n) : RdN bk w (.slice A k c) (xs.take k) := by
  refine ⟨h.1.take k hk, fun hn => ?_⟩
  rw [List.length_take] at hn
  have e : (Value.slice A k c).ownBlock = (Value.slice A n c).ownBlock := by cases A <;> rfl
  rw [e]
  exact h.2 (by omega)
theorem RdN.drop {bk : Nat} {w : World} {A : Option Addr} {n c : Nat} {xs : List Int} (h : RdN bk w (.slice A n c) xs) (k : Nat) (hk : k ≤ n) : RdN bk w (.slice (A.map (·.add k)) (n - k) (c - k)) (xs.drop k) := by
  obtain ⟨rfl, h1, h2⟩ := h.1.parts
  have := h.sub (l := k) (n := xs.length - k) (A' := A.map (·.add k)) (by omega) (fun _ => rfl) (c - k) (by omega)
  rwa [List.take_of_length_le (by rw [List.length_drop]; omega)] at this
theorem RdN.none {bk : Nat} {w : World} (A : Option Addr) (n c : Nat) (xs : List Int) (hx : xs = []) (hn : n = 0) (hc : c ≤ maxLen) : RdN bk w (.slice A n c) xs := by
  subst hx; subst hn
  exact ⟨⟨A, c, rfl, Nat.zero_le _, hc, fun h => absurd h (Nat.lt_irrefl 0)⟩, fun h => absurd h (Nat.lt_irrefl 0)⟩
/-- A Buffer, made since w1, whose rest is xs. -/
structure Cur (bk : Nat) (w1 : World) (bb : Nat) (w : World) (xs : List Int) : Prop where
  bel : ExtBut bk w1 w
  lo : w1.heap.size ≤ bb
  hi : bk < w1.heap.size
  blk : ∃ A c, w.heap[bb]? = some (.cells #[.slice A xs.length c] 347 (0, 0)) ∧ RdN bk w1 (.slice A xs.length c) xs
theorem Cur.ext {bk bb : Nat} {w1 w w' : World} {xs : List Int} (h : Cur bk w1 bb w xs) (hx : Ext w w') : Cur bk w1 bb w' xs := by
  obtain ⟨A, c, hb, hr⟩ := h.blk
  exact ⟨h.bel.trans hx.but, h.lo, h.hi, A, c, (hx.block bb (lt_of_block hb)).trans hb, hr⟩
theorem Cur.but {bk bb : Nat} {w1 w w' : World} {xs : List Int} (h : Cur bk w1 bb w xs) (hx : ExtBut bk w w') : Cur bk w1 bb w' xs := by
  obtain ⟨A, c, hb, hr⟩ := h.blk
  refine ⟨h.bel.trans hx, h.lo, h.hi, A, c, (hx.block bb (lt_of_block hb) ?_).trans hb, hr⟩
  have := h.lo; have := h.hi; omega
/-- The Buffer's slot set. -/
theorem Cur.set {bk bb : Nat} {w1 w : World} {xs ys : List Int} (h : Cur bk w1 bb w xs) {A : Option Addr} {n c : Nat} (hr : RdN bk w1 (.slice A n c) ys) : Cur bk w1 bb (w.setCell ⟨bb, 0, none⟩ (.slice A n c)) ys ∧ ExtBut bb w (w.setCell ⟨bb, 0, none⟩ (.slice A n c)) := by
  obtain ⟨A0, c0, hb, _⟩ := h.blk
  obtain ⟨rfl, _, _⟩ := hr.1.parts
  have hE : ExtBut bb w (w.setCell ⟨bb, 0, none⟩ (.slice A ys.length c)) := (Ext.refl w).but.set 0 _
  refine ⟨⟨?_, h.lo, h.hi, A, c, slot_setCell hb, hr⟩, hE⟩
  refine ⟨h.bel.os, h.bel.tape, h.bel.output, by simpa [World.setCell] using h.bel.size, fun k hk hne => ?_⟩
  have := h.lo
  exact (heap_setCell_other w ⟨bb, 0, none⟩ k _ (by simp only []; omega)).trans (h.bel.block k hk hne)
end Go.Proofs.YtdenjanihikolaaGreatDoor
