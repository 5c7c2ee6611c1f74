/- What all texts share. -/
import Derived.Lib.Hide
namespace Go.Proofs.YtdenjanihikolaaGreatDoor
open Go.RowKit
theorem zh {p : Prop} (h : p) : Hid p := Lib.hid h
theorem zd {P M : Nat → Prop} (h : ∀ j, M j → P j) (i : Nat) (m : M i := by decide) : P i := h i m
theorem ul1 {p : Prop} (h : p := by simp only [List.length_append,List.length_cons,List.length_nil,sby_length,b16_len,b32_len];omega) : p := h
theorem ul2 {p : Prop} (h : p := by first|omega|(simp only [List.length_append,List.length_nil,List.length_cons,txt,sby_length,numB_len];omega)) : p := h
theorem ul3 {p : Prop} (h : p := by first|omega|(simp only [txt,List.length_append,List.length_cons,List.length_nil,sby_length,b16_len,b32_len];omega)) : p := h
theorem ul4 {p : Prop} (h : p := by first|omega|(simp only [List.length_append,List.length_nil,List.length_cons,txt,sby_length,numB_len,sfB] <;> omega)) : p := h
theorem ul5 {p : Prop} (h : p := by have hz:=HE.out;subst hz;first|done|(simp only [List.nil_append,List.append_assoc,List.append_nil])) : p := h
theorem ul6 {p : Prop} (h : p := by simp only [txt,List.append_assoc,List.cons_append,List.nil_append]) : p := h
end Go.Proofs.YtdenjanihikolaaGreatDoor
