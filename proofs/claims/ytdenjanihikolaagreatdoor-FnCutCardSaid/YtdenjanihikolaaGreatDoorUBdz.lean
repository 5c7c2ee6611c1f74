/- Bodies of the messages of the reference, with loops, by contract. -/
import Derived.Test.YtdenjanihikolaaGreatDoorUWrc
namespace Go.Proofs.YtdenjanihikolaaGreatDoor
open Go.RowKit Og
set_option linter.unusedVariables false
set_option linter.unusedSimpArgs false

theorem number_v (kk : Int) (k : Nat) (hkk : kk = (k : Int)) (hk : k ≤ 4) (n : Int) {K : Nat → Prop} {w0 w : World} {pb : Nat} {v : Value} {xs : List Int} (h : Wr K w0 w pb v xs) (hl : xs.length ≤ 1099511627776) :
    Calls Tryz.prog 36 #[.pointer (some ⟨pb, 0, none⟩), .int .i64 n, .int .i64 kk] w (Wrote K w0 pb (xs ++ numB n k)) := by
  subst hkk
  exact number_any k hk n h hl

/-- A column of the reference. -/
structure Sf where
  name : ByteArray
  tab : Int
  col : Int
  typ : Int
  siz : Int
  mdf : Int
  fmt : Int
def sfB (x : Sf) : List Int := txt x.name ++ numB x.tab 4 ++ numB x.col 2 ++ numB x.typ 4 ++ numB x.siz 2 ++ numB x.mdf 4 ++ numB x.fmt 2
def isSf (_ : World) (x : Sf) (f : Nat → Value) : Prop :=
  f 0 = .string x.name ∧ f 1 = .int .u32 x.tab ∧ f 2 = .int .i64 x.col ∧ f 3 = .int .u32 x.typ ∧ f 4 = .int .i64 x.siz ∧ f 5 = .int .i64 x.mdf ∧ f 6 = .int .i64 x.fmt
/-- A pair of the reference. -/
def isPr (_ : World) (x : ByteArray × ByteArray) (f : Nat → Value) : Prop := f 0 = .string x.1 ∧ f 1 = .string x.2
def prB (x : ByteArray × ByteArray) : List Int := txt x.1 ++ txt x.2
def erB (x : ByteArray × ByteArray) : List Int := sby x.1 ++ txt x.2

end Go.Proofs.YtdenjanihikolaaGreatDoor

