/- Short names for three facts. -/
import Derived.Test.YtdenjanihikolaaGreatDoorRqWrd
namespace Go.Proofs.YtdenjanihikolaaGreatDoor
open Go.RowKit
theorem zr {w : World} : Ext w w := Ext.refl w
theorem zl {w : World} {b : Nat} {o : Obj} (h : w.heap[b]? = some o) : b < w.heap.size := lt_of_block h
theorem zc {w : World} {b : Nat} {cs : Array Value} {t : TypeId} (h : w.heap[b]? = some (.cells cs t (0, 0))) (j : Nat) (v : Value) (hv : cs[j]? = some v) : w.cell? ⟨b, j, none⟩ = some v := cell_slot h j v hv
end Go.Proofs.YtdenjanihikolaaGreatDoor
