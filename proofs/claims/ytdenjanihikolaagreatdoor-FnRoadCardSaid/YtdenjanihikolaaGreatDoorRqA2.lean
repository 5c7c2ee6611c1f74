/- The proof of an operation that only reads, by default. -/
import Derived.Test.YtdenjanihikolaaGreatDoorRqA0
import Derived.Test.YtdenjanihikolaaGreatDoorRqOg
import Derived.Deep.Light
namespace Go.Proofs.YtdenjanihikolaaGreatDoor
open Go.RowKit Og
theorem zu {p : Prop} (h : p := by
  intro vs w1 L hLi hd hdt hJ hp
  have HJ := zh hJ
  (try simp [deps,Region.binds,Sp.eq,Sp.any]at hp)
  clear hd hdt hLi hJ
  (repeat (with_reducible (have h9 := And.left hp); with_reducible (replace hp := And.right hp)))
  simp only [putAll, Nat.reduceAdd]
  go_wp2
  first | exact ⟨rfl, HJ.out.keep _ _ (by decide), trivial, rfl⟩ | exact ⟨rfl, HJ.out.keep _ _ (by decide) (by decide), trivial, rfl⟩ | exact ⟨rfl, HJ.out.keep _ _ (by decide) (by decide) (by decide), trivial, rfl⟩ | exact ⟨rfl, HJ.out.keep _ _ (by decide) (by decide) (by decide) (by decide), trivial, rfl⟩ | exact ⟨rfl, HJ.out.keep _ _ (by decide) (by decide) (by decide) (by decide) (by decide), trivial, rfl⟩ | exact ⟨rfl, HJ.out.keep _ _ (by decide) (by decide) (by decide) (by decide) (by decide) (by decide), trivial, rfl⟩) : p := h
theorem zj {p : Prop} (h : p := by
  intro vs w1 hJ hp
  have HJ := zh hJ
  (try simp [deps,Region.binds,Sp.eq,Sp.any]at hp)
  clear hJ
  (repeat (with_reducible (have h9 := And.left hp); with_reducible (replace hp := And.right hp)))
  simp only [List.take_succ_cons, List.take_zero, putAll, Nat.reduceAdd]
  go_wp2
  first | exact ⟨rfl, HJ.out, Ext.refl _, rfl⟩ | exact ⟨rfl, HJ.out, Ext.refl _, trivial⟩) : p := h
end Go.Proofs.YtdenjanihikolaaGreatDoor
