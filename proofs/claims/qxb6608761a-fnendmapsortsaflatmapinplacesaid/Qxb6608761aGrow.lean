import Derived.Test.Qxb6608761aBytes
import Derived.Shelf.SlSortCmp.QuietGrown
namespace Go.Proofs.Qxb6608761a
open Go.RowKit Cmp Go.Sort

/-- W' is W behind some draws, with some new blocks, and nothing else. -/
def Gr (W W' : World) : Prop := ∃ (q : Nat) (os : Array Obj), W' = grow (W.drewN q) os

theorem drewN_grow (w : World) (os : Array Obj) (n : Nat) : (grow w os).drewN n = grow (w.drewN n) os := rfl

namespace Gr
variable {W W' W'' : World}
theorem refl (W : World) : Gr W W := ⟨0, #[], by rw [grow_empty]; rfl⟩
theorem trans (h : Gr W W') (k : Gr W' W'') : Gr W W'' := by
  obtain ⟨q, os, rfl⟩ := h
  obtain ⟨q', os', rfl⟩ := k
  exact ⟨q + q', os ++ os', by rw [drewN_grow, grow_grow, World.drewN_drewN]⟩
theorem alloc (W : World) (o : Obj) : Gr W (W.alloc o) := ⟨0, #[o], by rw [alloc_eq_grow]; rfl⟩
theorem drewN (W : World) (n : Nat) : Gr W (W.drewN n) := ⟨n, #[], by rw [grow_empty]⟩
theorem drew (W : World) : Gr W W.drew := ⟨1, #[], by rw [grow_empty]; rfl⟩
theorem grow (W : World) (os : Array Obj) : Gr W (Go.Sort.grow W os) := ⟨0, os, rfl⟩
theorem gd (W : World) (n : Nat) (os : Array Obj) : Gr W (Go.Sort.grow (W.drewN n) os) := ⟨n, os, rfl⟩
theorem fr (h : Gr W W') : Fr (fun _ => False) W W' := by
  obtain ⟨q, os, rfl⟩ := h
  exact ⟨rfl, rfl, rfl, by simp, fun k hk _ => heap_grow_old _ _ hk⟩
end Gr
end Go.Proofs.Qxb6608761a
