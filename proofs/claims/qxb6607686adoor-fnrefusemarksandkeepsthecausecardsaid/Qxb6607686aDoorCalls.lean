import Derived.Test.Qxb6607686aDoorIs
import Derived.Deep.RegionWith
namespace Go.Proofs.Qxb6607686aDoor
open Go.RowKit Go.Extern.Stop Go.Stop Go.Extern

theorem Tryd.isMethodComparable (v : Value) (w : World) : (Go.method 196 48 v "Comparable").run Tryd.prog w = .ok (42, v) w := by kernel_rfl

theorem Tryd.callTypeOf (v : Value) (w : World) : (callFunc 20 #[.iface 40 v]).run Tryd.prog w = .ok (.value (.iface 48 (.agg #[.pointer (some ⟨1, 40, none⟩)]))) w := by
  rw [@run_callFunc_extern Tryd.prog 20 _ Extern.ReflectliteType.typeOf Tryd.func20 (by kernel_rfl) (by kernel_rfl) (by kernel_rfl) (by kernel_rfl), Tryd.isTypeOf]
  rfl
theorem Tryd.callComparable (w : World) : (callFunc 42 #[.agg #[.pointer (some ⟨1, 40, none⟩)]]).run Tryd.prog w = .ok (.value (.bool true)) w := by kernel_rfl

set_option maxHeartbeats 1000000 in
/-- errors.Is(v, x), x a pointer to an errors.errorString. -/
theorem is_any (tv : TypeId) (xv : Value) (b : Addr) (r : Bool) (w : World) (h : ErrIs (.iface tv xv) b r w) :
    Calls Tryd.prog 18 #[.iface tv xv, .iface 40 (.pointer (some b))] w fun e w' => e = .returned (.bool r) ∧ Below w.heap.size w w' := by
  have h20 := Tryd.callTypeOf
  have h42 := Tryd.callComparable
  have mR := Tryd.isMethodComparable
  have B := h w (Below.refl _ _)
  clear h
  go_enter Tryd.func18, Tryd.ntmps18
  go_wp2_with (go_at_call 21; refine B.mono ?_; rintro e w' ⟨rfl, hw⟩)
  go_ret
  exact ⟨rfl, hw⟩

theorem new_any (s : ByteArray) (w : World) :
    Calls Tryd.prog 17 #[.string s] w fun e w' => e = .returned (.iface 40 (.pointer (some ⟨w.heap.size, 0, none⟩))) ∧ w' = w.alloc (.cells #[.string s] 42) := by
  go_enter Tryd.func17, Tryd.ntmps17
  go_wp2
  go_ret
  exact ⟨rfl, rfl⟩

theorem refuse_nil (w : World) : Calls Tryd.prog 16 #[.nilIface] w fun e w' => e = .returned .nilIface ∧ w' = w := by
  go_enter Tryd.func16, Tryd.ntmps16
  go_wp2
  go_ret
  exact ⟨rfl, rfl⟩

theorem refuse_any (t : TypeId) (x : Value) (w : World) : Calls Tryd.prog 16 #[.iface t x] w fun e w' => e = .returned (.iface 37 (.agg #[.iface t x])) ∧ w' = w := by
  go_enter Tryd.func16, Tryd.ntmps16
  go_wp2
  go_ret
  exact ⟨rfl, rfl⟩

theorem zznil_any (w : World) : Calls Tryd.prog 8 #[] w fun e w' => e = .returned (.bool true) ∧ w' = w := by
  go_enter Tryd.func8, Tryd.ntmps8
  go_wp2_with (go_at_call 16; refine (refuse_nil _).mono ?_; rintro e w' ⟨rfl, rfl⟩)
  go_ret
  exact ⟨rfl, rfl⟩

end Go.Proofs.Qxb6607686aDoor
