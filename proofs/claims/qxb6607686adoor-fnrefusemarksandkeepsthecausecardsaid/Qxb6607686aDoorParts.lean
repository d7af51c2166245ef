import Derived.Test.Qxb6607686aDoorRows
import Derived.Test.Qxb6607686aDoorIs
import Derived.ProofKit
import Derived.LaidMore
import Derived.OpenShut
import Derived.ShutString
import Derived.Stop.Joined
import Derived.Stop.LaidErr
import Derived.WalkSmall
namespace Go.Proofs.Qxb6607686aDoor
open Go.ChangeShapes Go.WideShapes Go.ChangeAt Go.RowKit
open Go.ChangeMaps (open_string shut_string)

theorem own : ownKnob Tryd.prog.godebug = none := by kernel_rfl
/-- The one package-level variable's name, as the row lists it. -/
def gName : String := Rows.fnRefuseTellsTwoCausesApartRow.named.headD ""
/-- The dynamic type's name, as the row's datum has it. -/
def dName : String := match (Rows.laid_example_com_outledger_outledger_internal_outbox_ErrRefused : DataW Unit) with | .iface n _ => n | _ => ""
def dText : List UInt8 := match (Rows.laid_example_com_outledger_outledger_internal_outbox_ErrRefused : DataW Unit) with | .iface _ (.ptr (.agg [.lit (.string s)])) => s | _ => []
def laid1 : List (String × DataW Unit) := [(gName, .iface dName (.ptr (.agg [.lit (.string dText)])))]

theorem gN : Tryd.prog.globalNamed gName = some 0 := by kernel_rfl
theorem gT : (Tryd.prog.globals[0]?).map (·.type) = some 32 := by kernel_rfl
theorem cells42 : Tryd.prog.cellsOf 42 = 1 := by kernel_rfl
theorem cells9 : Tryd.prog.cellsOf 9 = 1 := by kernel_rfl
theorem row40 (u : TypeId) (h : Tryd.prog.typeName? 3 u = some dName) : u = 40 :=
  typeName_ptr_named (nm := "errors.errorString") (by kernel_rfl) (by kernel_rfl) (by decide) u (h.trans (by kernel_rfl))

/-- WHAT THE CONDITION GIVES A WALK: the sentinel's cell, and its block. -/
theorem of_laid {W : World} (h0 : laidMetH Tryd.prog laid1 W) : ∃ (a : Addr) (c : Array Value) (t : TypeId), W.var? Tryd.prog gName = some #[.iface 40 (.pointer (some a))] ∧ W.heap[a.block]? = some (.cells c t (0, 0)) := by
  have h : laidMet Tryd.prog laid1 W := by rwa [MakeChecks.laidMetH_plain _ _ _ (by kernel_rfl)] at h0
  obtain ⟨ps, ⟨g0', t0', cs0, f0, p0, q0, hg0', ht0', hv0, hd0, _, e0⟩, hnd, hrows⟩ := h
  obtain rfl := Option.some.inj (gN.symm.trans hg0')
  obtain rfl := Option.some.inj (gT.symm.trans ht0')
  subst e0
  obtain ⟨l0⟩ := cs0
  have ok0 : ∀ u v, l0 = [.iface u v] → Value.okWide Tryd.prog W .any 0 u v := fun u v e => by
    subst e
    exact (hrows 0 0 (by simp [MemPlace.row])).2 u v (by simpa using World.var?_cell hg0' hv0 0)
  obtain ⟨a0, s0, rfl, hc0, hs0, hz0, rfl⟩ := errorString_of_trod Tryd.underlying32 row40 Tryd.underlying40 Tryd.underlying42 rfl rfl Tryd.underlying9 cells42 cells9 hd0 ok0
  obtain ⟨c0, t0, hb0⟩ := (hrows a0.block a0.off (by simp [MemPlace.row])).1
  exact ⟨a0, c0, t0, hv0, hb0⟩

/-- The door's own heap meets the condition. -/
theorem door_met (os : Os) (args : Array Value) : laidMetH Tryd.prog laid1 ((World.doorLaid Tryd.prog 28 os).forCall (fun _ _ => 0) ⟨#[], args, []⟩).memory :=
  laidMetH_of_parts3 (fuel := 8) (laidMet_of_run' 8 (by kernel_rfl) (by kernel_rfl)) (by kernel_rfl) (by kernel_rfl)
end Go.Proofs.Qxb6607686aDoor
