import Derived.Test.Qxb6607686aDoorLaws
import Derived.Test.Qxb6607686aDoorParts
import Derived.Test.Qxb6607686aDoorTie
import Derived.Test.Qxb6607686aDoorCards
namespace Go.Proofs.Qxb6607686aDoor
namespace fnRefuseMarksAndKeepsTheCause
open Go.ChangeShapes Go.WideShapes Go.ChangeAt Go.RowKit
open Go.ChangeMaps (open_string shut_string)

set_option maxRecDepth 100000 in
theorem lifted (os : Os) (started : os.Started) (H : Type) (enc : TypeId × Value → H) :
    ReturnsInHanded {} Tryd.checked os 3 .any (fun w args => (Rows.fnRefuseMarksAndKeepsTheCauseSpec.pre enc Tryd.prog Tryd.f3 [] false w args ∧ laidMetH Tryd.prog laid1 w) ∧ sizedMet enc Tryd.prog Tryd.f3 (OpenSpec.ofChange Rows.fnRefuseMarksAndKeepsTheCauseSpec) false w args)
      (Rows.fnRefuseMarksAndKeepsTheCauseSpec.post enc Tryd.prog Tryd.f3 false true false false) := by
  refine returnsInHanded_of_change_and (C := Tryd.checked) (X := fun w _ => laidMetH Tryd.prog laid1 w) (fun _ _ _ hh h => h.of_heap hh) own started (by kernel_rfl) Tryd.func3
    (ChangeSpec.witness_shaped (enc := enc) (C := Tryd.checked) (os := os) (X := fun w _ => laidMetH Tryd.prog laid1 w) false (World.doorLaid Tryd.prog 28 os) #[.bool false, .string ByteArray.empty, .string ByteArray.empty] 8 rfl (World.shaped_of_RefB (by kernel_rfl) (by kernel_rfl)) (by kernel_rfl) (by kernel_rfl) (by kernel_rfl) (door_met os _)) ?_
  intro W base args ds gs before hval0 hW _ _ hL _
  have hval : ∀ (j : Nat) t v, Tryd.f3.params[j]? = some t → args[j]? = some v → Value.okWide Tryd.prog W .any base t v := hval0
  have hW' := hW
  obtain ⟨p, q, hA0, hV0, rfl, hfz, hnd⟩ := hW
  have hA : DataW.TrodAll enc Tryd.prog W 0 (fun _ => true) true Tryd.f3.params.toList args.toList ds p := hA0
  have hV : DataW.TrodVars enc Tryd.prog W (fun _ => true) [gName] gs q := hV0
  rw [Tryd.params3] at hA hval
  obtain ⟨v0, v1, v2, d0, d1, d2, p0, p1, p2, rfl, rfl, rfl, h0, h1, h2⟩ := trodAll_three hA
  obtain ⟨x0, rfl, rfl, rfl⟩ := open_bool Tryd.underlying4 (hval 0 4 v0 rfl rfl) h0
  obtain ⟨x1, rfl, rfl, rfl, hs1⟩ := open_string Tryd.underlying9 (hval 1 9 v1 rfl rfl) h1
  obtain ⟨x2, rfl, rfl, rfl, hs2⟩ := open_string Tryd.underlying9 (hval 2 9 v2 rfl rfl) h2
  obtain ⟨a, c, t, hv, hb⟩ := of_laid hL
  have vr : ∀ {X : World}, X.var? Tryd.prog gName = some #[.iface 40 (.pointer (some a))] → ∀ sp : Nat → Bool, DataW.TrodVars enc Tryd.prog X sp [gName] [tok enc (.iface 40 (.pointer (some a)))] [.cell 0 0] :=
    fun x sp => vars_read1 enc gN gT Tryd.underlying32 x trivial sp
  obtain ⟨rfl, rfl⟩ := hV.unique (vr hv _)
  clear hA0 hV0 hval0
  have hg : W.cell? ⟨0, 0, none⟩ = some (.iface 40 (.pointer (some a))) := by simpa using World.var?_cell gN hv 0
  have h00 : 0 < W.heap.size := World.block_lt_of_cell? _ _ hg
  have e1 : Rows.fnRefuseMarksAndKeepsTheCauseSpec.fn H ([.lit (.bool x0), .lit (.string x1.data.toList), .lit (.string x2.data.toList)] ++ [tok enc (.iface 40 (.pointer (some a)))]) = { results := [.lit (.bool true)], args := [.lit (.bool x0), .lit (.string x1.data.toList), .lit (.string x2.data.toList)], vars := [tok enc (.iface 40 (.pointer (some a)))] } := rfl
  refine (law3 x0 x1 x2 a c t W hs1 hs2 hg h00 hb).mono fun e W' ⟨he, hB⟩ => ?_
  subst he
  refine ⟨_, rfl, _, _, _, [], [], [.cell 0 0], hW', ?_, ?_, ?_, hB.frame _, fun h => by cases h⟩
  · rw [e1]; exact trodAll_mk1 (shut_bool Tryd.underlying4 true)
  · rw [e1]; exact trodAll_mk3 (shut_bool Tryd.underlying4 x0) (shut_string Tryd.underlying9 hs1) (shut_string Tryd.underlying9 hs2)
  · rw [e1]; exact vr (var?_below hB gN h00 hv) _

theorem holds : Rows.FnRefuseMarksAndKeepsTheCauseSaid :=
  OpenClaim.holds_of_wide 3 Tryd.f3 rfl rfl rfl rfl rfl rfl rfl ⟨rfl, rfl, rfl, rfl, rfl⟩ rfl rfl rfl rfl rfl (by kernel_rfl) Tryd.func3 (by kernel_rfl)
    (of_decide_eq_true (by kernel_rfl)) (by unfold Func.isWrapper; rw [if_neg (of_decide_eq_false (by kernel_rfl))]; exact ⟨rfl, rfl⟩)
    (fun os started H enc _ => lifted os started H enc)

end fnRefuseMarksAndKeepsTheCause

/-- THE STATEMENT: the tied card. -/
theorem fnRefuseMarksAndKeepsTheCause_card : Rows.FnRefuseMarksAndKeepsTheCauseCardSaid :=
  Claim7.holds_tied_plain_at .later [] [.sentinel] true (true, "4ea2b0ad136bff86f231f01e0e7de5d7ef32866a590e24d5f26758fc8b31a0a1") true
    fnRefuseMarksAndKeepsTheCause.holds (fun _ h => by cases h) (by kernel_rfl) (fun _ h => by cases h) fnRefuseMarksAndKeepsTheCause_row_tie rfl ⟨rfl, rfl⟩ (by kernel_rfl) rfl
    (fun f fn hf hfn => by
      obtain rfl : f = 3 := Option.some.inj ((show Tryd.prog.funcNamed Rows.fnRefuseMarksAndKeepsTheCauseRow.func = some 3 by kernel_rfl).symm.trans hf) |>.symm
      obtain rfl : fn = Tryd.f3 := (Option.some.inj (Tryd.func3.symm.trans hfn)).symm
      exact ⟨by kernel_rfl, fun j t ht => by
        rw [Tryd.params3] at ht
        have hm : t ∈ [4, 9] := by
          have := Array.mem_of_getElem? ht
          simpa using this
        have hall : ([4, 9].all fun u => !Tryd.prog.wantsStandIn u) = true := by kernel_rfl
        exact (show Tryd.prog.wantsStandIn t = false by simpa using List.all_eq_true.1 hall t hm)⟩)
    (by kernel_rfl)
#print axioms fnRefuseMarksAndKeepsTheCause_card
end Go.Proofs.Qxb6607686aDoor
