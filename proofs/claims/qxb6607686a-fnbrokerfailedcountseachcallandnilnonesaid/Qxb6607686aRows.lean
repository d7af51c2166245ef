/-
  No cell of these rows narrows 'for every input' (looked for: loops, veiled, ifaces, maps, wideKeys, modest, calm, conditions, laid).
  DERIVED. THE GIVEN ROWS OF THIS SEAT. 2 by the template 'for every input the law returns true; each argument reads behind the call as it read before'; 0 by the template 'total and deterministic' (their statements: Qxb6607686aTotals.lean).
  GIVEN WITH THE SEED: the statements are not yours to turn. If you find one false, say at which input.
  Laid BY PROGRAM, IN A SANDBOX (cutbox-rows.mjs): the forced cells as the released guide's own fill.sh prints them over the translation f47acef88a177ec6… (all of the seat's roots in one cut). By AI agents, Wed Nov 11 2026. No macro, syntax, notation, axiom, sorry.
-/
import Derived.Test.Qxb6607686aChecked
import GoSem.Claim
import GoSem.ClaimJoined
import GoSem.ClaimMapViews
import Derived.JoinedTies
import Derived.KernelRfl
namespace Go.Proofs.Qxb6607686a
/- THE CELL 'sum', in the pinned program and in every row, IS THE sha256 OF THE DUMP (.gsa) THAT Qxb6607686aProg.lean LOADS. Nothing in Lean hashes anything: it is a label: what it is worth is what the hold of that sum in a sandbox is worth. -/
noncomputable def Try.pinned : Pinned := { name := "qxb6607686a", sum := "f47acef88a177ec6901dc5a0a69c1728a04eafad7744a2927bec40c0aaed024c", checked := Try.checked }
namespace Rows
def none {H : Type} : Left H := { results := [], args := [] }

/-- 'zzlaws_internal_outbox_b1.FnBrokerFailedAddsOneToBrokerFailuresAlone': WHATEVER THE INPUT: true; the input reads as it did. -/
def fnBrokerFailedAddsOneToBrokerFailuresAloneSpec : ChangeSpec := { name := "fnBrokerFailedAddsOneToBrokerFailuresAlone", fn := fun _ => fun
  | [d1, d2, d3, d4, d5, d6] => { results := [.lit (.bool true)], args := [d1, d2, d3, d4, d5, d6] }
  | _ => none }
def fnBrokerFailedAddsOneToBrokerFailuresAloneRow : OpenClaim := { program := "qxb6607686a", sum := "f47acef88a177ec6901dc5a0a69c1728a04eafad7744a2927bec40c0aaed024c", func := "example.com/outledger/outledger/zzlaws_internal_outbox_b1.FnBrokerFailedAddsOneToBrokerFailuresAlone", spec := "fnBrokerFailedAddsOneToBrokerFailuresAlone", inPlace := ["sync/atomic.StoreInt64", "sync/atomic.AddInt64", "sync/atomic.LoadInt64"], apart := false }
def FnBrokerFailedAddsOneToBrokerFailuresAloneSaid : Prop := fnBrokerFailedAddsOneToBrokerFailuresAloneRow.holds Try.pinned (OpenSpec.ofChange fnBrokerFailedAddsOneToBrokerFailuresAloneSpec)

/-- ITS FALSE NEIGHBOUR: 'it returns false'. Refute it at one input. -/
def fnBrokerFailedAddsOneToBrokerFailuresAloneWrong : ChangeSpec := { name := "fnBrokerFailedAddsOneToBrokerFailuresAlone", fn := fun _ => fun
  | [d1, d2, d3, d4, d5, d6] => { results := [.lit (.bool false)], args := [d1, d2, d3, d4, d5, d6] }
  | _ => none }
def FnBrokerFailedAddsOneToBrokerFailuresAloneWrongFalsely : Prop := fnBrokerFailedAddsOneToBrokerFailuresAloneRow.holds Try.pinned (OpenSpec.ofChange fnBrokerFailedAddsOneToBrokerFailuresAloneWrong)

/-- 'zzlaws_internal_outbox_b1.FnBrokerFailedCountsEachCallAndNilNone': WHATEVER THE INPUT: true; the input reads as it did. -/
def fnBrokerFailedCountsEachCallAndNilNoneSpec : ChangeSpec := { name := "fnBrokerFailedCountsEachCallAndNilNone", fn := fun _ => fun
  | [d1, d2, d3, d4, d5, d6, d7] => { results := [.lit (.bool true)], args := [d1, d2, d3, d4, d5, d6, d7] }
  | _ => none }
def fnBrokerFailedCountsEachCallAndNilNoneRow : OpenClaim := { program := "qxb6607686a", sum := "f47acef88a177ec6901dc5a0a69c1728a04eafad7744a2927bec40c0aaed024c", func := "example.com/outledger/outledger/zzlaws_internal_outbox_b1.FnBrokerFailedCountsEachCallAndNilNone", spec := "fnBrokerFailedCountsEachCallAndNilNone", inPlace := ["sync/atomic.StoreInt64", "sync/atomic.AddInt64", "sync/atomic.LoadInt64"], apart := false }
def FnBrokerFailedCountsEachCallAndNilNoneSaid : Prop := fnBrokerFailedCountsEachCallAndNilNoneRow.holds Try.pinned (OpenSpec.ofChange fnBrokerFailedCountsEachCallAndNilNoneSpec)

/-- ITS FALSE NEIGHBOUR: 'it returns false'. Refute it at one input. -/
def fnBrokerFailedCountsEachCallAndNilNoneWrong : ChangeSpec := { name := "fnBrokerFailedCountsEachCallAndNilNone", fn := fun _ => fun
  | [d1, d2, d3, d4, d5, d6, d7] => { results := [.lit (.bool false)], args := [d1, d2, d3, d4, d5, d6, d7] }
  | _ => none }
def FnBrokerFailedCountsEachCallAndNilNoneWrongFalsely : Prop := fnBrokerFailedCountsEachCallAndNilNoneRow.holds Try.pinned (OpenSpec.ofChange fnBrokerFailedCountsEachCallAndNilNoneWrong)

end Rows
end Go.Proofs.Qxb6607686a
