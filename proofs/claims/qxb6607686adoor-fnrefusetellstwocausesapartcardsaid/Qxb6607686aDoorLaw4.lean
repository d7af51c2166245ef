import Derived.Test.Qxb6607686aDoorPair
namespace Go.Proofs.Qxb6607686aDoor
open Go.RowKit Go.Extern.Stop Go.Stop Go.Extern

set_option maxHeartbeats 400000 in
theorem bytes10 (s t : ByteArray) (w : World) (hs : s.size ≤ maxLen) (ht : t.size ≤ maxLen) :
    Calls Tryd.prog 10 #[.string s, .string t] w fun e w' => (∃ b, e = .returned (.bool b)) ∧ w' = w := by
  unfold maxLen at hs ht
  go_enter Tryd.func10, Tryd.ntmps10
  go_wp2
  all_goals (go_ret; exact ⟨⟨_, rfl⟩, rfl⟩)

set_option maxHeartbeats 1000000 in
theorem law4 (s t : ByteArray) (a0 : Addr) (c0 : Array Value) (t0 : TypeId) (w : World) (hs : s.size ≤ maxLen) (ht : t.size ≤ maxLen) (hg : w.cell? ⟨0, 0, none⟩ = some (.iface 40 (.pointer (some a0)))) (h0 : 0 < w.heap.size)
    (hb0 : w.heap[a0.block]? = some (.cells c0 t0 (0, 0))) :
    Calls Tryd.prog 4 #[.string s, .string t] w fun e w' => e = .returned (.bool true) ∧ Below w.heap.size w w' := by
  have B := bytes10 s t w hs ht
  have O := pair_any s t a0 c0 t0 w hg h0 hb0
  clear hg hb0
  go_enter Tryd.func4, Tryd.ntmps4
  go_wp2_with fail
  refine B.mono ?_
  rintro e w' ⟨⟨b, rfl⟩, rfl⟩
  cases b with
  | false =>
    go_wp2_with fail
    go_ret
    exact ⟨rfl, Below.refl _ _⟩
  | true =>
    go_wp2_with (go_at_call 11; refine O.mono ?_; rintro e w1 ⟨rfl, hb⟩)
    all_goals (go_ret; first | exact ⟨rfl, hb⟩ | exact ⟨rfl, Below.refl _ _⟩)
end Go.Proofs.Qxb6607686aDoor
