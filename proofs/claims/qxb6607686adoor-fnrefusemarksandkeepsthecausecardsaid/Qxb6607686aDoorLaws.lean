import Derived.Test.Qxb6607686aDoorOnce
namespace Go.Proofs.Qxb6607686aDoor
open Go.RowKit Go.Extern.Stop Go.Stop Go.Extern

set_option maxHeartbeats 400000 in
theorem bytes7 (p : Bool) (s t : ByteArray) (w : World) (hs : s.size ≤ maxLen) (ht : t.size ≤ maxLen) :
    Calls Tryd.prog 7 #[.bool p, .string s, .string t] w fun e w' => (∃ b, e = .returned (.bool b)) ∧ w' = w := by
  unfold maxLen at hs ht
  go_enter Tryd.func7, Tryd.ntmps7
  go_wp2
  all_goals (go_ret; exact ⟨⟨_, rfl⟩, rfl⟩)

set_option maxHeartbeats 400000 in
theorem bytes14 (s t : ByteArray) (w : World) (hs : s.size ≤ maxLen) (ht : t.size ≤ maxLen) :
    Calls Tryd.prog 14 #[.string s, .string t] w fun e w' => (∃ b, e = .returned (.bool b)) ∧ w' = w := by
  unfold maxLen at hs ht
  go_enter Tryd.func14, Tryd.ntmps14
  go_wp2
  all_goals (go_ret; exact ⟨⟨_, rfl⟩, rfl⟩)

set_option maxHeartbeats 1000000 in
theorem law3 (p : Bool) (s t : ByteArray) (a0 : Addr) (c0 : Array Value) (t0 : TypeId) (w : World) (hs : s.size ≤ maxLen) (ht : t.size ≤ maxLen) (hg : w.cell? ⟨0, 0, none⟩ = some (.iface 40 (.pointer (some a0)))) (h0 : 0 < w.heap.size)
    (hb0 : w.heap[a0.block]? = some (.cells c0 t0 (0, 0))) :
    Calls Tryd.prog 3 #[.bool p, .string s, .string t] w fun e w' => e = .returned (.bool true) ∧ Below w.heap.size w w' := by
  have B := bytes7 p s t w hs ht
  have O := once_any s t a0 c0 t0 w hg h0 hb0
  clear hg hb0
  go_enter Tryd.func3, Tryd.ntmps3
  go_wp2_with fail
  refine B.mono ?_
  rintro e w' ⟨⟨b, rfl⟩, rfl⟩
  cases b with
  | false =>
    go_wp2_with fail
    go_ret
    exact ⟨rfl, Below.refl _ _⟩
  | true =>
    go_wp2_with (first | (go_at_call 8; refine (zznil_any _).mono ?_; rintro e w' ⟨rfl, rfl⟩) | (go_at_call 9; refine O.mono ?_; rintro e w1 ⟨rfl, hb⟩))
    all_goals (go_ret; first | exact ⟨rfl, hb⟩ | exact ⟨rfl, Below.refl _ _⟩)

set_option maxHeartbeats 1000000 in
theorem law6 (s t : ByteArray) (a0 : Addr) (c0 : Array Value) (t0 : TypeId) (w : World) (hs : s.size ≤ maxLen) (ht : t.size ≤ maxLen) (hg : w.cell? ⟨0, 0, none⟩ = some (.iface 40 (.pointer (some a0)))) (h0 : 0 < w.heap.size)
    (hb0 : w.heap[a0.block]? = some (.cells c0 t0 (0, 0))) :
    Calls Tryd.prog 6 #[.string s, .string t] w fun e w' => e = .returned (.bool true) ∧ Below w.heap.size w w' := by
  have B := bytes14 s t w hs ht
  have O := twice_any s t a0 c0 t0 w hg h0 hb0
  clear hg hb0
  go_enter Tryd.func6, Tryd.ntmps6
  go_wp2_with fail
  refine B.mono ?_
  rintro e w' ⟨⟨b, rfl⟩, rfl⟩
  cases b with
  | false =>
    go_wp2_with fail
    go_ret
    exact ⟨rfl, Below.refl _ _⟩
  | true =>
    go_wp2_with (go_at_call 15; refine O.mono ?_; rintro e w1 ⟨rfl, hb⟩)
    all_goals (go_ret; first | exact ⟨rfl, hb⟩ | exact ⟨rfl, Below.refl _ _⟩)
end Go.Proofs.Qxb6607686aDoor
