import Derived.Test.Qxb6608761aGrow
import Derived.Deep.RegionHeld3
namespace Go.Proofs.Qxb6608761a
open Go.RowKit Cmp

def vals (B : List Int) : List Value := B.map (Value.int .u8)

/-- A row of bytes of the call's own: nil, or a block that is known whole. -/
def Bod (W : World) (v : Value) (B : List Int) : Prop :=
  (v = .slice none 0 0 ∧ B = []) ∨ ∃ g, v = .slice (some ⟨g, 0, none⟩) B.length B.length ∧ W.heap[g]? = some (.cells (vals B).toArray 5 (0, 0))

theorem vals_length (B : List Int) : (vals B).length = B.length := by simp [vals]

theorem bod_cell {W : World} {g : Nat} {B : List Int} (h : W.heap[g]? = some (.cells (vals B).toArray 5 (0, 0))) (k : Nat) (hk : k < B.length) : W.cell? ⟨g, k, none⟩ = some (.int .u8 B[k]) := by
  simp [World.cell?, h, vals, hk]

/-- Where B[s:e] lies, as the walk writes it. -/
theorem seg_at {W : World} {g n : Nat} {B : List Int} (h : W.heap[g]? = some (.cells (vals B).toArray 5 (0, 0))) (hn : n = B.length) (s e : Nat) (hs : s ≤ e) (he : e ≤ n) (inst : Decidable (n = s)) :
    BytesAt W (@ite _ (n = s) inst (some ⟨g, 0, none⟩) (some ⟨g, s, none⟩)) (seg B s e) := by
  subst hn
  intro k hk
  rw [seg_length B s e hs he] at hk
  rw [if_neg (by omega)]
  refine ⟨g, s, rfl, ?_⟩
  rw [bod_cell h (s + k) (by omega), seg_get B s e k hs he hk]

theorem bytesAt_nil (W : World) (ao : Option Addr) : BytesAt W ao [] := fun k hk => absurd hk (by simp)

theorem compare43' (ao bo : Option Addr) (c1 c2 n1 n2 : Nat) (l1 l2 : List Int) (W : World) (e1 : l1.length = n1) (e2 : l2.length = n2) (h1 : BytesAt W ao l1) (h2 : BytesAt W bo l2) (hn1 : n1 ≤ 100000000) (hn2 : n2 ≤ 100000000) :
    Calls Try.prog 43 #[.slice ao n1 c1, .slice bo n2 c2] W fun e W' => e = .returned (.int .i64 (cmpL l1 l2)) ∧ ∃ n, W' = W.drewN n := by
  subst e1 e2
  exact compare43 ao bo c1 c2 l1 l2 W h1 h2 hn1 hn2

/-- spanLE's answer. -/
def leB (B : List Int) (a b : Nat × Nat) : Bool := decide (cmpL (seg B a.1 a.2) (seg B b.1 b.2) ≤ 0)

set_option maxHeartbeats 1000000 in
theorem span36_some (g n s1 e1 s2 e2 : Nat) (B : List Int) (W : World) (hB : W.heap[g]? = some (.cells (vals B).toArray 5 (0, 0))) (hl : n = B.length) (h1 : s1 ≤ e1) (h2 : e1 ≤ n) (h3 : s2 ≤ e2) (h4 : e2 ≤ n) (hn : n ≤ 100000000) :
    Calls Try.prog 36 #[.slice (some ⟨g, 0, none⟩) n n, .agg #[.int .i64 s1, .int .i64 e1], .agg #[.int .i64 s2, .int .i64 e2], .bool true] W fun e W' => e = .returned (.bool (leB B (s1, e1) (s2, e2))) ∧ Gr W W' := by
  have x1 : (0 : Int) ≤ (s1 : Int) := by omega
  have x2 : (s1 : Int) ≤ (e1 : Int) := by omega
  have x3 : (e1 : Int) ≤ (n : Int) := by omega
  have y1 : (0 : Int) ≤ (s2 : Int) := by omega
  have y2 : (s2 : Int) ≤ (e2 : Int) := by omega
  have y3 : (e2 : Int) ≤ (n : Int) := by omega
  have hF : Gr W ((W.alloc (.cells #[.int .i64 s1, .int .i64 e1] 47)).alloc (.cells #[.int .i64 s2, .int .i64 e2] 47)) := (Gr.alloc W _).trans (Gr.alloc _ _)
  have HC : Hid (leB B (s1, e1) (s2, e2) = decide (cmpL (seg B s1 e1) (seg B s2 e2) ≤ 0)) := rfl
  have L1 := seg_length B s1 e1 h1 (by omega)
  have L2 := seg_length B s2 e2 h3 (by omega)
  have HL1 : Hid ((seg B s1 e1).length = e1 - s1) := L1
  have HL2 : Hid ((seg B s2 e2).length = e2 - s2) := L2
  have HF : Hid (Gr W ((W.alloc (.cells #[.int .i64 s1, .int .i64 e1] 47)).alloc (.cells #[.int .i64 s2, .int .i64 e2] 47))) := hF
  have HB : Hid (W.heap[g]? = some (.cells (vals B).toArray 5 (0, 0))) := hB
  generalize hl1 : seg B s1 e1 = l1 at *
  generalize hl2 : seg B s2 e2 = l2 at *
  have HE1 : Hid (seg B s1 e1 = l1) := hl1
  have HE2 : Hid (seg B s2 e2 = l2) := hl2
  have HL : Hid (n = B.length) := hl
  clear hB hF L1 L2 hl1 hl2 hl
  go_enter Try.func36, Try.ntmps36
  go_wp2
  go_quiet ((go_at_call 43; refine Calls.quiet_of (compare43' _ _ _ _ _ _ l1 l2 _ HL1.out HL2.out ?_ ?_ (by omega) (by omega)); (rw [← HE1.out]; exact ((seg_at HB.out HL.out s1 e1 h1 h2 _).later HF.out.fr).later (Fr.drewN _ _)); (rw [← HE2.out]; exact ((seg_at HB.out HL.out s2 e2 h3 h4 _).later HF.out.fr).later (Fr.drewN _ _))))
  generalize (if n = s1 then some (⟨g, 0, none⟩ : Addr) else some ⟨g, s1, none⟩) = A1
  generalize (if n = s2 then some (⟨g, 0, none⟩ : Addr) else some ⟨g, s2, none⟩) = A2
  go_wp2
  go_ret
  exact ⟨by rw [HC.out]; rfl, HF.out.trans (Gr.drewN _ _)⟩

set_option maxHeartbeats 1000000 in
theorem span36_nil (W : World) :
    Calls Try.prog 36 #[.slice none 0 0, .agg #[.int .i64 0, .int .i64 0], .agg #[.int .i64 0, .int .i64 0], .bool true] W fun e W' => e = .returned (.bool true) ∧ Gr W W' := by
  have hF : Gr W ((W.alloc (.cells #[.int .i64 0, .int .i64 0] 47)).alloc (.cells #[.int .i64 0, .int .i64 0] 47)) := (Gr.alloc W _).trans (Gr.alloc _ _)
  have HC' := fun x => compare43' none none 0 0 0 0 [] [] (((W.alloc (.cells #[.int .i64 0, .int .i64 0] 47)).alloc (.cells #[.int .i64 0, .int .i64 0] 47)).drewN x) rfl rfl (bytesAt_nil _ _) (bytesAt_nil _ _) (by omega) (by omega)
  have HF : Hid (Gr W ((W.alloc (.cells #[.int .i64 0, .int .i64 0] 47)).alloc (.cells #[.int .i64 0, .int .i64 0] 47))) := hF
  clear hF
  go_enter Try.func36, Try.ntmps36
  go_wp2
  go_quiet ((go_at_call 43; exact Calls.quiet_of (HC' _)))
  go_wp2
  go_ret
  exact ⟨rfl, HF.out.trans (Gr.drewN _ _)⟩

theorem span36 (v : Value) (B : List Int) (s1 e1 s2 e2 : Nat) (W : World) (hB : Bod W v B) (h1 : s1 ≤ e1) (h2 : e1 ≤ B.length) (h3 : s2 ≤ e2) (h4 : e2 ≤ B.length) (hn : B.length ≤ 100000000) :
    Calls Try.prog 36 #[v, .agg #[.int .i64 s1, .int .i64 e1], .agg #[.int .i64 s2, .int .i64 e2], .bool true] W fun e W' => e = .returned (.bool (leB B (s1, e1) (s2, e2))) ∧ Gr W W' := by
  rcases hB with ⟨rfl, rfl⟩ | ⟨g, rfl, hg⟩
  · obtain rfl : e1 = 0 := by simpa using h2
    obtain rfl : e2 = 0 := by simpa using h4
    obtain rfl : s1 = 0 := by omega
    obtain rfl : s2 = 0 := by omega
    exact span36_nil W
  · exact span36_some g B.length s1 e1 s2 e2 B W hg rfl h1 h2 h3 h4 hn
end Go.Proofs.Qxb6608761a
