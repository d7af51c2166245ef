import Derived.Test.Qxb6608761aOpen
namespace Go.Proofs.Qxb6608761a
open Go.RowKit

set_option maxHeartbeats 1000000 in
theorem end32_empty (q : Nat) (v : Value) (i : Int) (W : World) (h : OR W q v []) :
    Calls Try.prog 32 #[.pointer (some ⟨q, 0, none⟩), .int .i64 i] W fun e W' => e = .returned (.tuple #[.int .i64 0, .int .i64 0, .bool false]) ∧ W' = W := by
  have hc := h.cell
  rcases h.form with ⟨rfl, _⟩ | ⟨g, cap, rfl, _⟩
  all_goals
    clear h
    go_enter Try.func32, Try.ntmps32
    go_wp2
    go_ret3
    exact ⟨rfl, rfl⟩

set_option maxHeartbeats 1000000 in
theorem end32_stop (q g cap n : Nat) (d i : Int) (W : World) (hc : W.cell? ⟨q, 0, none⟩ = some (.slice (some ⟨g, 0, none⟩) (n + 1) cap)) (c2 : W.cell? ⟨g, n * 3 + 2, none⟩ = some (.int .i64 d)) (hn : n ≤ 1000000) (hd : d ≤ i) :
    Calls Try.prog 32 #[.pointer (some ⟨q, 0, none⟩), .int .i64 i] W fun e W' => e = .returned (.tuple #[.int .i64 0, .int .i64 0, .bool false]) ∧ W' = W := by
  go_enter Try.func32, Try.ntmps32
  go_wp2
  go_ret3
  exact ⟨rfl, rfl⟩

set_option maxHeartbeats 1000000 in
theorem end32_pop (q g cap n : Nat) (f l d i : Int) (W : World) (hc : W.cell? ⟨q, 0, none⟩ = some (.slice (some ⟨g, 0, none⟩) (n + 1) cap)) (hf : W.frozen? ⟨q, 0, none⟩ = false) (hq : q < W.heap.size) (_hg : g < W.heap.size)
    (c0 : W.cell? ⟨g, n * 3, none⟩ = some (.int .i64 f)) (c1 : W.cell? ⟨g, n * 3 + 1, none⟩ = some (.int .i64 l)) (c2 : W.cell? ⟨g, n * 3 + 2, none⟩ = some (.int .i64 d)) (hn : n ≤ 1000000) (hcap : n + 1 ≤ cap) (_hcm : cap ≤ 9223372036854775807) (hd : ¬ d ≤ i) :
    Calls Try.prog 32 #[.pointer (some ⟨q, 0, none⟩), .int .i64 i] W fun e W' => e = .returned (.tuple #[.int .i64 f, .int .i64 l, .bool true]) ∧ ∃ m o, W' = ((W.setCell ⟨q, 0, none⟩ (.slice (some ⟨g, 0, none⟩) n cap)).alloc o).drewN m := by
  go_enter Try.func32, Try.ntmps32
  go_wp2
  go_quiet (fail)
  go_wp2
  go_ret3
  exact ⟨rfl, _, _, rfl⟩

/-- What End(i) says no to. -/
def stopB (i : Int) (rs : List R3) : Bool := match rs.getLast? with | none => true | some r => decide (r.2.2 ≤ i)

theorem snoc_of {rs : List R3} (h : rs ≠ []) : ∃ rs' r, rs = rs' ++ [r] := ⟨rs.dropLast, rs.getLast h, (List.dropLast_concat_getLast h).symm⟩

theorem snoc_cells {W : World} {q g cap : Nat} {rs : List R3} {r : R3} (h : OR W q (.slice (some ⟨g, 0, none⟩) (rs ++ [r]).length cap) (rs ++ [r])) :
    W.cell? ⟨g, rs.length * 3, none⟩ = some (.int .i64 r.1) ∧ W.cell? ⟨g, rs.length * 3 + 1, none⟩ = some (.int .i64 r.2.1) ∧ W.cell? ⟨g, rs.length * 3 + 2, none⟩ = some (.int .i64 r.2.2) := by
  have hk : rs.length < (rs ++ [r]).length := by simp
  have e : (rs ++ [r])[rs.length]'hk = r := by simp
  refine ⟨?_, ?_, ?_⟩
  · have := h.cellAt rs.length 0 hk (by omega); rw [e] at this; simpa [Runs.cellsOf] using this
  · have := h.cellAt rs.length 1 hk (by omega); rw [e] at this; simpa [Runs.cellsOf] using this
  · have := h.cellAt rs.length 2 hk (by omega); rw [e] at this; simpa [Runs.cellsOf] using this

theorem end32_no (q : Nat) (v : Value) (rs : List R3) (i : Int) (W : World) (h : OR W q v rs) (hn : rs.length ≤ 1000000) (hs : stopB i rs = true) :
    Calls Try.prog 32 #[.pointer (some ⟨q, 0, none⟩), .int .i64 i] W fun e W' => e = .returned (.tuple #[.int .i64 0, .int .i64 0, .bool false]) ∧ W' = W := by
  by_cases he : rs = []
  · subst he; exact end32_empty q v i W h
  obtain ⟨rs', r, rfl⟩ := snoc_of he
  rcases h.form with ⟨_, e⟩ | ⟨g, cap, rfl, hg, hne, hcap, hcm⟩
  · exact absurd e he
  have hc := h.cell
  obtain ⟨c0, c1, c2⟩ := snoc_cells h
  have hl : (rs' ++ [r]).length = rs'.length + 1 := by simp
  rw [hl] at hc hn
  simp [stopB] at hs
  exact end32_stop q g cap rs'.length r.2.2 i W hc c2 (by omega) hs

theorem end32_yes (q : Nat) (v : Value) (rs : List R3) (r : R3) (i : Int) (W : World) (h : OR W q v (rs ++ [r])) (hn : rs.length ≤ 1000000) (hs : i < r.2.2) :
    Calls Try.prog 32 #[.pointer (some ⟨q, 0, none⟩), .int .i64 i] W fun e W' => e = .returned (.tuple #[.int .i64 r.1, .int .i64 r.2.1, .bool true]) ∧ (∃ v', OR W' q v' rs ∧ v'.ownBlock = v.ownBlock) ∧ Fr (fun k => k = q) W W' := by
  rcases h.form with ⟨_, e⟩ | ⟨g, cap, rfl, hg, hne, hcap, hcm⟩
  · exact absurd e (by simp)
  have hc := h.cell
  have hlt := h.lt
  obtain ⟨c0, c1, c2⟩ := snoc_cells h
  have hl : (rs ++ [r]).length = rs.length + 1 := by simp
  have hrow := h.row
  rw [hl] at hc hcap hrow
  refine (end32_pop q g cap rs.length r.1 r.2.1 r.2.2 i W hc h.free hlt hg c0 c1 c2 hn hcap (by simpa [maxLen] using hcm) (by omega)).mono ?_
  rintro e W' ⟨rfl, m, o, rfl⟩
  refine ⟨rfl, ⟨.slice (some ⟨g, 0, none⟩) rs.length cap, ⟨?_, ?_⟩, rfl⟩, ?_⟩
  · show ((W.setCell ⟨q, 0, none⟩ (.slice (some ⟨g, 0, none⟩) rs.length cap)).alloc o).heap[q]? = _
    rw [Below.heap_alloc _ _ _ (by simp [World.setCell]; exact hlt), heap_setCell_same W q 0 _ _ _ h.blk]; rfl
  · have hr : W.ownsRow 0 63 3 (.slice (some ⟨g, 0, none⟩) rs.length cap) rs.length (Runs.flat rs) := by
      refine ownsRow_pop (last := Runs.flat [r]) (Runs.flat_length rs) ?_
      rw [← Runs.flat_append]; exact hrow
    have h1 := Fr.owns (S := fun k => k = q) (Fr.setCell W ⟨q, 0, none⟩ (.slice (some ⟨g, 0, none⟩) rs.length cap) rfl) hr (fun x hx => by simp [Value.ownBlock] at hx; subst hx; exact hne)
    exact Fr.owns (S := fun _ => False) (Fr.drewN _ m) (Fr.owns (S := fun _ => False) (Fr.alloc _ o) h1 (fun _ _ f => f)) (fun _ _ f => f)
  · exact ((Fr.setCell (S := fun k => k = q) W ⟨q, 0, none⟩ _ rfl).trans (Fr.alloc _ o) (fun _ _ x => x)).trans (Fr.drewN _ m) (fun _ _ x => x)
end Go.Proofs.Qxb6608761a
