import Derived.Test.Qxb6608761aDrain
import Derived.Test.Qxb6608761aFirst
namespace Go.Proofs.Qxb6608761a
open Go.RowKit

set_option maxRecDepth 100000 in
set_option maxHeartbeats 2000000 in
theorem ends11_core (ao uo : Option Addr) (c m cap ucap : Nat) (F L D : Nat → Int) (W : World) (hm : c + m ≤ 1000000)
    (hr : ∀ k, k < m → ∃ b off, b < W.heap.size ∧ ao = some ⟨b, off, none⟩ ∧ W.cell? ⟨b, off + (c + m - 1 - k) * 3, none⟩ = some (.int .i64 (F k)) ∧ W.cell? ⟨b, off + (c + m - 1 - k) * 3 + 1, none⟩ = some (.int .i64 (L k)) ∧ W.cell? ⟨b, off + (c + m - 1 - k) * 3 + 2, none⟩ = some (.int .i64 (D k)))
    (hu : ∀ k, k < m → ∃ g, g < W.heap.size ∧ uo = some ⟨g, 0, none⟩ ∧ W.cell? ⟨g, 2 * k, none⟩ = some (.int .i64 (F k)) ∧ W.cell? ⟨g, 2 * k + 1, none⟩ = some (.int .i64 (L k))) :
    Calls Try.prog 11 #[.slice uo (2 * m) ucap, .slice ao (c + m) cap, .int .i64 c] W fun e W' => e = .returned (.bool true) ∧ Below W.heap.size W W' := by
  have HR : Hid (∀ k, k < m → ∃ b off, b < W.heap.size ∧ ao = some ⟨b, off, none⟩ ∧ W.cell? ⟨b, off + (c + m - 1 - k) * 3, none⟩ = some (.int .i64 (F k)) ∧ W.cell? ⟨b, off + (c + m - 1 - k) * 3 + 1, none⟩ = some (.int .i64 (L k)) ∧ W.cell? ⟨b, off + (c + m - 1 - k) * 3 + 2, none⟩ = some (.int .i64 (D k))) := hr
  have HU : Hid (∀ k, k < m → ∃ g, g < W.heap.size ∧ uo = some ⟨g, 0, none⟩ ∧ W.cell? ⟨g, 2 * k, none⟩ = some (.int .i64 (F k)) ∧ W.cell? ⟨g, 2 * k + 1, none⟩ = some (.int .i64 (L k))) := hu
  clear hr hu
  have hne : (2 * (m : Int) != 2 * ((c : Int) + m - c)) = false := by simp [bne]; omega
  go_enter Try.func11, Try.ntmps11
  go_wp2
  go_loopw [8] (fun t wr => ∃ k : Nat, k ≤ m ∧ t = .int .i64 k ∧ Below W.heap.size W wr) (fun t _ => m - (intOf t).toNat)
  case atStart => exact ⟨0, Nat.zero_le _, rfl, Below.refl _ _⟩
  case round =>
    obtain ⟨k, hk, rfl, hB⟩ := hrel
    by_cases hlt : k < m
    · obtain ⟨b, off, hbl, rfl, r0, r1, r2⟩ := HR.out k hlt
      obtain ⟨g, hgl, rfl, g0, g1⟩ := HU.out k hlt
      have r0' := (hB.cell (p := ⟨b, off + (c + m - 1 - k) * 3, none⟩) hbl).trans r0
      have r1' := (hB.cell (p := ⟨b, off + (c + m - 1 - k) * 3 + 1, none⟩) hbl).trans r1
      have r2' := (hB.cell (p := ⟨b, off + (c + m - 1 - k) * 3 + 2, none⟩) hbl).trans r2
      have g0' := (hB.cell (p := ⟨g, 2 * k, none⟩) hgl).trans g0
      have g1' := (hB.cell (p := ⟨g, 2 * k + 1, none⟩) hgl).trans g1
      have hsz := hB.size
      clear r0 r1 r2 g0 g1
      have hgl' : g < wr.heap.size := by omega
      have b1 : (2 * (k : Int)) < 2 * (m : Int) := by omega
      have b2 : (2 * (k : Int) + 1) < 2 * (m : Int) := by omega
      go_wp2
      go_quiet (fail)
      go_wp2
      go_roundw
      case rel => exact ⟨k + 1, by omega, by go_num, below_drewN (hB.alloc hB.size _) _⟩
      case measure => simp [intOf]; omega
    · go_wp2
      go_ret
      exact ⟨rfl, hB⟩

theorem own_int_cell {W : World} {g n cap : Nat} {l : List Int} (h : W.ownsRow 0 3 1 (.slice (some ⟨g, 0, none⟩) n cap) n (ints l)) (hn : n = l.length) (j : Nat) (x : Int) (hx : l[j]? = some x) : W.cell? ⟨g, j, none⟩ = some (.int .i64 x) := by
  have hj : j < l.length := by
    rcases Nat.lt_or_ge j l.length with a | a
    · exact a
    · simp [List.getElem?_eq_none a] at hx
  rw [h.cellAt j (by omega)]
  simp [ints, hx]

/-- endsAre(got, runs, c): true, where got lists runs[c:] last first. -/
theorem ends11 (ao : Option Addr) (u : Value) (c cap : Nat) (rs : List R3) (W : World) (hn : rs.length ≤ 1000000) (hc : c ≤ rs.length) (hr : RunsAt W ao rs)
    (ho : W.ownsRow 0 3 1 u (Runs.pairs (Runs.back rs c rs.length)).length (ints (Runs.pairs (Runs.back rs c rs.length)))) :
    Calls Try.prog 11 #[u, .slice ao rs.length cap, .int .i64 c] W fun e W' => e = .returned (.bool true) ∧ Below W.heap.size W W' := by
  obtain ⟨m, hm⟩ : ∃ m, rs.length = c + m := ⟨rs.length - c, by omega⟩
  have hl : (Runs.pairs (Runs.back rs c rs.length)).length = 2 * m := by rw [Runs.pairs_length, Runs.back_length _ _ _ (Nat.le_refl _)]; omega
  have hbl : (Runs.back rs c rs.length).length = m := by rw [Runs.back_length _ _ _ (Nat.le_refl _)]; omega
  have hgetb : ∀ k, (hk : k < m) → (Runs.back rs c rs.length)[k]'(by omega) = rs[c + m - 1 - k]'(by omega) := fun k hk => by
    have := Runs.back_get rs c rs.length k (Nat.le_refl _) (by omega)
    rw [this]
    congr 1; omega
  have hform : (∃ ucap, u = .slice none (2 * m) ucap ∧ m = 0) ∨ ∃ g ucap, u = .slice (some ⟨g, 0, none⟩) (2 * m) ucap ∧ g < W.heap.size := by
    rcases ho.2 with ⟨e, h0⟩ | ⟨g, ucap, cur, e, _, hg, _⟩
    · left
      have h0' : m = 0 := by omega
      exact ⟨0, by rw [e, h0'], h0'⟩
    · right; exact ⟨g, ucap, by rw [e, hl], lt_of_heap hg⟩
  have hrr : ∀ k, k < m → ∃ b off, b < W.heap.size ∧ ao = some ⟨b, off, none⟩ ∧ W.cell? ⟨b, off + (c + m - 1 - k) * 3, none⟩ = some (.int .i64 ((rs.getD (c + m - 1 - k) (0, 0, 0)).1)) ∧ W.cell? ⟨b, off + (c + m - 1 - k) * 3 + 1, none⟩ = some (.int .i64 ((rs.getD (c + m - 1 - k) (0, 0, 0)).2.1)) ∧ W.cell? ⟨b, off + (c + m - 1 - k) * 3 + 2, none⟩ = some (.int .i64 ((rs.getD (c + m - 1 - k) (0, 0, 0)).2.2)) := by
    intro k hk
    have hlt : c + m - 1 - k < rs.length := by omega
    obtain ⟨b, off, e, h0, h1, h2⟩ := hr _ hlt
    have eg : rs.getD (c + m - 1 - k) (0, 0, 0) = rs[c + m - 1 - k] := by simp [List.getD, hlt]
    rw [eg]
    exact ⟨b, off, World.block_lt_of_cell? _ _ h0, e, h0, h1, h2⟩
  rcases hform with ⟨ucap, rfl, rfl⟩ | ⟨g, ucap, rfl, hg⟩
  · rw [hm]
    exact ends11_core ao none c 0 cap ucap (fun _ => 0) (fun _ => 0) (fun _ => 0) W (by omega) (fun k hk => absurd hk (by omega)) (fun k hk => absurd hk (by omega))
  · rw [hl] at ho
    rw [hm]
    refine ends11_core ao _ c m cap ucap (fun k => (rs.getD (c + m - 1 - k) (0, 0, 0)).1) (fun k => (rs.getD (c + m - 1 - k) (0, 0, 0)).2.1) (fun k => (rs.getD (c + m - 1 - k) (0, 0, 0)).2.2) W (by omega) hrr ?_
    intro k hk
    have hlt : c + m - 1 - k < rs.length := by omega
    have eg : rs.getD (c + m - 1 - k) (0, 0, 0) = rs[c + m - 1 - k] := by simp [List.getD, hlt]
    have hp := Runs.pairs_get (Runs.back rs c rs.length) k (by omega)
    rw [hgetb k hk] at hp
    simp only [eg]
    exact ⟨g, hg, rfl, own_int_cell ho hl.symm _ _ hp.1, own_int_cell ho hl.symm _ _ hp.2⟩
end Go.Proofs.Qxb6608761a
