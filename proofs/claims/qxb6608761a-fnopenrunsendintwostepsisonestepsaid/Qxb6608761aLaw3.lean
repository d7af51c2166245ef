import Derived.Test.Qxb6608761aEnds
import Derived.Deep.RegionHeld3
namespace Go.Proofs.Qxb6608761a
open Go.RowKit

/-- What the loop that pushes has come to: q is the object's block. -/
structure PushRel (W : World) (q : Nat) (rs : List R3) (k : Nat) (wr : World) : Prop where
  obj : ∃ v, OR wr q v (rs.take k) ∧ ∀ g, v.ownBlock = some g → W.heap.size ≤ g
  below : Below W.heap.size W wr

theorem push_start (w : World) (n : Nat) (rs : List R3) : PushRel w w.heap.size rs 0 ((w.drewN n).alloc (.cells #[.slice none 0 0] 29)) := by
  refine ⟨⟨.slice none 0 0, ⟨?_, ?_⟩, fun g hg => by simp [Value.ownBlock] at hg⟩, (below_drewN (Below.refl _ _) _).alloc (Nat.le_refl _) _⟩
  · exact heap_alloc_new (w.drewN n) _
  · exact World.ownsRow_nil _ _ _ _

theorem push_below {w wr w1 : World} {q : Nat} {v : Value} {l l' : List R3} (hO : OR wr q v l) (hv : ∀ g, v.ownBlock = some g → w.heap.size ≤ g) (hq : w.heap.size ≤ q) (hB : Below w.heap.size w wr) (hP : Pushed wr.drew q v l' w1) : Below w.heap.size w w1 :=
  Fr.below (S := fun k => k = q ∨ v.ownBlock = some k) hB ((Fr.drew wr).trans hP.fr (fun _ _ x => x)) hB.size (fun k _ h => by
    rcases h with rfl | h
    · exact hq
    · exact hv k h)

theorem push_kept {w wr w1 : World} {v u : Value} {l l' : List R3} {p : Addr} (hO : OR wr w.heap.size v l) (hv : ∀ g, v.ownBlock = some g → w.heap.size ≤ g) (hB : Below w.heap.size w wr) (hP : Pushed wr.drew w.heap.size v l' w1)
    (hc : wr.cell? p = some u) (hp : p.block < w.heap.size) : w1.cell? p = some u := by
  rw [(push_below hO hv (Nat.le_refl _) hB hP).cell hp, ← hB.cell hp]; exact hc

theorem push_next {w wr w1 : World} {v : Value} {rs : List R3} {k : Nat} (hk : k < rs.length) (hO : OR wr w.heap.size v (rs.take k)) (hv : ∀ g, v.ownBlock = some g → w.heap.size ≤ g) (hB : Below w.heap.size w wr) (hP : Pushed wr.drew w.heap.size v (rs.take k ++ [(rs[k].1, rs[k].2.1, rs[k].2.2)]) w1) :
    PushRel w w.heap.size rs (k + 1) w1 := by
  obtain ⟨v', hO', hn⟩ := hP.obj
  refine ⟨⟨v', ?_, fun g hg => ?_⟩, push_below hO hv (Nat.le_refl _) hB hP⟩
  · rw [List.take_succ_eq_append_getElem hk]; exact hO'
  · rcases hn g hg with h | h
    · exact hv g h
    · exact Nat.le_trans hB.size h

theorem RunsAt.later {W W' : World} {ao : Option Addr} {rs : List R3} (h : RunsAt W ao rs) (hb : Below W.heap.size W W') : RunsAt W' ao rs := by
  intro k hk
  obtain ⟨b, off, rfl, h0, h1, h2⟩ := h k hk
  have hlt : b < W.heap.size := World.block_lt_of_cell? _ _ h0
  exact ⟨b, off, rfl, by rw [hb.cell hlt]; exact h0, by rw [hb.cell hlt]; exact h1, by rw [hb.cell hlt]; exact h2⟩

theorem OR.later {W W' : World} {q : Nat} {v : Value} {rs : List R3} (h : OR W q v rs) (hb : Below W.heap.size W W') : OR W' q v rs :=
  h.kept (S := fun _ => False) ⟨hb.os, hb.tape, hb.output, hb.size, fun k hk _ => hb.block k hk⟩ (fun f => f) (fun _ _ f => f)

theorem drain_below {w wr wd : World} {q c : Nat} {v u : Value} {rs : List R3} {got : List Int} (hB : Below w.heap.size w wr) (hv : ∀ g, v.ownBlock = some g → w.heap.size ≤ g) (hq : w.heap.size ≤ q) (R : DrainRel wr q v (.slice none 0 0) rs got c u wd) : Below w.heap.size w wd :=
  Fr.below hB R.fr hB.size (fun k _ h => by
    rcases h with rfl | h | h
    · exact hq
    · exact hv k h
    · simp [Value.ownBlock] at h)

theorem stop_cut (i : Int) (rs : List R3) : stopB i (rs.take (Runs.cut i rs)) = true := by
  by_cases h0 : Runs.cut i rs = 0
  · rw [h0]; rfl
  · have hle := Runs.cut_le i rs
    have hb := Runs.before_cut i rs (Runs.cut i rs - 1) (by omega) (by omega)
    rw [take_snoc rs _ (by omega) hle]
    simp only [stopB, List.getLast?_append, List.getLast?_singleton, Option.some_or]
    exact decide_eq_true (Int.not_lt.1 hb)

set_option maxRecDepth 100000 in
set_option maxHeartbeats 4000000 in
theorem law3 (ao : Option Addr) (cap : Nat) (rs : List R3) (i : Int) (W : World) (hr : RunsAt W ao rs) (hn : rs.length ≤ maxLen) :
    Calls Try.prog 3 #[.slice ao rs.length cap, .int .i64 i] W fun e W' => e = .returned (.bool true) ∧ Below W.heap.size W W' := by
  have B7 := bytes7 ao rs.length cap i W hn
  have HR : Hid (RunsAt W ao rs) := hr
  unfold maxLen at hn
  clear hr
  go_enter Try.func3, Try.ntmps3
  go_wp2_with fail
  refine B7.mono ?_
  rintro e w' ⟨⟨b, rfl⟩, hw⟩
  subst hw
  clear B7
  cases b with
  | false =>
    go_wp2_with fail
    go_ret
    exact ⟨rfl, Below.refl _ _⟩
  | true =>
    by_cases hbig : 32768 < rs.length
    · go_wp2_with fail
      go_ret
      exact ⟨rfl, Below.refl _ _⟩
    · go_wp2_with fail
      go_loopw [5] (fun t wr => ∃ k : Nat, 1 ≤ k ∧ (k ≤ rs.length ∨ k = 1) ∧ t = .int .i64 k ∧ (∃ n, wr = w'.drewN n) ∧ Hid (∀ j, j + 1 < k → (h : j + 1 < rs.length) → (rs[j]'(by omega)).2.2 ≤ rs[j + 1].2.2)) (fun t _ => rs.length - (intOf t).toNat)
      case atStart => exact ⟨1, Nat.le_refl _, .inr rfl, rfl, ⟨0, rfl⟩, fun j hj => absurd hj (by omega)⟩
      case round =>
        obtain ⟨k, hk1, hk2, rfl, ⟨n, rfl⟩, HS⟩ := hrel
        by_cases hlt : k < rs.length
        · obtain ⟨b, off, rfl, _, _, c2⟩ := HR.out k hlt
          obtain ⟨b', off', e, _, _, d2⟩ := HR.out (k - 1) (by omega)
          obtain ⟨rfl, rfl⟩ : b = b' ∧ off = off' := by simpa using e
          clear e
          have x1 : (0 : Int) ≤ (k : Int) - 1 := by omega
          have x2 : (k : Int) - 1 < (rs.length : Int) := by omega
          by_cases hd : rs[k].2.2 < (rs[k - 1]'(by omega)).2.2
          · go_wp2
            go_quiet (fail)
            go_wp2
            go_ret
            exact ⟨rfl, below_drewN (below_drewN (Below.refl _ _) _) _⟩
          · go_wp2
            go_quiet (fail)
            go_wp2
            go_roundw
            case rel => exact ⟨k + 1, by omega, .inl (by omega), by go_num, ⟨_, rfl⟩, fun j hj h => by
              by_cases e : j = k - 1
              · subst e; have := hd; simpa [show k - 1 + 1 = k by omega] using this
              · exact HS.out j (by omega) h⟩
            case measure => simp [intOf]; omega
        · have HU : Hid (Runs.Up rs) := fun j h => HS.out j (by omega) h
          clear HS
          go_wp2_with fail
          go_loopw [7] (fun t wr => ∃ k : Nat, k ≤ rs.length ∧ t = .int .i64 k ∧ PushRel w' w'.heap.size rs k wr) (fun t _ => rs.length - (intOf t).toNat)
          case atStart => exact ⟨0, Nat.zero_le _, rfl, push_start w' n rs⟩
          case round =>
            obtain ⟨k2, hk2', rfl, R⟩ := hrel
            by_cases hlt2 : k2 < rs.length
            · obtain ⟨b, off, rfl, c0, c1, c2⟩ := HR.out k2 hlt2
              obtain ⟨v, hO, hv⟩ := R.obj
              have hB := R.below
              have hbl := World.block_lt_of_cell? _ _ c0
              have e0 := (hB.cell (p := ⟨b, off + k2 * 3, none⟩) hbl).trans c0
              have e1 := (hB.cell (p := ⟨b, off + k2 * 3 + 1, none⟩) hbl).trans c1
              have e2 := (hB.cell (p := ⟨b, off + k2 * 3 + 2, none⟩) hbl).trans c2
              have HV : Hid (∀ g, v.ownBlock = some g → w'.heap.size ≤ g) := hv
              have HO : Hid (OR wr w'.heap.size v (rs.take k2)) := hO
              clear c0 c1 c2 hv hO
              go_wp2
              go_region_held3 (fun x => x.cell? ⟨b, off + k2 * 3, none⟩ = some (.int .i64 rs[k2].1) ∧ x.cell? ⟨b, off + k2 * 3 + 1, none⟩ = some (.int .i64 rs[k2].2.1) ∧ x.cell? ⟨b, off + k2 * 3 + 2, none⟩ = some (.int .i64 rs[k2].2.2)) (go_keep)
                (first | (go_at_call 8; refine (push8 w'.heap.size v (rs.take k2) _ _ _ _ ?_ ?_).mono ?_; exact HO.out.kept (S := fun _ => False) (Fr.drew _) (fun f => f) (fun _ _ f => f); (simp; omega); rintro e w1 ⟨rfl, hP⟩; have s0 := push_kept HO.out HV.out hB hP e0 hbl; have s1 := push_kept HO.out HV.out hB hP e1 hbl; have s2 := push_kept HO.out HV.out hB hP e2 hbl))
              go_wp2
              go_roundw
              case rel => exact ⟨k2 + 1, by omega, by go_num, push_next hlt2 HO.out HV.out hB hP⟩
              case measure => simp [intOf]; omega
            · have hke : k2 = rs.length := by omega
              subst hke
              obtain ⟨v, hO, hv⟩ := R.obj
              have hB := R.below
              rw [List.take_length] at hO
              have F9 := first9 ao cap rs i wr (HR.out.later hB) (by omega)
              have D10 := drain10 w'.heap.size (Runs.cut i rs) rs.length v (.slice none 0 0) rs [] i wr hO (World.ownsRow_nil _ _ _ _) (by omega) (by simp) (Runs.cut_le i rs) (fun k h h2 => Runs.from_cut i rs HU.out k h2 h) (stop_cut i rs) (Nat.le_refl _) (by omega)
              have HB : Hid (∀ wd u, DrainRel wr w'.heap.size v (.slice none 0 0) rs [] (Runs.cut i rs) u wd → Below w'.heap.size w' wd) := fun wd u R2 => drain_below hB hv (Nat.le_refl _) R2
              clear R hO hv hB
              go_wp2_with fail
              refine F9.mono ?_
              rintro e w9 ⟨rfl, rfl⟩
              go_wp2_with fail
              refine D10.mono ?_
              rintro e wd ⟨u, rfl, R2⟩
              have hBd := HB.out wd u R2
              have E11 := ends11 ao u (Runs.cut i rs) cap rs wd (by omega) (Runs.cut_le i rs) (HR.out.later hBd) (by simpa using R2.out)
              obtain ⟨v2, hO2, _⟩ := R2.obj
              clear F9 D10 HB R2
              go_wp2_with fail
              refine E11.mono ?_
              rintro e we ⟨rfl, hBe⟩
              have L12 := len12 _ _ _ _ (hO2.later hBe)
              rw [List.length_take, Nat.min_eq_left (Runs.cut_le i rs)] at L12
              have hBend := hBd.trans (hBe.mono hBd.size)
              clear hO2 hBe E11 hBd
              go_wp2_with fail
              refine L12.mono ?_
              rintro e wf ⟨rfl, rfl⟩
              go_wp2_with fail
              go_ret
              exact ⟨rfl, hBend⟩
end Go.Proofs.Qxb6608761a
