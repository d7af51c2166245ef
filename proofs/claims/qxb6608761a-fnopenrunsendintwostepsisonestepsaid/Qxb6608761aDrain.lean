import Derived.Test.Qxb6608761aEnd
namespace Go.Proofs.Qxb6608761a
open Go.RowKit

/-- The integers' cells. -/
def ints (l : List Int) : List Value := l.map (Value.int .i64)

/-- What drainRuns has come to when c runs are left. -/
structure DrainRel (W : World) (q : Nat) (v u0 : Value) (rs : List R3) (got : List Int) (c : Nat) (u : Value) (wr : World) : Prop where
  obj : ∃ v', OR wr q v' (rs.take c) ∧ v'.ownBlock = v.ownBlock
  out : wr.ownsRow 0 3 1 u (got ++ Runs.pairs (Runs.back rs c rs.length)).length (ints (got ++ Runs.pairs (Runs.back rs c rs.length)))
  new : ∀ g, u.ownBlock = some g → u0.ownBlock = some g ∨ W.heap.size ≤ g
  fr : Fr (fun k => k = q ∨ v.ownBlock = some k ∨ u0.ownBlock = some k) W wr

theorem drain_start {W : World} {q : Nat} {v u0 : Value} {rs : List R3} {got : List Int} (h : OR W q v rs) (ho : W.ownsRow 0 3 1 u0 got.length (ints got)) : DrainRel W q v u0 rs got rs.length u0 W := by
  have e : Runs.back rs rs.length rs.length = [] := by simp [Runs.back]
  refine ⟨⟨v, by rw [List.take_length]; exact h, rfl⟩, ?_, fun g hg => .inl hg, Fr.refl _ _⟩
  rw [e]; simpa [Runs.pairs] using ho

theorem not_q {W : World} {q : Nat} {v u : Value} {rs : List R3} {n : Nat} {xs : List Value} (h : OR W q v rs) (ho : W.ownsRow 0 3 1 u n xs) : u.ownBlock ≠ some q := fun e => by
  obtain ⟨cur, hc⟩ := own_type ho e
  have := h.blk
  rw [hc] at this
  simp at this

theorem not_row {W : World} {q g : Nat} {v u : Value} {rs : List R3} {n : Nat} {xs : List Value} (h : OR W q v rs) (ho : W.ownsRow 0 3 1 u n xs) (hv : v.ownBlock = some g) : u.ownBlock ≠ some g := fun e => by
  obtain ⟨cur, hc⟩ := own_type ho e
  obtain ⟨cur', hc'⟩ := own_type h.row hv
  rw [hc] at hc'
  simp at hc'

theorem drain_step {W wr w1 w2 : World} {q c g cap : Nat} {v u0 u v1 : Value} {rs : List R3} {got : List Int} {r : R3} {o : Obj} {n : Nat} (R : DrainRel W q v u0 rs got c u wr) (hc : 0 < c) (hl : c ≤ rs.length)
    (hr : rs[c - 1]'(by omega) = r) (hn : n = (got ++ Runs.pairs (Runs.back rs c rs.length)).length) (h1 : OR w1 q v1 (rs.take (c - 1))) (hv1 : v1.ownBlock = v.ownBlock) (hF : Fr (fun k => k = q) wr w1)
    (hown : w2.ownsRow 0 3 1 (.slice (some ⟨g, 0, none⟩) (n + 2) cap) (n + 2) (ints (got ++ Runs.pairs (Runs.back rs c rs.length)) ++ [.int .i64 r.1, .int .i64 r.2.1])) (hgrow : (w1.alloc o).grownBy w2 u.ownBlock) (hat : u.ownBlock = some g ∨ g = w1.heap.size + 1) :
    DrainRel W q v u0 rs got (c - 1) (.slice (some ⟨g, 0, none⟩) (n + 2) cap) w2 := by
  have hsz := R.fr.size
  have hsz1 := hF.size
  obtain ⟨v', hO, hv'⟩ := R.obj
  have hq := not_q hO R.out
  have e : got ++ Runs.pairs (Runs.back rs (c - 1) rs.length) = got ++ Runs.pairs (Runs.back rs c rs.length) ++ [r.1, r.2.1] := by
    rw [Runs.back_snoc rs 0 c hc hl rs.length hl (Nat.le_refl _), Runs.pairs_append, hr, ← List.append_assoc]
    rfl
  have hF1 : Fr (fun k => u.ownBlock = some k) w1 w2 := (Fr.alloc w1 o).trans (Fr.grown (S := fun k => u.ownBlock = some k) hgrow (fun _ x => x)) (fun _ _ x => x)
  have ho1 : w1.ownsRow 0 3 1 u (got ++ Runs.pairs (Runs.back rs c rs.length)).length (ints (got ++ Runs.pairs (Runs.back rs c rs.length))) := hF.owns R.out (fun x hx e => hq (by rw [hx, e]))
  refine ⟨⟨v1, h1.kept hF1 hq (fun x hx => not_row h1 ho1 hx), hv1⟩, ?_, ?_, ?_⟩
  · rw [e]
    have el : (got ++ Runs.pairs (Runs.back rs c rs.length) ++ [r.1, r.2.1]).length = n + 2 := by rw [hn]; simp; omega
    rw [el]
    have ei : ints (got ++ Runs.pairs (Runs.back rs c rs.length) ++ [r.1, r.2.1]) = ints (got ++ Runs.pairs (Runs.back rs c rs.length)) ++ [.int .i64 r.1, .int .i64 r.2.1] := by simp [ints]
    rw [ei]
    exact hown
  · intro x hx
    simp [Value.ownBlock] at hx
    subst hx
    rcases hat with a | a
    · exact R.new _ a
    · right; omega
  · refine (R.fr.trans hF (fun x _ e => .inl e)).trans hF1 (fun x hx e => ?_)
    rcases R.new _ e with a | a
    · exact .inr (.inr a)
    · omega

theorem two_new (w : World) (a b : Int) (t : TypeId) : ∀ j u, [Value.int .i64 a, .int .i64 b][j]? = some u → (w.alloc (.cells #[.int .i64 a, .int .i64 b] t)).cell? ((⟨w.heap.size, 0, none⟩ : Addr).add j) = some u := cell_two_new w _ _ t

theorem take_snoc (rs : List R3) (c : Nat) (hc : 0 < c) (hl : c ≤ rs.length) : rs.take c = rs.take (c - 1) ++ [rs[c - 1]'(by omega)] := by
  have := List.take_succ_eq_append_getElem (l := rs) (i := c - 1) (by omega)
  rwa [show c - 1 + 1 = c by omega] at this

set_option maxRecDepth 100000 in
set_option maxHeartbeats 2000000 in
theorem drain10 (q c0 bound : Nat) (v u0 : Value) (rs : List R3) (got : List Int) (i : Int) (W : World) (h : OR W q v rs) (ho : W.ownsRow 0 3 1 u0 got.length (ints got)) (hn : rs.length ≤ 1000000) (hg : got.length ≤ 3000000)
    (hc0 : c0 ≤ rs.length) (hdeep : ∀ k, (hk : k < rs.length) → c0 ≤ k → i < rs[k].2.2) (hstop : stopB i (rs.take c0) = true) (hb : rs.length ≤ bound) (hb2 : bound ≤ 1000000) :
    Calls Try.prog 10 #[.pointer (some ⟨q, 0, none⟩), .int .i64 i, .int .i64 bound, u0] W fun e W' => ∃ u, e = .returned (.tuple #[u, .bool true]) ∧ DrainRel W q v u0 rs got c0 u W' := by
  obtain ⟨i0, hi, hz0, hz1, hz2⟩ := info_parts Try.info3
  have HD : Hid (∀ k, (hk : k < rs.length) → c0 ≤ k → i < rs[k].2.2) := hdeep
  have HS : Hid (stopB i (rs.take c0) = true) := hstop
  have RS := drain_start h ho
  clear hdeep hstop h ho
  go_enter Try.func10, Try.ntmps10
  go_wp2
  go_loopw [3, 10] (fun u t wr => ∃ s : Nat, s ≤ rs.length ∧ c0 ≤ rs.length - s ∧ t = .int .i64 s ∧ DrainRel W q v u0 rs got (rs.length - s) u wr) (fun _ t _ => rs.length - (intOf t).toNat)
  case atStart => exact ⟨0, Nat.zero_le _, by omega, rfl, RS⟩
  case round =>
    obtain ⟨s, hs1, hs2, rfl, R⟩ := hrel
    clear RS
    obtain ⟨v', hO, hv'⟩ := R.obj
    have hsb : ¬ ((bound : Int) < s) := by omega
    by_cases hc : rs.length - s = c0
    · have E := end32_no q v' _ i wr hO (by simp; omega) (by rw [hc]; exact HS.out)
      rw [hc] at R
      clear hO hc hv'
      go_wp2_with (go_at_call 32; refine E.mono ?_; rintro e w' ⟨rfl, rfl⟩)
      go_ret2
      exact ⟨_, rfl, R⟩
    · have hpos : 0 < rs.length - s := by omega
      have hll : rs.length - s ≤ rs.length := by omega
      have hO' := hO
      rw [take_snoc rs (rs.length - s) hpos hll] at hO'
      have E := end32_yes q v' _ _ i wr hO' (by simp; omega) (HD.out _ (by omega) (by omega))
      generalize hrr : rs[rs.length - s - 1]'(by omega) = r at E hO'
      have HR : Hid (rs[rs.length - s - 1]'(by omega) = r) := hrr
      have hq := not_q hO R.out
      have hlen : (got ++ Runs.pairs (Runs.back rs (rs.length - s) rs.length)).length ≤ 5000000 := by
        rw [List.length_append, Runs.pairs_length, Runs.back_length _ _ _ (Nat.le_refl _)]; omega
      have HO := R.out
      have HV : Hid (v'.ownBlock = v.ownBlock) := hv'
      clear hrr hO hO' hv'
      generalize hnn : (got ++ Runs.pairs (Runs.back rs (rs.length - s) rs.length)).length = n at hlen HO
      have HN : Hid ((got ++ Runs.pairs (Runs.back rs (rs.length - s) rs.length)).length = n) := hnn
      clear hnn
      go_wp2_with (first | (go_at_call 32; refine E.mono ?_; rintro e w1 ⟨rfl, ⟨v1, hO1, hv1⟩, hF1⟩; have HV1 : Hid (v1.ownBlock = v'.ownBlock) := hv1; clear hv1; have HO1 := (hF1.owns HO (fun x hx e => hq (by rw [hx, e])))) | (at_builtin; refine wpList_append_lies _ rfl _ _ _ rfl 0 3 i0 (.int .i64 0) 1 8 Try.underlying32 hi hz0 hz1 hz2 rfl (by decide) _ n _ rfl (HO1.alloc _) ⟨w1.heap.size, 0, none⟩ 2 2 [.int .i64 r.1, .int .i64 r.2.1] rfl rfl (two_new w1 _ _ _) (by intro u hu; simp at hu; rcases hu with rfl | rfl <;> rfl) (by decide) (by unfold maxLen; omega) (by omega) (Nat.zero_le _) (w1.heap.size + 1) (by simp) ?_; intro g cap w2 hown hgrow hat hg2))
      go_roundw
      case rel => exact ⟨s + 1, by omega, by omega, by go_num, by
        rw [show rs.length - (s + 1) = rs.length - s - 1 by omega]
        exact drain_step R hpos hll HR.out HN.out.symm hO1 (HV1.out.trans HV.out) hF1 hown hgrow hat⟩
      case measure => simp [intOf]; omega
end Go.Proofs.Qxb6608761a
