import Derived.Test.Qxb6608761aLaw3
namespace Go.Proofs.Qxb6608761a
open Go.RowKit

theorem Fr.of_below {w w' : World} (hb : Below w.heap.size w w') : Fr (fun _ => False) w w' := ⟨hb.os, hb.tape, hb.output, hb.size, fun k hk _ => hb.block k hk⟩

/-- TWO OBJECTS APART. -/
structure Two (W : World) (q1 q2 : Nat) (v1 v2 : Value) (l1 l2 : List R3) (wr : World) : Prop where
  o1 : OR wr q1 v1 l1
  o2 : OR wr q2 v2 l2
  ne : q1 ≠ q2
  ap : ∀ g, v1.ownBlock = some g → v2.ownBlock ≠ some g
  n1 : ∀ g, v1.ownBlock = some g → W.heap.size ≤ g
  n2 : ∀ g, v2.ownBlock = some g → W.heap.size ≤ g
  b1 : W.heap.size ≤ q1
  b2 : W.heap.size ≤ q2
  below : Below W.heap.size W wr

/-- A row of runs is not another object's block. -/
theorem row_not_obj {wr : World} {q1 q2 : Nat} {v1 v2 : Value} {l1 l2 : List R3} (o1 : OR wr q1 v1 l1) (o2 : OR wr q2 v2 l2) : v1.ownBlock ≠ some q2 := fun e => by
  obtain ⟨cur, hc⟩ := own_type o1.row e
  have := o2.blk
  rw [hc] at this
  simp at this

namespace Two
variable {W wr w1 : World} {q1 q2 : Nat} {v1 v2 : Value} {l1 l2 : List R3}

theorem symm (t : Two W q1 q2 v1 v2 l1 l2 wr) : Two W q2 q1 v2 v1 l2 l1 wr := ⟨t.o2, t.o1, t.ne.symm, fun g h2 h1 => t.ap g h1 h2, t.n2, t.n1, t.b2, t.b1, t.below⟩

theorem frame (t : Two W q1 q2 v1 v2 l1 l2 wr) (h : Fr (fun _ => False) wr w1) : Two W q1 q2 v1 v2 l1 l2 w1 :=
  ⟨t.o1.kept h (fun f => f) (fun _ _ f => f), t.o2.kept h (fun f => f) (fun _ _ f => f), t.ne, t.ap, t.n1, t.n2, t.b1, t.b2, Fr.below t.below h t.below.size (fun _ _ f => f.elim)⟩
theorem drew (t : Two W q1 q2 v1 v2 l1 l2 wr) : Two W q1 q2 v1 v2 l1 l2 wr.drew := t.frame (Fr.drew wr)
theorem later (t : Two W q1 q2 v1 v2 l1 l2 wr) (h : Below wr.heap.size wr w1) : Two W q1 q2 v1 v2 l1 l2 w1 := t.frame (Fr.of_below h)

theorem pushed {l : List R3} (t : Two W q1 q2 v1 v2 l1 l2 wr) (h : Pushed wr q1 v1 l w1) : ∃ v1', Two W q1 q2 v1' v2 l l2 w1 := by
  obtain ⟨v', ho, hn⟩ := h.obj
  have hF := h.fr
  refine ⟨v', ho, t.o2.kept hF ?_ ?_, t.ne, ?_, ?_, t.n2, t.b1, t.b2, ?_⟩
  · rintro (e | e)
    · exact t.ne e.symm
    · exact row_not_obj t.o1 t.o2 e
  · rintro g hg (e | e)
    · exact row_not_obj t.o2 t.o1 (by rw [hg, e])
    · exact t.ap g e hg
  · intro g hg h2
    rcases hn g hg with e | e
    · exact t.ap g e h2
    · obtain ⟨cur, hc⟩ := own_type t.o2.row h2
      have := lt_of_heap hc
      omega
  · intro g hg
    rcases hn g hg with e | e
    · exact t.n1 g e
    · exact Nat.le_trans t.below.size e
  · exact Fr.below t.below hF t.below.size (fun k _ e => by
      rcases e with rfl | e
      · exact t.b1
      · exact t.n1 k e)

theorem drained {u0 u : Value} {got : List Int} {n c : Nat} {xs : List Value} (t : Two W q1 q2 v1 v2 l1 l2 wr) (hu : ∀ g, u0.ownBlock = some g → W.heap.size ≤ g) (ho : wr.ownsRow 0 3 1 u0 n xs) (R : DrainRel wr q1 v1 u0 l1 got c u w1) :
    ∃ v1', Two W q1 q2 v1' v2 (l1.take c) l2 w1 ∧ ∀ g, u.ownBlock = some g → W.heap.size ≤ g := by
  obtain ⟨v', hO, hv⟩ := R.obj
  have hF := R.fr
  refine ⟨v', ⟨hO, t.o2.kept hF ?_ ?_, t.ne, ?_, ?_, t.n2, t.b1, t.b2, ?_⟩, ?_⟩
  · rintro (e | e | e)
    · exact t.ne e.symm
    · exact row_not_obj t.o1 t.o2 e
    · exact not_q t.o2 ho e
  · rintro g hg (e | e | e)
    · exact row_not_obj t.o2 t.o1 (by rw [hg, e])
    · exact t.ap g e hg
    · exact not_row t.o2 ho hg e
  · intro g hg; rw [hv] at hg; exact t.ap g hg
  · intro g hg; rw [hv] at hg; exact t.n1 g hg
  · exact Fr.below t.below hF t.below.size (fun k _ e => by
      rcases e with rfl | e | e
      · exact t.b1
      · exact t.n1 k e
      · exact hu k e)
  · intro g hg
    rcases R.new g hg with e | e
    · exact hu g e
    · exact Nat.le_trans t.below.size e
end Two

/-- Another row of ints stays owned behind a drain that begins with nil. -/
theorem drained_keeps {wr wd : World} {q : Nat} {v u u3 : Value} {rs : List R3} {got : List Int} {n c : Nat} {xs : List Value} (o : OR wr q v rs) (ho : wr.ownsRow 0 3 1 u n xs) (R : DrainRel wr q v (.slice none 0 0) rs got c u3 wd) : wd.ownsRow 0 3 1 u n xs :=
  R.fr.owns ho (fun g hg e => by
    rcases e with e | e | e
    · exact not_q o ho (by rw [hg, e])
    · exact not_row o ho e hg
    · simp [Value.ownBlock] at e)

def TwoRel (w : World) (rs : List R3) (k : Nat) (wr : World) : Prop := ∃ v1 v2, Two w w.heap.size (w.heap.size + 1) v1 v2 (rs.take k) (rs.take k) wr

theorem two_start (w : World) (n : Nat) (rs : List R3) : TwoRel w rs 0 (((w.drewN n).alloc (.cells #[.slice none 0 0] 29)).alloc (.cells #[.slice none 0 0] 29)) := by
  refine ⟨.slice none 0 0, .slice none 0 0, ⟨⟨?_, World.ownsRow_nil _ _ _ _⟩, ⟨?_, World.ownsRow_nil _ _ _ _⟩, by omega, fun g hg => by simp [Value.ownBlock] at hg, fun g hg => by simp [Value.ownBlock] at hg, fun g hg => by simp [Value.ownBlock] at hg, Nat.le_refl _, by omega, ?_⟩⟩
  · rw [Below.heap_alloc _ _ _ (by show w.heap.size < ((w.drewN n).alloc _).heap.size; simp)]; exact heap_alloc_new (w.drewN n) _
  · have := heap_alloc_new ((w.drewN n).alloc (.cells #[.slice none 0 0] 29)) (.cells #[.slice none 0 0] 29)
    simpa using this
  · exact ((below_drewN (Below.refl _ _) _).alloc (Nat.le_refl _) _).alloc (by show w.heap.size ≤ ((w.drewN n).alloc _).heap.size; simp) _

theorem two_next {w w2 : World} {v1 v2 : Value} {rs : List R3} {k : Nat} (hk : k < rs.length) (t : Two w w.heap.size (w.heap.size + 1) v1 v2 (rs.take k ++ [(rs[k].1, rs[k].2.1, rs[k].2.2)]) (rs.take k ++ [(rs[k].1, rs[k].2.1, rs[k].2.2)]) w2) : TwoRel w rs (k + 1) w2 := by
  refine ⟨v1, v2, ?_⟩
  rw [List.take_succ_eq_append_getElem hk]; exact t

theorem two_ends (rs : List R3) (c d : Nat) (h : c ≤ d) (hd : d ≤ rs.length) : Runs.pairs (Runs.back rs d rs.length) ++ Runs.pairs (Runs.back (rs.take d) c (rs.take d).length) = Runs.pairs (Runs.back rs c rs.length) := by
  have e : Runs.back (rs.take d) c (rs.take d).length = Runs.back rs c d := by
    unfold Runs.back; rw [List.take_length]
  rw [e, ← Runs.pairs_append, Runs.back_join rs c d rs.length h hd (Nat.le_refl _)]

theorem take_take_len (rs : List R3) (c d : Nat) (h : c ≤ d) (hd : d ≤ rs.length) : ((rs.take d).take c).length = c := by simp; omega

/-- The second drain of the first object, at i, where lo is the less of i and j. -/
theorem deep_of (i lo : Int) (rs : List R3) (d : Nat) (hU : Runs.Up rs) (h : lo = i ∨ Runs.cut lo rs = d) : ∀ k, (hk : k < (rs.take d).length) → Runs.cut lo rs ≤ k → i < ((rs.take d)[k]).2.2 := by
  intro k hk hc
  have hk' : k < d ∧ k < rs.length := by simpa [Nat.lt_min] using hk
  rcases h with rfl | h
  · rw [List.getElem_take]; exact Runs.from_cut _ rs hU k hc hk'.2
  · omega

theorem stop_of (i lo : Int) (rs : List R3) (d : Nat) (hd : Runs.cut lo rs ≤ d) (hl : lo ≤ i) : stopB i ((rs.take d).take (Runs.cut lo rs)) = true := by
  rw [List.take_take, Nat.min_eq_left hd]
  have := stop_cut lo rs
  unfold stopB at this ⊢
  cases hg : (rs.take (Runs.cut lo rs)).getLast? with
  | none => rfl
  | some r =>
    rw [hg] at this
    have h1 : r.2.2 ≤ lo := of_decide_eq_true this
    exact decide_eq_true (Int.le_trans h1 hl)

set_option maxRecDepth 100000 in
set_option maxHeartbeats 8000000 in
theorem law4 (ao : Option Addr) (cap : Nat) (rs : List R3) (i j : Int) (W : World) (hr : RunsAt W ao rs) (hn : rs.length ≤ maxLen) :
    Calls Try.prog 4 #[.slice ao rs.length cap, .int .i64 i, .int .i64 j] W fun e W' => e = .returned (.bool true) ∧ Below W.heap.size W W' := by
  have B13 := bytes13 ao rs.length cap i j W hn
  have HR : Hid (RunsAt W ao rs) := hr
  unfold maxLen at hn
  clear hr
  go_enter Try.func4, Try.ntmps4
  go_wp2_with fail
  refine B13.mono ?_
  rintro e w' ⟨⟨b, rfl⟩, hw⟩
  subst hw
  clear B13
  cases b with
  | false =>
    go_wp2_with fail
    go_ret
    exact ⟨rfl, Below.refl _ _⟩
  | true =>
    by_cases hbig : 32768 < rs.length
    · go_wp2_with fail
      go_ret
      exact ⟨rfl, Below.refl _ _⟩
    · go_wp2_with fail
      go_loopw [7] (fun t wr => ∃ k : Nat, 1 ≤ k ∧ (k ≤ rs.length ∨ k = 1) ∧ t = .int .i64 k ∧ (∃ n, wr = w'.drewN n) ∧ Hid (∀ j, j + 1 < k → (h : j + 1 < rs.length) → (rs[j]'(by omega)).2.2 ≤ rs[j + 1].2.2)) (fun t _ => rs.length - (intOf t).toNat)
      case atStart => exact ⟨1, Nat.le_refl _, .inr rfl, rfl, ⟨0, rfl⟩, fun j hj => absurd hj (by omega)⟩
      case round =>
        obtain ⟨k, hk1, hk2, rfl, ⟨n, rfl⟩, HS⟩ := hrel
        by_cases hlt : k < rs.length
        · obtain ⟨b, off, rfl, _, _, c2⟩ := HR.out k hlt
          obtain ⟨b', off', e, _, _, d2⟩ := HR.out (k - 1) (by omega)
          obtain ⟨rfl, rfl⟩ : b = b' ∧ off = off' := by simpa using e
          clear e
          have x1 : (0 : Int) ≤ (k : Int) - 1 := by omega
          have x2 : (k : Int) - 1 < (rs.length : Int) := by omega
          by_cases hd : rs[k].2.2 < (rs[k - 1]'(by omega)).2.2
          · go_wp2
            go_quiet (fail)
            go_wp2
            go_ret
            exact ⟨rfl, below_drewN (below_drewN (Below.refl _ _) _) _⟩
          · go_wp2
            go_quiet (fail)
            go_wp2
            go_roundw
            case rel => exact ⟨k + 1, by omega, .inl (by omega), by go_num, ⟨_, rfl⟩, fun j hj h => by
              by_cases e : j = k - 1
              · subst e; have := hd; simpa [show k - 1 + 1 = k by omega] using this
              · exact HS.out j (by omega) h⟩
            case measure => simp [intOf]; omega
        · have HU : Hid (Runs.Up rs) := fun j h => HS.out j (by omega) h
          clear HS
          by_cases hji : j < i
          · have HL : Hid (Runs.cut j rs ≤ Runs.cut j rs) := Nat.le_refl _
            have HDE : Hid (∀ k, (hk : k < (rs.take (Runs.cut j rs)).length) → Runs.cut j rs ≤ k → i < ((rs.take (Runs.cut j rs))[k]).2.2) := deep_of i j rs _ HU.out (.inr rfl)
            have HST : Hid (stopB i ((rs.take (Runs.cut j rs)).take (Runs.cut j rs)) = true) := stop_of i j rs _ (Nat.le_refl _) (by omega)
            go_wp2_with fail
            go_loopw [11] (fun t wr => ∃ k : Nat, k ≤ rs.length ∧ t = .int .i64 k ∧ TwoRel w' rs k wr) (fun t _ => rs.length - (intOf t).toNat)
            case atStart => exact ⟨0, Nat.zero_le _, rfl, two_start w' n rs⟩
            case round =>
              obtain ⟨k2, hk2', rfl, R⟩ := hrel
              by_cases hlt2 : k2 < rs.length
              · obtain ⟨b, off, rfl, c0, c1, c2⟩ := HR.out k2 hlt2
                obtain ⟨v1, v2, T⟩ := R
                have hbl := World.block_lt_of_cell? _ _ c0
                have e0 := (T.below.cell (p := ⟨b, off + k2 * 3, none⟩) hbl).trans c0
                have e1 := (T.below.cell (p := ⟨b, off + k2 * 3 + 1, none⟩) hbl).trans c1
                have e2 := (T.below.cell (p := ⟨b, off + k2 * 3 + 2, none⟩) hbl).trans c2
                have HC0 : Hid (w'.cell? ⟨b, off + k2 * 3, none⟩ = some (.int .i64 rs[k2].1)) := c0
                have HC1 : Hid (w'.cell? ⟨b, off + k2 * 3 + 1, none⟩ = some (.int .i64 rs[k2].2.1)) := c1
                have HC2 : Hid (w'.cell? ⟨b, off + k2 * 3 + 2, none⟩ = some (.int .i64 rs[k2].2.2)) := c2
                clear c0 c1 c2
                go_wp2
                go_region_held3 (fun x => x.cell? ⟨b, off + k2 * 3, none⟩ = some (.int .i64 rs[k2].1) ∧ x.cell? ⟨b, off + k2 * 3 + 1, none⟩ = some (.int .i64 rs[k2].2.1) ∧ x.cell? ⟨b, off + k2 * 3 + 2, none⟩ = some (.int .i64 rs[k2].2.2)) (go_keep)
                  (first | (go_at_call 8; refine (push8 w'.heap.size v1 (rs.take k2) _ _ _ _ ?_ ?_).mono ?_; exact T.drew.o1; (simp; omega); rintro e w1 ⟨rfl, hP⟩; obtain ⟨v1', T1⟩ := T.drew.pushed hP; have s0 := (T1.below.cell (p := ⟨b, off + k2 * 3, none⟩) hbl).trans HC0.out; have s1 := (T1.below.cell (p := ⟨b, off + k2 * 3 + 1, none⟩) hbl).trans HC1.out; have s2 := (T1.below.cell (p := ⟨b, off + k2 * 3 + 2, none⟩) hbl).trans HC2.out))
                clear e0 e1 e2 hP T
                have s0 := (T1.below.cell (p := ⟨b, off + k2 * 3, none⟩) hbl).trans HC0.out
                have s1 := (T1.below.cell (p := ⟨b, off + k2 * 3 + 1, none⟩) hbl).trans HC1.out
                have s2 := (T1.below.cell (p := ⟨b, off + k2 * 3 + 2, none⟩) hbl).trans HC2.out
                go_wp2
                go_region_held3 (fun x => x.cell? ⟨b, off + k2 * 3, none⟩ = some (.int .i64 rs[k2].1) ∧ x.cell? ⟨b, off + k2 * 3 + 1, none⟩ = some (.int .i64 rs[k2].2.1) ∧ x.cell? ⟨b, off + k2 * 3 + 2, none⟩ = some (.int .i64 rs[k2].2.2)) (go_keep)
                  (first | (go_at_call 8; refine (push8 (w'.heap.size + 1) v2 (rs.take k2) _ _ _ _ ?_ ?_).mono ?_; exact T1.drew.o2; (simp; omega); rintro e w2 ⟨rfl, hP2⟩; obtain ⟨v2', T2⟩ := T1.drew.symm.pushed hP2; have r0 := (T2.below.cell (p := ⟨b, off + k2 * 3, none⟩) hbl).trans HC0.out; have r1 := (T2.below.cell (p := ⟨b, off + k2 * 3 + 1, none⟩) hbl).trans HC1.out; have r2 := (T2.below.cell (p := ⟨b, off + k2 * 3 + 2, none⟩) hbl).trans HC2.out))
                clear s0 s1 s2 hP2 T1
                go_wp2
                go_roundw
                case rel => exact ⟨k2 + 1, by omega, by go_num, two_next hlt2 T2.symm⟩
                case measure => simp [intOf]; omega
              · have hke : k2 = rs.length := by omega
                subst hke
                obtain ⟨v1, v2, T⟩ := R
                rw [List.take_length] at T
                have D1 := drain10 w'.heap.size (Runs.cut j rs) rs.length v1 (.slice none 0 0) rs [] j wr T.o1 (World.ownsRow_nil _ _ _ _) (by omega) (by simp) (Runs.cut_le j rs) (fun k h h2 => Runs.from_cut j rs HU.out k h2 h) (stop_cut j rs) (Nat.le_refl _) (by omega)
                have HT : Hid (Two w' w'.heap.size (w'.heap.size + 1) v1 v2 rs rs wr) := T
                clear T
                go_wp2_with fail
                refine D1.mono ?_
                rintro e wd ⟨u1, rfl, R1⟩
                obtain ⟨v1b, T1, hu1⟩ := HT.out.drained (fun g hg => by simp [Value.ownBlock] at hg) (World.ownsRow_nil _ _ _ _) R1
                have ho1 := R1.out
                rw [List.nil_append] at ho1
                have D2 := drain10 w'.heap.size (Runs.cut j rs) rs.length v1b u1 (rs.take (Runs.cut j rs)) (Runs.pairs (Runs.back rs (Runs.cut j rs) rs.length)) i wd T1.o1 ho1 (by simp; omega) (by rw [Runs.pairs_length, Runs.back_length _ _ _ (Nat.le_refl _)]; omega) (by rw [List.length_take]; exact Nat.le_min.2 ⟨HL.out, Runs.cut_le j rs⟩) (fun k h h2 => HDE.out k h h2) HST.out (by simp; omega) (by omega)
                have HT1 : Hid (Two w' w'.heap.size (w'.heap.size + 1) v1b v2 (rs.take (Runs.cut j rs)) rs wd) := T1
                have HO1 : Hid (wd.ownsRow 0 3 1 u1 (Runs.pairs (Runs.back rs (Runs.cut j rs) rs.length)).length (ints (Runs.pairs (Runs.back rs (Runs.cut j rs) rs.length)))) := ho1
                have HU1 : Hid (∀ g, u1.ownBlock = some g → w'.heap.size ≤ g) := hu1
                clear D1 T1 R1 HT ho1 hu1
                go_wp2_with fail
                refine D2.mono ?_
                rintro e we ⟨u2, rfl, R2⟩
                obtain ⟨v1c, T2, hu2⟩ := HT1.out.drained HU1.out HO1.out R2
                have ho2 := R2.out
                rw [two_ends rs (Runs.cut j rs) (Runs.cut j rs) HL.out (Runs.cut_le j rs)] at ho2
                have D3 := drain10 (w'.heap.size + 1) (Runs.cut j rs) rs.length v2 (.slice none 0 0) rs [] j we T2.o2 (World.ownsRow_nil _ _ _ _) (by omega) (by simp) (Runs.cut_le j rs) (fun k h h2 => Runs.from_cut j rs HU.out k h2 h) (stop_cut j rs) (Nat.le_refl _) (by omega)
                have HT2 : Hid (Two w' w'.heap.size (w'.heap.size + 1) v1c v2 ((rs.take (Runs.cut j rs)).take (Runs.cut j rs)) rs we) := T2
                have HO2 : Hid (we.ownsRow 0 3 1 u2 (Runs.pairs (Runs.back rs (Runs.cut j rs) rs.length)).length (ints (Runs.pairs (Runs.back rs (Runs.cut j rs) rs.length)))) := ho2
                have HU2 : Hid (∀ g, u2.ownBlock = some g → w'.heap.size ≤ g) := hu2
                clear D2 T2 R2 HT1 ho2 hu2 HO1 HU1
                go_wp2_with fail
                refine D3.mono ?_
                rintro e wf ⟨u3, rfl, R3⟩
                obtain ⟨v2c, T3, hu3⟩ := HT2.out.symm.drained (fun g hg => by simp [Value.ownBlock] at hg) (World.ownsRow_nil _ _ _ _) R3
                have ho3 := R3.out
                rw [List.nil_append] at ho3
                have ho2 := drained_keeps HT2.out.o2 HO2.out R3
                have F9 := first9 ao cap rs j wf (HR.out.later T3.below) (by omega)
                have E1 := ends11 ao u2 (Runs.cut j rs) cap rs wf (by omega) (Runs.cut_le j rs) (HR.out.later T3.below) ho2
                have HT3 : Hid (Two w' (w'.heap.size + 1) w'.heap.size v2c v1c (rs.take (Runs.cut j rs)) ((rs.take (Runs.cut j rs)).take (Runs.cut j rs)) wf) := T3
                have HO3 : Hid (wf.ownsRow 0 3 1 u3 (Runs.pairs (Runs.back rs (Runs.cut j rs) rs.length)).length (ints (Runs.pairs (Runs.back rs (Runs.cut j rs) rs.length)))) := ho3
                clear D3 T3 R3 HT2 ho2 hu3 ho3 HO2 HU2
                go_wp2_with fail
                refine F9.mono ?_
                rintro e w9 ⟨rfl, rfl⟩
                go_wp2_with fail
                refine E1.mono ?_
                rintro e wg ⟨rfl, hBg⟩
                have T4 := HT3.out.later hBg
                have E2 := ends11 ao u3 (Runs.cut j rs) cap rs wg (by omega) (Runs.cut_le j rs) (HR.out.later T4.below) ((Fr.of_below hBg).owns HO3.out (fun _ _ f => f))
                have HT4 : Hid (Two w' (w'.heap.size + 1) w'.heap.size v2c v1c (rs.take (Runs.cut j rs)) ((rs.take (Runs.cut j rs)).take (Runs.cut j rs)) wg) := T4
                clear F9 E1 HT3 T4 hBg HO3
                go_wp2_with fail
                refine E2.mono ?_
                rintro e wh ⟨rfl, hBh⟩
                have T5 := HT4.out.later hBh
                have L1 := len12 _ _ _ _ T5.o2
                have L2 := len12 _ _ _ _ T5.o1
                rw [take_take_len rs _ _ HL.out (Runs.cut_le j rs)] at L1
                rw [List.length_take, Nat.min_eq_left (Runs.cut_le j rs)] at L2
                have hBend := T5.below
                clear E2 HT4 T5 hBh
                go_wp2_with fail
                refine L1.mono ?_
                rintro e wi ⟨rfl, rfl⟩
                go_wp2_with fail
                refine L2.mono ?_
                rintro e wj ⟨rfl, rfl⟩
                go_wp2_with fail
                go_ret
                exact ⟨rfl, hBend⟩
          · have HL : Hid (Runs.cut i rs ≤ Runs.cut j rs) := Runs.cut_mono i j (by omega) rs HU.out
            have HDE : Hid (∀ k, (hk : k < (rs.take (Runs.cut j rs)).length) → Runs.cut i rs ≤ k → i < ((rs.take (Runs.cut j rs))[k]).2.2) := deep_of i i rs _ HU.out (.inl rfl)
            have HST : Hid (stopB i ((rs.take (Runs.cut j rs)).take (Runs.cut i rs)) = true) := stop_of i i rs _ HL.out (Int.le_refl _)
            go_wp2_with fail
            go_loopw [11] (fun t wr => ∃ k : Nat, k ≤ rs.length ∧ t = .int .i64 k ∧ TwoRel w' rs k wr) (fun t _ => rs.length - (intOf t).toNat)
            case atStart => exact ⟨0, Nat.zero_le _, rfl, two_start w' n rs⟩
            case round =>
              obtain ⟨k2, hk2', rfl, R⟩ := hrel
              by_cases hlt2 : k2 < rs.length
              · obtain ⟨b, off, rfl, c0, c1, c2⟩ := HR.out k2 hlt2
                obtain ⟨v1, v2, T⟩ := R
                have hbl := World.block_lt_of_cell? _ _ c0
                have e0 := (T.below.cell (p := ⟨b, off + k2 * 3, none⟩) hbl).trans c0
                have e1 := (T.below.cell (p := ⟨b, off + k2 * 3 + 1, none⟩) hbl).trans c1
                have e2 := (T.below.cell (p := ⟨b, off + k2 * 3 + 2, none⟩) hbl).trans c2
                have HC0 : Hid (w'.cell? ⟨b, off + k2 * 3, none⟩ = some (.int .i64 rs[k2].1)) := c0
                have HC1 : Hid (w'.cell? ⟨b, off + k2 * 3 + 1, none⟩ = some (.int .i64 rs[k2].2.1)) := c1
                have HC2 : Hid (w'.cell? ⟨b, off + k2 * 3 + 2, none⟩ = some (.int .i64 rs[k2].2.2)) := c2
                clear c0 c1 c2
                go_wp2
                go_region_held3 (fun x => x.cell? ⟨b, off + k2 * 3, none⟩ = some (.int .i64 rs[k2].1) ∧ x.cell? ⟨b, off + k2 * 3 + 1, none⟩ = some (.int .i64 rs[k2].2.1) ∧ x.cell? ⟨b, off + k2 * 3 + 2, none⟩ = some (.int .i64 rs[k2].2.2)) (go_keep)
                  (first | (go_at_call 8; refine (push8 w'.heap.size v1 (rs.take k2) _ _ _ _ ?_ ?_).mono ?_; exact T.drew.o1; (simp; omega); rintro e w1 ⟨rfl, hP⟩; obtain ⟨v1', T1⟩ := T.drew.pushed hP; have s0 := (T1.below.cell (p := ⟨b, off + k2 * 3, none⟩) hbl).trans HC0.out; have s1 := (T1.below.cell (p := ⟨b, off + k2 * 3 + 1, none⟩) hbl).trans HC1.out; have s2 := (T1.below.cell (p := ⟨b, off + k2 * 3 + 2, none⟩) hbl).trans HC2.out))
                clear e0 e1 e2 hP T
                have s0 := (T1.below.cell (p := ⟨b, off + k2 * 3, none⟩) hbl).trans HC0.out
                have s1 := (T1.below.cell (p := ⟨b, off + k2 * 3 + 1, none⟩) hbl).trans HC1.out
                have s2 := (T1.below.cell (p := ⟨b, off + k2 * 3 + 2, none⟩) hbl).trans HC2.out
                go_wp2
                go_region_held3 (fun x => x.cell? ⟨b, off + k2 * 3, none⟩ = some (.int .i64 rs[k2].1) ∧ x.cell? ⟨b, off + k2 * 3 + 1, none⟩ = some (.int .i64 rs[k2].2.1) ∧ x.cell? ⟨b, off + k2 * 3 + 2, none⟩ = some (.int .i64 rs[k2].2.2)) (go_keep)
                  (first | (go_at_call 8; refine (push8 (w'.heap.size + 1) v2 (rs.take k2) _ _ _ _ ?_ ?_).mono ?_; exact T1.drew.o2; (simp; omega); rintro e w2 ⟨rfl, hP2⟩; obtain ⟨v2', T2⟩ := T1.drew.symm.pushed hP2; have r0 := (T2.below.cell (p := ⟨b, off + k2 * 3, none⟩) hbl).trans HC0.out; have r1 := (T2.below.cell (p := ⟨b, off + k2 * 3 + 1, none⟩) hbl).trans HC1.out; have r2 := (T2.below.cell (p := ⟨b, off + k2 * 3 + 2, none⟩) hbl).trans HC2.out))
                clear s0 s1 s2 hP2 T1
                go_wp2
                go_roundw
                case rel => exact ⟨k2 + 1, by omega, by go_num, two_next hlt2 T2.symm⟩
                case measure => simp [intOf]; omega
              · have hke : k2 = rs.length := by omega
                subst hke
                obtain ⟨v1, v2, T⟩ := R
                rw [List.take_length] at T
                have D1 := drain10 w'.heap.size (Runs.cut j rs) rs.length v1 (.slice none 0 0) rs [] j wr T.o1 (World.ownsRow_nil _ _ _ _) (by omega) (by simp) (Runs.cut_le j rs) (fun k h h2 => Runs.from_cut j rs HU.out k h2 h) (stop_cut j rs) (Nat.le_refl _) (by omega)
                have HT : Hid (Two w' w'.heap.size (w'.heap.size + 1) v1 v2 rs rs wr) := T
                clear T
                go_wp2_with fail
                refine D1.mono ?_
                rintro e wd ⟨u1, rfl, R1⟩
                obtain ⟨v1b, T1, hu1⟩ := HT.out.drained (fun g hg => by simp [Value.ownBlock] at hg) (World.ownsRow_nil _ _ _ _) R1
                have ho1 := R1.out
                rw [List.nil_append] at ho1
                have D2 := drain10 w'.heap.size (Runs.cut i rs) rs.length v1b u1 (rs.take (Runs.cut j rs)) (Runs.pairs (Runs.back rs (Runs.cut j rs) rs.length)) i wd T1.o1 ho1 (by simp; omega) (by rw [Runs.pairs_length, Runs.back_length _ _ _ (Nat.le_refl _)]; omega) (by rw [List.length_take]; exact Nat.le_min.2 ⟨HL.out, Runs.cut_le i rs⟩) (fun k h h2 => HDE.out k h h2) HST.out (by simp; omega) (by omega)
                have HT1 : Hid (Two w' w'.heap.size (w'.heap.size + 1) v1b v2 (rs.take (Runs.cut j rs)) rs wd) := T1
                have HO1 : Hid (wd.ownsRow 0 3 1 u1 (Runs.pairs (Runs.back rs (Runs.cut j rs) rs.length)).length (ints (Runs.pairs (Runs.back rs (Runs.cut j rs) rs.length)))) := ho1
                have HU1 : Hid (∀ g, u1.ownBlock = some g → w'.heap.size ≤ g) := hu1
                clear D1 T1 R1 HT ho1 hu1
                go_wp2_with fail
                refine D2.mono ?_
                rintro e we ⟨u2, rfl, R2⟩
                obtain ⟨v1c, T2, hu2⟩ := HT1.out.drained HU1.out HO1.out R2
                have ho2 := R2.out
                rw [two_ends rs (Runs.cut i rs) (Runs.cut j rs) HL.out (Runs.cut_le j rs)] at ho2
                have D3 := drain10 (w'.heap.size + 1) (Runs.cut i rs) rs.length v2 (.slice none 0 0) rs [] i we T2.o2 (World.ownsRow_nil _ _ _ _) (by omega) (by simp) (Runs.cut_le i rs) (fun k h h2 => Runs.from_cut i rs HU.out k h2 h) (stop_cut i rs) (Nat.le_refl _) (by omega)
                have HT2 : Hid (Two w' w'.heap.size (w'.heap.size + 1) v1c v2 ((rs.take (Runs.cut j rs)).take (Runs.cut i rs)) rs we) := T2
                have HO2 : Hid (we.ownsRow 0 3 1 u2 (Runs.pairs (Runs.back rs (Runs.cut i rs) rs.length)).length (ints (Runs.pairs (Runs.back rs (Runs.cut i rs) rs.length)))) := ho2
                have HU2 : Hid (∀ g, u2.ownBlock = some g → w'.heap.size ≤ g) := hu2
                clear D2 T2 R2 HT1 ho2 hu2 HO1 HU1
                go_wp2_with fail
                refine D3.mono ?_
                rintro e wf ⟨u3, rfl, R3⟩
                obtain ⟨v2c, T3, hu3⟩ := HT2.out.symm.drained (fun g hg => by simp [Value.ownBlock] at hg) (World.ownsRow_nil _ _ _ _) R3
                have ho3 := R3.out
                rw [List.nil_append] at ho3
                have ho2 := drained_keeps HT2.out.o2 HO2.out R3
                have F9 := first9 ao cap rs i wf (HR.out.later T3.below) (by omega)
                have E1 := ends11 ao u2 (Runs.cut i rs) cap rs wf (by omega) (Runs.cut_le i rs) (HR.out.later T3.below) ho2
                have HT3 : Hid (Two w' (w'.heap.size + 1) w'.heap.size v2c v1c (rs.take (Runs.cut i rs)) ((rs.take (Runs.cut j rs)).take (Runs.cut i rs)) wf) := T3
                have HO3 : Hid (wf.ownsRow 0 3 1 u3 (Runs.pairs (Runs.back rs (Runs.cut i rs) rs.length)).length (ints (Runs.pairs (Runs.back rs (Runs.cut i rs) rs.length)))) := ho3
                clear D3 T3 R3 HT2 ho2 hu3 ho3 HO2 HU2
                go_wp2_with fail
                refine F9.mono ?_
                rintro e w9 ⟨rfl, rfl⟩
                go_wp2_with fail
                refine E1.mono ?_
                rintro e wg ⟨rfl, hBg⟩
                have T4 := HT3.out.later hBg
                have E2 := ends11 ao u3 (Runs.cut i rs) cap rs wg (by omega) (Runs.cut_le i rs) (HR.out.later T4.below) ((Fr.of_below hBg).owns HO3.out (fun _ _ f => f))
                have HT4 : Hid (Two w' (w'.heap.size + 1) w'.heap.size v2c v1c (rs.take (Runs.cut i rs)) ((rs.take (Runs.cut j rs)).take (Runs.cut i rs)) wg) := T4
                clear F9 E1 HT3 T4 hBg HO3
                go_wp2_with fail
                refine E2.mono ?_
                rintro e wh ⟨rfl, hBh⟩
                have T5 := HT4.out.later hBh
                have L1 := len12 _ _ _ _ T5.o2
                have L2 := len12 _ _ _ _ T5.o1
                rw [take_take_len rs _ _ HL.out (Runs.cut_le j rs)] at L1
                rw [List.length_take, Nat.min_eq_left (Runs.cut_le i rs)] at L2
                have hBend := T5.below
                clear E2 HT4 T5 hBh
                go_wp2_with fail
                refine L1.mono ?_
                rintro e wi ⟨rfl, rfl⟩
                go_wp2_with fail
                refine L2.mono ?_
                rintro e wj ⟨rfl, rfl⟩
                go_wp2_with fail
                go_ret
                exact ⟨rfl, hBend⟩
end Go.Proofs.Qxb6608761a
