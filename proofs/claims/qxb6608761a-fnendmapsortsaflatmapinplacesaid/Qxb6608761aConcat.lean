import Derived.Test.Qxb6608761aSmall
import Derived.Deep.AppendLies
namespace Go.Proofs.Qxb6608761a
open Go.RowKit Cmp

/-- The bytes of the spans, one behind the other. -/
def cat (B : List Int) (A : List Sp) : List Int := (A.map (fun x => seg B x.1 x.2)).flatten

theorem cat_take_succ (B : List Int) (A : List Sp) (k : Nat) (hk : k < A.length) : cat B (A.take (k + 1)) = cat B (A.take k) ++ seg B A[k].1 A[k].2 := by
  unfold cat
  rw [List.take_succ_eq_append_getElem hk]
  simp only [List.map_append, List.flatten_append, List.map_cons, List.map_nil, List.flatten_cons, List.flatten_nil, List.append_nil]

/-- 'out' on the road: a row of the call's own that holds T. -/
structure CC (W : World) (T : List Int) (v : Value) (wr : World) : Prop where
  own : wr.ownsRow W.heap.size 5 1 v T.length (vals T)
  below : Below W.heap.size W wr
  form : ∃ g cap, v = .slice (some ⟨g, 0, none⟩) T.length cap ∧ T.length ≤ cap

theorem run_append_none (W : World) (ty : TypeId) (b0 : Addr) (n cap : Nat) (p : Option Addr) (c : Nat) (h : n ≤ cap) :
    (Builtin.append_ #[38, 38] ty #[.slice (some b0) n cap, .slice p 0 c]).run Try.prog W = .ok (.slice (some b0) n cap) W := by
  obtain ⟨i, hi, _⟩ := Option.map_eq_some_iff.1 Try.info5
  cases p <;> simp [Builtin.append_, run_underlying Try.underlying38, sizeOf, typeInfo, hi, Builtin.lenOf, Builtin.firstCells, loadCells, loadCellsFrom, storeCells, h]

theorem CC.next {W wr : World} {T S : List Int} {v : Value} (h : CC W T v wr) (X : Option Addr) (c m : Nat) (hS : BytesAt wr X S) (hm : S.length = m) (hn : T.length + S.length ≤ 1000000000) :
    ∃ g cap w1, (Builtin.append_ #[38, 38] 38 #[v, .slice X m c]).run Try.prog wr.drew = .ok (.slice (some ⟨g, 0, none⟩) (T ++ S).length cap) w1 ∧ CC W (T ++ S) (.slice (some ⟨g, 0, none⟩) (T ++ S).length cap) w1 := by
  subst hm
  obtain ⟨g, cap, rfl, hle⟩ := h.form
  by_cases h0 : S.length = 0
  · obtain rfl : S = [] := List.eq_nil_of_length_eq_zero h0
    refine ⟨g, cap, wr.drew, ?_, ?_⟩
    · rw [List.append_nil]
      exact run_append_none wr.drew 38 _ _ _ _ _ hle
    · rw [List.append_nil]
      exact ⟨h.own.drew, ⟨h.below.os, h.below.tape, h.below.output, h.below.size, h.below.block⟩, g, cap, rfl, hle⟩
  · obtain ⟨i0, hi, hz0, hz1, hz2⟩ := info_parts Try.info5
    obtain ⟨b, off, rfl, _⟩ := hS 0 (by omega)
    have hnews : ∀ j u, (vals S)[j]? = some u → wr.drew.cell? ((⟨b, off, none⟩ : Addr).add j) = some u := by
      intro j u hu
      have hj : j < S.length := by
        rcases Nat.lt_or_ge j S.length with a | a
        · exact a
        · rw [List.getElem?_eq_none (by rw [vals_length]; exact a)] at hu; cases hu
      obtain ⟨b', off', e, c0⟩ := hS j hj
      obtain ⟨rfl, rfl⟩ : b = b' ∧ off = off' := by simpa using e
      rw [Addr.add_lit]
      have : wr.drew.cell? ⟨b, off + j, none⟩ = wr.cell? ⟨b, off + j, none⟩ := rfl
      rw [this, c0, ← hu]
      simp [vals, hj]
    have hbs : W.heap.size ≤ wr.drew.heap.size := h.below.size
    obtain ⟨g', cap', w1, hrun, hown, hgrow, hat, hlt⟩ := run_append_lies wr.drew 38 38 W.heap.size 5 i0 (.int .u8 0) 1 1 Try.underlying38 hi hz0 hz1 hz2 rfl (by decide) _ T.length (vals T) h.own.drew ⟨b, off, none⟩ S.length c (vals S) (by rw [vals_length]; omega) hnews (vals_one S) (by omega) (by unfold maxLen; omega) (by omega) hbs wr.drew.heap.size rfl
    have hb := (h.own.lt g rfl).1
    refine ⟨g', cap', w1, by rw [List.length_append]; exact hrun, ⟨?_, ?_, g', cap', rfl, ?_⟩⟩
    · rw [List.length_append, show vals (T ++ S) = vals T ++ vals S by simp [vals]]
      exact hown
    · refine ⟨hgrow.os.trans h.below.os, hgrow.tape.trans h.below.tape, hgrow.output.trans h.below.output, Nat.le_trans h.below.size hgrow.size, fun k hk => ?_⟩
      have e : w1.heap[k]? = wr.drew.heap[k]? := hgrow.block k (Nat.lt_of_lt_of_le hk h.below.size) (by simp [Value.ownBlock]; omega)
      exact e.trans (h.below.block k hk)
    · rcases hown.2 with ⟨e, _⟩ | ⟨g'', cap'', cur, e, _, _, hc, _⟩
      · simp at e
      · simp at e
        rw [List.length_append]
        omega

theorem CC.bytes {W wr : World} {T : List Int} {g cap : Nat} (h : CC W T (.slice (some ⟨g, 0, none⟩) T.length cap) wr) : BytesAt wr (some ⟨g, 0, none⟩) T := by
  intro k hk
  refine ⟨g, 0, rfl, ?_⟩
  rcases h.own.2 with ⟨e, _⟩ | ⟨g', cap', cur, e, _, hg, _, _, _, ht⟩
  · simp at e
  · obtain ⟨rfl, rfl⟩ : g = g' ∧ cap = cap' := by simpa using e
    have h1 : (vals T)[k]? = some (.int .u8 T[k]) := by simp [vals, hk]
    rw [← ht, List.getElem?_take] at h1
    simp only [World.cell?, hg, Nat.zero_add]
    split at h1
    · simpa using h1
    · cases h1

/-- 'append' at a step of a region that draws its order, by its run. -/
theorem step_append_run {P : Program} {ops : Array Oper} {o : Oper} {a : Act} {w : World} {K : Act → World → Prop} {Q : Exit → Act → World → Prop} {E : Prop} (hgd : o.guard = none) (s x : Operand) (t : TypeId)
    (ho : o.op = .call { callee := .builtin .append, args := #[s, x], argTypes := #[t, t] }) (v X r : Value) (w1 : World) (hs : a.eval s = v) (hx : a.eval x = X)
    (hrun : (Builtin.append_ #[t, t] o.type #[v, X]).run P w = .ok r w1) (h : K (a.put o.dst r) w1) :
    if Region.wanted o (yielded ops a.tmps) = true then Oper.wp P o a w K Q else E := by
  have hw : Region.wanted o (yielded ops a.tmps) = true := by simp [Region.wanted, hgd]
  rw [if_pos hw]
  unfold Oper.wp
  simp [execOp, ho, resolve, invoke, builtin, hs, hx, hrun, Result.andThen]
  exact h

set_option maxRecDepth 100000 in
set_option maxHeartbeats 2000000 in
theorem concat22_some (g n : Nat) (B : List Int) (so : Option Addr) (cap : Nat) (A : List Sp) (W : World) (hB : W.heap[g]? = some (.cells (vals B).toArray 5 (0, 0))) (hl : n = B.length) (hs : SpansAt W so A) (hval : ∀ x ∈ A, x.1 ≤ x.2 ∧ x.2 ≤ B.length) (hcat : ∀ k, (cat B (A.take k)).length ≤ 100000000) (hBn : B.length ≤ 100000000) (hn : A.length ≤ 1000000) :
    Calls Try.prog 22 #[.slice (some ⟨g, 0, none⟩) n n, .slice so A.length cap] W fun e W' => ∃ g' cap', e = .returned (.slice (some ⟨g', 0, none⟩) (cat B A).length cap') ∧ BytesAt W' (some ⟨g', 0, none⟩) (cat B A) ∧ Below W.heap.size W W' := by
  have hmk : ∀ w : World, (Instr.makeSlice 38 (.int .i64 0) (.int .i64 (n : Int))).run Try.prog w = .ok (.slice (some ⟨w.heap.size, 0, none⟩) 0 n) (w.alloc (.cells (vals (List.replicate n 0)).toArray 5)) := make_bytes 0 n (Nat.zero_le _) (by omega)
  have HL : Hid (n = B.length) := hl
  have hnn : n ≤ 100000000 := by omega
  have HB : Hid (W.heap[g]? = some (.cells (vals B).toArray 5 (0, 0))) := hB
  have HS : Hid (SpansAt W so A) := hs
  have HV : Hid (∀ x ∈ A, x.1 ≤ x.2 ∧ x.2 ≤ B.length) := hval
  have HC : Hid (∀ k, (cat B (A.take k)).length ≤ 100000000) := hcat
  clear hB hl hs hval hcat hBn
  go_enter Try.func22, Try.ntmps22
  go_wp2_with fail
  clear hmk
  go_loopw [5, 6] (fun v t wr => ∃ (k : Nat), t = .int .i64 k ∧ k ≤ A.length ∧ CC W (cat B (A.take k)) v wr) (fun _ t _ => A.length - (intOf t).toNat)
  case atStart => exact ⟨0, rfl, Nat.zero_le _, ⟨World.ownsRow_made W _ n (Nat.le_refl _) (by unfold maxLen; omega) (by simp [vals]), (Below.refl _ _).alloc (Nat.le_refl _) _, _, _, rfl, Nat.zero_le _⟩⟩
  case round =>
    obtain ⟨k, rfl, hk, HO⟩ := hrel
    obtain ⟨g2, cap2, rfl, hle⟩ := HO.form
    have HO0 : Hid (CC W (cat B (A.take k)) (.slice (some ⟨g2, 0, none⟩) (cat B (A.take k)).length cap2) wr) := HO
    clear HO hle
    by_cases hlt : k < A.length
    · obtain ⟨b, off, rfl, x0, x1⟩ := HS.out k hlt
      have V := HV.out _ (List.getElem_mem hlt)
      have hb : b < W.heap.size := World.block_lt_of_cell? _ _ x0
      have y0 : wr.cell? ⟨b, off + k * 2, none⟩ = some (.int .i64 (A[k].1 : Nat)) := by rw [HO0.out.below.cell hb]; exact x0
      have y1 : wr.cell? ⟨b, off + k * 2 + 1, none⟩ = some (.int .i64 (A[k].2 : Nat)) := by rw [HO0.out.below.cell hb]; exact x1
      have hseg : BytesAt wr (if n = A[k].1 then some ⟨g, 0, none⟩ else some ⟨g, A[k].1, none⟩) (seg B A[k].1 A[k].2) := seg_at ((HO0.out.below.block g (lt_of_heap HB.out)).trans HB.out) HL.out _ _ V.1 (by rw [HL.out]; exact V.2) _
      obtain ⟨g3, cap3, w1, happ, HN⟩ := HO0.out.next _ (n - A[k].1) (A[k].2 - A[k].1) hseg (seg_length _ _ _ V.1 V.2) (by have := HC.out k; have e := HC.out (k + 1); rw [cat_take_succ B A k hlt, List.length_append] at e; omega)
      have z0 : w1.cell? ⟨b, off + k * 2, none⟩ = some (.int .i64 (A[k].1 : Nat)) := by rw [HN.below.cell hb]; exact x0
      have z1 : w1.cell? ⟨b, off + k * 2 + 1, none⟩ = some (.int .i64 (A[k].2 : Nat)) := by rw [HN.below.cell hb]; exact x1
      rw [← cat_take_succ B A k hlt] at HN happ
      have HN0 : Hid (CC W (cat B (A.take (k + 1))) (.slice (some ⟨g3, 0, none⟩) (cat B (A.take (k + 1))).length cap3) w1) := HN
      have q1 : A[k].1 ≤ A[k].2 := V.1
      have q2 : A[k].2 ≤ n := by rw [HL.out]; exact V.2
      generalize (cat B (A.take (k + 1))).length = L1 at *
      generalize A[k].1 = s1 at *
      generalize A[k].2 = e1 at *
      clear x0 x1 V hseg HN
      go_wp2_with fail
      go_region_held3 (fun x => x.cell? ⟨b, off + k * 2, none⟩ = some (.int .i64 (s1 : Nat)) ∧ x.cell? ⟨b, off + k * 2 + 1, none⟩ = some (.int .i64 (e1 : Nat))) (go_keep) (refine step_append_run rfl (.tmp 16) (.tmp 28) 38 rfl _ _ _ _ rfl rfl happ ?_)
      go_wp2_with fail
      go_roundw
      case rel => exact ⟨k + 1, by go_num, by omega, HN0.out⟩
      case measure => simp [intOf]; omega
    · obtain rfl : k = A.length := by omega
      have e : A.take A.length = A := List.take_length
      have HO1 : Hid (CC W (cat B A) (.slice (some ⟨g2, 0, none⟩) (cat B A).length cap2) wr) := by have := HO0.out; rw [e] at this; exact this
      rw [e]
      clear e HO0
      go_wp2_with fail
      go_ret
      exact ⟨g2, cap2, rfl, HO1.out.bytes, HO1.out.below⟩

theorem cat_nil (A : List Sp) : cat [] A = [] := by
  unfold cat seg
  induction A with
  | nil => rfl
  | cons x A ih => simp

set_option maxRecDepth 100000 in
set_option maxHeartbeats 2000000 in
theorem concat22_nil (so : Option Addr) (cap : Nat) (A : List Sp) (W : World) (hs : SpansAt W so A) (hval : ∀ x ∈ A, x.1 ≤ x.2 ∧ x.2 ≤ 0) (hn : A.length ≤ 1000000) :
    Calls Try.prog 22 #[.slice none 0 0, .slice so A.length cap] W fun e W' => ∃ g' cap', e = .returned (.slice (some ⟨g', 0, none⟩) 0 cap') ∧ BytesAt W' (some ⟨g', 0, none⟩) [] ∧ Below W.heap.size W W' := by
  have hmk : ∀ w : World, (Instr.makeSlice 38 (.int .i64 0) (.int .i64 0)).run Try.prog w = .ok (.slice (some ⟨w.heap.size, 0, none⟩) 0 0) (w.alloc (.cells (vals (List.replicate 0 0)).toArray 5)) := make_bytes 0 0 (Nat.zero_le _) (by omega)
  have HS : Hid (SpansAt W so A) := hs
  have HV : Hid (∀ x ∈ A, x.1 ≤ x.2 ∧ x.2 ≤ 0) := hval
  clear hs hval
  go_enter Try.func22, Try.ntmps22
  go_wp2_with fail
  clear hmk
  go_loopw [5, 6] (fun v t wr => ∃ (k : Nat), t = .int .i64 k ∧ k ≤ A.length ∧ v = .slice (some ⟨W.heap.size, 0, none⟩) 0 0 ∧ Below W.heap.size W wr) (fun _ t _ => A.length - (intOf t).toNat)
  case atStart => exact ⟨0, rfl, Nat.zero_le _, rfl, (Below.refl _ _).alloc (Nat.le_refl _) _⟩
  case round =>
    obtain ⟨k, rfl, hk, rfl, HO⟩ := hrel
    have HO0 : Hid (Below W.heap.size W wr) := HO
    clear HO
    by_cases hlt : k < A.length
    · obtain ⟨b, off, rfl, x0, x1⟩ := HS.out k hlt
      have V := HV.out _ (List.getElem_mem hlt)
      have hb : b < W.heap.size := World.block_lt_of_cell? _ _ x0
      have y0 : wr.cell? ⟨b, off + k * 2, none⟩ = some (.int .i64 0) := by rw [HO0.out.cell hb, x0, show A[k].1 = 0 by omega]; rfl
      have y1 : wr.cell? ⟨b, off + k * 2 + 1, none⟩ = some (.int .i64 0) := by rw [HO0.out.cell hb, x1, show A[k].2 = 0 by omega]; rfl
      have happ := run_append_none wr.drew 38 ⟨W.heap.size, 0, none⟩ 0 0 none 0 (Nat.le_refl _)
      clear x0 x1 V
      go_wp2_with fail
      go_region_held3 (fun x => x.cell? ⟨b, off + k * 2, none⟩ = some (.int .i64 0) ∧ x.cell? ⟨b, off + k * 2 + 1, none⟩ = some (.int .i64 0)) (go_keep) (refine step_append_run rfl (.tmp 16) (.tmp 28) 38 rfl _ _ _ _ rfl rfl happ ?_)
      go_wp2_with fail
      go_roundw
      case rel => exact ⟨k + 1, by go_num, by omega, rfl, ⟨HO0.out.os, HO0.out.tape, HO0.out.output, HO0.out.size, HO0.out.block⟩⟩
      case measure => simp [intOf]; omega
    · go_wp2_with fail
      go_ret
      exact ⟨_, _, rfl, bytesAt_nil _ _, HO0.out⟩

theorem concat22 (v : Value) (B : List Int) (so : Option Addr) (cap : Nat) (A : List Sp) (W : World) (hB : Bod W v B) (hs : SpansAt W so A) (hval : ∀ x ∈ A, x.1 ≤ x.2 ∧ x.2 ≤ B.length) (hcat : ∀ k, (cat B (A.take k)).length ≤ 100000000) (hBn : B.length ≤ 100000000) (hn : A.length ≤ 1000000) :
    Calls Try.prog 22 #[v, .slice so A.length cap] W fun e W' => ∃ g' cap', e = .returned (.slice (some ⟨g', 0, none⟩) (cat B A).length cap') ∧ BytesAt W' (some ⟨g', 0, none⟩) (cat B A) ∧ Below W.heap.size W W' := by
  rcases hB with ⟨rfl, rfl⟩ | ⟨g, rfl, hg⟩
  · rw [cat_nil]
    exact concat22_nil so cap A W hs hval hn
  · exact concat22_some g B.length B so cap A W hg rfl hs hval hcat hBn hn
end Go.Proofs.Qxb6608761a
