import Derived.Test.Qxb6608761aChain
namespace Go.Proofs.Qxb6608761a
open Go.RowKit Cmp Go.Sort Go.BigFrame

theorem Gr.cell {W W' : World} (h : Gr W W') {a : Addr} {v : Value} (hc : W.cell? a = some v) : W'.cell? a = some v := by
  rw [h.fr.cell (World.block_lt_of_cell? _ _ hc) (fun f => f)]; exact hc

theorem hid {p : Prop} (h : p) : Hid p := h

/-- Two entries, boxed. -/
theorem two_boxes {W w1 : World} {a0 a1 a2 a3 b0 b1 b2 b3 : Value} {t : TypeId} (h : Gr ((W.alloc (.cells #[a0, a1, a2, a3] t)).alloc (.cells #[b0, b1, b2, b3] t)) w1) :
    (w1.cell? ⟨W.heap.size, 0, none⟩ = some a0 ∧ w1.cell? ⟨W.heap.size, 1, none⟩ = some a1 ∧ w1.cell? ⟨W.heap.size, 2, none⟩ = some a2 ∧ w1.cell? ⟨W.heap.size, 3, none⟩ = some a3) ∧
    (w1.cell? ⟨W.heap.size + 1, 0, none⟩ = some b0 ∧ w1.cell? ⟨W.heap.size + 1, 1, none⟩ = some b1 ∧ w1.cell? ⟨W.heap.size + 1, 2, none⟩ = some b2 ∧ w1.cell? ⟨W.heap.size + 1, 3, none⟩ = some b3) := by
  refine ⟨⟨h.cell ?_, h.cell ?_, h.cell ?_, h.cell ?_⟩, ⟨h.cell ?_, h.cell ?_, h.cell ?_, h.cell ?_⟩⟩ <;> simp

set_option maxRecDepth 100000 in
set_option maxHeartbeats 2000000 in
theorem compare41_some (q g n s1 e1 s2 e2 : Nat) (h1 h2 : Int) (B : List Int) (pa : Option Addr) (pc : Nat) (W : World) (hq : W.cell? ⟨q, 1, none⟩ = some (.slice pa 1 pc)) (hB : W.heap[g]? = some (.cells (vals B).toArray 5 (0, 0))) (hl : n = B.length) (hby : Byt B) (x1 : s1 ≤ e1) (x2 : e1 ≤ n) (x3 : s2 ≤ e2) (x4 : e2 ≤ n) :
    Calls Try.prog 41 #[.pointer (some ⟨q, 0, none⟩), .slice (some ⟨g, 0, none⟩) n n, .agg #[.int .i64 (s1 : Nat), .int .i64 (e1 : Nat), .int .i64 1, .int .u64 h1], .agg #[.int .i64 (s2 : Nat), .int .i64 (e2 : Nat), .int .i64 1, .int .u64 h2]] W
      fun e W' => e = .returned (.int .i64 (cmpL (seg B s1 e1) (seg B s2 e2))) ∧ Gr W W' := by
  have G2 : Gr W ((W.alloc (.cells #[.int .i64 (s1 : Nat), .int .i64 (e1 : Nat), .int .i64 1, .int .u64 h1] 77)).alloc (.cells #[.int .i64 (s2 : Nat), .int .i64 (e2 : Nat), .int .i64 1, .int .u64 h2] 77)) := (Gr.alloc _ _).trans (Gr.alloc _ _)
  have HH : Hid (∀ (a b : Nat) (h : Int) (w : World), Gr ((W.alloc (.cells #[.int .i64 (s1 : Nat), .int .i64 (e1 : Nat), .int .i64 1, .int .u64 h1] 77)).alloc (.cells #[.int .i64 (s2 : Nat), .int .i64 (e2 : Nat), .int .i64 1, .int .u64 h2] 77)) w → Calls Try.prog 44 #[.pointer (some ⟨q, 0, none⟩), .agg #[.int .i64 (a : Nat), .int .i64 (b : Nat), .int .i64 1, .int .u64 h]] w fun e W' => e = .returned (.bool false) ∧ Gr ((W.alloc (.cells #[.int .i64 (s1 : Nat), .int .i64 (e1 : Nat), .int .i64 1, .int .u64 h1] 77)).alloc (.cells #[.int .i64 (s2 : Nat), .int .i64 (e2 : Nat), .int .i64 1, .int .u64 h2] 77)) W') := fun a b h w hw => (holds44 q a b h pa pc w ((G2.trans hw).cell hq)).mono fun _ _ ⟨he, hg⟩ => ⟨he, hw.trans hg⟩
  have HF : Hid (Gr W ((W.alloc (.cells #[.int .i64 (s1 : Nat), .int .i64 (e1 : Nat), .int .i64 1, .int .u64 h1] 77)).alloc (.cells #[.int .i64 (s2 : Nat), .int .i64 (e2 : Nat), .int .i64 1, .int .u64 h2] 77))) := G2
  have HB : Hid (W.heap[g]? = some (.cells (vals B).toArray 5 (0, 0))) := hB
  have HL : Hid (n = B.length) := hl
  have HY : Hid (Byt B) := hby
  have z1 : (0 : Int) ≤ (s1 : Int) := by omega
  have z2 : (s1 : Int) ≤ (e1 : Int) := by omega
  have z3 : (e1 : Int) ≤ (n : Int) := by omega
  have z4 : (0 : Int) ≤ (s2 : Int) := by omega
  have z5 : (s2 : Int) ≤ (e2 : Int) := by omega
  have z6 : (e2 : Int) ≤ (n : Int) := by omega
  clear hB hl hby G2 hq
  go_enter Try.func41, Try.ntmps41
  go_wp2_with (first
    | (go_at_call 44; refine (HH.out _ _ _ _ (Gr.refl _)).mono ?_; rintro e w1 ⟨rfl, hG1⟩; obtain ⟨⟨u0, u1, u2, u3⟩, v0, v1, v2, v3⟩ := two_boxes hG1; have HG1 := hid hG1; clear hG1)
    | (go_at_call 44; refine (HH.out _ _ _ _ HG1.out).mono ?_; rintro e w2 ⟨rfl, hG2⟩; obtain ⟨⟨u0', u1', u2', u3'⟩, v0', v1', v2', v3'⟩ := two_boxes hG2; have HG2 := hid hG2; clear hG2))
  have BB : Hid (∀ m, BytesAt (w2.drewN m) (if n = s1 then some ⟨g, 0, none⟩ else some ⟨g, s1, none⟩) (seg B s1 e1) ∧ BytesAt (w2.drewN m) (if n = s2 then some ⟨g, 0, none⟩ else some ⟨g, s2, none⟩) (seg B s2 e2)) := fun m => ⟨((seg_at HB.out HL.out s1 e1 x1 x2 _).later (HF.out.trans HG2.out).fr).later (Fr.drewN _ _), ((seg_at HB.out HL.out s2 e2 x3 x4 _).later (HF.out.trans HG2.out).fr).later (Fr.drewN _ _)⟩
  have L1 : Hid ((seg B s1 e1).length = e1 - s1) := seg_length B s1 e1 x1 (by have := HL.out; omega)
  have L2 : Hid ((seg B s2 e2).length = e2 - s2) := seg_length B s2 e2 x3 (by have := HL.out; omega)
  go_quiet ((go_at_call 51; exact Calls.quiet_of_same (bcompare51 _ _ _ _ _ _ (seg B s1 e1) (seg B s2 e2) _ L1.out L2.out (BB.out _).1 (BB.out _).2 (HY.out.seg _ _) (HY.out.seg _ _))))
  generalize (if n = s1 then some (⟨g, 0, none⟩ : Addr) else some ⟨g, s1, none⟩) = A1
  generalize (if n = s2 then some (⟨g, 0, none⟩ : Addr) else some ⟨g, s2, none⟩) = A2
  go_wp2
  go_ret
  exact ⟨rfl, (HF.out.trans HG2.out).trans (Gr.drewN _ _)⟩
set_option maxRecDepth 100000 in
set_option maxHeartbeats 2000000 in
theorem compare41_nil (q : Nat) (h1 h2 : Int) (pa : Option Addr) (pc : Nat) (W : World) (hq : W.cell? ⟨q, 1, none⟩ = some (.slice pa 1 pc)) :
    Calls Try.prog 41 #[.pointer (some ⟨q, 0, none⟩), .slice none 0 0, .agg #[.int .i64 0, .int .i64 0, .int .i64 1, .int .u64 h1], .agg #[.int .i64 0, .int .i64 0, .int .i64 1, .int .u64 h2]] W
      fun e W' => e = .returned (.int .i64 0) ∧ Gr W W' := by
  have G2 : Gr W ((W.alloc (.cells #[.int .i64 0, .int .i64 0, .int .i64 1, .int .u64 h1] 77)).alloc (.cells #[.int .i64 0, .int .i64 0, .int .i64 1, .int .u64 h2] 77)) := (Gr.alloc _ _).trans (Gr.alloc _ _)
  have HH : Hid (∀ (h : Int) (w : World), Gr ((W.alloc (.cells #[.int .i64 0, .int .i64 0, .int .i64 1, .int .u64 h1] 77)).alloc (.cells #[.int .i64 0, .int .i64 0, .int .i64 1, .int .u64 h2] 77)) w → Calls Try.prog 44 #[.pointer (some ⟨q, 0, none⟩), .agg #[.int .i64 0, .int .i64 0, .int .i64 1, .int .u64 h]] w fun e W' => e = .returned (.bool false) ∧ Gr ((W.alloc (.cells #[.int .i64 0, .int .i64 0, .int .i64 1, .int .u64 h1] 77)).alloc (.cells #[.int .i64 0, .int .i64 0, .int .i64 1, .int .u64 h2] 77)) W') := fun h w hw => (holds44 q 0 0 h pa pc w ((G2.trans hw).cell hq)).mono fun _ _ ⟨he, hg⟩ => ⟨he, hw.trans hg⟩
  have HF : Hid (Gr W ((W.alloc (.cells #[.int .i64 0, .int .i64 0, .int .i64 1, .int .u64 h1] 77)).alloc (.cells #[.int .i64 0, .int .i64 0, .int .i64 1, .int .u64 h2] 77))) := G2
  clear G2 hq
  go_enter Try.func41, Try.ntmps41
  go_wp2_with (first
    | (go_at_call 44; refine (HH.out _ _ (Gr.refl _)).mono ?_; rintro e w1 ⟨rfl, hG1⟩; obtain ⟨⟨u0, u1, u2, u3⟩, v0, v1, v2, v3⟩ := two_boxes hG1; have HG1 := hid hG1; clear hG1)
    | (go_at_call 44; refine (HH.out _ _ HG1.out).mono ?_; rintro e w2 ⟨rfl, hG2⟩; obtain ⟨⟨u0', u1', u2', u3'⟩, v0', v1', v2', v3'⟩ := two_boxes hG2; have HG2 := hid hG2; clear hG2))
  go_quiet ((go_at_call 51; exact Calls.quiet_of_same (bcompare51 none none 0 0 0 0 [] [] _ rfl rfl (bytesAt_nil _ _) (bytesAt_nil _ _) (fun x hx => by cases hx) (fun x hx => by cases hx))))
  go_wp2
  go_ret
  exact ⟨rfl, (HF.out.trans HG2.out).trans (Gr.drewN _ _)⟩

theorem compare41 (q s1 e1 s2 e2 : Nat) (h1 h2 : Int) (v : Value) (B : List Int) (pa : Option Addr) (pc : Nat) (W : World) (hq : W.cell? ⟨q, 1, none⟩ = some (.slice pa 1 pc)) (hB : Bod W v B) (hby : Byt B) (x1 : s1 ≤ e1) (x2 : e1 ≤ B.length) (x3 : s2 ≤ e2) (x4 : e2 ≤ B.length) :
    Calls Try.prog 41 #[.pointer (some ⟨q, 0, none⟩), v, .agg #[.int .i64 (s1 : Nat), .int .i64 (e1 : Nat), .int .i64 1, .int .u64 h1], .agg #[.int .i64 (s2 : Nat), .int .i64 (e2 : Nat), .int .i64 1, .int .u64 h2]] W
      fun e W' => e = .returned (.int .i64 (cmpL (seg B s1 e1) (seg B s2 e2))) ∧ Gr W W' := by
  rcases hB with ⟨rfl, rfl⟩ | ⟨g, rfl, hg⟩
  · obtain rfl : e1 = 0 := by simpa using x2
    obtain rfl : e2 = 0 := by simpa using x4
    obtain rfl : s1 = 0 := by omega
    obtain rfl : s2 = 0 := by omega
    exact compare41_nil q h1 h2 pa pc W hq
  · exact compare41_some q g B.length s1 e1 s2 e2 h1 h2 B pa pc W hq hg rfl hby x1 x2 x3 x4

theorem Bod.gr {W W' : World} {v : Value} {B : List Int} (h : Bod W v B) (hg : Gr W W') : Bod W' v B := h.later (Fr.below (Below.refl _ _) hg.fr (Nat.le_refl _) (fun _ _ f => f.elim))

set_option maxRecDepth 100000 in
set_option maxHeartbeats 2000000 in
/-- sort's closure. -/
theorem closure39 (q bo bb s1 e1 s2 e2 : Nat) (h1 h2 : Int) (v : Value) (B : List Int) (pa : Option Addr) (pc : Nat) (W : World) (hq : W.cell? ⟨q, 1, none⟩ = some (.slice pa 1 pc)) (hbo : W.cell? ⟨bo, 0, none⟩ = some (.pointer (some ⟨q, 0, none⟩))) (hbb : W.cell? ⟨bb, 0, none⟩ = some v) (hB : Bod W v B) (hby : Byt B) (x1 : s1 ≤ e1) (x2 : e1 ≤ B.length) (x3 : s2 ≤ e2) (x4 : e2 ≤ B.length) :
    Calls Try.prog 39 #[.agg #[.int .i64 (s1 : Nat), .int .i64 (e1 : Nat), .int .i64 1, .int .u64 h1], .agg #[.int .i64 (s2 : Nat), .int .i64 (e2 : Nat), .int .i64 1, .int .u64 h2], .pointer (some ⟨bo, 0, none⟩), .pointer (some ⟨bb, 0, none⟩)] W
      fun e W' => e = .returned (.int .i64 (if cmpI h1 h2 = 0 then cmpL (seg B s1 e1) (seg B s2 e2) else cmpI h1 h2)) ∧ Gr W W' := by
  have G2 : Gr W ((W.alloc (.cells #[.int .i64 (s1 : Nat), .int .i64 (e1 : Nat), .int .i64 1, .int .u64 h1] 77)).alloc (.cells #[.int .i64 (s2 : Nat), .int .i64 (e2 : Nat), .int .i64 1, .int .u64 h2] 77)) := (Gr.alloc _ _).trans (Gr.alloc _ _)
  obtain ⟨⟨u0, u1, u2, u3⟩, v0, v1, v2, v3⟩ := two_boxes (Gr.refl ((W.alloc (.cells #[.int .i64 (s1 : Nat), .int .i64 (e1 : Nat), .int .i64 1, .int .u64 h1] 77)).alloc (.cells #[.int .i64 (s2 : Nat), .int .i64 (e2 : Nat), .int .i64 1, .int .u64 h2] 77)))
  have C1 := G2.cell hbo
  have C2 := G2.cell hbb
  have HF := hid G2
  have HC := hid (compare41 q s1 e1 s2 e2 h1 h2 v B pa pc _ (G2.cell hq) (hB.gr G2) hby x1 x2 x3 x4)
  clear G2 hq hB hby hbo hbb
  by_cases hc : cmpI h1 h2 = 0
  · rw [if_pos hc]
    go_enter Try.func39, Try.ntmps39
    go_wp2_with (first
      | (go_at_call 40; refine (cmp40 _ _ _).mono ?_; rintro e w1 ⟨rfl, rfl⟩)
      | (go_at_call 41; refine HC.out.mono ?_; rintro e w1 ⟨rfl, hG1⟩))
    go_ret
    exact ⟨rfl, HF.out.trans hG1⟩
  · rw [if_neg hc]
    go_enter Try.func39, Try.ntmps39
    go_wp2_with (first
      | (go_at_call 40; refine (cmp40 _ _ _).mono ?_; rintro e w1 ⟨rfl, rfl⟩))
    go_ret
    exact ⟨rfl, HF.out⟩
end Go.Proofs.Qxb6608761a
