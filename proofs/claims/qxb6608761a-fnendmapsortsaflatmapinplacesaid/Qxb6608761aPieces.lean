import Derived.Test.Qxb6608761aLawA
namespace Go.Proofs.Qxb6608761a
open Go.RowKit Cmp

/-- The pieces that the law compares. -/
structure Pieces (B C T : List Int) (start : Nat) : Prop where
  len : C.length = B.length
  st : start ≤ B.length
  eq : C = B.take start ++ T
  tl : T.length = B.length - start

theorem Pieces.pre {B C T : List Int} {start : Nat} (h : Pieces B C T start) : C.take start = B.take start := by
  rw [h.eq]
  exact List.take_left' (by rw [List.length_take]; exact Nat.min_eq_left h.st)

theorem Pieces.suf {B C T : List Int} {start n : Nat} (h : Pieces B C T start) (hn : n = B.length) : seg C start n = T := by
  unfold seg
  rw [h.eq, List.drop_left' (by rw [List.length_take]; exact Nat.min_eq_left h.st), List.take_of_length_le (by rw [h.tl]; omega)]

theorem pre_at {w : World} {g start : Nat} {C : List Int} (h : w.heap[g]? = some (.cells (vals C).toArray 5 (0, 0))) : BytesAt w (some ⟨g, 0, none⟩) (C.take start) := by
  intro k hk
  have hk' : k < C.length := by simp at hk; omega
  refine ⟨g, 0, rfl, ?_⟩
  rw [Nat.zero_add, bod_cell h k hk']
  simp

theorem pieces_two {B C : List Int} {A A2 sp : List Sp} {start : Nat} (hch : Chain start sp B.length) (hp : A.Perm sp) (ha : A.Pairwise (fun a b => leB B a b = true)) (hp2 : A2.Perm sp) (ha2 : A2.Pairwise (fun a b => leB B a b = true)) (hl : C.length = B.length) (ht : C.take (start + (cat B A).length) = B.take start ++ cat B A) : Pieces B C (cat B A2) start := by
  have e : cat B A = cat B A2 := cat_sorted (hp.trans hp2.symm) ha ha2
  have l1 : (cat B A).length = B.length - start := by rw [cat_perm_length hp, hch.cat (Nat.le_refl _)]
  have hle := hch.le
  refine ⟨hl, hle, ?_, by rw [← e]; exact l1⟩
  rw [← e, ← ht, List.take_of_length_le (by omega)]

theorem pieces_one {B : List Int} {A2 sp : List Sp} {start : Nat} (hch : Chain start sp B.length) (hp2 : A2.Perm sp) (h1 : sp.length = 1) : Pieces B B (cat B A2) start := by
  match sp, h1 with
  | [x], _ =>
    obtain rfl : A2 = [x] := List.perm_singleton.1 hp2
    obtain ⟨h1, h2, h3⟩ := hch
    simp [Chain] at h3
    refine ⟨rfl, by omega, ?_, ?_⟩
    · simp only [cat, List.map_cons, List.map_nil, List.flatten_cons, List.flatten_nil, List.append_nil, seg]
      have e : (B.drop x.1).take (x.2 - x.1) = B.drop x.1 := List.take_of_length_le (by rw [List.length_drop]; omega)
      rw [e, h1, List.take_append_drop]
    · simp only [cat, List.map_cons, List.map_nil, List.flatten_cons, List.flatten_nil, List.append_nil]
      rw [seg_length B _ _ h2 (by omega)]
      omega

theorem pieces_none {B : List Int} {A2 sp : List Sp} (hp2 : A2.Perm sp) (h1 : sp.length = 0) : Pieces B B (cat B A2) B.length := by
  obtain rfl : sp = [] := List.eq_nil_of_length_eq_zero h1
  obtain rfl : A2 = [] := List.perm_nil.1 hp2
  exact ⟨rfl, Nat.le_refl _, by simp [cat], by simp [cat]⟩

theorem fin_of {W w w1 : World} {N q go co pc : Nat} {va vb pa : Option Addr} {B C : List Int} {ip : Int} {sc : Value} (hl : LC W N va vb B w) (hq : N ≤ q) (hgo : N ≤ go) (hC : Bod w1 (.slice va B.length B.length) C) (hO : OBlk w1 q (.slice (some ⟨go, 0, none⟩) 0 co) (.slice pa 0 pc) ip sc)
    (hF : Fr (fun b => b = q ∨ b = go ∨ (Value.slice va B.length B.length).ownBlock = some b) w w1) : FIN W q va vb B.length B C (some ⟨go, 0, none⟩) pa co pc ip w1 := by
  refine ⟨Fr.below hl.below hF hl.below.size (fun k _ hk => ?_), hC, hl.orig.kept hF (fun g n c e hs => ?_), sc, hO⟩
  · rcases hk with rfl | rfl | hk
    · exact Nat.le_trans hl.hN.1 hq
    · exact Nat.le_trans hl.hN.1 hgo
    · exact (hl.na k hk).1
  · have own : (Value.slice vb B.length B.length).ownBlock = some g := by rw [e]; rfl
    have a := hl.nb g own
    rcases hs with rfl | rfl | hs
    · omega
    · omega
    · exact a.2.2 hs

theorem OE.cap {W : World} {q go n co : Nat} {vp : Value} {ip p : Int} {es : List Sp} (h : OE W q (.slice (some ⟨go, 0, none⟩) n co) vp ip p es) : n = es.length ∧ n ≤ co := by
  rcases h.row.2 with ⟨e, _⟩ | ⟨g', cap', cur, e, _, hg, hc, _, hsz, ht⟩
  · simp at e
  · obtain ⟨rfl, rfl, rfl⟩ : go = g' ∧ n = es.length ∧ co = cap' := by simpa using e
    exact ⟨rfl, hc⟩

theorem fin_of_nil {W w w1 : World} {N q pc oc : Nat} {va vb pa oa : Option Addr} {B : List Int} {ip : Int} {sc : Value} (hl : LC W N va vb B w) (hq : N ≤ q) (hO : OBlk w1 q (.slice oa 0 oc) (.slice pa 0 pc) ip sc)
    (hF : Fr (fun b => b = q) w w1) : FIN W q va vb B.length B B oa pa oc pc ip w1 := by
  have h := hl.kept hF (fun k _ e => by rw [e]; exact hq)
  exact ⟨h.below, h.bod, h.orig, sc, hO⟩

end Go.Proofs.Qxb6608761a
