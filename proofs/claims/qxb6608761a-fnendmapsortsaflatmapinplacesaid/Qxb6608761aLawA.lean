import Derived.Test.Qxb6608761aEntry2
namespace Go.Proofs.Qxb6608761a
open Go.RowKit Cmp

theorem fr_of_below {a b : World} (h : Below a.heap.size a b) : Fr (fun _ => False) a b := ⟨h.os, h.tape, h.output, h.size, fun k hk _ => h.block k hk⟩

theorem equal24' (ao bo : Option Addr) (c1 c2 n1 n2 : Nat) (l : List Int) (W : World) (e1 : l.length = n1) (e2 : l.length = n2) (h1 : BytesAt W ao l) (h2 : BytesAt W bo l) (hn : n1 ≤ 100000000) :
    Calls Try.prog 24 #[.slice ao n1 c1, .slice bo n2 c2] W fun e W' => e = .returned (.bool true) ∧ ∃ n, W' = W.drewN n := by
  subst e1
  subst e2
  exact equal24 ao bo c1 c2 l W h1 h2 hn

/-- A row of bytes that is new, its form. -/
theorem BodN.form {N : Nat} {W : World} {v : Value} {B : List Int} (h : BodN N W v B) : ∃ va, v = .slice va B.length B.length ∧ Bod W (.slice va B.length B.length) B ∧ ∀ g, (Value.slice va B.length B.length).ownBlock = some g → N ≤ g ∧ ∃ cur, W.heap[g]? = some (.cells cur 5 (0, 0)) := by
  rcases h with ⟨rfl, rfl⟩ | ⟨g, hg, rfl, hb⟩
  · exact ⟨none, rfl, .inl ⟨rfl, rfl⟩, fun g e => by simp [Value.ownBlock] at e⟩
  · exact ⟨some ⟨g, 0, none⟩, rfl, .inr ⟨g, rfl, hb⟩, fun g' e => by simp [Value.ownBlock] at e; subst e; exact ⟨hg, _, hb⟩⟩

theorem clone16 (ao : Option Addr) (cap : Nat) (B : List Int) (W : World) (h : BytesAt W ao B) (hcap : ao = none → cap = 0) (hn : B.length ≤ 100000000) :
    Calls Try.prog 16 #[.slice ao B.length cap] W fun e W' => ∃ v, e = .returned v ∧ BodN W.heap.size W' v B ∧ Below W.heap.size W W' := by
  cases ao with
  | some a => exact clone16_some a cap B W h hn
  | none =>
    obtain rfl : B = [] := by
      rcases B with _ | ⟨x, l⟩
      · rfl
      · obtain ⟨_, _, e, _⟩ := h 0 (by simp); cases e
    obtain rfl := hcap rfl
    exact clone16_nil W

theorem Bod.bytes {W : World} {va : Option Addr} {n c : Nat} {B : List Int} (h : Bod W (.slice va n c) B) : BytesAt W va B ∧ (va = none → c = 0) := by
  rcases h with ⟨e, rfl⟩ | ⟨g, e, hg⟩
  · simp at e
    exact ⟨bytesAt_nil _ _, fun _ => e.2.2⟩
  · simp at e
    obtain ⟨rfl, _, _⟩ := e
    exact ⟨fun k hk => ⟨g, 0, rfl, by rw [Nat.zero_add]; exact bod_cell hg k hk⟩, fun e => by cases e⟩

/-- What the law keeps until EndMap: N is the heap's size when the MapOrder was made. -/
structure LC (W : World) (N : Nat) (va vb : Option Addr) (B : List Int) (w : World) : Prop where
  below : Below W.heap.size W w
  bod : Bod w (.slice va B.length B.length) B
  orig : Bod w (.slice vb B.length B.length) B
  na : ∀ g, (Value.slice va B.length B.length).ownBlock = some g → W.heap.size ≤ g ∧ g < N
  nb : ∀ g, (Value.slice vb B.length B.length).ownBlock = some g → W.heap.size ≤ g ∧ g < N ∧ (Value.slice va B.length B.length).ownBlock ≠ some g
  hN : W.heap.size ≤ N ∧ N ≤ w.heap.size

theorem LC.kept {S : Nat → Prop} {W w w1 : World} {N : Nat} {va vb : Option Addr} {B : List Int} (h : LC W N va vb B w) (hf : Fr S w w1) (hS : ∀ k, k < w.heap.size → S k → N ≤ k) : LC W N va vb B w1 := by
  have own : ∀ (va : Option Addr) g n c, Value.slice va B.length B.length = .slice (some ⟨g, 0, none⟩) n c → (Value.slice va B.length B.length).ownBlock = some g := fun va g n c e => by rw [e]; rfl
  have hN := h.hN
  refine ⟨Fr.below h.below hf h.below.size (fun k hk hs => Nat.le_trans h.hN.1 (hS k hk hs)), h.bod.kept hf (fun g n c e hs => ?_), h.orig.kept hf (fun g n c e hs => ?_), h.na, h.nb, h.hN.1, Nat.le_trans h.hN.2 hf.size⟩
  · have a := h.na g (own va g n c e)
    have := hS g (by omega) hs
    omega
  · have a := h.nb g (own vb g n c e)
    have := hS g (by omega) hs
    omega

/-- The loop that opens the entries. -/
structure OL (W : World) (N q : Nat) (va vb : Option Addr) (B : List Int) (vp : Value) (ip p : Int) (sp : List Sp) (gp start : Nat) (k : Nat) (wr : World) : Prop where
  obj : ∃ vo, OE wr q vo vp ip p (sp.take k) ∧ ∀ g, vo.ownBlock = some g → N ≤ g ∧ (p = 1 → g ≠ gp)
  lc : LC W N va vb B wr
  pend : p = 1 → wr.cell? ⟨gp, 0, none⟩ = some (.int .i64 start) ∧ gp ≠ q ∧ N ≤ gp ∧ gp < wr.heap.size
  hq : N ≤ q

theorem OL.next {W wr w1 : World} {N q gp start k : Nat} {va vb : Option Addr} {B : List Int} {vo vp : Value} {ip p : Int} {sp : List Sp} (hk : k < sp.length) (hE : OE wr q vo vp ip p (sp.take k)) (hv : ∀ g, vo.ownBlock = some g → N ≤ g ∧ (p = 1 → g ≠ gp)) (hl : LC W N va vb B wr)
    (hp : p = 1 → wr.cell? ⟨gp, 0, none⟩ = some (.int .i64 start) ∧ gp ≠ q ∧ N ≤ gp ∧ gp < wr.heap.size) (hq : N ≤ q) (hO : Opened wr.drew q vo vp ip p (sp.take k ++ [sp[k]]) w1) : OL W N q va vb B vp ip p sp gp start (k + 1) w1 := by
  have hf : Fr (fun b => b = q ∨ vo.ownBlock = some b) wr w1 := (Fr.drew wr).trans hO.fr (fun _ _ x => x)
  obtain ⟨v', hE', hn⟩ := hO.obj
  refine ⟨⟨v', by rw [List.take_succ_eq_append_getElem hk]; exact hE', fun g hg => ?_⟩, hl.kept hf (fun b _ hb => ?_), fun h1 => ?_, hq⟩
  · rcases hn g hg with h | h
    · exact hv g h
    · have e : wr.heap.size ≤ g := h
      have := hl.hN.2
      refine ⟨by omega, fun h1 => ?_⟩
      have := (hp h1).2.2.2
      omega
  · rcases hb with rfl | hb
    · exact hq
    · exact (hv b hb).1
  · obtain ⟨c, a, b, d⟩ := hp h1
    refine ⟨?_, a, b, Nat.lt_of_lt_of_le d hf.size⟩
    rw [hf.cell (p := ⟨gp, 0, none⟩) d (fun e => by rcases e with e | e; exact a e; exact (hv gp e).2 h1 rfl)]
    exact c

/-- Behind EndMap. -/
structure FIN (W : World) (q : Nat) (va vb : Option Addr) (N : Nat) (B C : List Int) (oa pa : Option Addr) (oc pc : Nat) (ip : Int) (w : World) : Prop where
  below : Below W.heap.size W w
  body : Bod w (.slice va N N) C
  orig : Bod w (.slice vb N N) B
  obj : ∃ sc, OBlk w q (.slice oa 0 oc) (.slice pa 0 pc) ip sc

theorem FIN.later {W w w1 : World} {q N oc pc : Nat} {va vb oa pa : Option Addr} {B C : List Int} {ip : Int} (h : FIN W q va vb N B C oa pa oc pc ip w) (hb : Fr (fun _ => False) w w1) : FIN W q va vb N B C oa pa oc pc ip w1 := by
  obtain ⟨sc, ho⟩ := h.obj
  exact ⟨Fr.below h.below hb h.below.size (fun _ _ f => f.elim), h.body.kept hb (fun _ _ _ _ f => f), h.orig.kept hb (fun _ _ _ _ f => f), sc, ho.kept hb (fun f => f)⟩
end Go.Proofs.Qxb6608761a
