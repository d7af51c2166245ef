import Derived.Test.Qxb6608761aSmall
import Derived.Lib.BytesEntry
namespace Go.Proofs.Qxb6608761a
open Go.RowKit Cmp Go.Sort Go.BigFrame

/-- A list of bytes. -/
def Byt (l : List Int) : Prop := ∀ x ∈ l, 0 ≤ x ∧ x < 256

theorem u8_lt (a b : Int) (ha : 0 ≤ a ∧ a < 256) (hb : 0 ≤ b ∧ b < 256) : (UInt8.ofNat a.toNat < UInt8.ofNat b.toNat) ↔ a < b := by
  rw [UInt8.lt_iff_toNat_lt]
  simp
  omega

theorem compareBytes_eq : ∀ (l1 l2 : List Int), Byt l1 → Byt l2 → Lib.compareBytes (Lib.bytesOf l1) (Lib.bytesOf l2) = cmpL l1 l2
  | [], [], _, _ => by simp [Lib.bytesOf, Lib.compareBytes, cmpL]
  | [], b :: bs, _, _ => by simp [Lib.bytesOf, Lib.compareBytes, cmpL]
  | a :: r, [], _, _ => by simp [Lib.bytesOf, Lib.compareBytes, cmpL]
  | a :: r, b :: bs, h1, h2 => by
    have ih := compareBytes_eq r bs (fun x hx => h1 x (List.mem_cons_of_mem _ hx)) (fun x hx => h2 x (List.mem_cons_of_mem _ hx))
    have ha := h1 a List.mem_cons_self
    have hb := h2 b List.mem_cons_self
    simp only [Lib.bytesOf, List.map_cons] at ih ⊢
    simp only [Lib.compareBytes, cmpL, ih, u8_lt a b ha hb, u8_lt b a hb ha]

theorem Byt.seg {B : List Int} (h : Byt B) (s e : Nat) : Byt (seg B s e) := fun x hx => h x (List.mem_of_mem_drop (List.mem_of_mem_take hx))

theorem run_bytesOf (ao : Option Addr) (n c : Nat) (l : List Int) (W : World) (hl : l.length = n) (h : BytesAt W ao l) :
    (Extern.Bytes.bytesOf (.slice ao n c)).run Try.prog W = .ok ⟨(Lib.bytesOf l).toArray⟩ W := by
  subst hl
  cases ao with
  | none =>
    have : l = [] := by
      rcases l with _ | ⟨x, l⟩
      · rfl
      · obtain ⟨_, _, e, _⟩ := h 0 (by simp); cases e
    subst this
    rfl
  | some a =>
    have hl := Lib.run_loadBytesX (P := Try.prog) W l a .empty (fun j x hj => by
      have hjl : j < l.length := (List.getElem?_eq_some_iff.1 hj).1
      obtain ⟨b, off, e, h0⟩ := h j hjl
      obtain rfl : a = ⟨b, off, none⟩ := by simpa using e
      rw [Addr.add_lit, h0]
      rw [List.getElem?_eq_getElem hjl] at hj
      simp at hj
      rw [hj])
    have he : (⟨ByteArray.empty.data ++ (Lib.bytesOf l).toArray⟩ : ByteArray) = ⟨(Lib.bytesOf l).toArray⟩ := by
      apply ByteArray.ext
      show (#[] : Array UInt8) ++ (Lib.bytesOf l).toArray = (Lib.bytesOf l).toArray
      simp
    rw [he] at hl
    exact hl

theorem run_compareSlices (ao bo : Option Addr) (n1 n2 c1 c2 : Nat) (l1 l2 : List Int) (W : World) (e1 : l1.length = n1) (e2 : l2.length = n2) (h1 : BytesAt W ao l1) (h2 : BytesAt W bo l2) (b1 : Byt l1) (b2 : Byt l2) :
    (Extern.BytealgCompare.compare #[.slice ao n1 c1, .slice bo n2 c2]).run Try.prog W = .ok (.int .i64 (cmpL l1 l2)) W := by
  change Sem.run Try.prog (do pure (goInt (Extern.BytealgCompare.cmp (← Extern.Bytes.bytesOf (.slice ao n1 c1)) (← Extern.Bytes.bytesOf (.slice bo n2 c2))))) W = _
  simp only [Sem.run_bind, Sem.run_pure, run_bytesOf ao n1 c1 l1 W e1 h1, run_bytesOf bo n2 c2 l2 W e2 h2, Result.andThen]
  rw [Lib.cmp_eq, ← compareBytes_eq l1 l2 b1 b2]
  rfl

set_option maxHeartbeats 1000000 in
theorem bcompare51 (ao bo : Option Addr) (n1 n2 c1 c2 : Nat) (l1 l2 : List Int) (W : World) (e1 : l1.length = n1) (e2 : l2.length = n2) (h1 : BytesAt W ao l1) (h2 : BytesAt W bo l2) (b1 : Byt l1) (b2 : Byt l2) :
    Calls Try.prog 51 #[.slice ao n1 c1, .slice bo n2 c2] W fun e W' => e = .returned (.int .i64 (cmpL l1 l2)) ∧ W' = W := by
  have hr := run_compareSlices ao bo n1 n2 c1 c2 l1 l2 W e1 e2 h1 h2 b1 b2
  clear h1 h2 b1 b2 e1 e2
  go_enter Try.func51, Try.ntmps51
  go_wp2
  rw [run_callFunc_extern Try.func66 (by kernel_rfl) (by kernel_rfl) (by kernel_rfl) (e := Extern.BytealgCompare.compare) (by kernel_rfl), hr]
  simp only [Result.andThen]
  rw [Oper.upon_value]
  go_wp2
  go_ret
  exact ⟨rfl, rfl⟩

def cmpI (a b : Int) : Int := if a < b then -1 else if b < a then 1 else 0

set_option maxHeartbeats 1000000 in
theorem cmp40 (a b : Int) (W : World) : Calls Try.prog 40 #[.int .u64 a, .int .u64 b] W fun e W' => e = .returned (.int .i64 (cmpI a b)) ∧ W' = W := by
  by_cases h1 : a < b
  · have e : cmpI a b = -1 := if_pos h1
    rw [e]
    go_enter Try.func40, Try.ntmps40
    go_wp2
    go_ret
    exact ⟨rfl, rfl⟩
  · by_cases h2 : b < a
    · have e : cmpI a b = 1 := by unfold cmpI; rw [if_neg h1, if_pos h2]
      rw [e]
      go_enter Try.func40, Try.ntmps40
      go_wp2
      go_ret
      exact ⟨rfl, rfl⟩
    · have e : cmpI a b = 0 := by unfold cmpI; rw [if_neg h1, if_neg h2]
      rw [e]
      go_enter Try.func40, Try.ntmps40
      go_wp2
      go_ret
      exact ⟨rfl, rfl⟩

def ent (s e : Nat) (h : Int) : Array Value := #[.int .i64 (s : Nat), .int .i64 (e : Nat), .int .i64 1, .int .u64 h]

set_option maxHeartbeats 1000000 in
/-- holdsPending: one map is pending, and the entry's index is 1. -/
theorem holds44 (q : Nat) (s e : Nat) (h : Int) (pa : Option Addr) (pc : Nat) (W : World) (hq : W.cell? ⟨q, 1, none⟩ = some (.slice pa 1 pc)) :
    Calls Try.prog 44 #[.pointer (some ⟨q, 0, none⟩), .agg #[.int .i64 (s : Nat), .int .i64 (e : Nat), .int .i64 1, .int .u64 h]] W fun e W' => e = .returned (.bool false) ∧ Gr W W' := by
  have hlt : q < W.heap.size := World.block_lt_of_cell? _ _ hq
  have hne : q ≠ W.heap.size := by omega
  go_enter Try.func44, Try.ntmps44
  go_wp2
  go_quiet (fail)
  go_wp2
  go_ret
  exact ⟨rfl, (Gr.alloc _ _).trans (Gr.drewN _ _)⟩
end Go.Proofs.Qxb6608761a
