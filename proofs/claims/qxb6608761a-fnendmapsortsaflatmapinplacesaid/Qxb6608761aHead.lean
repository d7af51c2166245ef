import Derived.Test.Qxb6608761aChain2
import Derived.Test.Qxb6608761aHd
import Derived.Lib.EndianBits
namespace Go.Proofs.Qxb6608761a
open Go.RowKit Cmp Go.Sort Go.BigFrame

set_option maxHeartbeats 8000000 in
set_option maxRecDepth 100000 in
theorem uint53 (g o n c : Nat) (b0 b1 b2 b3 b4 b5 b6 b7 : Int) (w : World) (hn : 8 ≤ n)
    (h0 : 0 ≤ b0 ∧ b0 < 256) (h1 : 0 ≤ b1 ∧ b1 < 256) (h2 : 0 ≤ b2 ∧ b2 < 256) (h3 : 0 ≤ b3 ∧ b3 < 256) (h4 : 0 ≤ b4 ∧ b4 < 256) (h5 : 0 ≤ b5 ∧ b5 < 256) (h6 : 0 ≤ b6 ∧ b6 < 256) (h7 : 0 ≤ b7 ∧ b7 < 256)
    (c0 : w.cell? ⟨g, o, none⟩ = some (.int .u8 b0)) (c1 : w.cell? ⟨g, o + 1, none⟩ = some (.int .u8 b1)) (c2 : w.cell? ⟨g, o + 2, none⟩ = some (.int .u8 b2)) (c3 : w.cell? ⟨g, o + 3, none⟩ = some (.int .u8 b3)) (c4 : w.cell? ⟨g, o + 4, none⟩ = some (.int .u8 b4)) (c5 : w.cell? ⟨g, o + 5, none⟩ = some (.int .u8 b5)) (c6 : w.cell? ⟨g, o + 6, none⟩ = some (.int .u8 b6)) (c7 : w.cell? ⟨g, o + 7, none⟩ = some (.int .u8 b7)) :
    Calls Try.prog 53 #[.agg #[], .slice (some ⟨g, o, none⟩) n c] w fun e w' => e = .returned (.int .u64 (b7 + b6 * 256 + b5 * 65536 + b4 * 16777216 + b3 * 4294967296 + b2 * 1099511627776 + b1 * 281474976710656 + b0 * 72057594037927936)) ∧ Gr w w' := by
  have hlt : g < w.heap.size := World.block_lt_of_cell? _ _ c0
  have d0 := (Gr.alloc w (.cells #[] 101)).cell c0
  have d1 := (Gr.alloc w (.cells #[] 101)).cell c1
  have d2 := (Gr.alloc w (.cells #[] 101)).cell c2
  have d3 := (Gr.alloc w (.cells #[] 101)).cell c3
  have d4 := (Gr.alloc w (.cells #[] 101)).cell c4
  have d5 := (Gr.alloc w (.cells #[] 101)).cell c5
  have d6 := (Gr.alloc w (.cells #[] 101)).cell c6
  have d7 := (Gr.alloc w (.cells #[] 101)).cell c7
  have q0 : 0 < n := by omega
  have q1 : (1 : Int) < (n : Int) := by omega
  have q2 : (2 : Int) < (n : Int) := by omega
  have q3 : (3 : Int) < (n : Int) := by omega
  have q4 : (4 : Int) < (n : Int) := by omega
  have q5 : (5 : Int) < (n : Int) := by omega
  have q6 : (6 : Int) < (n : Int) := by omega
  have q7 : (7 : Int) < (n : Int) := by omega
  go_enter Try.func53, Try.ntmps53
  go_wp2
  go_quiet (fail)
  go_wp2
  go_ret
  refine ⟨?_, (Gr.alloc _ _).trans (Gr.drewN _ _)⟩
  simp (disch := omega) only [u64_or8, u64_or16, u64_or24, u64_or32, u64_or40, u64_or48, u64_or56]
  rfl

theorem or_low (i : Nat) (x y : Int) (hi : i ≤ 64) (hx0 : 0 ≤ x) (hx : x % 2 ^ i = 0) (hx1 : x < 18446744073709551616) (hy0 : 0 ≤ y) (hy : y < 2 ^ i) : bits .or .u64 x y = x + y :=
  bits_join .u64 64 (by decide) (fun n h0 h1 => wraps_u64 n h0 h1) i x y hx0 hx hx1 hy0 hy (Int.lt_of_lt_of_le hy (by
    have : (2 : Int) ^ i ≤ 2 ^ 64 := by exact_mod_cast Nat.pow_le_pow_right (by decide) hi
    exact this))

theorem bytesAt_some {W : World} {ao : Option Addr} {l : List Int} (h : BytesAt W ao l) (h0 : 0 < l.length) : ∃ b off, ao = some ⟨b, off, none⟩ ∧ ∀ k, (hk : k < l.length) → W.cell? ⟨b, off + k, none⟩ = some (.int .u8 l[k]) := by
  obtain ⟨b, off, rfl, _⟩ := h 0 h0
  refine ⟨b, off, rfl, fun k hk => ?_⟩
  obtain ⟨b', off', e, c⟩ := h k hk
  obtain ⟨rfl, rfl⟩ : b = b' ∧ off = off' := by simpa using e
  exact c

set_option maxHeartbeats 2000000 in
set_option maxRecDepth 100000 in
theorem head45_long (ao : Option Addr) (n c : Nat) (l : List Int) (W : World) (hl : l.length = n) (h : BytesAt W ao l) (hb : Byt l) (hn : 8 ≤ n) :
    Calls Try.prog 45 #[.slice ao n c] W fun e W' => e = .returned (.int .u64 (hdN 8 l)) ∧ Gr W W' := by
  obtain ⟨b, off, rfl, hc⟩ := bytesAt_some h (by omega)
  obtain ⟨b0, b1, b2, b3, b4, b5, b6, b7, r, rfl⟩ : ∃ b0 b1 b2 b3 b4 b5 b6 b7 r, l = b0 :: b1 :: b2 :: b3 :: b4 :: b5 :: b6 :: b7 :: r := by
    match l, hl with
    | b0 :: b1 :: b2 :: b3 :: b4 :: b5 :: b6 :: b7 :: r, _ => exact ⟨b0, b1, b2, b3, b4, b5, b6, b7, r, rfl⟩
    | [], h | [_], h | [_, _], h | [_, _, _], h | [_, _, _, _], h | [_, _, _, _, _], h | [_, _, _, _, _, _], h | [_, _, _, _, _, _, _], h => simp at h; omega
  have hv : hdN 8 (b0 :: b1 :: b2 :: b3 :: b4 :: b5 :: b6 :: b7 :: r) = b7 + b6 * 256 + b5 * 65536 + b4 * 16777216 + b3 * 4294967296 + b2 * 1099511627776 + b1 * 281474976710656 + b0 * 72057594037927936 := by
    simp only [hdN]
    omega
  have HU := hid (uint53 b off n c b0 b1 b2 b3 b4 b5 b6 b7 W hn (hb _ (by simp)) (hb _ (by simp)) (hb _ (by simp)) (hb _ (by simp)) (hb _ (by simp)) (hb _ (by simp)) (hb _ (by simp)) (hb _ (by simp))
    (hc 0 (by simp)) (hc 1 (by simp)) (hc 2 (by simp)) (hc 3 (by simp)) (hc 4 (by simp)) (hc 5 (by simp)) (hc 6 (by simp)) (hc 7 (by simp)))
  rw [hv]
  clear hv h hc hb hl
  go_enter Try.func45, Try.ntmps45
  go_wp2_with (go_at_call 53; refine HU.out.mono ?_; rintro e w1 ⟨rfl, hG1⟩)
  go_ret
  exact ⟨rfl, hG1⟩

set_option maxHeartbeats 2000000 in
set_option maxRecDepth 100000 in
theorem head45_short (ao : Option Addr) (n c : Nat) (l : List Int) (W : World) (hl : l.length = n) (h : BytesAt W ao l) (hb : Byt l) (hn : n < 8) :
    Calls Try.prog 45 #[.slice ao n c] W fun e W' => e = .returned (.int .u64 (hdN 8 l)) ∧ Gr W W' := by
  have HL := hid hl
  have HA := hid h
  have HY := hid hb
  clear hl h hb
  go_enter Try.func45, Try.ntmps45
  go_wp2
  go_loopw [3, 14] (fun t i wr => ∃ k : Nat, i = .int .i64 k ∧ t = .int .u64 (hdN 8 (l.take k)) ∧ k ≤ n ∧ wr = W) (fun _ i _ => n - (intOf i).toNat)
  case atStart => exact ⟨0, rfl, by simp [hdN], Nat.zero_le _, rfl⟩
  case round =>
    obtain ⟨k, rfl, rfl, hk, rfl⟩ := hrel
    by_cases hkn : k < n
    · have hlt : k < l.length := by rw [HL.out]; exact hkn
      obtain ⟨b, off, rfl, x0⟩ := HA.out k hlt
      have hk7 : k = 0 ∨ k = 1 ∨ k = 2 ∨ k = 3 ∨ k = 4 ∨ k = 5 ∨ k = 6 := by omega
      have B0 := HY.out _ (List.getElem_mem hlt)
      rcases hk7 with rfl | rfl | rfl | rfl | rfl | rfl | rfl
      · have y0 : wr.cell? ⟨b, off, none⟩ = some (.int .u8 l[0]) := x0
        clear x0
        have E : Hid (bits .or .u64 (hdN 8 (l.take 0)) (l[0] * 72057594037927936) = hdN 8 (l.take 1)) := by
          have r := hdN_range 8 (l.take 0) (fun x hx => HY.out x (List.mem_of_mem_take hx))
          have m := hdN_take_mod 8 0 l (by omega)
          have t : hdN 8 (l.take 1) = hdN 8 (l.take 0) + l[0] * 72057594037927936 := hdN_take_succ 8 0 l (by omega) hlt
          have hb := HY.out _ (List.getElem_mem hlt)
          show _ = _
          rw [or_low 64 _ _ (by decide) r.1 m r.2 (by omega) (by omega), t]
        go_wp2
        go_roundw
        case rel => exact ⟨1, rfl, congrArg (Value.int .u64) E.out, by omega, by first | trivial | rfl⟩
        case measure => simp [intOf]; omega
      · have E : Hid (bits .or .u64 (hdN 8 (l.take 1)) (l[1] * 281474976710656) = hdN 8 (l.take 2)) := by
          have r := hdN_range 8 (l.take 1) (fun x hx => HY.out x (List.mem_of_mem_take hx))
          have m := hdN_take_mod 8 1 l (by omega)
          have t : hdN 8 (l.take 2) = hdN 8 (l.take 1) + l[1] * 281474976710656 := hdN_take_succ 8 1 l (by omega) hlt
          have hb := HY.out _ (List.getElem_mem hlt)
          show _ = _
          rw [or_low 56 _ _ (by decide) r.1 m r.2 (by omega) (by omega), t]
        go_wp2
        go_roundw
        case rel => exact ⟨2, rfl, congrArg (Value.int .u64) E.out, by omega, by first | trivial | rfl⟩
        case measure => simp [intOf]; omega
      · have E : Hid (bits .or .u64 (hdN 8 (l.take 2)) (l[2] * 1099511627776) = hdN 8 (l.take 3)) := by
          have r := hdN_range 8 (l.take 2) (fun x hx => HY.out x (List.mem_of_mem_take hx))
          have m := hdN_take_mod 8 2 l (by omega)
          have t : hdN 8 (l.take 3) = hdN 8 (l.take 2) + l[2] * 1099511627776 := hdN_take_succ 8 2 l (by omega) hlt
          have hb := HY.out _ (List.getElem_mem hlt)
          show _ = _
          rw [or_low 48 _ _ (by decide) r.1 m r.2 (by omega) (by omega), t]
        go_wp2
        go_roundw
        case rel => exact ⟨3, rfl, congrArg (Value.int .u64) E.out, by omega, by first | trivial | rfl⟩
        case measure => simp [intOf]; omega
      · have E : Hid (bits .or .u64 (hdN 8 (l.take 3)) (l[3] * 4294967296) = hdN 8 (l.take 4)) := by
          have r := hdN_range 8 (l.take 3) (fun x hx => HY.out x (List.mem_of_mem_take hx))
          have m := hdN_take_mod 8 3 l (by omega)
          have t : hdN 8 (l.take 4) = hdN 8 (l.take 3) + l[3] * 4294967296 := hdN_take_succ 8 3 l (by omega) hlt
          have hb := HY.out _ (List.getElem_mem hlt)
          show _ = _
          rw [or_low 40 _ _ (by decide) r.1 m r.2 (by omega) (by omega), t]
        go_wp2
        go_roundw
        case rel => exact ⟨4, rfl, congrArg (Value.int .u64) E.out, by omega, by first | trivial | rfl⟩
        case measure => simp [intOf]; omega
      · have E : Hid (bits .or .u64 (hdN 8 (l.take 4)) (l[4] * 16777216) = hdN 8 (l.take 5)) := by
          have r := hdN_range 8 (l.take 4) (fun x hx => HY.out x (List.mem_of_mem_take hx))
          have m := hdN_take_mod 8 4 l (by omega)
          have t : hdN 8 (l.take 5) = hdN 8 (l.take 4) + l[4] * 16777216 := hdN_take_succ 8 4 l (by omega) hlt
          have hb := HY.out _ (List.getElem_mem hlt)
          show _ = _
          rw [or_low 32 _ _ (by decide) r.1 m r.2 (by omega) (by omega), t]
        go_wp2
        go_roundw
        case rel => exact ⟨5, rfl, congrArg (Value.int .u64) E.out, by omega, by first | trivial | rfl⟩
        case measure => simp [intOf]; omega
      · have E : Hid (bits .or .u64 (hdN 8 (l.take 5)) (l[5] * 65536) = hdN 8 (l.take 6)) := by
          have r := hdN_range 8 (l.take 5) (fun x hx => HY.out x (List.mem_of_mem_take hx))
          have m := hdN_take_mod 8 5 l (by omega)
          have t : hdN 8 (l.take 6) = hdN 8 (l.take 5) + l[5] * 65536 := hdN_take_succ 8 5 l (by omega) hlt
          have hb := HY.out _ (List.getElem_mem hlt)
          show _ = _
          rw [or_low 24 _ _ (by decide) r.1 m r.2 (by omega) (by omega), t]
        go_wp2
        go_roundw
        case rel => exact ⟨6, rfl, congrArg (Value.int .u64) E.out, by omega, by first | trivial | rfl⟩
        case measure => simp [intOf]; omega
      · have E : Hid (bits .or .u64 (hdN 8 (l.take 6)) (l[6] * 256) = hdN 8 (l.take 7)) := by
          have r := hdN_range 8 (l.take 6) (fun x hx => HY.out x (List.mem_of_mem_take hx))
          have m := hdN_take_mod 8 6 l (by omega)
          have t : hdN 8 (l.take 7) = hdN 8 (l.take 6) + l[6] * 256 := hdN_take_succ 8 6 l (by omega) hlt
          have hb := HY.out _ (List.getElem_mem hlt)
          show _ = _
          rw [or_low 16 _ _ (by decide) r.1 m r.2 (by omega) (by omega), t]
        go_wp2
        go_roundw
        case rel => exact ⟨7, rfl, congrArg (Value.int .u64) E.out, by omega, by first | trivial | rfl⟩
        case measure => simp [intOf]; omega
    · have e : hdN 8 (l.take k) = hdN 8 l := by rw [List.take_of_length_le (by rw [HL.out]; omega)]
      rw [e]
      clear e
      go_wp2
      go_ret
      exact ⟨rfl, Gr.refl _⟩

theorem head45 (ao : Option Addr) (n c : Nat) (l : List Int) (W : World) (hl : l.length = n) (h : BytesAt W ao l) (hb : Byt l) :
    Calls Try.prog 45 #[.slice ao n c] W fun e W' => e = .returned (.int .u64 (hdN 8 l)) ∧ Gr W W' := by
  by_cases hn : 8 ≤ n
  · exact head45_long ao n c l W hl h hb hn
  · exact head45_short ao n c l W hl h hb (by omega)

theorem one_box {W w1 : World} {a0 a1 a2 a3 : Value} {t : TypeId} (h : Gr (W.alloc (.cells #[a0, a1, a2, a3] t)) w1) :
    w1.cell? ⟨W.heap.size, 0, none⟩ = some a0 ∧ w1.cell? ⟨W.heap.size, 1, none⟩ = some a1 ∧ w1.cell? ⟨W.heap.size, 2, none⟩ = some a2 ∧ w1.cell? ⟨W.heap.size, 3, none⟩ = some a3 := by
  refine ⟨h.cell ?_, h.cell ?_, h.cell ?_, h.cell ?_⟩ <;> simp

set_option maxRecDepth 100000 in
set_option maxHeartbeats 2000000 in
theorem head37_some (q g n s1 e1 : Nat) (h1 : Int) (B : List Int) (pa : Option Addr) (pc : Nat) (W : World) (hq : W.cell? ⟨q, 1, none⟩ = some (.slice pa 1 pc)) (hB : W.heap[g]? = some (.cells (vals B).toArray 5 (0, 0))) (hl : n = B.length) (hby : Byt B) (x1 : s1 ≤ e1) (x2 : e1 ≤ n) :
    Calls Try.prog 37 #[.pointer (some ⟨q, 0, none⟩), .slice (some ⟨g, 0, none⟩) n n, .agg #[.int .i64 (s1 : Nat), .int .i64 (e1 : Nat), .int .i64 1, .int .u64 h1]] W
      fun e W' => e = .returned (.int .u64 (hdN 8 (seg B s1 e1))) ∧ Gr W W' := by
  have G1 : Gr W (W.alloc (.cells #[.int .i64 (s1 : Nat), .int .i64 (e1 : Nat), .int .i64 1, .int .u64 h1] 77)) := Gr.alloc _ _
  have HF := hid G1
  have HH := hid (holds44 q s1 e1 h1 pa pc _ (G1.cell hq))
  have HB := hid hB
  have HL := hid hl
  have HY := hid hby
  have z1 : (0 : Int) ≤ (s1 : Int) := by omega
  have z2 : (s1 : Int) ≤ (e1 : Int) := by omega
  have z3 : (e1 : Int) ≤ (n : Int) := by omega
  have L1 : Hid ((seg B s1 e1).length = e1 - s1) := seg_length B s1 e1 x1 (by omega)
  clear hB hl hby G1 hq
  go_enter Try.func37, Try.ntmps37
  go_wp2_with (first
    | (go_at_call 44; refine HH.out.mono ?_; rintro e w1 ⟨rfl, hG1⟩; obtain ⟨u0, u1, u2, u3⟩ := one_box hG1; have HG1 := hid hG1; clear hG1)
    | (go_at_call 45; refine (head45 _ _ _ (seg B s1 e1) _ L1.out ((seg_at HB.out HL.out s1 e1 x1 x2 _).later (HF.out.trans HG1.out).fr) (HY.out.seg _ _)).mono ?_; rintro e w2 ⟨rfl, hG2⟩))
  all_goals
    go_ret
    exact ⟨rfl, (HF.out.trans HG1.out).trans hG2⟩

set_option maxRecDepth 100000 in
set_option maxHeartbeats 2000000 in
theorem head37_nil (q : Nat) (h1 : Int) (pa : Option Addr) (pc : Nat) (W : World) (hq : W.cell? ⟨q, 1, none⟩ = some (.slice pa 1 pc)) :
    Calls Try.prog 37 #[.pointer (some ⟨q, 0, none⟩), .slice none 0 0, .agg #[.int .i64 0, .int .i64 0, .int .i64 1, .int .u64 h1]] W
      fun e W' => e = .returned (.int .u64 (hdN 8 [])) ∧ Gr W W' := by
  have G1 : Gr W (W.alloc (.cells #[.int .i64 0, .int .i64 0, .int .i64 1, .int .u64 h1] 77)) := Gr.alloc _ _
  have HF := hid G1
  have HH := hid (holds44 q 0 0 h1 pa pc _ (G1.cell hq))
  clear G1 hq
  go_enter Try.func37, Try.ntmps37
  go_wp2_with (first
    | (go_at_call 44; refine HH.out.mono ?_; rintro e w1 ⟨rfl, hG1⟩; obtain ⟨u0, u1, u2, u3⟩ := one_box hG1; have HG1 := hid hG1; clear hG1)
    | (go_at_call 45; refine (head45 _ _ _ [] _ rfl (bytesAt_nil _ _) (fun x hx => by cases hx)).mono ?_; rintro e w2 ⟨rfl, hG2⟩))
  go_ret
  exact ⟨rfl, (HF.out.trans HG1.out).trans hG2⟩

theorem head37 (q s1 e1 : Nat) (h1 : Int) (v : Value) (B : List Int) (pa : Option Addr) (pc : Nat) (W : World) (hq : W.cell? ⟨q, 1, none⟩ = some (.slice pa 1 pc)) (hB : Bod W v B) (hby : Byt B) (x1 : s1 ≤ e1) (x2 : e1 ≤ B.length) :
    Calls Try.prog 37 #[.pointer (some ⟨q, 0, none⟩), v, .agg #[.int .i64 (s1 : Nat), .int .i64 (e1 : Nat), .int .i64 1, .int .u64 h1]] W
      fun e W' => e = .returned (.int .u64 (hdN 8 (seg B s1 e1))) ∧ Gr W W' := by
  rcases hB with ⟨rfl, rfl⟩ | ⟨g, rfl, hg⟩
  · obtain rfl : e1 = 0 := by simpa using x2
    obtain rfl : s1 = 0 := by omega
    exact head37_nil q h1 pa pc W hq
  · exact head37_some q g B.length s1 e1 h1 B pa pc W hq hg rfl hby x1 x2
end Go.Proofs.Qxb6608761a
