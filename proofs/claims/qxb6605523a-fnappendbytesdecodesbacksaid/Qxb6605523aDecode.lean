import Derived.Test.Qxb6605523aEnc
import Derived.Test.Qxb6605523aCompare
import Derived.Test.Qxb6605523aClone
namespace Go.Proofs.Qxb6605523a
open Go.RowKit
set_option linter.unusedVariables false

set_option maxHeartbeats 1000000 in
/-- keysB1Equal at two slices that read alike: true. -/
theorem equal_same (a1 : Option Addr) (n c1 : Nat) (s : List Int) (a2 : Option Addr) (c2 : Nat) (w : World) (h1 : Rd w a1 n c1 s) (h2 : Rd w a2 n c2 s) :
    Calls Try.prog 12 #[.slice a1 n c1, .slice a2 n c2] w fun e w' => e = .returned (.bool true) ∧ ∃ q, w' = w.drewN q := by
  have m1 : n ≤ 9223372036854775807 := by have := h1.2.1; have := h1.2.2.1; unfold maxLen at this; omega
  go_enter Try.func12, Try.ntmps12
  go_wp2
  go_loopw [5] (fun si wr => ∃ k : Nat, k ≤ n ∧ si = .int .i64 k ∧ ∃ q, wr = w.drewN q) (fun si _ => n - (intOf si).toNat)
  case atStart => exact ⟨0, Nat.zero_le _, rfl, 0, rfl⟩
  case round =>
    obtain ⟨k, hk, rfl, q, rfl⟩ := hrel
    by_cases hlt : k < n
    · obtain ⟨b1, o1, rfl, _, g1⟩ := h1.at (show 0 < n by omega)
      obtain ⟨b2, o2, rfl, _, g2⟩ := h2.at (show 0 < n by omega)
      have e1 := g1 k (by omega)
      have e2 := g2 k (by omega)
      have x1 : (k : Int) < (n : Int) := by omega
      clear g1 g2 h1 h2
      go_wp2
      go_quiet (fail)
      go_wp2
      go_roundw
      case rel => exact ⟨k + 1, hlt, by go_num, _, rfl⟩
      case measure => simp [intOf]; omega
    · go_wp2
      go_ret
      exact ⟨rfl, _, rfl⟩

/-- Where the j-th byte of s stands in the encoding. -/
def pos (pre s : List Int) (j : Nat) : Nat := pre.length + (encP (s.take j)).length

theorem enc_split (pre s : List Int) (j : Nat) : pre ++ encP s ++ [0, 1] = (pre ++ encP (s.take j)) ++ (encP (s.drop j) ++ [0, 1]) := by
  conv => lhs; rw [← List.take_append_drop j s, encP_append]
  simp

theorem getD_at (A B : List Int) (i : Nat) : (A ++ B).getD (A.length + i) 0 = B.getD i 0 := by
  unfold List.getD
  rw [List.getElem?_append_right (by omega), Nat.add_sub_cancel_left]

theorem pos_len (pre s : List Int) (j : Nat) : (pre ++ encP (s.take j)).length = pos pre s j := by simp [pos]

theorem enc_at (pre s : List Int) (j i : Nat) : (pre ++ encP s ++ [0, 1]).getD (pos pre s j + i) 0 = (encP (s.drop j) ++ [0, 1]).getD i 0 := by
  rw [enc_split pre s j, ← pos_len, getD_at]

theorem enc_len (pre s : List Int) (j : Nat) : (pre ++ encP s ++ [0, 1]).length = pos pre s j + (encP (s.drop j)).length + 2 := by
  rw [enc_split pre s j, List.length_append, pos_len, List.length_append]
  simp only [List.length_cons, List.length_nil]
  omega

theorem at_plain (pre s : List Int) (j : Nat) (hj : j < s.length) (h : s.getD j 0 ≠ 0) :
    (pre ++ encP s ++ [0, 1]).getD (pos pre s j) 0 = s.getD j 0 ∧ pos pre s (j + 1) = pos pre s j + 1 ∧ pos pre s j < (pre ++ encP s ++ [0, 1]).length := by
  have e := enc_at pre s j 0
  have hd : s.drop j = s.getD j 0 :: s.drop (j + 1) := by rw [drop_cons s j hj]; simp [List.getD]
  refine ⟨?_, ?_, ?_⟩
  · rw [Nat.add_zero] at e; rw [e, hd]; simp only [encP, if_neg h]; rfl
  · unfold pos
    have ht : s.take (j + 1) = s.take j ++ [s.getD j 0] := by rw [List.take_succ_eq_append_getElem hj]; simp [List.getD, hj]
    rw [ht, encP_append, List.length_append]
    simp only [encP, if_neg h, List.length_cons, List.length_nil]
    omega
  · rw [enc_len pre s j]; omega

theorem at_zero (pre s : List Int) (j : Nat) (hj : j < s.length) (h : s.getD j 0 = 0) :
    (pre ++ encP s ++ [0, 1]).getD (pos pre s j) 0 = 0 ∧ (pre ++ encP s ++ [0, 1]).getD (pos pre s j + 1) 0 = 255 ∧ pos pre s (j + 1) = pos pre s j + 2 ∧ pos pre s j + 1 < (pre ++ encP s ++ [0, 1]).length := by
  have e0 := enc_at pre s j 0
  have e1 := enc_at pre s j 1
  have hd : s.drop j = s.getD j 0 :: s.drop (j + 1) := by rw [drop_cons s j hj]; simp [List.getD]
  refine ⟨?_, ?_, ?_, ?_⟩
  · rw [Nat.add_zero] at e0; rw [e0, hd, h]; simp [encP]
  · rw [e1, hd, h]; simp [encP]
  · unfold pos
    have ht : s.take (j + 1) = s.take j ++ [s.getD j 0] := by rw [List.take_succ_eq_append_getElem hj]; simp [List.getD, hj]
    rw [ht, encP_append, List.length_append, h]
    simp only [encP, if_pos, List.length_cons, List.length_nil]
    omega
  · rw [enc_len pre s j]; omega

theorem at_end (pre s : List Int) :
    (pre ++ encP s ++ [0, 1]).getD (pos pre s s.length) 0 = 0 ∧ (pre ++ encP s ++ [0, 1]).getD (pos pre s s.length + 1) 0 = 1 ∧ pos pre s s.length + 2 = (pre ++ encP s ++ [0, 1]).length := by
  have e0 := enc_at pre s s.length 0
  have e1 := enc_at pre s s.length 1
  refine ⟨?_, ?_, ?_⟩
  · rw [Nat.add_zero] at e0; rw [e0]; simp [encP]
  · rw [e1]; simp [encP]
  · rw [enc_len pre s s.length]; simp [encP]

set_option maxHeartbeats 1000000 in
/-- keysB1DecodesExactlyTo at an encoding: true. -/
theorem decode_any (a1 : Option Addr) (n1 c1 : Nat) (pre s : List Int) (a2 : Option Addr) (n2 c2 : Nat) (w : World) (h1 : Rd w a1 n1 c1 (pre ++ encP s ++ [0, 1])) (h2 : Rd w a2 n2 c2 s) :
    Calls Try.prog 13 #[.slice a1 n1 c1, .int .i64 pre.length, .slice a2 n2 c2] w fun e w' => e = .returned (.bool true) ∧ w' = w := by
  have m1 : n1 ≤ 9223372036854775807 := by have := h1.2.1; have := h1.2.2.1; unfold maxLen at this; omega
  have m2 : n2 ≤ 9223372036854775807 := by have := h2.2.1; have := h2.2.2.1; unfold maxLen at this; omega
  have HL1 := hide h1.1
  have HL2 := hide h2.1
  have hp : 2 ≤ n1 := by have := h1.1; simp at this; omega
  obtain ⟨b1, o1, rfl, _, g1⟩ := h1.at (show 0 < n1 by omega)
  have G1 := hide g1
  clear g1
  go_enter Try.func13, Try.ntmps13
  go_wp2
  go_loop [7, 8] (fun si sj => ∃ p j : Nat, j ≤ n2 ∧ si = .int .i64 p ∧ sj = .int .i64 j ∧ Hid (p = pos pre s j)) (fun _ sj => n2 - (intOf sj).toNat)
  case atStart => exact ⟨pre.length, 0, Nat.zero_le _, rfl, rfl, by unfold Hid pos; simp [encP]⟩
  case round =>
    obtain ⟨p, j, hj, rfl, rfl, HP⟩ := hrel
    by_cases hlt : j < n2
    · obtain ⟨b2, o2, rfl, _, g2⟩ := h2.at (show 0 < n2 by omega)
      have hjs : j < s.length := by rw [HL2.out]; exact hlt
      by_cases hz : s.getD j 0 = 0
      · obtain ⟨q1, q2, q3, q4⟩ := at_zero pre s j hjs hz
        rw [← HP.out] at q1 q2 q3 q4
        rw [HL1.out] at q4
        have e1 : w.cell? ⟨b1, o1 + p, none⟩ = some (.int .u8 0) := by rw [G1.out p (by omega), q1]
        have e2 : w.cell? ⟨b1, o1 + (p + 1), none⟩ = some (.int .u8 255) := by rw [G1.out (p + 1) (by omega), q2]
        have e3 : w.cell? ⟨b2, o2 + j, none⟩ = some (.int .u8 0) := by rw [g2 j hlt, hz]
        have Q3 := hide q3
        clear q1 q2 q3 g2 hz h1 h2 hjs
        go_wp2
        go_round
        case rel => exact ⟨p + 2, j + 1, hlt, by go_num, by go_num, Q3.out.symm⟩
        case measure => simp [intOf]; omega
      · obtain ⟨q1, q2, q3⟩ := at_plain pre s j hjs hz
        rw [← HP.out] at q1 q2 q3
        rw [HL1.out] at q3
        have e1 : w.cell? ⟨b1, o1 + p, none⟩ = some (.int .u8 (s.getD j 0)) := by rw [G1.out p (by omega), q1]
        have e3 : w.cell? ⟨b2, o2 + j, none⟩ = some (.int .u8 (s.getD j 0)) := g2 j hlt
        have Q3 := hide q2
        generalize s.getD j 0 = z at *
        have hne : (z == 0) = false := by simpa using hz
        clear q1 q2 g2 hz h1 h2 hjs
        go_wp2
        go_round
        case rel => exact ⟨p + 1, j + 1, hlt, by go_num, by go_num, Q3.out.symm⟩
        case measure => simp [intOf]; omega
    · have hjn : j = n2 := by omega
      obtain ⟨q1, q2, q3⟩ := at_end pre s
      rw [HL2.out, ← hjn, ← HP.out] at q1 q2 q3
      rw [HL1.out] at q3
      have e1 : w.cell? ⟨b1, o1 + p, none⟩ = some (.int .u8 0) := by rw [G1.out p (by omega), q1]
      have e2 : w.cell? ⟨b1, o1 + (p + 1), none⟩ = some (.int .u8 1) := by rw [G1.out (p + 1) (by omega), q2]
      have f1 : p + 2 ≤ n1 := by omega
      have f2 : n1 ≤ p + 2 := by omega
      have f3 : ((j : Int) == (n2 : Int)) = true := by simp; omega
      have f4 : ((p : Int) + 2 == (n1 : Int)) = true := by simp; omega
      clear q1 q2 q3 h1 h2 hjn
      go_wp2
      go_ret
      exact ⟨rfl, rfl⟩
end Go.Proofs.Qxb6605523a
