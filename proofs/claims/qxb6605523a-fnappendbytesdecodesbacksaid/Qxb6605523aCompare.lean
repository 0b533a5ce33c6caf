import Derived.Test.Qxb6605523aBase
namespace Go.Proofs.Qxb6605523a
open Go.RowKit
set_option linter.unusedVariables false

/-- Byte strings in their order: -1, 0, 1. -/
def cmp : List Int → List Int → Int
  | [], [] => 0
  | [], _ :: _ => -1
  | _ :: _, [] => 1
  | x :: s, y :: t => if x < y then -1 else if y < x then 1 else cmp s t

theorem drop_cons (zs : List Int) (k : Nat) (h : k < zs.length) : zs.drop k = zs[k]?.getD 0 :: zs.drop (k + 1) := by
  rw [List.drop_eq_getElem_cons h]
  simp [h]

theorem cmp_lt {s t : List Int} {k : Nat} (hs : k < s.length) (ht : k < t.length) (H : Hid (cmp s t = cmp (s.drop k) (t.drop k))) (h : s[k]?.getD 0 < t[k]?.getD 0) : cmp s t = -1 := by
  rw [H.out, drop_cons s k hs, drop_cons t k ht]; simp [cmp, h]
theorem cmp_gt {s t : List Int} {k : Nat} (hs : k < s.length) (ht : k < t.length) (H : Hid (cmp s t = cmp (s.drop k) (t.drop k))) (h : t[k]?.getD 0 < s[k]?.getD 0) : cmp s t = 1 := by
  rw [H.out, drop_cons s k hs, drop_cons t k ht]; simp [cmp, h]; omega
theorem cmp_eq {s t : List Int} {k : Nat} (hs : k < s.length) (ht : k < t.length) (H : Hid (cmp s t = cmp (s.drop k) (t.drop k))) (h1 : ¬ s[k]?.getD 0 < t[k]?.getD 0) (h2 : ¬ t[k]?.getD 0 < s[k]?.getD 0) : Hid (cmp s t = cmp (s.drop (k + 1)) (t.drop (k + 1))) := by
  unfold Hid
  rw [H.out, drop_cons s k hs, drop_cons t k ht]; simp [cmp, h1, h2]
theorem cmp_end1 {s t : List Int} {k : Nat} (hs : s.length ≤ k) (ht : k < t.length) (H : Hid (cmp s t = cmp (s.drop k) (t.drop k))) : cmp s t = -1 := by
  rw [H.out, List.drop_of_length_le hs, drop_cons t k ht]; simp [cmp]
theorem cmp_end2 {s t : List Int} {k : Nat} (hs : k < s.length) (ht : t.length ≤ k) (H : Hid (cmp s t = cmp (s.drop k) (t.drop k))) : cmp s t = 1 := by
  rw [H.out, List.drop_of_length_le ht, drop_cons s k hs]; simp [cmp]
theorem cmp_end0 {s t : List Int} {k : Nat} (hs : s.length ≤ k) (ht : t.length ≤ k) (H : Hid (cmp s t = cmp (s.drop k) (t.drop k))) : cmp s t = 0 := by
  rw [H.out, List.drop_of_length_le hs, List.drop_of_length_le ht]; simp [cmp]

theorem ret_int {k : IntKind} {a b : Int} (h : b = a) : Ending.returned (.int k a) = .returned (.int k b) := by rw [h]

set_option maxHeartbeats 1000000 in
theorem compare_any (a1 : Option Addr) (n1 c1 : Nat) (s : List Int) (a2 : Option Addr) (n2 c2 : Nat) (t : List Int) (w : World) (h1 : Rd w a1 n1 c1 s) (h2 : Rd w a2 n2 c2 t) :
    Calls Try.prog 15 #[.slice a1 n1 c1, .slice a2 n2 c2] w fun e w' => e = .returned (.int .i64 (cmp s t)) ∧ ∃ q, w' = w.drewN q := by
  have l1 := h1.1
  have l2 := h2.1
  have m1 : n1 ≤ 9223372036854775807 := by have := h1.2.1; have := h1.2.2.1; unfold maxLen at this; omega
  have m2 : n2 ≤ 9223372036854775807 := by have := h2.2.1; have := h2.2.2.1; unfold maxLen at this; omega
  have H1 : Hid (s.length = n1) := l1
  have H2 : Hid (t.length = n2) := l2
  clear l1 l2
  by_cases hn : n2 < n1
  · go_enter Try.func15, Try.ntmps15
    go_wp2
    go_loopw [6] (fun si wr => ∃ k : Nat, k ≤ n2 ∧ si = .int .i64 k ∧ Hid (cmp s t = cmp (s.drop k) (t.drop k)) ∧ ∃ q, wr = w.drewN q) (fun si _ => n2 - (intOf si).toNat)
    case atStart => exact ⟨0, Nat.zero_le _, rfl, rfl, 0, rfl⟩
    case round =>
      obtain ⟨k, hk, rfl, H, q, rfl⟩ := hrel
      by_cases hlt : k < n2
      · obtain ⟨b1, o1, rfl, _, g1⟩ := h1.at (show 0 < n1 by omega)
        obtain ⟨b2, o2, rfl, _, g2⟩ := h2.at (show 0 < n2 by omega)
        have e1 := g1 k (by omega)
        have e2 := g2 k (by omega)
        have x1 : (k : Int) < (n1 : Int) := by omega
        have x2 : (k : Int) < (n2 : Int) := by omega
        clear g1 g2 h1 h2
        by_cases hab : s[k]?.getD 0 < t[k]?.getD 0
        · go_wp2
          go_quiet (fail)
          go_wp2
          go_ret
          exact ⟨ret_int (cmp_lt (by rw [H1.out]; omega) (by rw [H2.out]; omega) H hab), dr1 _ _ _⟩
        · by_cases hba : t[k]?.getD 0 < s[k]?.getD 0
          · go_wp2
            go_quiet (fail)
            go_wp2
            go_quiet (fail)
            go_wp2
            go_ret
            exact ⟨ret_int (cmp_gt (by rw [H1.out]; omega) (by rw [H2.out]; omega) H hba), dr2 _ _ _ _⟩
          · go_wp2
            go_quiet (fail)
            go_wp2
            go_quiet (fail)
            go_wp2
            go_roundw
            case rel => exact ⟨k + 1, hlt, by go_num, cmp_eq (by rw [H1.out]; omega) (by rw [H2.out]; omega) H (by omega) (by omega), _, rfl⟩
            case measure => simp [intOf]; omega
      · go_wp2
        go_ret
        exact ⟨ret_int (cmp_end2 (by rw [H1.out]; omega) (by rw [H2.out]; omega) H), _, rfl⟩
  · go_enter Try.func15, Try.ntmps15
    go_wp2
    go_loopw [6] (fun si wr => ∃ k : Nat, k ≤ n1 ∧ si = .int .i64 k ∧ Hid (cmp s t = cmp (s.drop k) (t.drop k)) ∧ ∃ q, wr = w.drewN q) (fun si _ => n1 - (intOf si).toNat)
    case atStart => exact ⟨0, Nat.zero_le _, rfl, rfl, 0, rfl⟩
    case round =>
      obtain ⟨k, hk, rfl, H, q, rfl⟩ := hrel
      by_cases hlt : k < n1
      · obtain ⟨b1, o1, rfl, _, g1⟩ := h1.at (show 0 < n1 by omega)
        obtain ⟨b2, o2, rfl, _, g2⟩ := h2.at (show 0 < n2 by omega)
        have e1 := g1 k (by omega)
        have e2 := g2 k (by omega)
        have x1 : (k : Int) < (n1 : Int) := by omega
        have x2 : (k : Int) < (n2 : Int) := by omega
        clear g1 g2 h1 h2
        by_cases hab : s[k]?.getD 0 < t[k]?.getD 0
        · go_wp2
          go_quiet (fail)
          go_wp2
          go_ret
          exact ⟨ret_int (cmp_lt (by rw [H1.out]; omega) (by rw [H2.out]; omega) H hab), dr1 _ _ _⟩
        · by_cases hba : t[k]?.getD 0 < s[k]?.getD 0
          · go_wp2
            go_quiet (fail)
            go_wp2
            go_quiet (fail)
            go_wp2
            go_ret
            exact ⟨ret_int (cmp_gt (by rw [H1.out]; omega) (by rw [H2.out]; omega) H hba), dr2 _ _ _ _⟩
          · go_wp2
            go_quiet (fail)
            go_wp2
            go_quiet (fail)
            go_wp2
            go_roundw
            case rel => exact ⟨k + 1, hlt, by go_num, cmp_eq (by rw [H1.out]; omega) (by rw [H2.out]; omega) H (by omega) (by omega), _, rfl⟩
            case measure => simp [intOf]; omega
      · by_cases hn2 : n1 < n2
        · go_wp2
          go_ret
          exact ⟨ret_int (cmp_end1 (by rw [H1.out]; omega) (by rw [H2.out]; omega) H), _, rfl⟩
        · go_wp2
          go_ret
          exact ⟨ret_int (cmp_end0 (by rw [H1.out]; omega) (by rw [H2.out]; omega) H), _, rfl⟩
end Go.Proofs.Qxb6605523a
