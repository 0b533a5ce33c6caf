import Derived.Test.Qxb6605406aBase
namespace Go.Proofs.Qxb6605406a
open Go.RowKit
set_option linter.unusedVariables false

theorem hide {p : Prop} (h : p) : Hid p := h

/-- Is the byte at place k escaped? -/
def esc (zs : List Int) : Nat → Bool
  | 0 => false
  | k + 1 => !(esc zs k) && zs.getD k 0 == 92

/-- A quote that is not escaped stands at k. -/
def Ends (zs : List Int) (k : Nat) : Prop := esc zs k = false ∧ zs.getD k 0 = 34

/-- The answer: one past the first quote that is not escaped, or the whole length. -/
def Res (zs : List Int) (r : Nat) : Prop :=
  (∃ k, k < zs.length ∧ Ends zs k ∧ (∀ j, j < k → ¬ Ends zs j) ∧ r = k + 1) ∨ ((∀ j, j < zs.length → ¬ Ends zs j) ∧ r = zs.length)

theorem res_unique {zs : List Int} {a b : Nat} (ha : Res zs a) (hb : Res zs b) : a = b := by
  rcases ha with ⟨k, hk, he, hn, rfl⟩ | ⟨hn, rfl⟩
  · rcases hb with ⟨k', hk', he', hn', rfl⟩ | ⟨hn', rfl⟩
    · rcases Nat.lt_trichotomy k k' with h | h | h
      · exact absurd he (hn' k h)
      · rw [h]
      · exact absurd he' (hn k' h)
    · exact absurd he (hn' k hk)
  · rcases hb with ⟨k', hk', he', hn', rfl⟩ | ⟨hn', rfl⟩
    · exact absurd he' (hn k' hk')
    · rfl

/-- Behind a byte that is no backslash, and at the head, nothing is escaped. -/
theorem esc_start {zs : List Int} {p : Nat} (h : p = 0 ∨ zs.getD (p - 1) 0 ≠ 92) : esc zs p = false := by
  match p, h with
  | 0, _ => rfl
  | k + 1, h =>
    rcases h with h | h
    · omega
    · have h' : (zs.getD k 0 == 92) = false := by simpa using h
      simp only [esc, h', Bool.and_false]

/-- A run of c backslashes from p on. -/
theorem esc_run {zs : List Int} {p : Nat} (h0 : esc zs p = false) : ∀ c, (∀ j, p ≤ j → j < p + c → zs.getD j 0 = 92) → esc zs (p + c) = decide (c % 2 = 1)
  | 0, _ => by simpa using h0
  | c + 1, h => by
    have ih := esc_run h0 c (fun j h1 h2 => h j h1 (by omega))
    have hz : (zs.getD (p + c) 0 == 92) = true := by rw [h (p + c) (by omega) (by omega)]; rfl
    rw [show p + (c + 1) = (p + c) + 1 by omega]
    simp only [esc, ih, hz, Bool.and_true]
    by_cases hc : c % 2 = 1
    · have : ¬ (c + 1) % 2 = 1 := by omega
      simp [hc, this]
    · have : (c + 1) % 2 = 1 := by omega
      simp [hc, this]

/-- What the count of the backslashes ahead of q tells. -/
theorem esc_count {zs : List Int} {q c : Nat} (hc : c ≤ q) (hrun : ∀ j, q - c ≤ j → j < q → zs.getD j 0 = 92) (hstop : c = q ∨ zs.getD (q - c - 1) 0 ≠ 92) : esc zs q = decide (c % 2 = 1) := by
  have h0 : esc zs (q - c) = false := by
    apply esc_start
    rcases hstop with h | h
    · left; omega
    · right; exact h
  have := esc_run h0 c (fun j h1 h2 => hrun j h1 (by omega))
  rwa [show q - c + c = q by omega] at this

/-- No quote from m on. -/
theorem res_none {zs : List Int} {m : Nat} (hm : ∀ j, j < m → ¬ Ends zs j) (h : idx (zs.drop m) 34 = -1) : Res zs zs.length := by
  right
  refine ⟨fun j hj he => ?_, rfl⟩
  by_cases hjm : j < m
  · exact hm j hjm he
  · apply idx_none _ _ h
    have : (zs.drop m)[j - m]? = some 34 := by
      rw [List.getElem?_drop, show m + (j - m) = j by omega, List.getElem?_eq_getElem hj]
      have := he.2
      simp [List.getD, hj] at this
      rw [this]
    exact List.mem_of_getElem? this

/-- The first quote from m on stands at m + x. -/
theorem quote_at {zs : List Int} {m x : Nat} (h : idx (zs.drop m) 34 = x) : m + x < zs.length ∧ zs.getD (m + x) 0 = 34 ∧ ∀ j, m ≤ j → j < m + x → zs.getD j 0 ≠ 34 := by
  have hl := idx_lt (zs.drop m) 34
  rw [h, List.length_drop] at hl
  obtain ⟨r, h1, h2, h3⟩ := idx_some _ _ _ h
  have ht : ((zs.drop m).take x).length = x := by rw [List.length_take, List.length_drop]; omega
  refine ⟨by omega, ?_, ?_⟩
  · have e : (zs.drop m)[x]? = some 34 := by
      rw [h1, List.getElem?_append_right (by omega), ht, Nat.sub_self]
      rfl
    rw [List.getElem?_drop] at e
    rw [List.getD_eq_getElem?_getD, e]
    rfl
  · intro j hj1 hj2 he
    apply h3
    have hjl : j < zs.length := by omega
    have : ((zs.drop m).take x)[j - m]? = some 34 := by
      rw [List.getElem?_take, if_pos (by omega), List.getElem?_drop, show m + (j - m) = j by omega, List.getElem?_eq_getElem hjl]
      rw [List.getD_eq_getElem?_getD, List.getElem?_eq_getElem hjl] at he
      exact congrArg some he
    exact List.mem_of_getElem? this

theorem not_ends_step {zs : List Int} {m x : Nat} (hm : ∀ j, j < m → ¬ Ends zs j) (hq : ∀ j, m ≤ j → j < m + x → zs.getD j 0 ≠ 34) : ∀ j, j < m + x → ¬ Ends zs j := by
  intro j hj he
  by_cases h : j < m
  · exact hm j h he
  · exact hq j (by omega) hj he.2

end Go.Proofs.Qxb6605406a
