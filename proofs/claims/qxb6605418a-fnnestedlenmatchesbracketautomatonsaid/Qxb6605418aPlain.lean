import Derived.Test.Qxb6605418aBase
namespace Go.Proofs.Qxb6605418a
open Go.RowKit
set_option linter.unusedVariables false

theorem hide {p : Prop} (h : p) : Hid p := h

/-- Is the byte at place k escaped? -/
def esc (zs : List Int) : Nat → Bool
  | 0 => false
  | k + 1 => !(esc zs k) && zs.getD k 0 == 92

/-- A quote that is not escaped stands at k. -/
def Ends (zs : List Int) (k : Nat) : Prop := esc zs k = false ∧ zs.getD k 0 = 34

/-- The length of a string that opens at 0: one past the first quote from 1 on that is not escaped, or the whole length. -/
def SLen (zs : List Int) (r : Nat) : Prop :=
  (∃ q, 1 ≤ q ∧ q < zs.length ∧ Ends zs q ∧ (∀ j, 1 ≤ j → j < q → ¬ Ends zs j) ∧ r = q + 1) ∨ ((∀ j, 1 ≤ j → j < zs.length → ¬ Ends zs j) ∧ r = zs.length)

/-- Behind a byte that is no backslash, and at the head, nothing is escaped. -/
theorem esc_start {zs : List Int} {p : Nat} (h : p = 0 ∨ zs.getD (p - 1) 0 ≠ 92) : esc zs p = false := by
  match p, h with
  | 0, _ => rfl
  | k + 1, h =>
    rcases h with h | h
    · omega
    · have h' : (zs.getD k 0 == 92) = false := by simpa using h
      simp only [esc, h', Bool.and_false]

/-- A run of c backslashes from p on. -/
theorem esc_run {zs : List Int} {p : Nat} (h0 : esc zs p = false) : ∀ c, (∀ j, p ≤ j → j < p + c → zs.getD j 0 = 92) → esc zs (p + c) = decide (c % 2 = 1)
  | 0, _ => by simpa using h0
  | c + 1, h => by
    have ih := esc_run h0 c (fun j h1 h2 => h j h1 (by omega))
    have hz : (zs.getD (p + c) 0 == 92) = true := by rw [h (p + c) (by omega) (by omega)]; rfl
    rw [show p + (c + 1) = (p + c) + 1 by omega]
    simp only [esc, ih, hz, Bool.and_true]
    by_cases hc : c % 2 = 1
    · have : ¬ (c + 1) % 2 = 1 := by omega
      simp [hc, this]
    · have : (c + 1) % 2 = 1 := by omega
      simp [hc, this]

/-- What the count of the backslashes ahead of q tells. -/
theorem esc_count {zs : List Int} {q c : Nat} (hc : c ≤ q) (hrun : ∀ j, q - c ≤ j → j < q → zs.getD j 0 = 92) (hstop : c = q ∨ zs.getD (q - c - 1) 0 ≠ 92) : esc zs q = decide (c % 2 = 1) := by
  have h0 : esc zs (q - c) = false := by
    apply esc_start
    rcases hstop with h | h
    · left; omega
    · right; exact h
  have := esc_run h0 c (fun j h1 h2 => hrun j h1 (by omega))
  rwa [show q - c + c = q by omega] at this

/-- No quote from m on. -/
theorem slen_none {zs : List Int} {m : Nat} (hm : ∀ j, 1 ≤ j → j < m → ¬ Ends zs j) (h : idx (zs.drop m) 34 = -1) : SLen zs zs.length := by
  right
  refine ⟨fun j h1 hj he => ?_, rfl⟩
  by_cases hjm : j < m
  · exact hm j h1 hjm he
  · apply idx_none _ _ h
    have : (zs.drop m)[j - m]? = some 34 := by
      rw [List.getElem?_drop, show m + (j - m) = j by omega, List.getElem?_eq_getElem hj]
      have := he.2
      simp [List.getD, hj] at this
      rw [this]
    exact List.mem_of_getElem? this

/-- The first quote from m on stands at m + x. -/
theorem quote_at {zs : List Int} {m x : Nat} (h : idx (zs.drop m) 34 = x) : m + x < zs.length ∧ zs.getD (m + x) 0 = 34 ∧ ∀ j, m ≤ j → j < m + x → zs.getD j 0 ≠ 34 := by
  have hl := idx_lt (zs.drop m) 34
  rw [h, List.length_drop] at hl
  obtain ⟨r, h1, h2, h3⟩ := idx_some _ _ _ h
  have ht : ((zs.drop m).take x).length = x := by rw [List.length_take, List.length_drop]; omega
  refine ⟨by omega, ?_, ?_⟩
  · have e : (zs.drop m)[x]? = some 34 := by
      rw [h1, List.getElem?_append_right (by omega), ht, Nat.sub_self]
      rfl
    rw [List.getElem?_drop] at e
    rw [List.getD_eq_getElem?_getD, e]
    rfl
  · intro j hj1 hj2 he
    apply h3
    have hjl : j < zs.length := by omega
    have : ((zs.drop m).take x)[j - m]? = some 34 := by
      rw [List.getElem?_take, if_pos (by omega), List.getElem?_drop, show m + (j - m) = j by omega, List.getElem?_eq_getElem hjl]
      rw [List.getD_eq_getElem?_getD, List.getElem?_eq_getElem hjl] at he
      exact congrArg some he
    exact List.mem_of_getElem? this

theorem not_ends_step {zs : List Int} {m x : Nat} (hm : ∀ j, 1 ≤ j → j < m → ¬ Ends zs j) (hq : ∀ j, m ≤ j → j < m + x → zs.getD j 0 ≠ 34) : ∀ j, 1 ≤ j → j < m + x → ¬ Ends zs j := by
  intro j h1 hj he
  by_cases h : j < m
  · exact hm j h1 h he
  · exact hq j (by omega) hj he.2

theorem len_odd {zs : List Int} {q k : Nat} (hn : ∀ j, 1 ≤ j → j < q → ¬ Ends zs j) (he : esc zs q = decide (k % 2 = 1)) (hp : k % 2 = 1) : ∀ j, 1 ≤ j → j < q + 1 → ¬ Ends zs j := by
  intro j h1 hj hx
  by_cases e : j = q
  · subst e; have := hx.1; rw [he] at this; simp [hp] at this
  · exact hn j h1 (by omega) hx

theorem len_even {zs : List Int} {q k : Nat} (h1 : 1 ≤ q) (hl : q < zs.length) (hn : ∀ j, 1 ≤ j → j < q → ¬ Ends zs j) (hq : zs.getD q 0 = 34) (he : esc zs q = decide (k % 2 = 1)) (hp : ¬ k % 2 = 1) : SLen zs (q + 1) :=
  .inl ⟨q, h1, hl, ⟨by rw [he]; simp [hp], hq⟩, hn, rfl⟩

/-! ### The automaton -/
def nxt (s : Nat) (z : Int) : Nat := if s = 2 then 1 else if s = 1 then (if z = 92 then 2 else if z = 34 then 0 else 1) else (if z = 34 then 1 else 0)
def br (z : Int) : Int := if z = 123 ∨ z = 91 then 1 else if z = 125 ∨ z = 93 then -1 else 0

/-- The state ahead of place k. -/
def stt (zs : List Int) : Nat → Nat
  | 0 => 0
  | k + 1 => nxt (stt zs k) (zs.getD k 0)

/-- Opened less closed ahead of place k. -/
def dep (zs : List Int) : Nat → Int
  | 0 => 0
  | k + 1 => dep zs k + if stt zs k = 0 then br (zs.getD k 0) else 0

/-- The closing bracket that ends it. -/
def Stop (zs : List Int) (k : Nat) : Prop := stt zs k = 0 ∧ br (zs.getD k 0) = -1 ∧ dep zs (k + 1) = 0

def Res (zs : List Int) (r : Nat) : Prop :=
  (∃ k, k < zs.length ∧ Stop zs k ∧ (∀ j, j < k → ¬ Stop zs j) ∧ r = k + 1) ∨ ((∀ j, j < zs.length → ¬ Stop zs j) ∧ r = zs.length)

theorem res_unique {zs : List Int} {a b : Nat} (ha : Res zs a) (hb : Res zs b) : a = b := by
  rcases ha with ⟨k, hk, he, hn, rfl⟩ | ⟨hn, rfl⟩
  · rcases hb with ⟨k', hk', he', hn', rfl⟩ | ⟨hn', rfl⟩
    · rcases Nat.lt_trichotomy k k' with h | h | h
      · exact absurd he (hn' k h)
      · rw [h]
      · exact absurd he' (hn k' h)
    · exact absurd he (hn' k hk)
  · rcases hb with ⟨k', hk', he', hn', rfl⟩ | ⟨hn', rfl⟩
    · exact absurd he' (hn k' hk')
    · rfl

theorem stt_le (zs : List Int) (k : Nat) : stt zs k = 0 ∨ stt zs k = 1 ∨ stt zs k = 2 := by
  match k with
  | 0 => left; rfl
  | k + 1 =>
    show nxt _ _ = 0 ∨ nxt _ _ = 1 ∨ nxt _ _ = 2
    unfold nxt
    repeat' split
    all_goals simp

theorem no_stop_step {zs : List Int} {k : Nat} (h : ∀ j, j < k → ¬ Stop zs j) (hk : ¬ Stop zs k) : ∀ j, j < k + 1 → ¬ Stop zs j := by
  intro j hj
  by_cases e : j = k
  · subst e; exact hk
  · exact h j (by omega)

/-- Inside a string that opened at i. -/
theorem in_string {zs : List Int} {i : Nat} (h0 : stt zs i = 0) (hq : zs.getD i 0 = 34) : ∀ d, (∀ j, 1 ≤ j → j < d + 1 → ¬ Ends (zs.drop i) j) → stt zs (i + (d + 1)) = (if esc (zs.drop i) (d + 1) then 2 else 1) ∧ dep zs (i + (d + 1)) = dep zs i
  | 0, _ => by
    have e0 : (zs.drop i).getD 0 0 = 34 := by rw [← hq]; simp [List.getD]
    constructor
    · show nxt (stt zs i) (zs.getD i 0) = _
      rw [h0, hq]
      show 1 = if (!(esc (zs.drop i) 0) && (zs.drop i).getD 0 0 == 92) then 2 else 1
      rw [e0]; rfl
    · show dep zs i + (if stt zs i = 0 then br (zs.getD i 0) else 0) = _
      rw [if_pos h0, hq]; simp [br]
  | d + 1, hn => by
    obtain ⟨ih1, ih2⟩ := in_string h0 hq d (fun j h1 h2 => hn j h1 (by omega))
    have hne := hn (d + 1) (by omega) (by omega)
    have eg : (zs.drop i).getD (d + 1) 0 = zs.getD (i + (d + 1)) 0 := by simp [List.getD]
    have hnz : stt zs (i + (d + 1)) ≠ 0 := by rw [ih1]; split <;> simp
    rw [show i + (d + 1 + 1) = (i + (d + 1)) + 1 by omega]
    constructor
    · show nxt (stt zs (i + (d + 1))) (zs.getD (i + (d + 1)) 0) = if (!(esc (zs.drop i) (d + 1)) && (zs.drop i).getD (d + 1) 0 == 92) then 2 else 1
      rw [ih1, eg]
      cases he : esc (zs.drop i) (d + 1)
      · have hz : zs.getD (i + (d + 1)) 0 ≠ 34 := fun e => hne ⟨he, by rw [eg]; exact e⟩
        by_cases h92 : zs.getD (i + (d + 1)) 0 = 92
        · rw [h92]; simp [nxt]
        · have hb : (zs.getD (i + (d + 1)) 0 == 92) = false := by simpa using h92
          rw [hb]
          simp only [nxt, Bool.not_false, Bool.true_and, Bool.false_eq_true, if_false, if_neg h92, if_neg hz]
          simp
      · simp [nxt]
    · show dep zs (i + (d + 1)) + (if stt zs (i + (d + 1)) = 0 then br (zs.getD (i + (d + 1)) 0) else 0) = _
      rw [if_neg hnz, ih2, Int.add_zero]

theorem not_stop_in {zs : List Int} {i : Nat} (h0 : stt zs i = 0) (hq : zs.getD i 0 = 34) {d : Nat} (hn : ∀ j, 1 ≤ j → j < d → ¬ Ends (zs.drop i) j) : ¬ Stop zs (i + d) := by
  match d with
  | 0 =>
    intro h
    have := h.2.1
    rw [Nat.add_zero, hq] at this
    simp [br] at this
  | d + 1 =>
    intro h
    have h1 := (in_string h0 hq d (fun j a b => hn j a b)).1
    rw [h.1] at h1
    split at h1 <;> simp at h1

/-- The step over a string. -/
theorem over_string {zs : List Int} {i r : Nat} (hi : i < zs.length) (h0 : stt zs i = 0) (hq : zs.getD i 0 = 34) (hs : ∀ j, j < i → ¬ Stop zs j) (hr : SLen (zs.drop i) r) :
    1 ≤ r ∧ i + r ≤ zs.length ∧ (∀ j, j < i + r → ¬ Stop zs j) ∧ (i + r < zs.length → stt zs (i + r) = 0 ∧ dep zs (i + r) = dep zs i) := by
  rcases hr with ⟨q, h1, h2, he, hn, rfl⟩ | ⟨hn, rfl⟩
  · rw [List.length_drop] at h2
    obtain ⟨d, rfl⟩ : ∃ d, q = d + 1 := ⟨q - 1, by omega⟩
    obtain ⟨a1, a2⟩ := in_string h0 hq d hn
    rw [he.1] at a1
    have eg : (zs.drop i).getD (d + 1) 0 = zs.getD (i + (d + 1)) 0 := by simp [List.getD]
    have hz : zs.getD (i + (d + 1)) 0 = 34 := by rw [← eg]; exact he.2
    refine ⟨by omega, by omega, ?_, ?_⟩
    · intro j hj
      by_cases hji : j < i
      · exact hs j hji
      · have := not_stop_in h0 hq (d := j - i) (fun k k1 k2 => hn k k1 (by omega))
        rwa [show i + (j - i) = j by omega] at this
    · intro _
      rw [show i + (d + 1 + 1) = (i + (d + 1)) + 1 by omega]
      constructor
      · show nxt (stt zs (i + (d + 1))) (zs.getD (i + (d + 1)) 0) = 0
        rw [a1, hz]; simp [nxt]
      · show dep zs (i + (d + 1)) + (if stt zs (i + (d + 1)) = 0 then br (zs.getD (i + (d + 1)) 0) else 0) = _
        rw [a1, a2]; simp
  · rw [List.length_drop] at hn
    rw [List.length_drop]
    refine ⟨by omega, by omega, ?_, fun h => by omega⟩
    intro j hj
    by_cases hji : j < i
    · exact hs j hji
    · have := not_stop_in h0 hq (d := j - i) (fun k k1 k2 => hn k k1 (by omega))
      rwa [show i + (j - i) = j by omega] at this

/-- A step outside strings. -/
theorem out_step {zs : List Int} {k : Nat} (h0 : stt zs k = 0) (hz : zs.getD k 0 ≠ 34) : stt zs (k + 1) = 0 ∧ dep zs (k + 1) = dep zs k + br (zs.getD k 0) := by
  constructor
  · show nxt _ _ = 0
    rw [h0]; simp only [nxt, if_neg hz]; rfl
  · show dep zs k + (if stt zs k = 0 then br (zs.getD k 0) else 0) = _
    rw [if_pos h0]

end Go.Proofs.Qxb6605418a
