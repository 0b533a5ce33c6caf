import Derived.Lib.IndexLaws
namespace Go.Proofs.Qxb6605380a

/-- The byte at place k, as a number. -/
def byt (s : ByteArray) (k : Nat) : Int := ((s.data.toList.getD k 0).toNat : Int)

def sp (c : Int) : Bool := c == 32 || c == 9
def qu (c : Int) : Bool := c == 96 || c == 34

theorem byt_bd (s : ByteArray) (k : Nat) : 0 ≤ byt s k ∧ byt s k ≤ 255 := by
  unfold byt
  have := (s.data.toList.getD k 0).toNat_lt
  omega

theorem byt_get (s : ByteArray) (k : Nat) (h : k < s.size) : ((s[k]'h).toNat : Int) = byt s k := by
  unfold byt
  have h' : k < s.data.toList.length := by simpa using h
  have e : s.data.toList.getD k 0 = s[k] := by
    rw [List.getD_eq_getElem?_getD, List.getElem?_eq_getElem h']
    rfl
  rw [e]

theorem data_extract (s : ByteArray) (a b : Nat) : (s.extract a b).data = s.data.extract a b := by simp

theorem byt_extract (s : ByteArray) (a b k : Nat) (h : k < b - a) (hb : b ≤ s.size) : byt (s.extract a b) k = byt s (a + k) := by
  unfold byt
  have hb' : b ≤ s.data.size := hb
  rw [data_extract]
  congr 1
  congr 1
  simp only [List.getD_eq_getElem?_getD, Array.getElem?_toList]
  rw [Array.getElem?_extract, if_pos (by omega)]

theorem size_extract (s : ByteArray) (a b : Nat) (hb : b ≤ s.size) : (s.extract a b).size = b - a := by
  rw [ByteArray.size_extract]; omega

/-! ### The quote that is open -/
def stp (o c : Int) : Int := if o = 0 then (if qu c then c else 0) else if c = o then 0 else o

def opn (s : ByteArray) (st : Nat) : Nat → Int
  | 0 => 0
  | d + 1 => stp (opn s st d) (byt s (st + d))

def Skip (s : ByteArray) (st : Nat) : Prop := st ≤ s.size ∧ (∀ k, k < st → sp (byt s k) = true) ∧ (st < s.size → sp (byt s st) = false)
def Stop (s : ByteArray) (st p : Nat) : Prop := opn s st (p - st) = 0 ∧ sp (byt s p) = true
def End (s : ByteArray) (st en : Nat) : Prop := st ≤ en ∧ en ≤ s.size ∧ (∀ k, st ≤ k → k < en → ¬ Stop s st k) ∧ (en < s.size → Stop s st en)
/-- No quote is open at p, and the word has not ended before. -/
def Run (s : ByteArray) (st p : Nat) : Prop := st ≤ p ∧ p ≤ s.size ∧ opn s st (p - st) = 0 ∧ (∀ k, st ≤ k → k < p → ¬ Stop s st k)

theorem skip_unique {s : ByteArray} {a b : Nat} (ha : Skip s a) (hb : Skip s b) : a = b := by
  rcases Nat.lt_trichotomy a b with h | h | h
  · have h1 := hb.2.1 a h
    have h2 := ha.2.2 (by have := hb.1; omega)
    rw [h1] at h2; cases h2
  · exact h
  · have h1 := ha.2.1 b h
    have h2 := hb.2.2 (by have := ha.1; omega)
    rw [h1] at h2; cases h2

theorem end_unique {s : ByteArray} {st a b : Nat} (ha : End s st a) (hb : End s st b) : a = b := by
  rcases Nat.lt_trichotomy a b with h | h | h
  · exact absurd (ha.2.2.2 (by have := hb.2.1; omega)) (hb.2.2.1 a ha.1 h)
  · exact h
  · exact absurd (hb.2.2.2 (by have := ha.2.1; omega)) (ha.2.2.1 b hb.1 h)

theorem run_start {s : ByteArray} {st : Nat} (h : st ≤ s.size) : Run s st st :=
  ⟨Nat.le_refl _, h, by rw [Nat.sub_self]; rfl, fun k h1 h2 => by omega⟩

theorem end_size {s : ByteArray} {st : Nat} (h : Run s st s.size) : End s st s.size := ⟨h.1, h.2.1, h.2.2.2, fun h => by omega⟩

theorem end_stop {s : ByteArray} {st p : Nat} (h : Run s st p) (hs : sp (byt s p) = true) : End s st p := ⟨h.1, h.2.1, h.2.2.2, fun _ => ⟨h.2.2.1, hs⟩⟩

theorem opn_succ {s : ByteArray} {st p : Nat} (h : st ≤ p) : opn s st (p + 1 - st) = stp (opn s st (p - st)) (byt s p) := by
  have e : p + 1 - st = (p - st) + 1 := by omega
  rw [e]
  show stp _ (byt s (st + (p - st))) = _
  rw [show st + (p - st) = p by omega]

theorem run_plain {s : ByteArray} {st p : Nat} (h : Run s st p) (hp : p < s.size) (hs : sp (byt s p) = false) (hq : qu (byt s p) = false) : Run s st (p + 1) := by
  refine ⟨by have := h.1; omega, hp, ?_, ?_⟩
  · rw [opn_succ h.1, h.2.2.1]; simp [stp, hq]
  · intro k h1 h2
    by_cases hk : k = p
    · subst hk; intro hstop; rw [hstop.2] at hs; cases hs
    · exact h.2.2.2 k h1 (by omega)

/-- Behind a quote at p, as long as it does not come again, it stays open. -/
theorem opn_in {s : ByteArray} {st p : Nat} (h : Run s st p) (hq : qu (byt s p) = true) : ∀ d, (∀ k, p + 1 ≤ k → k < p + 1 + d → byt s k ≠ byt s p) → opn s st (p + 1 + d - st) = byt s p
  | 0, _ => by
    rw [Nat.add_zero, opn_succ h.1, h.2.2.1]; simp [stp, hq]
  | d + 1, hn => by
    have ih := opn_in h hq d (fun k h1 h2 => hn k h1 (by omega))
    have hne := hn (p + 1 + d) (by omega) (by omega)
    have hb : byt s p ≠ 0 := by
      intro e; rw [e] at hq; simp [qu] at hq
    rw [show p + 1 + (d + 1) = (p + 1 + d) + 1 by omega, opn_succ (by have := h.1; omega), ih]
    simp [stp, hb, hne]

theorem qu_ne {c : Int} (h : qu c = true) : c ≠ 0 := by
  intro e; rw [e] at h; simp [qu] at h

theorem run_quote {s : ByteArray} {st p e : Nat} (h : Run s st p) (hs : sp (byt s p) = false) (hq : qu (byt s p) = true) (he : p + 1 + e < s.size) (heq : byt s (p + 1 + e) = byt s p)
    (hn : ∀ k, p + 1 ≤ k → k < p + 1 + e → byt s k ≠ byt s p) : Run s st (p + e + 2) := by
  refine ⟨by have := h.1; omega, by omega, ?_, ?_⟩
  · rw [show p + e + 2 = (p + 1 + e) + 1 by omega, opn_succ (by have := h.1; omega), opn_in h hq e hn, heq]
    simp [stp, qu_ne hq]
  · intro k h1 h2
    by_cases hk : k < p
    · exact h.2.2.2 k h1 hk
    by_cases hk : k = p
    · subst hk; intro hstop; rw [hstop.2] at hs; cases hs
    · intro hstop
      have := opn_in h hq (k - (p + 1)) (fun j g1 g2 => hn j g1 (by omega))
      rw [show p + 1 + (k - (p + 1)) = k by omega, hstop.1] at this
      exact qu_ne hq this.symm

theorem end_quote {s : ByteArray} {st p : Nat} (h : Run s st p) (hp : p < s.size) (hs : sp (byt s p) = false) (hq : qu (byt s p) = true) 
    (hn : ∀ k, p + 1 ≤ k → k < s.size → byt s k ≠ byt s p) : End s st s.size := by
  refine ⟨by have := h.1; omega, Nat.le_refl _, ?_, fun h => by omega⟩
  intro k h1 h2
  by_cases hk : k < p
  · exact h.2.2.2 k h1 hk
  by_cases hk : k = p
  · subst hk; intro hstop; rw [hstop.2] at hs; cases hs
  · intro hstop
    have := opn_in h hq (k - (p + 1)) (fun j g1 g2 => hn j g1 (by omega))
    rw [show p + 1 + (k - (p + 1)) = k by omega, hstop.1] at this
    exact qu_ne hq this.symm

/-! ### strings.IndexByte of the rest -/
theorem byt_eq {s : ByteArray} {j p : Nat} : s.data.toList[j]? = some ((byt s p).toNat.toUInt8) ↔ j < s.size ∧ byt s j = byt s p := by
  have hp : (byt s p).toNat.toUInt8 = s.data.toList.getD p 0 := by
    unfold byt
    simp
  rw [hp]
  by_cases hj : j < s.size
  · have h' : j < s.data.toList.length := by simpa using hj
    rw [List.getElem?_eq_getElem h']
    constructor
    · intro h
      refine ⟨hj, ?_⟩
      have h := Option.some.inj h
      unfold byt
      rw [← h, List.getD_eq_getElem?_getD, List.getElem?_eq_getElem h']
      rfl
    · intro ⟨_, h⟩
      unfold byt at h
      rw [List.getD_eq_getElem?_getD, List.getElem?_eq_getElem h'] at h
      congr 1
      apply UInt8.toNat_inj.1
      have h2 : ((s.data.toList[j]).toNat : Int) = ((s.data.toList.getD p 0).toNat : Int) := h
      exact Int.ofNat.inj h2
  · have h' : ¬ j < s.data.toList.length := by simpa using hj
    rw [List.getElem?_eq_none (by omega)]
    simp [hj]

theorem extract_list (s : ByteArray) (a j : Nat) : (s.extract a s.size).data.toList[j]? = s.data.toList[a + j]? := by
  rw [data_extract]
  simp only [Array.getElem?_toList]
  by_cases h : a + j < s.data.size
  · rw [Array.getElem?_extract, if_pos (by show j < min s.data.size s.data.size - a; omega)]
  · rw [Array.getElem?_eq_none (by rw [Array.size_extract]; omega), Array.getElem?_eq_none (by omega)]

def look (s : ByteArray) (p : Nat) : Int := Lib.indexByte (s.extract (p + 1) s.size).data.toList (byt s p).toNat.toUInt8

theorem look_none {s : ByteArray} {p : Nat} (h : look s p = -1) : ∀ k, p + 1 ≤ k → k < s.size → byt s k ≠ byt s p := by
  intro k h1 h2 e
  have := Lib.indexByte_none h (k - (p + 1))
  rw [extract_list, show p + 1 + (k - (p + 1)) = k by omega] at this
  exact this (byt_eq.2 ⟨h2, e⟩)

theorem look_some {s : ByteArray} {p e : Nat} (h : look s p = e) : p + 1 + e < s.size ∧ byt s (p + 1 + e) = byt s p ∧ ∀ k, p + 1 ≤ k → k < p + 1 + e → byt s k ≠ byt s p := by
  obtain ⟨h1, h2⟩ := Lib.indexByte_some h
  rw [extract_list] at h1
  obtain ⟨g1, g2⟩ := byt_eq.1 h1
  refine ⟨g1, g2, fun k k1 k2 ek => ?_⟩
  have := h2 (k - (p + 1)) (by omega)
  rw [extract_list, show p + 1 + (k - (p + 1)) = k by omega] at this
  exact this (byt_eq.2 ⟨by omega, ek⟩)

theorem look_ge (s : ByteArray) (p : Nat) : -1 ≤ look s p := Lib.indexByte_ge _ _

end Go.Proofs.Qxb6605380a
