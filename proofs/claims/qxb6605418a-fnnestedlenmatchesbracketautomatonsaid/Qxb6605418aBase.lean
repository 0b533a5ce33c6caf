import Derived.Test.Qxb6605418aRows
import Derived.WalkKit
import Derived.ProofKit
import Derived.Below
import Derived.Lib.BytesEntry
import Derived.WalkSpells
import Derived.WalkLawsBesides
import Derived.BigQuiet
import Derived.Deep.QuietTactic
import Derived.Lib.SliceRun
import Derived.Lib.Walk
namespace Go.Proofs.Qxb6605418a
open Go.RowKit
set_option linter.unusedVariables false

theorem Try.info5 : (Try.prog.info? 5).map (fun i => (i.zero, i.size, i.bytes)) = some (some (.int .u8 0), 1, 1) := by kernel_rfl

/-- The numbers of zs are bytes. -/
def Byts (zs : List Int) : Prop := ∀ z ∈ zs, 0 ≤ z ∧ z ≤ 255

theorem Byts.take {zs : List Int} (h : Byts zs) (k : Nat) : Byts (zs.take k) := fun z hz => h z (List.mem_of_mem_take hz)
theorem Byts.drop {zs : List Int} (h : Byts zs) (k : Nat) : Byts (zs.drop k) := fun z hz => h z (List.mem_of_mem_drop hz)

/-- The slice value '.slice a n c' reads as the numbers zs in w: it is nil and zs is empty, or it leads to a row that begins at ⟨b, o⟩. -/
def Rd (w : World) (a : Option Addr) (n c : Nat) (zs : List Int) : Prop :=
  zs.length = n ∧ n ≤ c ∧ c ≤ maxLen ∧
  ((a = none ∧ c = 0) ∨ ∃ b o, a = some ⟨b, o, none⟩ ∧ b < w.heap.size ∧ ∀ i, i < n → w.cell? ⟨b, o + i, none⟩ = some (.int .u8 (zs.getD i 0)))

theorem cell_lt {w : World} {a : Addr} {v : Value} (h : w.cell? a = some v) : a.block < w.heap.size := by
  apply Classical.byContradiction
  intro hn
  have : w.heap[a.block]? = none := by simp; omega
  simp [World.cell?, this] at h

/-- Where there is a first element the address is plain. -/
theorem row_form {w : World} {x : Addr} {len : Nat} {zs : List Int} (hc : ∀ i, i < len → w.cell? (x.add i) = some (.int .u8 (zs.getD i 0))) (h : 0 < len) :
    ∃ b o, x = ⟨b, o, none⟩ ∧ b < w.heap.size ∧ ∀ i, i < len → w.cell? ⟨b, o + i, none⟩ = some (.int .u8 (zs.getD i 0)) := by
  obtain ⟨b, off, spot⟩ := x
  have hck := hc 0 h
  have hspot : spot = none := by simpa [Addr.add] using World.cell?_spot hck
  subst hspot
  have hb : b < w.heap.size := by simpa [Addr.add] using cell_lt hck
  exact ⟨b, off, rfl, hb, fun i hi => by have := hc i hi; rwa [Addr.add_lit] at this⟩

/-- What the call owns can be read. -/
theorem rd_of_own {w : World} {base n : Nat} {v : Value} {zs : List Int} (h : w.ownsRow base 5 1 v n (zs.map (Value.int .u8))) :
    ∃ a c, v = .slice a n c ∧ Rd w a n c zs ∧ ∀ x, a = some x → v.ownBlock = some x.block ∧ base ≤ x.block := by
  have hlen : zs.length = n := by simpa using h.1
  rcases h.2 with ⟨rfl, rfl⟩ | ⟨g, cap, cur, rfl, hbg, hg, hnc, hcm, hcs, htake⟩
  · exact ⟨none, 0, rfl, ⟨hlen, Nat.le_refl _, Nat.zero_le _, .inl ⟨rfl, rfl⟩⟩, fun x hx => by cases hx⟩
  · refine ⟨some ⟨g, 0, none⟩, cap, rfl, ⟨hlen, hnc, hcm, .inr ⟨g, 0, rfl, ?_, ?_⟩⟩, fun x hx => by cases hx; exact ⟨rfl, hbg⟩⟩
    · exact (h.lt g rfl).2
    · intro i hi
      rw [Nat.zero_add, h.cellAt i (by omega)]
      simp [List.getD, show i < zs.length by omega]

/-- What can be read, read behind more calls that turn nothing of it. -/
theorem Rd.below {w w' : World} {a : Option Addr} {n c B : Nat} {zs : List Int} (h : Rd w a n c zs) (hb : Below B w w') (hB : ∀ x, a = some x → x.block < B) : Rd w' a n c zs := by
  refine ⟨h.1, h.2.1, h.2.2.1, ?_⟩
  rcases h.2.2.2 with h0 | ⟨b, o, rfl, hlt, hc⟩
  · exact .inl h0
  · exact .inr ⟨b, o, rfl, Nat.lt_of_lt_of_le hlt hb.size, fun i hi => (hb.cell (p := ⟨b, o + i, none⟩) (hB ⟨b, o, none⟩ rfl)).trans (hc i hi)⟩

theorem Rd.lt {w : World} {a : Option Addr} {n c : Nat} {zs : List Int} (h : Rd w a n c zs) : ∀ x, a = some x → x.block < w.heap.size := by
  intro x hx
  rcases h.2.2.2 with ⟨h0, _⟩ | ⟨b, o, h0, hlt, _⟩
  · rw [h0] at hx; cases hx
  · rw [h0] at hx; cases hx; exact hlt

theorem Rd.below' {w w' : World} {a : Option Addr} {n c : Nat} {zs : List Int} (h : Rd w a n c zs) (hb : Below w.heap.size w w') : Rd w' a n c zs := h.below hb h.lt

theorem Rd.kept {w w' : World} {a : Option Addr} {n c : Nat} {zs : List Int} {row : Option Nat} (h : Rd w a n c zs) (hg : w.grownBy w' row) (hne : ∀ x, a = some x → some x.block ≠ row) : Rd w' a n c zs := by
  refine ⟨h.1, h.2.1, h.2.2.1, ?_⟩
  rcases h.2.2.2 with h0 | ⟨b, o, rfl, hlt, hc⟩
  · exact .inl h0
  · exact .inr ⟨b, o, rfl, Nat.lt_of_lt_of_le hlt hg.size, fun i hi => hg.cell (hc i hi) (hne ⟨b, o, none⟩ rfl)⟩

theorem Rd.drewN {w : World} {a : Option Addr} {n c : Nat} {zs : List Int} (h : Rd w a n c zs) (k : Nat) : Rd (w.drewN k) a n c zs := by
  refine ⟨h.1, h.2.1, h.2.2.1, ?_⟩
  rcases h.2.2.2 with h0 | ⟨b, o, rfl, hlt, hc⟩
  · exact .inl h0
  · exact .inr ⟨b, o, rfl, by simpa using hlt, fun i hi => by simpa using hc i hi⟩

/-- Where there is an element the row is there. -/
theorem Rd.at {w : World} {a : Option Addr} {n c : Nat} {zs : List Int} (h : Rd w a n c zs) (hn : 0 < n) :
    ∃ b o, a = some ⟨b, o, none⟩ ∧ b < w.heap.size ∧ ∀ i, i < n → w.cell? ⟨b, o + i, none⟩ = some (.int .u8 (zs.getD i 0)) := by
  rcases h.2.2.2 with ⟨_, h0⟩ | h0
  · have := h.2.1; omega
  · exact h0

theorem dr1 (w : World) (a b : Nat) : ∃ q, (w.drewN a).drewN b = w.drewN q := ⟨_, World.drewN_drewN _ _ _⟩
theorem dr2 (w : World) (a b c : Nat) : ∃ q, ((w.drewN a).drewN b).drewN c = w.drewN q := ⟨_, by rw [World.drewN_drewN, World.drewN_drewN]⟩

/-! ### The first index of a number -/
def idx : List Int → Int → Int
  | [], _ => -1
  | z :: l, c => if z = c then 0 else if idx l c = -1 then -1 else idx l c + 1

theorem idx_ge : ∀ (l : List Int) (c : Int), -1 ≤ idx l c
  | [], c => by simp [idx]
  | z :: l, c => by
    have := idx_ge l c
    unfold idx
    split
    · omega
    · split <;> omega

theorem u8_eq {z c : Int} (hz : 0 ≤ z ∧ z ≤ 255) (hc : 0 ≤ c ∧ c ≤ 255) : (UInt8.ofNat z.toNat == c.toNat.toUInt8) = decide (z = c) := by
  rw [Bool.eq_iff_iff]
  simp only [beq_iff_eq, decide_eq_true_eq]
  constructor
  · intro h
    have := congrArg UInt8.toNat h
    simp at this
    omega
  · intro h; subst h; rfl

theorem idx_eq : ∀ (l : List Int) (c : Int), Byts l → (0 ≤ c ∧ c ≤ 255) → Lib.indexByte (Lib.bytesOf l) c.toNat.toUInt8 = idx l c
  | [], c, _, _ => rfl
  | z :: l, c, hb, hc => by
    have ih := idx_eq l c (fun y hy => hb y (List.mem_cons_of_mem _ hy)) hc
    have hz := hb z List.mem_cons_self
    unfold Lib.bytesOf at ih ⊢
    simp only [List.map_cons, Lib.indexByte, ih, u8_eq hz hc, idx, beq_iff_eq, decide_eq_true_eq]

theorem idx_lt : ∀ (l : List Int) (c : Int), idx l c < l.length
  | [], c => by simp [idx]
  | z :: l, c => by
    have := idx_lt l c
    unfold idx
    simp only [List.length_cons]
    split
    · omega
    · split <;> omega

theorem idx_none : ∀ (l : List Int) (c : Int), idx l c = -1 → c ∉ l
  | [], c, _ => by simp
  | z :: l, c, h => by
    unfold idx at h
    split at h
    · omega
    · rename_i hz
      split at h
      · rename_i h2
        have := idx_none l c h2
        simp [this, Ne.symm hz]
      · have := idx_ge l c; omega

theorem idx_some : ∀ (l : List Int) (c : Int) (k : Nat), idx l c = k → ∃ r, l = l.take k ++ c :: r ∧ l.drop (k + 1) = r ∧ c ∉ l.take k
  | [], c, k, h => by simp [idx] at h
  | z :: l, c, k, h => by
    unfold idx at h
    split at h
    · rename_i hz
      obtain rfl : k = 0 := by omega
      exact ⟨l, by simp [hz], by simp, by simp⟩
    · rename_i hz
      split at h
      · omega
      · obtain ⟨j, rfl⟩ : ∃ j, k = j + 1 := ⟨k - 1, by have := idx_ge l c; omega⟩
        obtain ⟨r, h1, h2, h3⟩ := idx_some l c j (by omega)
        refine ⟨r, ?_, by simpa using h2, ?_⟩
        · simp only [List.take_succ_cons, List.cons_append, List.cons.injEq, true_and]; exact h1
        · simp only [List.take_succ_cons, List.mem_cons, not_or]; exact ⟨Ne.symm hz, h3⟩

end Go.Proofs.Qxb6605418a
