import Derived.Test.Qxb6605380aWord
namespace Go.Proofs.Qxb6605380a
open Go.RowKit
set_option linter.unusedVariables false

theorem grown_drewN {W w : World} (h : Grown W w) : ∀ n, Grown W (w.drewN n) := fun n => h

set_option maxHeartbeats 2000000 in
/-- ZZCursorWord. -/
theorem cursor_any (s : ByteArray) (w : World) (hs : s.size ≤ 1048576) : 
    Calls Try.prog 8 #[.string s] w fun e w' => ∃ st en, Skip s st ∧ End s st en ∧ e = .returned (.tuple #[.string (s.extract st en), .string (s.extract en s.size)]) ∧ ∀ W, Grown W w → Grown W w' := by
  go_enter Try.func8, Try.ntmps8
  go_wp2_with fail
  refine (word_any w.heap.size s _ hs (by simp) (by simp)).mono ?_
  rintro e w1 ⟨st, en, q, h1, h2, rfl, rfl⟩
  go_wp2
  go_quiet (fail)
  go_wp2
  go_ret2
  exact ⟨st, en, h1, h2, rfl, fun W hg => grown_drewN (Grown.setCell (grown_drewN (hg.alloc _ _) q) hg.2.2 _) nq⟩

/-- One word read off s: u is the word, v the rest. -/
def Cut (s : ByteArray) (st en : Nat) (u v : ByteArray) : Prop := Skip s st ∧ End s st en ∧ s.extract st en = u ∧ s.extract en s.size = v

theorem cursor_val (s : ByteArray) (w : World) (hs : s.size ≤ 1048576) : 
    Calls Try.prog 8 #[.string s] w fun e w' => ∃ st en u v, Cut s st en u v ∧ e = .returned (.tuple #[.string u, .string v]) ∧ ∀ W, Grown W w → Grown W w' := by
  refine (cursor_any s w hs).mono ?_
  rintro e w' ⟨st, en, h1, h2, rfl, h3⟩
  exact ⟨st, en, _, _, ⟨h1, h2, rfl, rfl⟩, rfl, h3⟩

theorem Cut.sizes {s : ByteArray} {st en : Nat} {u v : ByteArray} (h : Cut s st en u v) : st ≤ en ∧ en ≤ s.size ∧ u.size = en - st ∧ v.size = s.size - en := by
  refine ⟨h.2.1.1, h.2.1.2.1, ?_, ?_⟩
  · rw [← h.2.2.1, size_extract _ _ _ h.2.1.2.1]
  · rw [← h.2.2.2, size_extract _ _ _ (Nat.le_refl _)]

/-- The empty word comes exactly when the rest is used up. -/
theorem Cut.empty {s : ByteArray} {st en : Nat} {u v : ByteArray} (h : Cut s st en u v) (hu : u.size = 0) : v.size = 0 := by
  have hs := h.sizes
  by_cases hen : en < s.size
  · have h1 := (h.2.1.2.2.2 hen).2
    have e : en = st := by omega
    rw [e] at h1 hen
    rw [h.1.2.2 hen] at h1
    cases h1
  · omega

theorem Cut.head {s : ByteArray} {st en : Nat} {u v : ByteArray} (h : Cut s st en u v) (hu : 0 < u.size) : sp (byt u 0) = false := by
  have hs := h.sizes
  rw [← h.2.2.1, byt_extract _ _ _ _ (by omega) hs.2.1, Nat.add_zero]
  exact h.1.2.2 (by omega)

theorem Cut.next {s : ByteArray} {st en : Nat} {u v : ByteArray} (h : Cut s st en u v) (hv : 0 < v.size) : sp (byt v 0) = true := by
  have hs := h.sizes
  rw [← h.2.2.2, byt_extract _ _ _ _ (by omega) (Nat.le_refl _), Nat.add_zero]
  exact (h.2.1.2.2.2 (by omega)).2

end Go.Proofs.Qxb6605380a
