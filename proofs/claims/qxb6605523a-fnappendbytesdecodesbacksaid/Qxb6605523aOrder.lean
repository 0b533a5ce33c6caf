import Derived.Test.Qxb6605523aEnc
import Derived.Test.Qxb6605523aCompare
import Derived.Test.Qxb6605523aClone
import Derived.OpenShut
namespace Go.Proofs.Qxb6605523a
open Go.RowKit
set_option linter.unusedVariables false

/-- THE PLAIN LAW: the encodings compare as the strings do, whatever follows; of equal strings what follows decides. -/
theorem cmp_enc : ∀ (s t x y : List Int), Byts s → Byts t → cmp (encP s ++ 0 :: 1 :: x) (encP t ++ 0 :: 1 :: y) = if cmp s t = 0 then cmp x y else cmp s t
  | [], [], x, y, _, _ => by simp [encP, cmp]
  | [], b :: t, x, y, _, ht => by
    have hb := ht b List.mem_cons_self
    by_cases h : b = 0
    · simp [encP, cmp, h]
    · have : 0 < b := by omega
      simp [encP, cmp, h, this]
  | a :: s, [], x, y, hs, _ => by
    have ha := hs a List.mem_cons_self
    by_cases h : a = 0
    · simp [encP, cmp, h]
    · have h1 : 0 < a := by omega
      have h2 : ¬ a < 0 := by omega
      simp [encP, cmp, h, h1, h2]
  | a :: s, b :: t, x, y, hs, ht => by
    have ha := hs a List.mem_cons_self
    have hb := ht b List.mem_cons_self
    have ih := cmp_enc s t x y (fun z hz => hs z (List.mem_cons_of_mem _ hz)) (fun z hz => ht z (List.mem_cons_of_mem _ hz))
    by_cases h : a = b
    · subst h
      by_cases h0 : a = 0
      · subst h0; simp [encP, cmp, ih]
      · simp [encP, cmp, h0, ih]
    · by_cases hlt : a < b
      · have hb0 : b ≠ 0 := by omega
        by_cases h0 : a = 0
        · subst h0; simp [encP, cmp, hb0, hlt]
        · simp [encP, cmp, hb0, h0, hlt]
      · have hgt : b < a := by omega
        have ha0 : a ≠ 0 := by omega
        by_cases h0 : b = 0
        · subst h0; simp [encP, cmp, ha0, hlt, hgt]
        · simp [encP, cmp, ha0, h0, hlt, hgt]

/-- What comes in as an argument. -/
def Came (w : World) (a : Option Addr) (len cap : Nat) (zs : List Int) : Prop :=
  (a = none ∧ len = 0 ∧ cap = 0 ∧ zs = []) ∨
  ∃ x, a = some x ∧ len ≤ cap ∧ cap ≤ maxLen ∧ zs.length = cap ∧ (∀ i, i < zs.length → w.cell? (x.add i) = some (.int .u8 (zs.getD i 0))) ∧ ∀ n ∈ zs, (Lit.int .u8 n).wf = true

theorem add_block (x : Addr) (i : Nat) : (x.add i).block = x.block := by unfold Addr.add; split <;> rfl

theorem Came.below {w w' : World} {a : Option Addr} {len cap : Nat} {zs : List Int} (h : Came w a len cap zs) (hb : Below w.heap.size w w') : Came w' a len cap zs := by
  rcases h with h | ⟨x, h1, h2, h3, h4, h5, h6⟩
  · exact .inl h
  · exact .inr ⟨x, h1, h2, h3, h4, fun i hi => (hb.cell (cell_lt (h5 i hi))).trans (h5 i hi), h6⟩

theorem Came.byts {w : World} {a : Option Addr} {len cap : Nat} {zs : List Int} (h : Came w a len cap zs) : Byts (zs.take len) := by
  intro z hz
  rcases h with ⟨_, _, _, rfl⟩ | ⟨x, h1, h2, h3, h4, h5, h6⟩
  · simp at hz
  · have := bounds_u8 (h6 z (List.mem_of_mem_take hz))
    omega

theorem Came.len {w : World} {a : Option Addr} {len cap : Nat} {zs : List Int} (h : Came w a len cap zs) : len ≤ 9223372036854775807 ∧ (zs.take len).length = len := by
  rcases h with ⟨_, rfl, _, rfl⟩ | ⟨x, h1, h2, h3, h4, h5, h6⟩
  · simp
  · unfold maxLen at h3; rw [List.length_take]; omega

theorem clone_came {a : Option Addr} {len cap : Nat} {zs : List Int} {w : World} (hm : len ≤ 1048576) (h : Came w a len cap zs) :
    Calls Try.prog 10 #[.slice a len cap] w fun e w' => ∃ a' c', e = .returned (.slice a' len c') ∧ Rd w' a' len c' (zs.take len) ∧ (∀ x, a' = some x → w.heap.size ≤ x.block) ∧ Below w.heap.size w w' := by
  refine (clone_any a len cap zs w hm ?_ ?_).mono ?_
  · rcases h with ⟨_, rfl, _, rfl⟩ | ⟨x, h1, h2, h3, h4, h5, h6⟩
    · simp
    · omega
  · rcases h with ⟨rfl, rfl, rfl, rfl⟩ | ⟨x, h1, h2, h3, h4, h5, h6⟩
    · exact .inl ⟨rfl, rfl, rfl⟩
    · exact .inr ⟨x, h1, fun i hi => h5 i (by omega)⟩
  · rintro e w' ⟨v, rfl, hown, hb⟩
    obtain ⟨a', c', rfl, hr, hx⟩ := rd_of_own hown
    exact ⟨a', c', rfl, hr, fun x h => (hx x h).2, hb⟩

set_option maxHeartbeats 1000000 in
theorem zz14_any (a0 : Option Addr) (l0 c0 : Nat) (a1 : Option Addr) (l1 c1 : Nat) (a2 : Option Addr) (l2 c2 : Nat) (a3 : Option Addr) (l3 c3 : Nat) (w : World) :
    Calls Try.prog 14 #[.slice a0 l0 c0, .slice a1 l1 c1, .slice a2 l2 c2, .slice a3 l3 c3] w fun e w' => (∃ t, e = .returned (.bool t)) ∧ w' = w := by
  go_enter Try.func14, Try.ntmps14
  go_wp2
  all_goals
    go_ret
    exact ⟨⟨_, rfl⟩, rfl⟩

end Go.Proofs.Qxb6605523a
