import Derived.Test.Qxb6605418aModel
import Derived.Test.Qxb6605418aClone
import Derived.OpenShut
namespace Go.Proofs.Qxb6605418a
open Go.RowKit
set_option linter.unusedVariables false

set_option maxHeartbeats 1000000 in
/-- ZZNestedLen. -/
theorem zzlen_any (a : Option Addr) (n c : Nat) (zs : List Int) (w : World) (h : Rd w a n c zs) (hz : Byts zs) (hn : n ≤ 1048576) :
    Calls Try.prog 14 #[.slice a n c] w fun e w' => ∃ r : Nat, e = .returned (.int .i64 r) ∧ Res zs r ∧ w' = w := by
  go_enter Try.func14, Try.ntmps14
  go_wp2_with fail
  refine (nest_any a n c zs w h hz hn).mono ?_
  rintro e w1 ⟨r, rfl, hr, hw⟩
  have hw := hw.symm
  subst hw
  go_wp2
  go_ret
  exact ⟨r, rfl, hr, rfl⟩

set_option maxHeartbeats 1000000 in
theorem zz13_any (a0 : Option Addr) (l0 c0 : Nat) (w : World) :
    Calls Try.prog 13 #[.slice a0 l0 c0] w fun e w' => (∃ t, e = .returned (.bool t)) ∧ w' = w := by
  go_enter Try.func13, Try.ntmps13
  go_wp2
  all_goals
    go_ret
    exact ⟨⟨_, rfl⟩, rfl⟩

/-- What comes in as an argument. -/
def Came (w : World) (a : Option Addr) (len cap : Nat) (zs : List Int) : Prop :=
  (a = none ∧ len = 0 ∧ cap = 0 ∧ zs = []) ∨
  ∃ x, a = some x ∧ len ≤ cap ∧ cap ≤ maxLen ∧ zs.length = cap ∧ (∀ i, i < zs.length → w.cell? (x.add i) = some (.int .u8 (zs.getD i 0))) ∧ ∀ n ∈ zs, (Lit.int .u8 n).wf = true

theorem Came.byts {w : World} {a : Option Addr} {len cap : Nat} {zs : List Int} (h : Came w a len cap zs) : Byts (zs.take len) := by
  intro z hz
  rcases h with ⟨_, _, _, rfl⟩ | ⟨x, h1, h2, h3, h4, h5, h6⟩
  · simp at hz
  · have := bounds_u8 (h6 z (List.mem_of_mem_take hz))
    omega

theorem clone_came {a : Option Addr} {len cap : Nat} {zs : List Int} {w : World} (hm : len ≤ 1048576) (h : Came w a len cap zs) :
    Calls Try.prog 7 #[.slice a len cap] w fun e w' => ∃ a' c', e = .returned (.slice a' len c') ∧ Rd w' a' len c' (zs.take len) ∧ Below w.heap.size w w' := by
  refine (clone_any a len cap zs w hm ?_ ?_).mono ?_
  · rcases h with ⟨_, rfl, _, rfl⟩ | ⟨x, h1, h2, h3, h4, h5, h6⟩
    · simp
    · omega
  · rcases h with ⟨rfl, rfl, rfl, rfl⟩ | ⟨x, h1, h2, h3, h4, h5, h6⟩
    · exact .inl ⟨rfl, rfl, rfl⟩
    · exact .inr ⟨x, h1, fun i hi => h5 i (by omega)⟩
  · rintro e w' ⟨v, rfl, hown, hb⟩
    obtain ⟨a', c', rfl, hr, hx⟩ := rd_of_own hown
    exact ⟨a', c', rfl, hr, hb⟩

set_option maxHeartbeats 1000000 in
theorem law_any (a0 : Option Addr) (l0 c0 : Nat) (z0 : List Int) (w : World) (h0 : Came w a0 l0 c0 z0) :
    Calls Try.prog 5 #[.slice a0 l0 c0] w fun e w' => e = .returned (.bool true) ∧ Below w.heap.size w w' := by
  go_enter Try.func5, Try.ntmps5
  go_wp2_with fail
  refine (zz13_any a0 l0 c0 w).mono ?_
  rintro e w' ⟨⟨t, rfl⟩, hw⟩
  have hw := hw.symm
  subst hw
  cases t with
  | false =>
    go_wp2
    go_ret
    exact ⟨rfl, Below.refl _ _⟩
  | true =>
  by_cases g0 : 1048576 < l0
  · go_wp2
    go_ret
    exact ⟨rfl, Below.refl _ _⟩
  go_wp2_with fail
  refine (clone_came (by omega) h0).mono ?_
  rintro e w1 ⟨b0, d0, rfl, r0, s1⟩
  have y0 := h0.byts
  go_wp2_with fail
  refine (zzlen_any b0 l0 d0 _ w1 r0 y0 (by omega)).mono ?_
  rintro e w2 ⟨r, rfl, hr, hw⟩
  have hw := hw.symm
  subst hw
  go_wp2_with fail
  refine (model_any b0 l0 d0 _ w1 r0 (by omega)).mono ?_
  rintro e w2 ⟨r', rfl, hr', hw⟩
  have hw := hw.symm
  subst hw
  have heq := res_unique hr hr'
  subst heq
  go_wp2
  go_ret
  exact ⟨rfl, s1⟩
end Go.Proofs.Qxb6605418a
