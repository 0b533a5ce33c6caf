import Derived.Test.Qxb6605523aDecode
import Derived.Test.Qxb6605523aOrderWalk
namespace Go.Proofs.Qxb6605523a
open Go.RowKit
set_option linter.unusedVariables false

theorem grown_of_below {w w' : World} (h : Below w.heap.size w w') : w.grownBy w' none := ⟨h.os, h.tape, h.output, h.size, fun k hk _ => h.block k hk⟩

theorem own_below {w w' : World} {base n : Nat} {v : Value} {xs : List Value} (h : w.ownsRow base 5 1 v n xs) (hb : Below w.heap.size w w') : w'.ownsRow base 5 1 v n xs := by
  refine h.kept (grown_of_below hb) ?_
  cases v.ownBlock with
  | none => exact .inl rfl
  | some k => exact .inr (by simp)

theorem clone_own {a : Option Addr} {len cap : Nat} {zs : List Int} {w : World} (hm : len ≤ 1048576) (h : Came w a len cap zs) :
    Calls Try.prog 10 #[.slice a len cap] w fun e w' => ∃ a' c', e = .returned (.slice a' len c') ∧ w'.ownsRow w.heap.size 5 1 (.slice a' len c') len ((zs.take len).map (Value.int .u8)) ∧ Rd w' a' len c' (zs.take len) ∧ Below w.heap.size w w' := by
  refine (clone_any a len cap zs w hm ?_ ?_).mono ?_
  · rcases h with ⟨_, rfl, _, rfl⟩ | ⟨x, h1, h2, h3, h4, h5, h6⟩
    · simp
    · omega
  · rcases h with ⟨rfl, rfl, rfl, rfl⟩ | ⟨x, h1, h2, h3, h4, h5, h6⟩
    · exact .inl ⟨rfl, rfl, rfl⟩
    · exact .inr ⟨x, h1, fun i hi => h5 i (by omega)⟩
  · rintro e w' ⟨v, rfl, hown, hb⟩
    obtain ⟨a', c', rfl, hr, hx⟩ := rd_of_own hown
    exact ⟨a', c', rfl, hown, hr, hb⟩

theorem clone_rd' {a : Option Addr} {len cap : Nat} {zs : List Int} {w : World} (hm : len ≤ 1048576) (h : Rd w a len cap zs) :
    Calls Try.prog 10 #[.slice a len cap] w fun e w' => ∃ a' c', e = .returned (.slice a' len c') ∧ Rd w' a' len c' zs ∧ (∀ x, a' = some x → w.heap.size ≤ x.block) ∧ Below w.heap.size w w' := by
  refine (clone_rd a len cap zs w hm h).mono ?_
  rintro e w' ⟨v, rfl, hown, hb⟩
  obtain ⟨a', c', rfl, hr, hx⟩ := rd_of_own hown
  exact ⟨a', c', rfl, hr, fun x h => (hx x h).2, hb⟩

theorem appendBytes_rd {B : Nat} {v : Value} {nb : Nat} {ys : List Int} {a : Option Addr} {n c : Nat} {zs : List Int} {w : World}
    (hown : w.ownsRow B 5 1 v nb (ys.map (Value.int .u8))) (hB : B ≤ w.heap.size) (hr : Rd w a n c zs) (hz : Byts zs) (hne : ∀ x, a = some x → some x.block ≠ v.ownBlock) (hsz : nb + 2 * n ≤ 1073741824) :
    Calls Try.prog 11 #[v, .slice a n c] w fun e w' => ∃ b o N c', e = .returned (.slice (some ⟨b, o, none⟩) N c') ∧ nb ≤ N ∧ N ≤ c' ∧ c' ≤ 9223372036854775807 ∧ Rd w' (some ⟨b, o, none⟩) N c' (ys ++ encP zs ++ [0, 1]) ∧ w.grownBy w' v.ownBlock ∧ Below B w w' := by
  refine (appendBytes_any B v nb _ a n c zs w hown hB hr hz hne hsz).mono ?_
  rintro e w' ⟨v', rfl, hown', hg⟩
  have hown2 : w'.ownsRow B 5 1 v' (nb + (encP zs).length + 2) ((ys ++ encP zs ++ [0, 1]).map (Value.int .u8)) := own_cast hown' rfl (by simp)
  obtain ⟨a', c', rfl, hr', _⟩ := rd_of_own hown2
  obtain ⟨b, o, rfl, _, _⟩ := hr'.at (by omega)
  exact ⟨b, o, _, c', rfl, by omega, hr'.2.1, hr'.2.2.1, hr', hg.grown, hg.below hown hB⟩

set_option maxHeartbeats 1000000 in
theorem zz9_any (a0 : Option Addr) (l0 c0 : Nat) (a1 : Option Addr) (l1 c1 : Nat) (w : World) :
    Calls Try.prog 9 #[.slice a0 l0 c0, .slice a1 l1 c1] w fun e w' => (∃ t, e = .returned (.bool t)) ∧ w' = w := by
  go_enter Try.func9, Try.ntmps9
  go_wp2
  all_goals
    go_ret
    exact ⟨⟨_, rfl⟩, rfl⟩

set_option maxHeartbeats 1000000 in
theorem back_any (a0 : Option Addr) (l0 c0 : Nat) (z0 : List Int) (a1 : Option Addr) (l1 c1 : Nat) (z1 : List Int) (w : World) (h0 : Came w a0 l0 c0 z0) (h1 : Came w a1 l1 c1 z1) :
    Calls Try.prog 3 #[.slice a0 l0 c0, .slice a1 l1 c1] w fun e w' => e = .returned (.bool true) ∧ Below w.heap.size w w' := by
  go_enter Try.func3, Try.ntmps3
  go_wp2_with fail
  refine (zz9_any a0 l0 c0 a1 l1 c1 w).mono ?_
  rintro e w' ⟨⟨t, rfl⟩, hw⟩
  subst hw
  cases t with
  | false =>
    go_wp2
    go_ret
    exact ⟨rfl, Below.refl _ _⟩
  | true =>
  by_cases g0 : 524288 < l0
  · go_wp2
    go_ret
    exact ⟨rfl, Below.refl _ _⟩
  by_cases g1 : 524288 < l1
  · go_wp2
    go_ret
    exact ⟨rfl, Below.refl _ _⟩
  go_wp2_with fail
  refine (clone_own (by omega) h0).mono ?_
  rintro e w1 ⟨b0, d0, rfl, o0, r0, s1⟩
  go_wp2_with fail
  refine (clone_came (by omega) (h1.below s1)).mono ?_
  rintro e w2 ⟨b1, d1, rfl, r1, q1, s2⟩
  have t2 := s1.trans (s2.mono s1.size)
  have r0' := r0.below' s2
  go_wp2_with fail
  refine (clone_rd' (by omega) r0').mono ?_
  rintro e w3 ⟨b2, d2, rfl, r2, q2, s3⟩
  have t3 := t2.trans (s3.mono t2.size)
  have O3 := own_below (own_below o0 s2) s3
  have R1 := r1.below' s3
  have y1 := h1.byts
  have hlt0 : ∀ k, (Value.slice b0 l0 d0).ownBlock = some k → k < w1.heap.size := fun k hk => (o0.lt k hk).2
  have ne1 : ∀ x, b1 = some x → some x.block ≠ (Value.slice b0 l0 d0).ownBlock := fun x hx e => by have := hlt0 _ e.symm; have := q1 x hx; omega
  have ne2 : ∀ x, b2 = some x → some x.block ≠ (Value.slice b0 l0 d0).ownBlock := fun x hx e => by have := hlt0 _ e.symm; have := q2 x hx; have := s2.size; omega
  have hl0 := h0.len.2
  clear r0 r0' r1 h0 h1 o0 s1 s2 s3 t2 q1 q2 hlt0
  generalize z0.take l0 = ys at *
  generalize z1.take l1 = zs at *
  have HL := hide hl0
  clear hl0
  go_wp2_with fail
  refine (appendBytes_rd O3 t3.size R1 y1 ne1 (by omega)).mono ?_
  rintro e w4 ⟨b, o, N, c, rfl, hN, hNc, hcm, R4, G4, B4⟩
  have R2 := r2.kept G4 ne2
  have S1 := R1.kept G4 ne1
  have fin := t3.trans B4
  have R5 : Rd w4 (some ⟨b, o, none⟩) l0 c ys := by
    have := R4.head l0 hN
    rwa [List.append_assoc, List.take_append, List.take_of_length_le (by rw [HL.out]; exact Nat.le_refl _), HL.out, Nat.sub_self, List.take_zero, List.append_nil] at this
  have C1 := hide (equal_same _ _ _ _ _ _ w4 R5 R2)
  have C2 := fun q => decode_any _ _ _ ys zs _ _ _ (w4.drewN q) (R4.drewN q) (S1.drewN q)
  rw [HL.out] at C2
  have C2' := hide C2
  clear C2 R5 R2 S1 R4 G4 B4 ne1 ne2 O3 R1 r2 y1
  go_wp2_with fail
  refine C1.out.mono ?_
  rintro e w5 ⟨rfl, q1, rfl⟩
  go_wp2_with fail
  refine (C2'.out q1).mono ?_
  rintro e w5 ⟨rfl, rfl⟩
  go_wp2
  go_ret
  exact ⟨rfl, below_drewN fin _⟩
end Go.Proofs.Qxb6605523a
