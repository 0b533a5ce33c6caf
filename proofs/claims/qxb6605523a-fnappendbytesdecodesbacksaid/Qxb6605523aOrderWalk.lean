import Derived.Test.Qxb6605523aOrder
namespace Go.Proofs.Qxb6605523a
open Go.RowKit
set_option linter.unusedVariables false

theorem Grows.below {w w' : World} {v v' : Value} {B n : Nat} {xs : List Value} (h : Grows w v w' v') (hown : w.ownsRow B 5 1 v n xs) (hB : B ≤ w.heap.size) : Below B w w' :=
  (Below.refl _ _).grown h.grown hB (fun k hk => (hown.lt k hk).1)

/-- A value that reads as zs. -/
def RdV (w : World) (v : Value) (zs : List Int) : Prop := ∃ a n c, v = .slice a n c ∧ Rd w a n c zs

theorem RdV.below' {w w' : World} {v : Value} {zs : List Int} (h : RdV w v zs) (hb : Below w.heap.size w w') : RdV w' v zs := by
  obtain ⟨a, n, c, e, h⟩ := h
  exact ⟨a, n, c, e, h.below' hb⟩
theorem RdV.drewN {w : World} {v : Value} {zs : List Int} (h : RdV w v zs) (q : Nat) : RdV (w.drewN q) v zs := by
  obtain ⟨a, n, c, e, h⟩ := h
  exact ⟨a, n, c, e, h.drewN q⟩
theorem RdV.own {w : World} {base n : Nat} {v : Value} {zs : List Int} (h : w.ownsRow base 5 1 v n (zs.map (Value.int .u8))) : RdV w v zs := by
  obtain ⟨a, c, e, h, _⟩ := rd_of_own h
  exact ⟨a, n, c, e, h⟩
theorem compare_val {v1 v2 : Value} {s t : List Int} {w : World} (h1 : RdV w v1 s) (h2 : RdV w v2 t) :
    Calls Try.prog 15 #[v1, v2] w fun e w' => e = .returned (.int .i64 (cmp s t)) ∧ ∃ q, w' = w.drewN q := by
  obtain ⟨a1, n1, c1, rfl, h1⟩ := h1
  obtain ⟨a2, n2, c2, rfl, h2⟩ := h2
  exact compare_any a1 n1 c1 s a2 n2 c2 t w h1 h2

set_option maxHeartbeats 1000000 in
theorem order_any (a0 : Option Addr) (l0 c0 : Nat) (z0 : List Int) (a1 : Option Addr) (l1 c1 : Nat) (z1 : List Int) (a2 : Option Addr) (l2 c2 : Nat) (z2 : List Int) (a3 : Option Addr) (l3 c3 : Nat) (z3 : List Int) (w : World)
    (h0 : Came w a0 l0 c0 z0) (h1 : Came w a1 l1 c1 z1) (h2 : Came w a2 l2 c2 z2) (h3 : Came w a3 l3 c3 z3) :
    Calls Try.prog 4 #[.slice a0 l0 c0, .slice a1 l1 c1, .slice a2 l2 c2, .slice a3 l3 c3] w fun e w' => e = .returned (.bool true) ∧ Below w.heap.size w w' := by
  go_enter Try.func4, Try.ntmps4
  go_wp2_with fail
  refine (zz14_any a0 l0 c0 a1 l1 c1 a2 l2 c2 a3 l3 c3 w).mono ?_
  rintro e w' ⟨⟨t, rfl⟩, hw⟩
  subst hw
  cases t with
  | false =>
    go_wp2
    go_ret
    exact ⟨rfl, Below.refl _ _⟩
  | true =>
  by_cases g0 : 262144 < l0
  · go_wp2
    go_ret
    exact ⟨rfl, Below.refl _ _⟩
  by_cases g1 : 262144 < l1
  · go_wp2
    go_ret
    exact ⟨rfl, Below.refl _ _⟩
  by_cases g2 : 262144 < l2
  · go_wp2
    go_ret
    exact ⟨rfl, Below.refl _ _⟩
  by_cases g3 : 262144 < l3
  · go_wp2
    go_ret
    exact ⟨rfl, Below.refl _ _⟩
  go_wp2_with fail
  refine (clone_came (by omega) h0).mono ?_
  rintro e w1 ⟨b0, d0, rfl, r0, q0, s1⟩
  go_wp2_with fail
  refine (clone_came (by omega) (h1.below s1)).mono ?_
  rintro e w2 ⟨b1, d1, rfl, r1, q1, s2⟩
  have t2 := s1.trans (s2.mono s1.size)
  go_wp2_with fail
  refine (clone_came (by omega) (h2.below t2)).mono ?_
  rintro e w3 ⟨b2, d2, rfl, r2, q2, s3⟩
  have t3 := t2.trans (s3.mono t2.size)
  go_wp2_with fail
  refine (clone_came (by omega) (h3.below t3)).mono ?_
  rintro e w4 ⟨b3, d3, rfl, r3, q3, s4⟩
  have t4 := t3.trans (s4.mono t3.size)
  have R3 := r3
  have R2 := r2.below' s4
  have R1 := (r1.below' s3).below' s4
  have R0 := ((r0.below' s2).below' s3).below' s4
  have y0 := h0.byts
  have y1 := h1.byts
  clear r0 r1 r2 r3 h0 h1 h2 h3 s1 s2 s3 s4 t2 t3 q0 q1 q2 q3
  generalize z0.take l0 = s at *
  generalize z1.take l1 = t at *
  generalize z2.take l2 = x at *
  generalize z3.take l3 = y at *
  have k0 : (encP s).length ≤ 2 * l0 := by have := encP_len s; have := R0.1; omega
  have k1 : (encP t).length ≤ 2 * l1 := by have := encP_len t; have := R1.1; omega
  have n4 := World.ownsRow_nil w4 w4.heap.size 5 1
  go_wp2_with fail
  refine (appendBytes_any w4.heap.size (.slice none 0 0) 0 [] b0 l0 d0 s w4 n4 (Nat.le_refl _) R0 y0 (fun x hx => by simp [Value.ownBlock]) (by omega)).mono ?_
  rintro e w5 ⟨v5, rfl, o5, gr5⟩
  have s5 := gr5.below n4 (Nat.le_refl _)
  have X2 := R2.below' s5
  go_wp2_with (at_builtin; refine wpList_app rfl (.tmp 40) (.tmp 41) rfl w4.heap.size _ _ _ _ _ _ _ rfl rfl o5 X2 (by omega) s5.size ?_)
  intro v6 w6 o6 gr6
  have s6 := s5.trans (gr6.below o5 s5.size)
  have n6 := World.ownsRow_nil w6 w6.heap.size 5 1
  have X1 := R1.below' s6
  go_wp2_with fail
  refine (appendBytes_any w6.heap.size (.slice none 0 0) 0 [] b1 l1 d1 t w6 n6 (Nat.le_refl _) X1 y1 (fun x hx => by simp [Value.ownBlock]) (by omega)).mono ?_
  rintro e w7 ⟨v7, rfl, o7, gr7⟩
  have s7 := gr7.below n6 (Nat.le_refl _)
  have X3 := (R3.below' s6).below' s7
  go_wp2_with (at_builtin; refine wpList_app rfl (.tmp 45) (.tmp 46) rfl w6.heap.size _ _ _ _ _ _ _ rfl rfl o7 X3 (by omega) s7.size ?_)
  intro v8 w8 o8 gr8
  have s8 := s7.trans (gr8.below o7 s7.size)
  have u8 := s6.trans (s8.mono s6.size)
  have o6' : w6.ownsRow w4.heap.size 5 1 v6 (0 + (encP s).length + 2 + l2) ((encP s ++ 0 :: 1 :: x).map (Value.int .u8)) := own_cast o6 (by omega) (by simp)
  have o8' : w8.ownsRow w6.heap.size 5 1 v8 (0 + (encP t).length + 2 + l3) ((encP t ++ 0 :: 1 :: y).map (Value.int .u8)) := own_cast o8 (by omega) (by simp)
  have p6 := RdV.own o6'
  have P8 := RdV.own o8'
  have P6 := p6.below' s8
  have S0 := R0.below' u8
  have S1 := R1.below' u8
  have S2 := R2.below' u8
  have S3 := R3.below' u8
  have law := cmp_enc s t x y y0 y1
  have fin : Below w'.heap.size w' w8 := t4.trans (u8.mono t4.size)
  clear n4 n6 o5 o6 o7 o8 o6' o8' gr5 gr6 gr7 gr8 s5 s6 s7 s8 X1 X2 X3 R0 R1 R2 R3 p6 y0 y1 t4 u8
  by_cases hc : cmp s t = 0
  · rw [if_pos hc] at law
    have C1 := compare_any b0 l0 d0 s b1 l1 d1 t w8 S0 S1
    have C2 := fun q => compare_val (P6.drewN q) (P8.drewN q)
    have C3 := fun q => compare_any b2 l2 d2 x b3 l3 d3 y (w8.drewN q) (S2.drewN q) (S3.drewN q)
    rw [hc] at C1
    rw [law] at C2
    have H1 := hide C1
    have H2 := hide C2
    have H3 := hide C3
    clear C1 C2 C3 hc law S0 S1 S2 S3 P6 P8
    go_wp2_with fail
    refine H1.out.mono ?_
    rintro e w9 ⟨rfl, q1, rfl⟩
    go_wp2_with fail
    refine (H2.out q1).mono ?_
    rintro e w9 ⟨rfl, q2, rfl⟩
    go_wp2_with fail
    refine (H3.out _).mono ?_
    rintro e w9 ⟨rfl, q3, rfl⟩
    go_wp2
    go_ret
    exact ⟨rfl, below_drewN fin _⟩
  · rw [if_neg hc] at law
    have C1 := compare_any b0 l0 d0 s b1 l1 d1 t w8 S0 S1
    have C2 := fun q => compare_val (P6.drewN q) (P8.drewN q)
    rw [law] at C2
    have hne : (cmp s t == 0) = false := by simpa using hc
    have H1 := hide C1
    have H2 := hide C2
    clear C1 C2 hc law S0 S1 S2 S3 P6 P8
    go_wp2_with fail
    refine H1.out.mono ?_
    rintro e w9 ⟨rfl, q1, rfl⟩
    go_wp2_with fail
    refine (H2.out q1).mono ?_
    rintro e w9 ⟨rfl, q2, rfl⟩
    go_wp2
    go_ret
    exact ⟨rfl, below_drewN fin _⟩
end Go.Proofs.Qxb6605523a
