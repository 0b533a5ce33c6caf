import Derived.Test.Qxb6605523aIndex
namespace Go.Proofs.Qxb6605523a
open Go.RowKit
set_option linter.unusedVariables false

/-- The world has grown, and of what lay there only the row of v may have been written; v' is that row or a new one. -/
structure Grows (w : World) (v : Value) (w' : World) (v' : Value) : Prop where
  grown : w.grownBy w' v.ownBlock
  own : v'.ownBlock = v.ownBlock ∨ ∀ k, v'.ownBlock = some k → w.heap.size ≤ k

theorem Grows.refl (w : World) (v : Value) : Grows w v w v := ⟨World.grownBy.refl _ _, .inl rfl⟩

theorem grownBy_trans {w w1 w2 : World} {r r1 : Option Nat} (h : w.grownBy w1 r) (h1 : w1.grownBy w2 r1) (hr : r1 = r ∨ ∀ k, r1 = some k → w.heap.size ≤ k) : w.grownBy w2 r := by
  refine ⟨h1.os.trans h.os, h1.tape.trans h.tape, h1.output.trans h.output, Nat.le_trans h.size h1.size, fun k hk hne => ?_⟩
  rw [h1.block k (Nat.lt_of_lt_of_le hk h.size) ?_, h.block k hk hne]
  intro e
  rcases hr with rfl | hr
  · exact hne e
  · have := hr k e.symm; omega

theorem Grows.trans {w w1 w2 : World} {v v1 v2 : Value} (h : Grows w v w1 v1) (h1 : Grows w1 v1 w2 v2) : Grows w v w2 v2 := by
  refine ⟨grownBy_trans h.grown h1.grown h.own, ?_⟩
  rcases h1.own with e | e
  · rw [e]; exact h.own
  · exact .inr fun k hk => Nat.le_trans h.grown.size (e k hk)

theorem Grows.alloc {w w1 : World} {v v1 : Value} (h : Grows w v w1 v1) (o : Obj) : Grows w v (w1.alloc o) v1 :=
  ⟨grownBy_trans h.grown (World.grownBy_alloc w1 o v.ownBlock) (.inl rfl), h.own⟩

theorem Grows.alloc_trans {w w1 w2 : World} {v v1 v2 : Value} {o : Obj} (h : Grows w v w1 v1) (h1 : Grows (w1.alloc o) v1 w2 v2) : Grows w v w2 v2 := (h.alloc o).trans h1

/-- 'append(v, x...)', v the call's own, x whatever can be read. -/
theorem run_app (w : World) (ty : TypeId) (base : Nat) (v : Value) (n : Nat) (xs : List Value) (hown : w.ownsRow base 5 1 v n xs)
    (a : Option Addr) (m c : Nat) (news : List Int) (hrd : Rd w a m c news) (hsz : n + m ≤ 1099511627776) (hbase : base ≤ w.heap.size) :
    ∃ v' w', (Builtin.append_ #[22, 22] ty #[v, .slice a m c]).run Try.prog w = .ok v' w' ∧ w'.ownsRow base 5 1 v' (n + m) (xs ++ news.map (Value.int .u8)) ∧ Grows w v w' v' := by
  obtain ⟨i, hi, hz0, hz1, hz2⟩ := info_parts Try.info5
  have hm63 : n + m ≤ maxLen := by unfold maxLen; omega
  rcases hrd.2.2.2 with ⟨rfl, rfl⟩ | ⟨b, o, rfl, hlt, hc⟩
  · obtain rfl : m = 0 := by have := hrd.2.1; omega
    obtain rfl : news = [] := List.eq_nil_of_length_eq_zero hrd.1
    exact ⟨v, w, run_append_owned_none (P := Try.prog) w base 22 ty 5 i 1 Try.underlying22 hi v n xs hown, by simpa using hown, Grows.refl _ _⟩
  · have hnews : ∀ j u, (news.map (Value.int .u8))[j]? = some u → w.cell? ((⟨b, o, none⟩ : Addr).add j) = some u := by
      intro j u hj
      have hjl : j < news.length := by simpa using (List.getElem?_eq_some_iff.1 hj).1
      rw [Addr.add_lit, hc j (by have := hrd.1; omega), ← hj]
      simp [List.getD, hjl]
    have hl : (news.map (Value.int .u8)).length = m * 1 := by simpa using hrd.1
    obtain ⟨v', w', hr, h1, h2, h3⟩ := run_append_own (P := Try.prog) w base 22 ty 5 i (.int .u8 0) 1 1 Try.underlying22 hi hz0 hz1 hz2 rfl (by decide) v n xs hown ⟨b, o, none⟩ m c _ hl hnews (ints_oneCell _ _) hm63 (by omega) hbase
    refine ⟨v', w', hr, h1, h2, ?_⟩
    rcases hown.2 with ⟨rfl, rfl⟩ | ⟨g, cap, cur, rfl, hbg, hg, hnc, hcm, hcs, htake⟩
    · right
      obtain rfl : xs = [] := List.eq_nil_of_length_eq_zero (by simpa using hown.1)
      obtain ⟨v2, w2, hr2, h12, h22, h32⟩ := run_append_own (P := Try.prog) w w.heap.size 22 ty 5 i (.int .u8 0) 1 1 Try.underlying22 hi hz0 hz1 hz2 rfl (by decide) _ 0 [] (World.ownsRow_nil w w.heap.size 5 1) ⟨b, o, none⟩ m c _ hl hnews (ints_oneCell _ _) hm63 (by omega) (Nat.le_refl _)
      rw [hr2] at hr
      cases hr
      exact fun k hk => (h12.lt k hk).1
    · by_cases hroom : n + m ≤ cap
      · left
        obtain ⟨w2, hr2, h12, h22⟩ := run_append_fits (P := Try.prog) w base 22 ty 5 i 1 Try.underlying22 hi hz1 g n cap xs hown ⟨b, o, none⟩ m c _ hl hnews (ints_oneCell _ _) hroom
        rw [hr2] at hr
        cases hr
        rfl
      · right
        have hr2 := run_append_grow (P := Try.prog) w 22 ty 5 i (.int .u8 0) Try.underlying22 hi hz0 ⟨g, 0, none⟩ n cap xs (by rw [hz1]; exact hown.1) (hown.cells (g := g) rfl) ⟨b, o, none⟩ m c _ (by rw [hz1]; exact hl) hnews (by omega) (by omega) (growslice_fits (by omega) (by rw [hz2]; omega))
        rw [hr2] at hr
        cases hr
        intro k hk
        cases hk
        exact Nat.le_refl _

theorem wpList_app {w : World} {ops : Array Oper} {rest : List Oper} {o : Oper} {a : Act} {Q : Exit → Act → World → Prop} (hgd : o.guard = none) (s x : Operand)
    (ho : o.op = .call { callee := .builtin .append, args := #[s, x], argTypes := #[22, 22] }) (base : Nat) (v : Value) (n : Nat) (xs : List Value) (ad : Option Addr) (m c : Nat) (news : List Int)
    (hs : a.eval s = v) (hx : a.eval x = .slice ad m c) (hown : w.ownsRow base 5 1 v n xs) (hrd : Rd w ad m c news) (hsz : n + m ≤ 1099511627776) (hbase : base ≤ w.heap.size)
    (h : ∀ v' w', w'.ownsRow base 5 1 v' (n + m) (xs ++ news.map (Value.int .u8)) → Grows w v w' v' → wpList Try.prog ops Q rest (a.put o.dst v') w') : wpList Try.prog ops Q (o :: rest) a w := by
  obtain ⟨v', w', hr, h2, h3⟩ := run_app w o.type base v n xs hown ad m c news hrd hsz hbase
  refine wpList_plain hgd fun K hK => ?_
  unfold Oper.wp execOp
  simp only [ho, resolve, invoke, builtin, Sem.run_bind, Sem.run_pure, Result.andThen_ok, List.map_toArray, List.map_cons, List.map_nil, hs, hx, hr]
  exact hK _ _ (h v' w' h2 h3)

end Go.Proofs.Qxb6605523a
