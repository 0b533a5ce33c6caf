import Derived.Test.Qxb6605418aBase
namespace Go.Proofs.Qxb6605418a
open Go.RowKit
set_option linter.unusedVariables false

theorem clone_nil (w : World) : Calls Try.prog 7 #[.slice none 0 0] w fun e w' => e = .returned (.slice none 0 0) ∧ w' = w := by
  have q22 : ∀ (w : World) (a : Option Addr) (n c n' c' : Nat), (binOp .eql 22 (.slice a n c) (.slice none n' c')).run Try.prog w = .ok (.bool a.isNone) w := fun w a n c n' c' => Lib.run_eql_slice_nil w _ _ a n c n' c' Try.underlying22
  go_enter Try.func7, Try.ntmps7
  go_wp2
  go_ret
  exact ⟨rfl, rfl⟩

theorem clone_step (zs : List Int) (len k : Nat) (hl : len ≤ zs.length) (hk : k < len) :
    ((zs.take k).map (Value.int .u8) ++ List.replicate (len - k) (Value.int .u8 0)).set k (Value.int .u8 (zs.getD k 0)) =
      (zs.take (k + 1)).map (Value.int .u8) ++ List.replicate (len - (k + 1)) (Value.int .u8 0) := by
  obtain ⟨m, hm⟩ : ∃ m, len - k = m + 1 := ⟨len - k - 1, by omega⟩
  have hm2 : len - (k + 1) = m := by omega
  have hz : zs.getD k 0 = zs[k] := by simp [List.getD, show k < zs.length by omega]
  have hlen : ((zs.take k).map (Value.int .u8)).length = k := by simp; omega
  rw [hm, hm2, List.replicate_succ, List.set_append_right _ _ (by omega), hlen, Nat.sub_self, List.set_cons_zero, List.take_succ_eq_append_getElem (by omega), hz, List.map_append, List.append_assoc]
  rfl

set_option maxHeartbeats 400000 in
theorem clone_row (x : Addr) (len cap : Nat) (zs : List Int) (w : World) (hl : len ≤ zs.length) (hm : len ≤ 1048576)
    (hc : ∀ i, i < len → w.cell? (x.add i) = some (.int .u8 (zs.getD i 0))) :
    Calls Try.prog 7 #[.slice (some x) len cap] w fun e w' => e = .returned (.slice (some ⟨w.heap.size, 0, none⟩) len len) ∧
      w'.ownsRow w.heap.size 5 1 (.slice (some ⟨w.heap.size, 0, none⟩) len len) len ((zs.take len).map (Value.int .u8)) ∧ Below w.heap.size w w' := by
  obtain ⟨i0, hi, hz0, hz1, hz2⟩ := info_parts Try.info5
  have q22 : ∀ (w : World) (a : Option Addr) (n c n' c' : Nat), (binOp .eql 22 (.slice a n c) (.slice none n' c')).run Try.prog w = .ok (.bool a.isNone) w := fun w a n c n' c' => Lib.run_eql_slice_nil w _ _ a n c n' c' Try.underlying22
  go_enter Try.func7, Try.ntmps7
  go_wp2_with (at_make; refine wpList_make_full _ rfl _ _ 22 rfl w.heap.size 5 i0 (.int .u8 0) 1 Try.underlying22 hi hz0 hz1 _ _ _ _ len rfl rfl (by omega) (by omega) ?b2 ?b3 (Nat.le_refl _) ?_)
  case b2 => rw [hz2]; omega
  case b3 => unfold maxLen; omega
  intro w0 hown0 hgrow0
  go_wp2
  go_loopw [4] (fun si wr => ∃ k : Nat, k ≤ len ∧ si = .int .i64 k ∧ 
      wr.ownsRow w.heap.size 5 1 (.slice (some ⟨w.heap.size, 0, none⟩) len len) len ((zs.take k).map (Value.int .u8) ++ List.replicate (len - k) (.int .u8 0)) ∧ Below w.heap.size w wr)
    (fun si _ => len - (intOf si).toNat)
  case atStart => exact ⟨0, Nat.zero_le _, rfl, by rw [toList_madeCells_one] at hown0; simpa using hown0, (Below.refl _ _).grown hgrow0 (Nat.le_refl _) (fun k h => by cases h)⟩
  case round =>
    obtain ⟨k, hk, rfl, hown, hnx⟩ := hrel
    by_cases hlt : k < len
    · obtain ⟨b, off, rfl, hb, hcc⟩ := row_form hc (by omega)
      have hcr : wr.cell? ⟨b, off + k, none⟩ = some (.int .u8 (zs.getD k 0)) := (hnx.cell (by exact hb)).trans (hcc k hlt)
      obtain ⟨u0, hcd⟩ : ∃ u, wr.cell? ⟨w.heap.size, k, none⟩ = some u := by
        rw [hown.cellAt k (by omega)]
        exact ⟨_, List.getElem?_eq_getElem (by simp; omega)⟩
      have hfz := hown.frozenAt k
      have hst := hown.stored k (.int .u8 (zs.getD k 0))
      have hbel : Below w.heap.size w (wr.setCell ⟨w.heap.size, k, none⟩ (.int .u8 (zs.getD k 0))) := hnx.setCell (Nat.le_refl _) _
      rw [clone_step zs len k hl hlt] at hst
      have hst1 := hst.1
      clear hst hcc hc hown0 hgrow0 hown hnx
      go_wp2
      go_roundw
      case rel => exact ⟨k + 1, hlt, by go_num, by simpa [List.getD] using hst1, by simpa [List.getD] using hbel⟩
      case measure => simp [intOf]; omega
    · have hkl : k = len := by omega
      subst hkl
      go_wp2
      go_ret
      exact ⟨rfl, by simpa using hown, hnx⟩

/-- THE CLONE, whatever slice comes in: a row of the call's own with the same numbers (nil stays nil). -/
theorem clone_any (a : Option Addr) (len cap : Nat) (zs : List Int) (w : World) (hm : len ≤ 1048576) (hl : len ≤ zs.length)
    (h : (a = none ∧ len = 0 ∧ cap = 0) ∨ ∃ x, a = some x ∧ ∀ i, i < len → w.cell? (x.add i) = some (.int .u8 (zs.getD i 0))) :
    Calls Try.prog 7 #[.slice a len cap] w fun e w' => ∃ v, e = .returned v ∧
      w'.ownsRow w.heap.size 5 1 v len ((zs.take len).map (Value.int .u8)) ∧ Below w.heap.size w w' := by
  rcases h with ⟨rfl, rfl, rfl⟩ | ⟨x, rfl, hc⟩
  · refine (clone_nil w).mono ?_
    rintro e w' ⟨rfl, rfl⟩
    exact ⟨_, rfl, by simpa using World.ownsRow_nil _ _ _ _, Below.refl _ _⟩
  · refine (clone_row x len cap zs w hl hm hc).mono ?_
    rintro e w' ⟨rfl, h1, h2⟩
    exact ⟨_, rfl, h1, h2⟩

theorem clone_rd (a : Option Addr) (len cap : Nat) (zs : List Int) (w : World) (hm : len ≤ 1048576) (h : Rd w a len cap zs) :
    Calls Try.prog 7 #[.slice a len cap] w fun e w' => ∃ v, e = .returned v ∧
      w'.ownsRow w.heap.size 5 1 v len (zs.map (Value.int .u8)) ∧ Below w.heap.size w w' := by
  have hz : zs.take len = zs := List.take_of_length_le (by have := h.1; omega)
  have := clone_any a len cap zs w hm (by have := h.1; omega) (by
    rcases h.2.2.2 with ⟨h0, h1⟩ | ⟨b, o, h0, _, hc⟩
    · exact .inl ⟨h0, by have := h.2.1; omega, h1⟩
    · exact .inr ⟨_, h0, fun i hi => by rw [Addr.add_lit]; exact hc i hi⟩)
  rwa [hz] at this

end Go.Proofs.Qxb6605418a
