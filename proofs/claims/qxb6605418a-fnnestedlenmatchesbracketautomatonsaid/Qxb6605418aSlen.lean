import Derived.Test.Qxb6605418aPlain
import Derived.Test.Qxb6605418aIndex
namespace Go.Proofs.Qxb6605418a
open Go.RowKit
set_option linter.unusedVariables false

/-- A slice's tail reads as the numbers' tail, whatever the walk writes for the address. -/
theorem Rd.tail {w : World} {b o n c : Nat} {zs : List Int} (h : Rd w (some ⟨b, o, none⟩) n c zs) (j : Nat) (hj : j ≤ n) (ad : Option Addr) (had : ad = if c = j then some ⟨b, o, none⟩ else some ⟨b, o + j, none⟩) :
    Rd w ad (n - j) (c - j) (zs.drop j) := by
  rcases h.2.2.2 with ⟨h0, _⟩ | ⟨b', o', h0, hlt, hc⟩
  · cases h0
  · cases h0
    refine ⟨by simp [h.1], by have := h.2.1; omega, by have := h.2.2.1; omega, .inr ?_⟩
    by_cases e : c = j
    · rw [if_pos e] at had
      exact ⟨b, o, had, hlt, fun i hi => by have := h.2.1; omega⟩
    · rw [if_neg e] at had
      refine ⟨b, o + j, had, hlt, fun i hi => ?_⟩
      rw [Nat.add_assoc, hc (j + i) (by omega)]
      simp [List.getD]

set_option maxHeartbeats 2000000 in
/-- stringLen, of what begins with a quote. -/
theorem slen_row (b o n c : Nat) (zs : List Int) (w : World) (h : Rd w (some ⟨b, o, none⟩) n c zs) (hz : Byts zs) (hn : n ≤ 1048576) (h1 : 1 ≤ n) (h34 : zs.getD 0 0 = 34) :
    Calls Try.prog 28 #[.slice (some ⟨b, o, none⟩) n c] w fun e w' => ∃ r : Nat, e = .returned (.int .i64 r) ∧ SLen zs r ∧ w' = w := by
  have HL := hide h.1
  have hnc : n ≤ c := h.2.1
  have hcm : c ≤ 9223372036854775807 := h.2.2.1
  have G : Hid (∀ i, i < n → w.cell? ⟨b, o + i, none⟩ = some (.int .u8 (zs.getD i 0))) := by
    rcases h.2.2.2 with ⟨h0, _⟩ | ⟨b', o', h0, _, hc⟩
    · cases h0
    · cases h0; exact hc
  have H34 := hide h34
  clear h34
  go_enter Try.func28, Try.ntmps28
  go_wp2
  go_loop [3] (fun sm => ∃ m : Nat, 1 ≤ m ∧ m ≤ n ∧ sm = .int .i64 m ∧ Hid (∀ j, 1 ≤ j → j < m → ¬ Ends zs j)) (fun sm => n - (intOf sm).toNat)
  case atStart => exact ⟨1, Nat.le_refl _, h1, rfl, fun j h1 hj => by omega⟩
  case round =>
    obtain ⟨m, hm1, hm, rfl, HN⟩ := hrel
    by_cases hmc : c = m
    · have hr0 : Rd w (some ⟨b, o, none⟩) 0 0 [] := ⟨rfl, by omega, Nat.zero_le _, by
        rcases h.2.2.2 with ⟨h0, _⟩ | ⟨b', o', h0, hlt, _⟩
        · cases h0
        · cases h0; exact .inr ⟨b, o, rfl, hlt, fun i hi => by omega⟩⟩
      have HI := hide (index_any _ _ _ _ 34 w hr0 (fun z hz => by cases hz) (by omega))
      have hneg : idx (zs.drop m) 34 = -1 := by rw [List.drop_of_length_le (by have := HL.out; omega)]; rfl
      have HR : Hid (SLen zs n) := by have := slen_none HN.out hneg; rwa [HL.out] at this
      clear hneg hr0
      subst hmc
      go_wp2_with fail
      refine HI.out.mono ?_
      rintro e w1 ⟨rfl, hw⟩
      have hw := hw.symm
      subst hw
      clear HI
      go_wp2
      go_ret
      exact ⟨n, rfl, HR.out, rfl⟩
    · have hidx := index_any (some ⟨b, o + m, none⟩) (n - m) (c - m) (zs.drop m) 34 w (h.tail m hm _ (by rw [if_neg hmc])) (hz.drop m) (by omega)
      by_cases hneg : idx (zs.drop m) 34 = -1
      · rw [hneg] at hidx
        have HI := hide hidx
        have HR : Hid (SLen zs n) := by have := slen_none HN.out hneg; rwa [HL.out] at this
        clear hidx hneg
        go_wp2_with fail
        refine HI.out.mono ?_
        rintro e w1 ⟨rfl, hw⟩
        have hw := hw.symm
        subst hw
        clear HI
        go_wp2
        go_ret
        exact ⟨n, rfl, HR.out, rfl⟩
      · obtain ⟨x, hx⟩ : ∃ x : Nat, idx (zs.drop m) 34 = x := ⟨(idx (zs.drop m) 34).toNat, by have := idx_ge (zs.drop m) 34; omega⟩
        rw [hx] at hidx
        have HI := hide hidx
        obtain ⟨q1, q2, q3⟩ := quote_at hx
        rw [HL.out] at q1
        have HN1 := hide (not_ends_step HN.out q3)
        have HQ := hide q2
        clear hidx hneg hx q2 q3
        go_wp2_with fail
        refine HI.out.mono ?_
        rintro e w1 ⟨rfl, hw⟩
        have hw := hw.symm
        subst hw
        clear HI
        go_wp2_with fail
        go_loop [5] (fun sc => ∃ (k : Nat), sc = .int .i64 k ∧ k + 1 ≤ m + x ∧ Hid (∀ j, m + x - k ≤ j → j < m + x → zs.getD j 0 = 92)) (fun sc => m + x - (intOf sc).toNat)
        case atStart => exact ⟨0, rfl, by omega, fun j h1 h2 => by omega⟩
        case round =>
          obtain ⟨k, rfl, t1, HB⟩ := hrel
          obtain ⟨tn, ht⟩ : ∃ tn : Nat, (m : Int) + x - 1 - k = tn := ⟨m + x - 1 - k, by omega⟩
          have htn : tn < n := by omega
          have hc := G.out tn htn
          have HT : Hid (tn = m + x - k - 1) := by unfold Hid; omega
          by_cases h92 : zs.getD tn 0 = 92
          · have HB1 : Hid (∀ j, m + x - (k + 1) ≤ j → j < m + x → zs.getD j 0 = 92) := fun j h1 h2 => by
              by_cases e : j = tn
              · rw [e]; exact h92
              · exact HB.out j (by have := HT.out; omega) h2
            have ht0 : 1 ≤ tn := by
              rcases Nat.eq_zero_or_pos tn with h0 | h0
              · rw [h0, H34.out] at h92; omega
              · exact h0
            have hk2 : k + 1 + 1 ≤ m + x := by have := HT.out; omega
            rw [h92] at hc
            clear h92
            go_wp2
            go_round
            case rel => exact ⟨k + 1, by go_num, hk2, HB1⟩
            case measure => simp [intOf]; omega
          · have HE : Hid (esc zs (m + x) = decide (k % 2 = 1)) := esc_count (by omega) HB.out (.inr (by rw [← HT.out]; exact h92))
            have hb : (zs.getD tn 0 == 92) = false := by simpa using h92
            generalize zs.getD tn 0 = z at *
            clear h92
            by_cases hpar : k % 2 = 1
            · have hp : ((k : Int) % 2 == 0) = false := by simp; omega
              have HN2 := hide (len_odd HN1.out HE.out hpar)
              clear hpar
              go_wp2
              go_round
              case rel => exact ⟨m + x + 1, by omega, by omega, by go_num, HN2.out⟩
              case measure => simp [intOf]; omega
            · have hp : ((k : Int) % 2 == 0) = true := by simp; omega
              have HR := hide (len_even (by omega) (by have := HL.out; omega) HN1.out HQ.out HE.out hpar)
              clear hpar
              go_wp2
              go_ret
              exact ⟨m + x + 1, by go_num, HR.out, rfl⟩

end Go.Proofs.Qxb6605418a
