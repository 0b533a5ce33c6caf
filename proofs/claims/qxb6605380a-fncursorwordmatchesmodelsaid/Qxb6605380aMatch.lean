import Derived.Test.Qxb6605380aCursor
namespace Go.Proofs.Qxb6605380a
open Go.RowKit
set_option linter.unusedVariables false

/-- The word has not ended before p. -/
def Going (s : ByteArray) (a p : Nat) : Prop := a ≤ p ∧ p ≤ s.size ∧ ∀ k, a ≤ k → k < p → ¬ Stop s a k

theorem Going.step {s : ByteArray} {a p : Nat} (h : Going s a p) (hp : p < s.size) (hn : ¬ Stop s a p) : Going s a (p + 1) := by
  refine ⟨by have := h.1; omega, hp, fun k h1 h2 => ?_⟩
  by_cases e : k = p
  · subst e; exact hn
  · exact h.2.2 k h1 (by omega)

theorem Going.done {s : ByteArray} {a p : Nat} (h : Going s a p) (hp : ¬ p < s.size) : End s a p := ⟨h.1, h.2.1, h.2.2, fun h => absurd h hp⟩
theorem Going.stop {s : ByteArray} {a p : Nat} (h : Going s a p) (hp : Stop s a p) : End s a p := ⟨h.1, h.2.1, h.2.2, fun _ => hp⟩

theorem Cut.same {s : ByteArray} {st en a p : Nat} {u v : ByteArray} (h : Cut s st en u v) (ha : Skip s a) (hp : End s a p) : s.extract a p = u ∧ s.extract p s.size = v := by
  have e1 := skip_unique h.1 ha
  subst e1
  have e2 := end_unique h.2.1 hp
  subst e2
  exact ⟨h.2.2.1, h.2.2.2⟩

set_option maxHeartbeats 4000000 in
set_option maxRecDepth 100000 in
theorem match_any (s : ByteArray) (w : World) : Calls Try.prog 3 #[.string s] w fun e w' => e = .returned (.bool true) ∧ Grown w w' := by
  go_enter Try.func3, Try.ntmps3
  go_wp2_with fail
  refine (zz7_any s w).mono ?_
  rintro e w' ⟨⟨t, rfl⟩, hw⟩
  have hw := hw.symm
  subst hw
  cases t with
  | false =>
    go_wp2
    go_ret
    exact ⟨rfl, Grown.refl _⟩
  | true =>
  by_cases g0 : 1048576 < s.size
  · go_wp2
    go_ret
    exact ⟨rfl, Grown.refl _⟩
  go_wp2_with fail
  refine (cursor_val s w (by omega)).mono ?_
  rintro e w1 ⟨st, en, u, v, hcut, rfl, hgr⟩
  have HG1 : Hid (Grown w w1) := hgr w (Grown.refl _)
  have HC := hide hcut
  clear hgr hcut
  go_wp2_with fail
  go_loop [5] (fun i => ∃ k : Nat, k ≤ s.size ∧ i = .int .i64 k ∧ Hid (∀ j, j < k → sp (byt s j) = true)) (fun i => s.size - (intOf i).toNat)
  case atStart => exact ⟨0, by omega, rfl, fun j hj => by omega⟩
  case round =>
    obtain ⟨a, hk, rfl, HS⟩ := hrel
    by_cases hsp : a < s.size ∧ sp (byt s a) = true
    · obtain ⟨hlt, hsp⟩ := hsp
      have eb := byt_get s a hlt
      have hcall := isSp_any (byt s a) w1
      rw [hsp] at hcall
      have HCC := hide hcall
      have HP := hide hsp
      clear hcall hsp
      go_wp2_with fail
      refine HCC.out.mono ?_
      rintro e w2 ⟨rfl, hw⟩
      have hw := hw.symm
      subst hw
      clear HCC
      go_wp2
      go_round
      case rel => exact ⟨a + 1, hlt, by go_num, fun j hj => by
        by_cases e : j = a
        · rw [e]; exact HP.out
        · exact HS.out j (by omega)⟩
      case measure => simp [intOf]; omega
    · have HK : Hid (Skip s a) := ⟨hk, HS.out, fun h => by
        cases hx : sp (byt s a)
        · rfl
        · exact absurd ⟨h, hx⟩ hsp⟩
      clear HS
      by_cases hlt : a < s.size
      all_goals
        first
        | (have eb := byt_get s a hlt
           have hcall := isSp_any (byt s a) w1
           rw [HK.out.2.2 hlt] at hcall
           have HCC := hide hcall
           clear hcall hsp
           go_wp2_with fail
           refine HCC.out.mono ?_
           rintro e w2 ⟨rfl, hw⟩
           have hw := hw.symm
           subst hw
           clear HCC eb
           go_wp2_with fail)
        | (clear hsp
           go_wp2_with fail)
      all_goals
        clear hlt
        go_loop [6, 7] (fun sj so => ∃ (p : Nat) (o : Int), p ≤ s.size ∧ sj = .int .i64 p ∧ so = .int .u8 o ∧ Hid (o = opn s a (p - a)) ∧ Hid (Going s a p)) (fun sj _ => s.size - (intOf sj).toNat)
        case atStart => exact ⟨a, 0, hk, rfl, rfl, by unfold Hid; rw [Nat.sub_self]; rfl, ⟨Nat.le_refl _, hk, fun k h1 h2 => by omega⟩⟩
        case round =>
          obtain ⟨p, o, hp, rfl, rfl, HO, HR⟩ := hrel
          have hap := HR.out.1
          by_cases hlt : p < s.size
          · have eb := byt_get s p hlt
            have HN := hide (opn_succ (s := s) hap)
            rw [← HO.out] at HN
            by_cases ho : o = 0
            · by_cases hsp : sp (byt s p) = true
              · have hcall := isSp_any (byt s p) w1
                rw [hsp] at hcall
                have HCC := hide hcall
                obtain ⟨hu, hv⟩ := HC.out.same HK.out (HR.out.stop ⟨by rw [← HO.out]; exact ho, hsp⟩)
                subst ho
                clear hcall hsp
                go_wp2_with fail
                refine HCC.out.mono ?_
                rintro e w2 ⟨rfl, hw⟩
                have hw := hw.symm
                subst hw
                clear HCC
                go_wp2
                go_ret
                exact ⟨rfl, HG1.out⟩
              · have hns : sp (byt s p) = false := by simpa using hsp
                have hcall := isSp_any (byt s p) w1
                rw [hns] at hcall
                have HCC := hide hcall
                have HR1 := hide (HR.out.step hlt (fun h => hsp h.2))
                clear hcall hsp hns
                by_cases hqu : qu (byt s p) = true
                · have hq := isQu_any (byt s p) w1
                  rw [hqu] at hq
                  have HQ := hide hq
                  have HV : Hid (byt s p = opn s a (p + 1 - a)) := by unfold Hid; rw [HN.out, ho]; simp [stp, hqu]
                  subst ho
                  clear hq hqu
                  go_wp2_with fail
                  refine HCC.out.mono ?_
                  rintro e w2 ⟨rfl, hw⟩
                  have hw := hw.symm
                  subst hw
                  clear HCC
                  go_wp2_with fail
                  refine HQ.out.mono ?_
                  rintro e w2 ⟨rfl, hw⟩
                  have hw := hw.symm
                  subst hw
                  clear HQ
                  go_wp2
                  go_round
                  case rel => exact ⟨p + 1, byt s p, hlt, by go_num, rfl, HV, HR1⟩
                  case measure => simp [intOf]; omega
                · have hnq : qu (byt s p) = false := by simpa using hqu
                  have hq := isQu_any (byt s p) w1
                  rw [hnq] at hq
                  have HQ := hide hq
                  have HV : Hid (0 = opn s a (p + 1 - a)) := by unfold Hid; rw [HN.out, ho]; simp [stp, hnq]
                  subst ho
                  clear hq hqu hnq
                  go_wp2_with fail
                  refine HCC.out.mono ?_
                  rintro e w2 ⟨rfl, hw⟩
                  have hw := hw.symm
                  subst hw
                  clear HCC
                  go_wp2_with fail
                  refine HQ.out.mono ?_
                  rintro e w2 ⟨rfl, hw⟩
                  have hw := hw.symm
                  subst hw
                  clear HQ
                  go_wp2
                  go_round
                  case rel => exact ⟨p + 1, 0, hlt, by go_num, rfl, HV, HR1⟩
                  case measure => simp [intOf]; omega
            · have HR1 := hide (HR.out.step hlt (fun h => ho (by rw [HO.out]; exact h.1)))
              have ho0 : (o == 0) = false := by simpa using ho
              by_cases hco : byt s p = o
              · have HV : Hid (0 = opn s a (p + 1 - a)) := by unfold Hid; rw [HN.out, hco]; simp [stp, ho]
                have hc1 : (byt s p == o) = true := by simpa using hco
                clear ho hco
                go_wp2
                go_round
                case rel => exact ⟨p + 1, 0, hlt, by go_num, rfl, HV, HR1⟩
                case measure => simp [intOf]; omega
              · have HV : Hid (o = opn s a (p + 1 - a)) := by unfold Hid; rw [HN.out]; simp [stp, ho, hco]
                have hc1 : (byt s p == o) = false := by simpa using hco
                clear ho hco
                go_wp2
                go_round
                case rel => exact ⟨p + 1, o, hlt, by go_num, rfl, HV, HR1⟩
                case measure => simp [intOf]; omega
          · obtain ⟨hu, hv⟩ := HC.out.same HK.out (HR.out.done hlt)
            go_wp2
            go_ret
            exact ⟨rfl, HG1.out⟩
end Go.Proofs.Qxb6605380a
