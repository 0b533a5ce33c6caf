import Derived.Test.Qxb6605418aSlen
namespace Go.Proofs.Qxb6605418a
open Go.RowKit
set_option linter.unusedVariables false

theorem stop_of {zs : List Int} {k : Nat} {d : Int} (h0 : stt zs k = 0) (hd : d = dep zs k) (hz : zs.getD k 0 ≠ 34) (hb : br (zs.getD k 0) = -1) (h : d - 1 = 0) : Stop zs k :=
  ⟨h0, hb, by rw [(out_step h0 hz).2, hb, ← hd]; omega⟩
theorem not_stop_of {zs : List Int} {k : Nat} {d : Int} (h0 : stt zs k = 0) (hd : d = dep zs k) (hz : zs.getD k 0 ≠ 34) (hb : br (zs.getD k 0) = -1) (h : d - 1 ≠ 0) : ¬ Stop zs k := by
  intro hs
  have := hs.2.2
  rw [(out_step h0 hz).2, hb, ← hd] at this
  omega
theorem not_stop_br {zs : List Int} {k : Nat} (hb : br (zs.getD k 0) ≠ -1) : ¬ Stop zs k := fun hs => hb hs.2.1

/-- What holds at the head of a round. -/
def At (zs : List Int) (i : Nat) (d : Int) : Prop := i < zs.length → stt zs i = 0 ∧ d = dep zs i

set_option maxHeartbeats 4000000 in
/-- nestedLen. -/
theorem nest_any (a : Option Addr) (n c : Nat) (zs : List Int) (w : World) (h : Rd w a n c zs) (hz : Byts zs) (hn : n ≤ 1048576) :
    Calls Try.prog 21 #[.slice a n c] w fun e w' => ∃ r : Nat, e = .returned (.int .i64 r) ∧ Res zs r ∧ w' = w := by
  have HL := hide h.1
  have hnc : n ≤ c := h.2.1
  have hcm : c ≤ 9223372036854775807 := h.2.2.1
  go_enter Try.func21, Try.ntmps21
  go_wp2
  go_loop [3, 4] (fun sd si => ∃ (i : Nat) (d : Int), i ≤ n ∧ sd = .int .i64 d ∧ si = .int .i64 i ∧ -(i : Int) ≤ d ∧ d ≤ i ∧ Hid (At zs i d) ∧ Hid (∀ j, j < i → ¬ Stop zs j)) (fun _ si => n - (intOf si).toNat)
  case atStart => exact ⟨0, 0, Nat.zero_le _, rfl, rfl, by omega, by omega, fun _ => ⟨rfl, rfl⟩, fun j hj => by omega⟩
  case round =>
    obtain ⟨i, d, hi, rfl, rfl, d1, d2, HA, HN⟩ := hrel
    by_cases hlt : i < n
    · obtain ⟨b, o, rfl, _, g⟩ := h.at (show 0 < n by omega)
      have hc := g i hlt
      have hil : i < zs.length := by rw [HL.out]; exact hlt
      have HIL := hide hil
      obtain ⟨a0, a1⟩ := HA.out hil
      have HA0 := hide a0
      have HA1 := hide a1
      have hic : ¬ c = i := by omega
      have HZ : Hid (∃ z, zs.getD i 0 = z) := ⟨_, rfl⟩
      obtain ⟨z, hzz⟩ := HZ.out
      rw [hzz] at hc
      have HZZ := hide hzz
      clear HA HZ hzz a0 a1 hil g
      by_cases z34 : z = 34
      · have hq : zs.getD i 0 = 34 := by rw [HZZ.out]; exact z34
        have ht : Rd w (some ⟨b, o + i, none⟩) (n - i) (c - i) (zs.drop i) := h.tail i hi _ (by rw [if_neg hic])
        have HI := hide (slen_row b (o + i) (n - i) (c - i) (zs.drop i) w ht (hz.drop i) (by omega) (by omega) (by rw [← hq]; simp [List.getD]))
        have HQ := hide hq
        subst z34
        clear hq ht
        go_wp2_with fail
        refine HI.out.mono ?_
        rintro e w1 ⟨r, rfl, hr, hw⟩
        have hw := hw.symm
        subst hw
        clear HI
        obtain ⟨r1, r2, r3, r4⟩ := over_string HIL.out HA0.out HQ.out HN.out hr
        rw [HL.out] at r2
        have HR3 := hide r3
        have HR4 : Hid (At zs (i + r) d) := fun hlt => ⟨(r4 hlt).1, by rw [(r4 hlt).2]; exact HA1.out⟩
        clear r3 r4 hr
        go_wp2
        go_round
        case rel => exact ⟨i + r, d, r2, rfl, by go_num, by omega, by omega, HR4, HR3⟩
        case measure => simp [intOf]; omega
      · have HS : Hid (stt zs (i + 1) = 0 ∧ dep zs (i + 1) = dep zs i + br z) := by
          have := out_step HA0.out (by rw [HZZ.out]; exact z34)
          rwa [HZZ.out] at this
        have HZ34 := hide z34
        by_cases zo : z = 123 ∨ z = 91
        · have HB : Hid (br z = 1) := by unfold Hid br; rw [if_pos zo]
          have HN1 := hide (no_stop_step HN.out (not_stop_br (by rw [HZZ.out, HB.out]; omega)))
          have HA2 : Hid (At zs (i + 1) (d + 1)) := fun _ => ⟨HS.out.1, by rw [HS.out.2, HB.out, HA1.out]⟩
          clear z34
          rcases zo with rfl | rfl
          all_goals
            go_wp2
            go_round
            case rel => exact ⟨i + 1, d + 1, hlt, rfl, by go_num, by omega, by omega, HA2, HN1⟩
            case measure => simp [intOf]; omega
        · by_cases zc : z = 125 ∨ z = 93
          · have HB : Hid (br z = -1) := by unfold Hid br; rw [if_neg zo, if_pos zc]
            by_cases hd0 : d - 1 = 0
            · have HR : Hid (Res zs (i + 1)) := .inl ⟨i, HIL.out, stop_of HA0.out HA1.out (by rw [HZZ.out]; exact z34) (by rw [HZZ.out]; exact HB.out) hd0, HN.out, rfl⟩
              have hdb : (d - 1 == 0) = true := by simpa using hd0
              clear z34 zo hd0
              rcases zc with rfl | rfl
              all_goals
                go_wp2
                go_ret
                exact ⟨i + 1, by go_num, HR.out, rfl⟩
            · have HN1 := hide (no_stop_step HN.out (not_stop_of HA0.out HA1.out (by rw [HZZ.out]; exact z34) (by rw [HZZ.out]; exact HB.out) hd0))
              have HA2 : Hid (At zs (i + 1) (d - 1)) := fun _ => ⟨HS.out.1, by rw [HS.out.2, HB.out, HA1.out]; omega⟩
              have hdb : (d - 1 == 0) = false := by simpa using hd0
              clear z34 zo hd0
              rcases zc with rfl | rfl
              all_goals
                go_wp2
                go_round
                case rel => exact ⟨i + 1, d - 1, hlt, rfl, by go_num, by omega, by omega, HA2, HN1⟩
                case measure => simp [intOf]; omega
          · have HB : Hid (br z = 0) := by unfold Hid br; rw [if_neg zo, if_neg zc]
            have HN1 := hide (no_stop_step HN.out (not_stop_br (by rw [HZZ.out, HB.out]; omega)))
            have HA2 : Hid (At zs (i + 1) d) := fun _ => ⟨HS.out.1, by rw [HS.out.2, HB.out, HA1.out]; omega⟩
            have b1 : (z == 34) = false := by simpa using z34
            have b2 : (z == 123) = false := by simp; omega
            have b3 : (z == 91) = false := by simp; omega
            have b4 : (z == 125) = false := by simp; omega
            have b5 : (z == 93) = false := by simp; omega
            clear z34 zo zc
            go_wp2
            go_round
            case rel => exact ⟨i + 1, d, hlt, rfl, by go_num, by omega, by omega, HA2, HN1⟩
            case measure => simp [intOf]; omega
    · have HR : Hid (Res zs n) := .inr ⟨fun j hj => HN.out j (by have := HL.out; omega), HL.out.symm⟩
      go_wp2
      go_ret
      exact ⟨n, rfl, HR.out, rfl⟩

end Go.Proofs.Qxb6605418a
