import Derived.Test.Qxb6605406aPlain
import Derived.Test.Qxb6605406aIndex
namespace Go.Proofs.Qxb6605406a
open Go.RowKit
set_option linter.unusedVariables false

set_option maxHeartbeats 2000000 in
/-- zzStringLengthByScan. -/
theorem scan_any (a : Option Addr) (n c : Nat) (zs : List Int) (w : World) (h : Rd w a n c zs) (hn : n ≤ 1048576) :
    Calls Try.prog 17 #[.slice a n c] w fun e w' => ∃ r : Nat, e = .returned (.int .i64 r) ∧ Res zs r ∧ w' = w := by
  have HL := hide h.1
  go_enter Try.func17, Try.ntmps17
  go_wp2
  go_loop [3, 4] (fun se si => ∃ (k : Nat) (e : Bool), k ≤ n ∧ se = .bool e ∧ si = .int .i64 k ∧ Hid (e = esc zs k) ∧ Hid (∀ j, j < k → ¬ Ends zs j)) (fun _ si => n - (intOf si).toNat)
  case atStart => exact ⟨0, false, Nat.zero_le _, rfl, rfl, rfl, fun j hj => by omega⟩
  case round =>
    obtain ⟨k, e, hk, rfl, rfl, HE, HN⟩ := hrel
    by_cases hlt : k < n
    · obtain ⟨b, o, rfl, _, g⟩ := h.at (show 0 < n by omega)
      have hc := g k hlt
      have hkl : k < zs.length := by rw [HL.out]; exact hlt
      have HS : Hid (esc zs (k + 1) = (!e && zs.getD k 0 == 92)) := by unfold Hid; rw [HE.out]; rfl
      have HX : Hid (¬ Ends zs k → ∀ j, j < k + 1 → ¬ Ends zs j) := fun hx j hj => by
        by_cases e : j = k
        · rw [e]; exact hx
        · exact HN.out j (by omega)
      generalize hz : zs.getD k 0 = z at *
      have HZ := hide hz
      clear g h hz
      cases e with
      | true =>
        have HX1 := hide (HX.out (fun h => by have := h.1; rw [← HE.out] at this; cases this))
        go_wp2
        go_round
        case rel => exact ⟨k + 1, false, hlt, rfl, by go_num, by unfold Hid; rw [HS.out]; rfl, HX1⟩
        case measure => simp [intOf]; omega
      | false =>
        by_cases h92 : z = 92
        · have HX1 := hide (HX.out (fun h => by have := h.2; rw [HZ.out] at this; omega))
          have HS1 : Hid (true = esc zs (k + 1)) := by unfold Hid; rw [HS.out, h92]; rfl
          subst h92
          go_wp2
          go_round
          case rel => exact ⟨k + 1, true, hlt, rfl, by go_num, HS1, HX1⟩
          case measure => simp [intOf]; omega
        · have hb : (z == 92) = false := by simpa using h92
          by_cases h34 : z = 34
          · have HR : Hid (Res zs (k + 1)) := .inl ⟨k, hkl, ⟨HE.out.symm, by rw [HZ.out]; exact h34⟩, HN.out, rfl⟩
            subst h34
            clear hkl
            go_wp2
            go_ret
            exact ⟨k + 1, by go_num, HR.out, rfl⟩
          · have hb2 : (z == 34) = false := by simpa using h34
            have HX1 := hide (HX.out (fun h => h34 (by rw [← HZ.out]; exact h.2)))
            have HS1 : Hid (false = esc zs (k + 1)) := by unfold Hid; rw [HS.out, hb]; rfl
            clear h92 h34
            go_wp2
            go_round
            case rel => exact ⟨k + 1, false, hlt, rfl, by go_num, HS1, HX1⟩
            case measure => simp [intOf]; omega
    · have HR : Hid (Res zs n) := .inr ⟨fun j hj => HN.out j (by have := HL.out; omega), HL.out.symm⟩
      go_wp2
      go_ret
      exact ⟨n, rfl, HR.out, rfl⟩

end Go.Proofs.Qxb6605406a
