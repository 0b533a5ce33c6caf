import Derived.Test.Qxb6605418aNest
namespace Go.Proofs.Qxb6605418a
open Go.RowKit
set_option linter.unusedVariables false

theorem in_step {zs : List Int} {k st : Nat} {d : Int} (h : st = stt zs k) (hd : d = dep zs k) (hs : st ≠ 0) : d = dep zs (k + 1) ∧ ¬ Stop zs k := by
  constructor
  · show d = dep zs k + (if stt zs k = 0 then br (zs.getD k 0) else 0)
    rw [if_neg (by rw [← h]; exact hs), hd, Int.add_zero]
  · intro hx; exact hs (by rw [h]; exact hx.1)

theorem stt_succ {zs : List Int} {k st : Nat} {z : Int} (h : st = stt zs k) (hz : zs.getD k 0 = z) : stt zs (k + 1) = nxt st z := by
  show nxt (stt zs k) (zs.getD k 0) = _
  rw [h, hz]

theorem dep_succ {zs : List Int} {k : Nat} {z : Int} (h : 0 = stt zs k) (hz : zs.getD k 0 = z) : dep zs (k + 1) = dep zs k + br z := by
  show dep zs k + (if stt zs k = 0 then br (zs.getD k 0) else 0) = _
  rw [if_pos h.symm, hz]

set_option maxHeartbeats 4000000 in
/-- jvb1NestedModel. -/
theorem model_any (a : Option Addr) (n c : Nat) (zs : List Int) (w : World) (h : Rd w a n c zs) (hn : n ≤ 1048576) :
    Calls Try.prog 15 #[.slice a n c] w fun e w' => ∃ r : Nat, e = .returned (.int .i64 r) ∧ Res zs r ∧ w' = w := by
  have HL := hide h.1
  go_enter Try.func15, Try.ntmps15
  go_wp2
  go_loop [3, 4, 5, 6] (fun ss so sc sk => ∃ (k st op cl : Nat), k ≤ n ∧ op ≤ k ∧ cl ≤ k ∧ ss = .int .i64 st ∧ so = .int .i64 op ∧ sc = .int .i64 cl ∧ sk = .int .i64 k ∧ Hid (st = stt zs k) ∧ Hid ((op : Int) - cl = dep zs k) ∧ Hid (∀ j, j < k → ¬ Stop zs j)) (fun _ _ _ sk => n - (intOf sk).toNat)
  case atStart => exact ⟨0, 0, 0, 0, Nat.zero_le _, Nat.le_refl _, Nat.le_refl _, rfl, rfl, rfl, rfl, rfl, rfl, fun j hj => by omega⟩
  case round =>
    obtain ⟨k, st, op, cl, hk, ho, hcl, rfl, rfl, rfl, rfl, HST, HD, HN⟩ := hrel
    by_cases hlt : k < n
    · obtain ⟨b, o, rfl, _, g⟩ := h.at (show 0 < n by omega)
      have hc := g k hlt
      have HIL : Hid (k < zs.length) := by unfold Hid; rw [HL.out]; exact hlt
      have HZ : Hid (∃ z, zs.getD k 0 = z) := ⟨_, rfl⟩
      obtain ⟨z, hzz⟩ := HZ.out
      rw [hzz] at hc
      have HZZ := hide hzz
      have HSS := hide (stt_succ HST.out hzz)
      clear HZ hzz g
      have hcase : st = 0 ∨ st = 1 ∨ st = 2 := by rw [HST.out]; exact stt_le zs k
      rcases hcase with rfl | rfl | rfl
      · have HDS := hide (dep_succ HST.out HZZ.out)
        by_cases z34 : z = 34
        · have HN1 := hide (no_stop_step HN.out (not_stop_br (by rw [HZZ.out, z34]; decide)))
          have HS1 : Hid (1 = stt zs (k + 1)) := by unfold Hid; rw [HSS.out, z34]; rfl
          have HD1 : Hid ((op : Int) - cl = dep zs (k + 1)) := by unfold Hid; rw [HDS.out, z34, ← HD.out]; simp [br]
          subst z34
          go_wp2
          go_round
          case rel => exact ⟨k + 1, 1, op, cl, hlt, by omega, by omega, rfl, rfl, rfl, by go_num, HS1, HD1, HN1⟩
          case measure => simp [intOf]; omega
        · have HS1 : Hid (0 = stt zs (k + 1)) := by unfold Hid; rw [HSS.out]; simp [nxt, z34]
          by_cases zo : z = 123 ∨ z = 91
          · have HB : Hid (br z = 1) := by unfold Hid br; rw [if_pos zo]
            have HN1 := hide (no_stop_step HN.out (not_stop_br (by rw [HZZ.out, HB.out]; omega)))
            have HD1 : Hid (((op + 1 : Nat) : Int) - cl = dep zs (k + 1)) := by unfold Hid; rw [HDS.out, HB.out, ← HD.out]; omega
            clear z34
            rcases zo with rfl | rfl
            all_goals
              go_wp2
              go_round
              case rel => exact ⟨k + 1, 0, op + 1, cl, hlt, by omega, by omega, rfl, by go_num, rfl, by go_num, HS1, HD1, HN1⟩
              case measure => simp [intOf]; omega
          · by_cases zc : z = 125 ∨ z = 93
            · have HB : Hid (br z = -1) := by unfold Hid br; rw [if_neg zo, if_pos zc]
              have HD1 : Hid ((op : Int) - ((cl + 1 : Nat) : Int) = dep zs (k + 1)) := by unfold Hid; rw [HDS.out, HB.out, ← HD.out]; omega
              by_cases heq : op = cl + 1
              · have HR : Hid (Res zs (k + 1)) := .inl ⟨k, HIL.out, ⟨HST.out.symm, by rw [HZZ.out]; exact HB.out, by rw [← HD1.out]; omega⟩, HN.out, rfl⟩
                have hdb : ((op : Int) == (cl : Int) + 1) = true := by simp; omega
                clear z34 zo heq
                rcases zc with rfl | rfl
                all_goals
                  go_wp2
                  go_ret
                  exact ⟨k + 1, by go_num, HR.out, rfl⟩
              · have HN1 := hide (no_stop_step HN.out (fun hx => heq (by have := hx.2.2; rw [← HD1.out] at this; omega)))
                have hdb : ((op : Int) == (cl : Int) + 1) = false := by simp; omega
                clear z34 zo heq
                rcases zc with rfl | rfl
                all_goals
                  go_wp2
                  go_round
                  case rel => exact ⟨k + 1, 0, op, cl + 1, hlt, by omega, by omega, rfl, rfl, by go_num, by go_num, HS1, HD1, HN1⟩
                  case measure => simp [intOf]; omega
            · have HB : Hid (br z = 0) := by unfold Hid br; rw [if_neg zo, if_neg zc]
              have HN1 := hide (no_stop_step HN.out (not_stop_br (by rw [HZZ.out, HB.out]; omega)))
              have HD1 : Hid ((op : Int) - cl = dep zs (k + 1)) := by unfold Hid; rw [HDS.out, HB.out, ← HD.out]; omega
              have b1 : (z == 34) = false := by simpa using z34
              have b2 : (z == 123) = false := by simp; omega
              have b3 : (z == 91) = false := by simp; omega
              have b4 : (z == 125) = false := by simp; omega
              have b5 : (z == 93) = false := by simp; omega
              clear z34 zo zc
              go_wp2
              go_round
              case rel => exact ⟨k + 1, 0, op, cl, hlt, by omega, by omega, rfl, rfl, rfl, by go_num, HS1, HD1, HN1⟩
              case measure => simp [intOf]; omega
      · obtain ⟨i1, i2⟩ := in_step HST.out HD.out (by omega)
        have HD1 := hide i1
        have HN1 := hide (no_stop_step HN.out i2)
        clear i1 i2
        by_cases z92 : z = 92
        · have HS1 : Hid (2 = stt zs (k + 1)) := by unfold Hid; rw [HSS.out, z92]; rfl
          subst z92
          go_wp2
          go_round
          case rel => exact ⟨k + 1, 2, op, cl, hlt, by omega, by omega, rfl, rfl, rfl, by go_num, HS1, HD1, HN1⟩
          case measure => simp [intOf]; omega
        · by_cases z34 : z = 34
          · have HS1 : Hid (0 = stt zs (k + 1)) := by unfold Hid; rw [HSS.out, z34]; rfl
            subst z34
            clear z92
            go_wp2
            go_round
            case rel => exact ⟨k + 1, 0, op, cl, hlt, by omega, by omega, rfl, rfl, rfl, by go_num, HS1, HD1, HN1⟩
            case measure => simp [intOf]; omega
          · have HS1 : Hid (1 = stt zs (k + 1)) := by unfold Hid; rw [HSS.out]; simp [nxt, z92, z34]
            have b1 : (z == 34) = false := by simpa using z34
            have b2 : (z == 92) = false := by simpa using z92
            clear z92 z34
            go_wp2
            go_round
            case rel => exact ⟨k + 1, 1, op, cl, hlt, by omega, by omega, rfl, rfl, rfl, by go_num, HS1, HD1, HN1⟩
            case measure => simp [intOf]; omega
      · obtain ⟨i1, i2⟩ := in_step HST.out HD.out (by omega)
        have HD1 := hide i1
        have HN1 := hide (no_stop_step HN.out i2)
        have HS1 : Hid (1 = stt zs (k + 1)) := by unfold Hid; rw [HSS.out]; rfl
        clear i1 i2
        go_wp2
        go_round
        case rel => exact ⟨k + 1, 1, op, cl, hlt, by omega, by omega, rfl, rfl, rfl, by go_num, HS1, HD1, HN1⟩
        case measure => simp [intOf]; omega
    · have HR : Hid (Res zs n) := .inr ⟨fun j hj => HN.out j (by have := HL.out; omega), HL.out.symm⟩
      go_wp2
      go_ret
      exact ⟨n, rfl, HR.out, rfl⟩

end Go.Proofs.Qxb6605418a
