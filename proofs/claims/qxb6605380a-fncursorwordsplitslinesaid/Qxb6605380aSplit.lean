import Derived.Test.Qxb6605380aCursor
namespace Go.Proofs.Qxb6605380a
open Go.RowKit
set_option linter.unusedVariables false

theorem is_empty (u : ByteArray) : u.toList.isEmpty = decide (u.size = 0) := by
  rw [Lib.toList_data, Bool.eq_iff_iff, List.isEmpty_iff_length_eq_zero, decide_eq_true_eq]
  simp

set_option maxHeartbeats 2000000 in
set_option maxRecDepth 100000 in
theorem split_any (s : ByteArray) (w : World) : Calls Try.prog 4 #[.string s] w fun e w' => e = .returned (.bool true) ∧ Grown w w' := by
  go_enter Try.func4, Try.ntmps4
  go_wp2_with fail
  refine (zz11_any s w).mono ?_
  rintro e w' ⟨⟨t, rfl⟩, hw⟩
  have hw := hw.symm
  subst hw
  cases t with
  | false =>
    go_wp2
    go_ret
    exact ⟨rfl, Grown.refl _⟩
  | true =>
  by_cases g0 : 1048576 < s.size
  · go_wp2
    go_ret
    exact ⟨rfl, Grown.refl _⟩
  go_wp2_with fail
  go_loopw [3, 4] (fun sr sk wr => ∃ (rest : ByteArray) (k : Nat), rest.size + k ≤ s.size ∧ sr = .string rest ∧ sk = .int .i64 k ∧ Grown w wr) (fun _ sk _ => s.size + 1 - (intOf sk).toNat)
  case atStart => exact ⟨s, 0, by omega, rfl, rfl, Grown.refl _⟩
  case round =>
    obtain ⟨rest, k, hk, rfl, rfl, hg⟩ := hrel
    have HG := hide hg
    clear hg
    go_wp2_with fail
    refine (cursor_val rest wr (by omega)).mono ?_
    rintro e w1 ⟨st, en, u, v, hcut, rfl, hgr⟩
    have HG1 : Hid (Grown w w1) := hgr w HG.out
    obtain ⟨z1, z2, z3, z4⟩ := hcut.sizes
    have HC := hide hcut
    have hu := hcut.2.2.1
    have hv := hcut.2.2.2
    have eg : (rest.size : Int) - v.size - u.size = st := by omega
    have ee : (st : Int) + u.size = en := by omega
    have y1 : v.size ≤ rest.size := by omega
    have y2 : u.size + v.size ≤ rest.size := by omega
    have d1 : decide (rest.size < v.size) = false := by simp; omega
    have d2 : decide ((rest.size : Int) - v.size < u.size) = false := by simp; omega
    clear hgr hcut HG z3 z4
    go_wp2_with fail
    go_loop [8] (fun si => ∃ i : Nat, i ≤ st ∧ si = .int .i64 i) (fun si => st - (intOf si).toNat)
    case atStart => exact ⟨0, Nat.zero_le _, rfl⟩
    case round =>
      obtain ⟨i, hi, rfl⟩ := hrel
      by_cases hlt : i < st
      · have eb := byt_get rest i (by omega)
        have hcall := isSp_any (byt rest i) w1
        rw [HC.out.1.2.1 i hlt] at hcall
        have HS := hide hcall
        clear hcall
        go_wp2_with fail
        refine HS.out.mono ?_
        rintro e w2 ⟨rfl, hw⟩
        have hw := hw.symm
        subst hw
        clear HS
        go_wp2
        go_round
        case rel => exact ⟨i + 1, hlt, by go_num⟩
        case measure => simp [intOf]; omega
      · by_cases hz : u.size = 0
        · have hvz := HC.out.empty hz
          have hue : u.toList.isEmpty = true := by rw [is_empty]; simp [hz]
          have hve : v.toList.isEmpty = true := by rw [is_empty]; simp [hvz]
          clear hz hvz
          go_wp2
          go_ret
          exact ⟨rfl, HG1.out⟩
        · have hup : 0 < u.size := by omega
          have hue : u.toList.isEmpty = false := by rw [is_empty]; exact decide_eq_false (by omega)
          have eu := byt_get u 0 hup
          have hcu := isSp_any (byt u 0) w1
          rw [HC.out.head hup] at hcu
          have HCU := hide hcu
          clear hz hcu
          by_cases hvz : 0 < v.size
          · have ev := byt_get v 0 hvz
            have hcv := isSp_any (byt v 0) w1
            rw [HC.out.next hvz] at hcv
            have HCV := hide hcv
            clear hcv
            go_wp2_with fail
            refine HCU.out.mono ?_
            rintro e w2 ⟨rfl, hw⟩
            have hw := hw.symm
            subst hw
            clear HCU
            go_wp2_with fail
            refine HCV.out.mono ?_
            rintro e w2 ⟨rfl, hw⟩
            have hw := hw.symm
            subst hw
            clear HCV
            go_wp2
            go_roundw
            case rel => exact ⟨v, k + 1, by omega, rfl, by go_num, HG1.out⟩
            case measure => simp [intOf]; omega
          · go_wp2_with fail
            refine HCU.out.mono ?_
            rintro e w2 ⟨rfl, hw⟩
            have hw := hw.symm
            subst hw
            clear HCU
            go_wp2
            go_roundw
            case rel => exact ⟨v, k + 1, by omega, rfl, by go_num, HG1.out⟩
            case measure => simp [intOf]; omega
end Go.Proofs.Qxb6605380a
