import Derived.Test.Qxb6605380aBase
namespace Go.Proofs.Qxb6605380a
open Go.RowKit
set_option linter.unusedVariables false

theorem wrap32_byt (s : ByteArray) (k : Nat) : wrap32 (byt s k) = byt s k := by
  have := byt_bd s k
  unfold wrap32
  omega

theorem wrap_succ (p : Nat) (h : p ≤ 1048576) : IntKind.i64.wrap ((p : Int) + 1) = (p : Int) + 1 := by
  rw [IntKind.wrap_i64]
  omega

theorem ext_self (s : ByteArray) : s.extract s.size s.size = ByteArray.empty := by
  apply ByteArray.ext
  rw [data_extract]
  apply Array.ext
  · rw [Array.size_extract]; simp
  · intro i h1 h2; rw [Array.size_extract] at h1; omega

theorem slice_from (s : ByteArray) (p : Nat) (h : p < s.size) (wx : World) : (Instr.slice 9 (.string s) (some (.int .i64 ((p : Int) + 1))) none none).run Try.prog wx = .ok (.string (s.extract (p + 1) s.size)) wx := by
  have e := run_slice_string_from_if (P := Try.prog) (w := wx) 9 s .i64 ((p : Int) + 1) Try.underlying9
  rw [if_pos (by omega)] at e
  rw [e]
  congr 3

set_option maxHeartbeats 2000000 in
/-- (*cursor).word. -/
theorem word_any (b : Nat) (s : ByteArray) (w : World) (hs : s.size ≤ 1048576) (hc : w.cell? ⟨b, 0, none⟩ = some (.string s)) (hf : w.frozen? ⟨b, 0, none⟩ = false) : 
  Calls Try.prog 17 #[.pointer (some ⟨b, 0, none⟩)] w fun e w' => ∃ st en q, Skip s st ∧ End s st en ∧ e = .returned (.string (s.extract st en)) ∧ w' = (w.drewN q).setCell ⟨b, 0, none⟩ (.string (s.extract en s.size)) := by
  go_enter Try.func17, Try.ntmps17
  go_wp2
  go_loop [4] (fun i => ∃ k : Nat, k ≤ s.size ∧ i = .int .i64 k ∧ Hid (∀ j, j < k → sp (byt s j) = true)) (fun i => s.size - (intOf i).toNat)
  case atStart => exact ⟨0, by omega, rfl, fun j hj => by omega⟩
  case round =>
    obtain ⟨st, hk, rfl, HS⟩ := hrel
    by_cases hsp : st < s.size ∧ sp (byt s st) = true
    · obtain ⟨hlt, hsp⟩ := hsp
      have eb := byt_get s st hlt
      have ew := wrap32_byt s st
      have hcall := isSpace_any (byt s st) w
      rw [hsp] at hcall
      have HC := hide hcall
      have HP := hide hsp
      clear hcall hsp
      go_wp2_with fail
      refine HC.out.mono ?_
      rintro e w' ⟨rfl, rfl⟩
      go_wp2
      go_round
      case rel => exact ⟨st + 1, hlt, by go_num, fun j hj => by
        by_cases e : j = st
        · rw [e]; exact HP.out
        · exact HS.out j (by omega)⟩
      case measure => simp [intOf]; omega
    · have HK : Hid (Skip s st) := ⟨hk, HS.out, fun h => by
        cases hx : sp (byt s st)
        · rfl
        · exact absurd ⟨h, hx⟩ hsp⟩
      clear HS
      by_cases hlt : st < s.size
      all_goals
        first
        | (have eb := byt_get s st hlt
           have ew := wrap32_byt s st
           have hcall := isSpace_any (byt s st) w
           rw [HK.out.2.2 hlt] at hcall
           have HC := hide hcall
           clear hcall hsp
           go_wp2_with fail
           refine HC.out.mono ?_
           rintro e w1 ⟨rfl, hw⟩
           have hw := hw.symm
           subst hw
           clear HC eb ew
           go_wp2_with fail)
        | (clear hsp
           go_wp2_with fail)
      all_goals
        clear hlt
        go_loopw [4] (fun i wr => ∃ p : Nat, p ≤ s.size ∧ i = .int .i64 p ∧ Hid (Run s st p) ∧ Hid (∃ q, wr = w.drewN q)) (fun i _ => s.size - (intOf i).toNat)
        case atStart => exact ⟨st, hk, rfl, run_start hk, ⟨0, rfl⟩⟩
        case round =>
          obtain ⟨p, hp, rfl, HR, HW⟩ := hrel
          have hcr : wr.cell? ⟨b, 0, none⟩ = some (.string s) := by obtain ⟨q, hq⟩ := HW.out; rw [hq]; simpa using hc
          have hfr : wr.frozen? ⟨b, 0, none⟩ = false := by obtain ⟨q, hq⟩ := HW.out; rw [hq]; simpa using hf
          have hst := HR.out.1
          by_cases hlt : p < s.size
          · have eb := byt_get s p hlt
            have ew := wrap32_byt s p
            have ex := wrap_succ p (by omega)
            have hsl := slice_from s p hlt
            have x1 : (p : Int) < (s.size : Int) := by omega
            by_cases hsp : sp (byt s p) = true
            · have hcall := isSpace_any (byt s p) wr
              rw [hsp] at hcall
              have HC := hide hcall
              have HE : Hid (End s st p) := end_stop HR.out hsp
              clear hcall hsp
              go_wp2_with fail
              refine HC.out.mono ?_
              rintro e w1 ⟨rfl, hw⟩
              have hw := hw.symm
              subst hw
              clear HC
              go_wp2
              go_ret
              obtain ⟨q, hq⟩ := HW.out
              exact ⟨st, p, q, HK.out, HE.out, rfl, by rw [hq]⟩
            · have hns : sp (byt s p) = false := by simpa using hsp
              have hcall := isSpace_any (byt s p) wr
              rw [hns] at hcall
              have HC := hide hcall
              have HNS := hide hns
              clear hcall hsp hns
              by_cases hqu : qu (byt s p) = true
              · have hq := isQuote_any (byt s p) wr
                rw [hqu] at hq
                have HQ := hide hq
                have HQU := hide hqu
                clear hq hqu
                by_cases hlk : look s p = -1
                · have hix := fun wx => index_any (s.extract (p + 1) s.size) (byt s p) wx
                  have e0 : Lib.indexByte (s.extract (p + 1) s.size).data.toList (byt s p).toNat.toUInt8 = -1 := hlk
                  rw [e0] at hix
                  have HIX := hide hix
                  have HE : Hid (End s st s.size) := end_quote HR.out hlt HNS.out HQU.out (look_none hlk)
                  clear hix hlk e0
                  go_wp2_with fail
                  refine HC.out.mono ?_
                  rintro e w1 ⟨rfl, hw⟩
                  have hw := hw.symm
                  subst hw
                  clear HC
                  go_wp2_with fail
                  refine HQ.out.mono ?_
                  rintro e w1 ⟨rfl, hw⟩
                  have hw := hw.symm
                  subst hw
                  clear HQ
                  go_wp2
                  go_quiet ((go_at_call 21; exact Calls.quiet_of_same (HIX.out _)))
                  go_wp2
                  go_ret
                  obtain ⟨q, hq⟩ := HW.out
                  exact ⟨st, s.size, q + nq, HK.out, HE.out, rfl, by rw [hq, World.drewN_drewN, ext_self]⟩
                · obtain ⟨x, hx⟩ : ∃ x : Nat, look s p = x := ⟨(look s p).toNat, by have := look_ge s p; omega⟩
                  have hix := fun wx => index_any (s.extract (p + 1) s.size) (byt s p) wx
                  have e0 : Lib.indexByte (s.extract (p + 1) s.size).data.toList (byt s p).toNat.toUInt8 = x := hx
                  rw [e0] at hix
                  have HIX := hide hix
                  obtain ⟨l1, l2, l3⟩ := look_some hx
                  have HN : Hid (Run s st (p + x + 2)) := run_quote HR.out HNS.out HQU.out l1 l2 l3
                  clear hix hlk e0 hx l2 l3
                  go_wp2_with fail
                  refine HC.out.mono ?_
                  rintro e w1 ⟨rfl, hw⟩
                  have hw := hw.symm
                  subst hw
                  clear HC
                  go_wp2_with fail
                  refine HQ.out.mono ?_
                  rintro e w1 ⟨rfl, hw⟩
                  have hw := hw.symm
                  subst hw
                  clear HQ
                  go_wp2
                  go_quiet ((go_at_call 21; exact Calls.quiet_of_same (HIX.out _)))
                  go_wp2
                  go_roundw
                  case rel =>
                    obtain ⟨q, hq⟩ := HW.out
                    exact ⟨p + x + 2, by omega, by go_num, HN.out, q + nq, by rw [hq, World.drewN_drewN]⟩
                  case measure => simp [intOf]; omega
              · have hnq : qu (byt s p) = false := by simpa using hqu
                have hq := isQuote_any (byt s p) wr
                rw [hnq] at hq
                have HQ := hide hq
                have HN : Hid (Run s st (p + 1)) := run_plain HR.out hlt HNS.out hnq
                clear hq hqu hnq
                go_wp2_with fail
                refine HC.out.mono ?_
                rintro e w1 ⟨rfl, hw⟩
                have hw := hw.symm
                subst hw
                clear HC
                go_wp2_with fail
                refine HQ.out.mono ?_
                rintro e w1 ⟨rfl, hw⟩
                have hw := hw.symm
                subst hw
                clear HQ
                go_wp2
                go_roundw
                case rel => exact ⟨p + 1, by omega, by go_num, HN.out, HW.out⟩
                case measure => simp [intOf]; omega
          · have hps : p = s.size := by omega
            have HE : Hid (End s st p) := by
              have h := HR.out
              rw [hps] at h
              rw [hps]
              exact end_size h
            clear hps
            go_wp2
            go_ret
            obtain ⟨q, hq⟩ := HW.out
            exact ⟨st, p, q, HK.out, HE.out, rfl, by rw [hq]⟩

end Go.Proofs.Qxb6605380a
