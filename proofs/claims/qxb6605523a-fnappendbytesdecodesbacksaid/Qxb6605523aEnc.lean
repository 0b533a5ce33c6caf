import Derived.Test.Qxb6605523aAppend
namespace Go.Proofs.Qxb6605523a
open Go.RowKit
set_option linter.unusedVariables false

/-- The escaped bytes, without the terminator. -/
def encP : List Int → List Int
  | [] => []
  | z :: l => if z = 0 then 0 :: 255 :: encP l else z :: encP l

theorem encP_append : ∀ a b : List Int, encP (a ++ b) = encP a ++ encP b
  | [], b => rfl
  | z :: l, b => by
    simp only [List.cons_append, encP, encP_append l b]
    split <;> rfl

theorem encP_plain : ∀ l : List Int, 0 ∉ l → encP l = l
  | [], _ => rfl
  | z :: l, h => by
    have hz : z ≠ 0 := fun e => h (by simp [e])
    have hl : 0 ∉ l := fun e => h (List.mem_cons_of_mem _ e)
    simp [encP, hz, encP_plain l hl]

theorem encP_len : ∀ l : List Int, (encP l).length ≤ 2 * l.length
  | [] => by simp [encP]
  | z :: l => by
    have := encP_len l
    unfold encP
    split <;> simp <;> omega

theorem take_more (zs : List Int) (k j : Nat) : zs.take (k + j) = zs.take k ++ (zs.drop k).take j := by
  rw [List.take_add]

theorem enc_step (zs : List Int) (k j : Nat) (h : idx (zs.drop k) 0 = j) : encP (zs.take (k + j + 1)) = encP (zs.take k) ++ (zs.drop k).take j ++ [0, 255] := by
  obtain ⟨r, h1, h2, h3⟩ := idx_some _ _ _ h
  have hl : ((zs.drop k).take j).length = j := by
    have := idx_lt (zs.drop k) 0
    rw [List.length_take]; omega
  have e : (zs.drop k).take (j + 1) = (zs.drop k).take j ++ [0] := by
    have := congrArg (List.take (j + 1)) h1
    rw [this, List.take_append, hl, List.take_of_length_le (l := (zs.drop k).take j) (by omega)]
    simp
  rw [Nat.add_assoc, take_more, e, encP_append, encP_append, encP_plain _ h3, List.append_assoc]
  rfl

theorem enc_end (zs : List Int) (k : Nat) (h : idx (zs.drop k) 0 = -1) : encP zs = encP (zs.take k) ++ zs.drop k := by
  rw [← encP_plain _ (idx_none _ _ h), ← encP_append, List.take_append_drop]

theorem hide {p : Prop} (h : p) : Hid p := h

def slen : Value → Nat | .slice _ n _ => n | _ => 0

/-- A slice's tail reads as the numbers' tail, whatever the walk writes for the address. -/
theorem Rd.tail {w : World} {b o n c : Nat} {zs : List Int} (h : Rd w (some ⟨b, o, none⟩) n c zs) (j : Nat) (hj : j ≤ n) (ad : Option Addr) (had : ad = if c = j then some ⟨b, o, none⟩ else some ⟨b, o + j, none⟩) :
    Rd w ad (n - j) (c - j) (zs.drop j) := by
  rcases h.2.2.2 with ⟨h0, _⟩ | ⟨b', o', h0, hlt, hc⟩
  · cases h0
  · cases h0
    refine ⟨by simp [h.1], by have := h.2.1; omega, by have := h.2.2.1; omega, .inr ?_⟩
    by_cases e : c = j
    · rw [if_pos e] at had
      exact ⟨b, o, had, hlt, fun i hi => by have := h.2.1; omega⟩
    · rw [if_neg e] at had
      refine ⟨b, o + j, had, hlt, fun i hi => ?_⟩
      rw [Nat.add_assoc, hc (j + i) (by omega)]
      simp [List.getD]

theorem Rd.head {w : World} {a : Option Addr} {n c : Nat} {zs : List Int} (h : Rd w a n c zs) (j : Nat) (hj : j ≤ n) : Rd w a j c (zs.take j) := by
  refine ⟨by rw [List.length_take, h.1]; omega, by have := h.2.1; omega, h.2.2.1, ?_⟩
  rcases h.2.2.2 with h0 | ⟨b, o, rfl, hlt, hc⟩
  · exact .inl h0
  · refine .inr ⟨b, o, rfl, hlt, fun i hi => ?_⟩
    rw [hc i (by omega)]
    simp [List.getD, hi]

/-- A literal of two bytes, just laid. -/
theorem rd_two (w : World) (x y : Int) : Rd (w.alloc (.cells #[.int .u8 x, .int .u8 y] 5)) (some ⟨w.heap.size, 0, none⟩) 2 2 [x, y] := by
  refine ⟨rfl, Nat.le_refl _, by unfold maxLen; omega, .inr ⟨w.heap.size, 0, rfl, by simp, fun i hi => ?_⟩⟩
  match i, hi with
  | 0, _ => simp
  | 1, _ => simp

theorem own_cast {w : World} {B : Nat} {v : Value} {n m : Nat} {xs ys : List Value} (h : w.ownsRow B 5 1 v n xs) (hn : n = m) (hx : xs = ys) : w.ownsRow B 5 1 v m ys := by subst hn; subst hx; exact h

theorem own_end {w : World} {B : Nat} {v : Value} {nb k n : Nat} {xs : List Value} {zs : List Int} (H : Hid (idx (zs.drop k) 0 = -1)) (hl : (zs.drop k).length = n)
    (h : w.ownsRow B 5 1 v (nb + (encP (zs.take k)).length + n + 2) (xs ++ (encP (zs.take k)).map (Value.int .u8) ++ (zs.drop k).map (Value.int .u8) ++ [0, 1].map (Value.int .u8))) :
    w.ownsRow B 5 1 v (nb + (encP zs).length + 2) (xs ++ (encP zs ++ [0, 1]).map (Value.int .u8)) := by
  have e := enc_end zs k H.out
  refine own_cast h ?_ ?_
  · rw [e, List.length_append]; omega
  · rw [e]; simp

theorem own_step {w : World} {B : Nat} {v : Value} {nb k j n : Nat} {xs : List Value} {zs : List Int} (H : Hid (idx (zs.drop k) 0 = j)) (hl : (zs.drop k).length = n)
    (h : w.ownsRow B 5 1 v (nb + (encP (zs.take k)).length + j + 2) (xs ++ (encP (zs.take k)).map (Value.int .u8) ++ ((zs.drop k).take j).map (Value.int .u8) ++ [0, 255].map (Value.int .u8))) :
    w.ownsRow B 5 1 v (nb + (encP (zs.take (k + j + 1))).length) (xs ++ (encP (zs.take (k + j + 1))).map (Value.int .u8)) := by
  have e := enc_step zs k j H.out
  have hj := idx_lt (zs.drop k) 0
  rw [H.out] at hj
  refine own_cast h ?_ ?_
  · rw [e, List.length_append, List.length_append, List.length_take]; simp only [List.length_cons, List.length_nil]; omega
  · rw [e]; simp

set_option maxHeartbeats 1000000 in
theorem appendBytes_any (B : Nat) (v : Value) (nb : Nat) (xs : List Value) (a : Option Addr) (n c : Nat) (zs : List Int) (w : World)
    (hown : w.ownsRow B 5 1 v nb xs) (hB : B ≤ w.heap.size) (hr : Rd w a n c zs) (hz : Byts zs) (hne : ∀ x, a = some x → some x.block ≠ v.ownBlock) (hsz : nb + 2 * n ≤ 1073741824) :
    Calls Try.prog 11 #[v, .slice a n c] w fun e w' => ∃ v', e = .returned v' ∧ w'.ownsRow B 5 1 v' (nb + (encP zs).length + 2) (xs ++ (encP zs ++ [0, 1]).map (Value.int .u8)) ∧ Grows w v w' v' := by
  go_enter Try.func11, Try.ntmps11
  go_wp2
  go_loopw [0, 1] (fun sb ss wr => ∃ (k : Nat) (vb : Value) (a' : Option Addr) (n' c' : Nat), sb = vb ∧ ss = .slice a' n' c' ∧ n' + k = n ∧ Rd w a' n' c' (zs.drop k) ∧
      (∀ x, a' = some x → some x.block ≠ v.ownBlock) ∧ wr.ownsRow B 5 1 vb (nb + (encP (zs.take k)).length) (xs ++ (encP (zs.take k)).map (Value.int .u8)) ∧ Grows w v wr vb) (fun _ ss _ => slen ss)
  case atStart => exact ⟨0, v, a, n, c, rfl, rfl, rfl, by simpa using hr, hne, by simpa [encP] using hown, Grows.refl _ _⟩
  case round =>
    obtain ⟨k, vb, a', n', c', rfl, rfl, hkn, hrd0, hblk, hown', hgr⟩ := hrel
    have hrd : Rd wr a' n' c' (zs.drop k) := hrd0.kept hgr.grown hblk
    have hlen := encP_len (zs.take k)
    have htl : (zs.take k).length ≤ k := List.length_take_le _ _
    have hidx := index_any a' n' c' (zs.drop k) 0 wr hrd (hz.drop k) (by omega)
    by_cases hneg : idx (zs.drop k) 0 = -1
    · rw [hneg] at hidx
      have HI := hide hidx
      have HN := hide hneg
      have hk1 : n' + k ≤ n := by omega
      have hk2 : n ≤ n' + k := by omega
      have hB1 : B ≤ wr.heap.size := Nat.le_trans hB hgr.grown.size
      clear hidx hneg hkn
      go_wp2_with fail
      refine HI.out.mono ?_
      rintro e w' ⟨rfl, rfl⟩
      go_wp2_with (at_builtin; refine wpList_app rfl (.tmp 22) (.tmp 23) rfl B _ _ _ _ _ _ _ rfl rfl hown' hrd (by omega) hB1 ?_)
      intro v1 w1 hown1 hgr1
      have hB2 : B ≤ (w1.alloc (.cells #[.int .u8 0, .int .u8 1] 5)).heap.size := by have := hgr1.grown.size; simp; omega
      go_wp2_with (at_builtin; refine wpList_app rfl (.tmp 25) (.tmp 26) rfl B _ _ _ _ _ _ _ rfl rfl (hown1.alloc _) (rd_two w1 0 1) (by omega) hB2 ?_)
      intro v2 w2 hown2 hgr2
      go_wp2
      go_ret
      exact ⟨v2, rfl, own_end HN hrd.1 (own_cast hown2 rfl (by simp)), (hgr.trans hgr1).alloc_trans hgr2⟩
    · obtain ⟨j, hj⟩ : ∃ j : Nat, idx (zs.drop k) 0 = j := ⟨(idx (zs.drop k) 0).toNat, by have := idx_ge (zs.drop k) 0; omega⟩
      have hjl : j < n' := by have := idx_lt (zs.drop k) 0; have := hrd.1; omega
      rw [hj] at hidx
      obtain ⟨b, o, rfl, hblt, _⟩ := hrd.at (show 0 < n' by omega)
      have HI := hide hidx
      have HN := hide hj
      have hk1 : n' + k ≤ n := by omega
      have hk2 : n ≤ n' + k := by omega
      have hnc : n' ≤ c' := hrd.2.1
      have hcm : c' ≤ 9223372036854775807 := hrd.2.2.1
      have hB1 : B ≤ wr.heap.size := Nat.le_trans hB hgr.grown.size
      have ht := hrd0.tail (j + 1) (by omega) _ rfl
      rw [List.drop_drop] at ht
      have hb : ∀ x, (if c' = j + 1 then some (⟨b, o, none⟩ : Addr) else some ⟨b, o + (j + 1), none⟩) = some x → some x.block ≠ v.ownBlock := by intro x hx; split at hx <;> (cases hx; exact hblk ⟨b, o, none⟩ rfl)
      clear hidx hneg hkn hj hblk
      go_wp2_with fail
      refine HI.out.mono ?_
      rintro e w' ⟨rfl, rfl⟩
      go_wp2_with (at_builtin; refine wpList_app rfl (.tmp 10) (.tmp 13) rfl B _ _ _ _ _ _ _ rfl rfl hown' (hrd.head j (by omega)) (by omega) hB1 ?_)
      intro v1 w1 hown1 hgr1
      have hB2 : B ≤ (w1.alloc (.cells #[.int .u8 0, .int .u8 255] 5)).heap.size := by have := hgr1.grown.size; simp; omega
      go_wp2_with (at_builtin; refine wpList_app rfl (.tmp 15) (.tmp 16) rfl B _ _ _ _ _ _ _ rfl rfl (hown1.alloc _) (rd_two w1 0 255) (by omega) hB2 ?_)
      intro v2 w2 hown2 hgr2
      go_wp2
      go_roundw
      case rel => exact ⟨k + j + 1, v2, _, _, _, rfl, rfl, by omega, ht, hb, own_step HN hrd.1 (own_cast hown2 rfl (by simp)), (hgr.trans hgr1).alloc_trans hgr2⟩
      case measure => simp [slen]; omega
end Go.Proofs.Qxb6605523a
