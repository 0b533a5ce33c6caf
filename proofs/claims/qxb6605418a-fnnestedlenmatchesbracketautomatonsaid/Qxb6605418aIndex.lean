import Derived.Test.Qxb6605418aBase
namespace Go.Proofs.Qxb6605418a
open Go.RowKit
set_option linter.unusedVariables false

set_option maxHeartbeats 1000000 in
set_option maxRecDepth 100000 in
/-- bytes.IndexByte. -/
theorem index_any (a : Option Addr) (n c : Nat) (zs : List Int) (cv : Int) (w : World) (h : Rd w a n c zs) (hb : Byts zs) (hc : 0 ≤ cv ∧ cv ≤ 255) :
    Calls Try.prog 30 #[.slice a n c, .int .u8 cv] w fun e w' => e = .returned (.int .i64 (idx zs cv)) ∧ w' = w := by
  rcases h.2.2.2 with ⟨rfl, hz⟩ | ⟨b, o, rfl, hlt, hcell⟩
  · have hzs : zs = [] := List.eq_nil_of_length_eq_zero (by have := h.1; have := h.2.1; omega)
    subst hzs
    go_enter Try.func30, Try.ntmps30
    go_wp2
    rw [run_callFunc_extern Try.func31 (by kernel_rfl) (by kernel_rfl) (by kernel_rfl) (e := Extern.BytealgIndexByte.indexByte) (by kernel_rfl), Lib.run_indexByteNil w _ _ cv]
    simp only [Result.andThen]
    rw [Oper.upon_value]
    go_wp2
    go_ret
    exact ⟨rfl, rfl⟩
  · have hrun := Lib.run_indexByteSlice (P := Try.prog) w b o n c zs h.1 hcell cv
    rw [idx_eq zs cv hb hc] at hrun
    go_enter Try.func30, Try.ntmps30
    go_wp2
    rw [run_callFunc_extern Try.func31 (by kernel_rfl) (by kernel_rfl) (by kernel_rfl) (e := Extern.BytealgIndexByte.indexByte) (by kernel_rfl), hrun]
    simp only [Result.andThen]
    rw [Oper.upon_value]
    go_wp2
    go_ret
    exact ⟨rfl, rfl⟩
end Go.Proofs.Qxb6605418a
