import Derived.Test.Qxb6605380aRows
import Derived.Test.Qxb6605380aPlain
import Derived.WalkKit
import Derived.ProofKit
import Derived.Below
import Derived.WalkSpells
import Derived.WalkLawsBesides
import Derived.BigQuiet
import Derived.Deep.QuietTactic
import Derived.Lib.Walk
import Derived.Lib.Bytealg
import Derived.Lib.Strings
namespace Go.Proofs.Qxb6605380a
open Go.RowKit
set_option linter.unusedVariables false

theorem hide {p : Prop} (h : p) : Hid p := h

theorem ret_bool {a b : Bool} (h : b = a) : Ending.returned (.bool a) = .returned (.bool b) := by rw [h]

set_option maxHeartbeats 1000000 in
/-- isSpace, of a rune. -/
theorem isSpace_any (c : Int) (w : World) : Calls Try.prog 19 #[.int .i32 c] w fun e w' => e = .returned (.bool (sp c)) ∧ w' = w := by
  go_enter Try.func19, Try.ntmps19
  go_wp2
  · go_ret
    exact ⟨ret_bool (by simp [sp, ‹c = 32›]), rfl⟩
  · go_ret
    exact ⟨rfl, rfl⟩

set_option maxHeartbeats 1000000 in
/-- isSpB1, of a byte. -/
theorem isSp_any (c : Int) (w : World) : Calls Try.prog 9 #[.int .u8 c] w fun e w' => e = .returned (.bool (sp c)) ∧ w' = w := by
  go_enter Try.func9, Try.ntmps9
  go_wp2
  · go_ret
    exact ⟨ret_bool (by simp [sp, ‹c = 32›]), rfl⟩
  · go_ret
    exact ⟨rfl, rfl⟩

set_option maxHeartbeats 1000000 in
/-- isQuote. -/
theorem isQuote_any (c : Int) (w : World) : Calls Try.prog 20 #[.int .u8 c] w fun e w' => e = .returned (.bool (qu c)) ∧ w' = w := by
  go_enter Try.func20, Try.ntmps20
  go_wp2
  · go_ret
    exact ⟨ret_bool (by simp [qu, ‹c = 96›]), rfl⟩
  · go_ret
    exact ⟨rfl, rfl⟩

set_option maxHeartbeats 1000000 in
/-- isQuoteB1. -/
theorem isQu_any (c : Int) (w : World) : Calls Try.prog 10 #[.int .u8 c] w fun e w' => e = .returned (.bool (qu c)) ∧ w' = w := by
  go_enter Try.func10, Try.ntmps10
  go_wp2
  · go_ret
    exact ⟨ret_bool (by simp [qu, ‹c = 96›]), rfl⟩
  · go_ret
    exact ⟨rfl, rfl⟩

set_option maxHeartbeats 1000000 in
set_option maxRecDepth 100000 in
theorem slite_any (s : ByteArray) (c : Int) (w : World) :
    Calls Try.prog 22 #[.string s, .int .u8 c] w fun e w' => e = .returned (.int .i64 (Lib.indexByte s.data.toList c.toNat.toUInt8)) ∧ w' = w := by
  go_enter Try.func22, Try.ntmps22
  go_wp2
  rw [run_callFunc_extern Try.func23 (by kernel_rfl) (by kernel_rfl) (by kernel_rfl) (e := Extern.BytealgIndexByte.indexByte) (by kernel_rfl), Lib.run_indexByteString]
  simp only [Result.andThen]
  rw [Oper.upon_value]
  go_wp2
  go_ret
  exact ⟨rfl, rfl⟩

set_option maxHeartbeats 1000000 in
set_option maxRecDepth 100000 in
/-- strings.IndexByte. -/
theorem index_any (s : ByteArray) (c : Int) (w : World) :
    Calls Try.prog 21 #[.string s, .int .u8 c] w fun e w' => e = .returned (.int .i64 (Lib.indexByte s.data.toList c.toNat.toUInt8)) ∧ w' = w := by
  go_enter Try.func21, Try.ntmps21
  go_wp2_with fail
  refine (slite_any s c w).mono ?_
  rintro e w' ⟨rfl, rfl⟩
  go_wp2
  go_ret
  exact ⟨rfl, rfl⟩

set_option maxHeartbeats 1000000 in
theorem zz7_any (s : ByteArray) (w : World) : Calls Try.prog 7 #[.string s] w fun e w' => (∃ t, e = .returned (.bool t)) ∧ w' = w := by
  go_enter Try.func7, Try.ntmps7
  go_wp2
  all_goals
    go_ret
    exact ⟨⟨_, rfl⟩, rfl⟩

set_option maxHeartbeats 1000000 in
theorem zz11_any (s : ByteArray) (w : World) : Calls Try.prog 11 #[.string s] w fun e w' => (∃ t, e = .returned (.bool t)) ∧ w' = w := by
  go_enter Try.func11, Try.ntmps11
  go_wp2
  all_goals
    go_ret
    exact ⟨⟨_, rfl⟩, rfl⟩

end Go.Proofs.Qxb6605380a
