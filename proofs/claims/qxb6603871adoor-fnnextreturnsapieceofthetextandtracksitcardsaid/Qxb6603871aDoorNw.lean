import Derived.Test.Qxb6603871aDoorZzt
import Derived.BigQuiet
set_option linter.unusedVariables false
set_option linter.unusedSimpArgs false
namespace Go.Proofs.Qxb6603871aDoor
open Go.RowKit Go.PlainAid

/-- Can this byte begin a word? -/
def wb (c : Int) : Bool := c == 95 || (decide (97 ≤ c) && decide (c ≤ 122)) || (decide (65 ≤ c) && decide (c ≤ 90)) || (decide (48 ≤ c) && decide (c ≤ 57)) || decide (128 ≤ c)

set_option maxHeartbeats 1000000 in
theorem ws_any (c : Int) (w : World) (h0 : 0 ≤ c) (h1 : c ≤ 255) (r : Bool) (HR : Hid (r = wb c)) : Calls Tryd.prog 31 #[.int .u8 c] w fun e w' => e = .returned (.bool r) ∧ w' = w := by
  go_enter Tryd.func31, Tryd.ntmps31
  go_wp2
  all_goals (go_ret; exact ⟨ret_bool ((show _ = wb c by unfold wb; first | rfl | (rw [Bool.eq_iff_iff]; simp only [Bool.or_eq_true, Bool.and_eq_true, decide_eq_true_eq, beq_iff_eq, Bool.true_eq, true_iff, iff_true, reduceCtorEq, false_iff]; omega)).trans HR.out.symm), rfl⟩)

set_option maxHeartbeats 1000000 in
/-- The law's own word-byte test (zzWordByte). -/
theorem wb_any (c : Int) (w : World) (h0 : 0 ≤ c) (h1 : c ≤ 255) (r : Bool) (HR : Hid (r = wb c)) : Calls Tryd.prog 11 #[.int .u8 c] w fun e w' => e = .returned (.bool r) ∧ w' = w := by
  go_enter Tryd.func11, Tryd.ntmps11
  go_wp2
  all_goals (go_ret; exact ⟨ret_bool ((show _ = wb c by unfold wb; first | rfl | (rw [Bool.eq_iff_iff]; simp only [Bool.or_eq_true, Bool.and_eq_true, decide_eq_true_eq, beq_iff_eq, Bool.true_eq, true_iff, iff_true, reduceCtorEq, false_iff]; omega)).trans HR.out.symm), rfl⟩)

/-- The law's special bytes. -/
def sb (c : Int) : Bool := c == 39 || c == 34 || c == 96 || c == 64 || c == 45 || c == 35 || c == 47 || c == 36
set_option maxHeartbeats 1000000 in
theorem sb_any (c : Int) (w : World) (h0 : 0 ≤ c) (h1 : c ≤ 255) (r : Bool) (HR : Hid (r = sb c)) : Calls Tryd.prog 9 #[.int .u8 c] w fun e w' => e = .returned (.bool r) ∧ w' = w := by
  go_enter Tryd.func9, Tryd.ntmps9
  go_wp2
  all_goals (go_ret; exact ⟨ret_bool ((show _ = sb c by unfold sb; first | rfl | (rw [Bool.eq_iff_iff]; simp only [Bool.or_eq_true, Bool.and_eq_true, decide_eq_true_eq, beq_iff_eq, Bool.true_eq, true_iff, iff_true, reduceCtorEq, false_iff]; omega)).trans HR.out.symm), rfl⟩)
end Go.Proofs.Qxb6603871aDoor
