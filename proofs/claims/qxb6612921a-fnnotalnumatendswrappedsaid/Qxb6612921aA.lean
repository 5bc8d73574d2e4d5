import Derived.Test.Qxb6612921aRows
import Derived.WalkKit
import Derived.ProofKit
import Derived.WalkLawsBesides
import Derived.WalkSpells
import Derived.Deep.QuietTactic
import Derived.BigQuiet
namespace Go.Proofs.Qxb6612921a
open Go.ChangeShapes Go.WideShapes Go.ChangeAt Go.RowKit

/-- An ASCII letter or digit. -/
def lowB (c : Int) : Bool := decide (97 ≤ c) && decide (c ≤ 122) || decide (48 ≤ c) && decide (c ≤ 57)
def alnB (c : Int) : Bool := lowB c || decide (65 ≤ c) && decide (c ≤ 90)
theorem ret_bool {a b : Bool} (h : a = b) : Ending.returned (.bool a) = .returned (.bool b) := by rw [h]

/-! isLowerAlnum (12) -/
set_option maxHeartbeats 400000 in
theorem low_any (c : Int) (w : World) : Calls Try.prog 12 #[.int .i32 c] w fun e w' => e = .returned (.bool (lowB c)) ∧ w' = w := by
  go_enter Try.func12, Try.ntmps12
  go_wp2
  all_goals go_ret
  all_goals refine ⟨ret_bool ?_, rfl⟩
  all_goals (rw [Bool.eq_iff_iff]; simp [lowB]; omega)

/-! isAlnum (11) -/
set_option maxHeartbeats 400000 in
theorem aln_any (c : Int) (w : World) : Calls Try.prog 11 #[.int .i32 c] w fun e w' => e = .returned (.bool (alnB c)) ∧ w' = w := by
  cases h : lowB c
  · have k := low_any c w
    rw [h] at k
    have HL : Hid (lowB c = false) := h
    clear h
    go_enter Try.func11, Try.ntmps11
    go_wp2_with (go_at_call 12; refine k.mono ?_; rintro e w1 ⟨rfl, rfl⟩)
    all_goals go_ret
    all_goals refine ⟨ret_bool ?_, rfl⟩
    all_goals (rw [Bool.eq_iff_iff]; simp [alnB, HL.out]; omega)
  · have k := low_any c w
    rw [h] at k
    have HL : Hid (lowB c = true) := h
    clear h
    go_enter Try.func11, Try.ntmps11
    go_wp2_with (go_at_call 12; refine k.mono ?_; rintro e w1 ⟨rfl, rfl⟩)
    go_ret
    exact ⟨ret_bool (by simp [alnB, HL.out]), rfl⟩

theorem or32 : ∀ n : Fin 256, (decide (97 ≤ bits BinOp.or IntKind.u8 (n.val : Int) 32) && decide (bits BinOp.or IntKind.u8 (n.val : Int) 32 ≤ 122) || decide (48 ≤ (n.val : Int)) && decide ((n.val : Int) ≤ 57)) = alnB (n.val : Int) := by
  decide +kernel

theorem or32' (c : Int) (h0 : 0 ≤ c) (h1 : c ≤ 255) : (decide (97 ≤ bits BinOp.or IntKind.u8 c 32) && decide (bits BinOp.or IntKind.u8 c 32 ≤ 122) || decide (48 ≤ c) && decide (c ≤ 57)) = alnB c := by
  obtain ⟨n, rfl⟩ := Int.eq_ofNat_of_zero_le h0
  exact or32 ⟨n, by omega⟩

/-! endAlnum (7) -/
set_option maxHeartbeats 400000 in
theorem end_any (c : Int) (h0 : 0 ≤ c) (h1 : c ≤ 255) (w : World) : Calls Try.prog 7 #[.int .u8 c] w fun e w' => e = .returned (.bool (alnB c)) ∧ w' = w := by
  have HO : Hid _ := or32' c h0 h1
  go_enter Try.func7, Try.ntmps7
  go_wp2
  all_goals go_ret
  all_goals refine ⟨ret_bool ?_, rfl⟩
  all_goals (rw [← HO.out, Bool.eq_iff_iff]; simp; omega)

end Go.Proofs.Qxb6612921a
