import Derived.Test.Qxb6618103aRows
import Derived.Test.Qxb6618103aNumPlain
import Derived.WalkKit
import Derived.WalkSpells
import Derived.WalkLawsBesides
import Derived.Deep.Light
namespace Go.Proofs.Qxb6618103a.Num
open Go.RowKit

theorem ret1 {x y : Bool} (h : x = y) : Ending.returned (.bool x) = .returned (.bool y) := by rw [h]
theorem retI {x y : Int} (h : x = y) : Ending.returned (.int .i64 x) = .returned (.int .i64 y) := by rw [h]

/-! ### numberStep, numberAutomaton -/
theorem dig_t {c : UInt8} (h : 48 ≤ (c.toNat : Int) ∧ (c.toNat : Int) ≤ 57) : digB c = true := decide_eq_true (by omega)
theorem dig_f {c : UInt8} (h : ¬ (48 ≤ (c.toNat : Int) ∧ (c.toNat : Int) ≤ 57)) : digB c = false := decide_eq_false (by omega)

set_option maxHeartbeats 1000000 in
theorem step_any (st : Nat) (c : UInt8) (hst : st ≤ 8) (w : World) :
    Calls Try.prog 22 #[.int .i64 st, .int .u8 (c.toNat : Int)] w fun e w' => e = .returned (.int .i64 (step st c : Nat)) ∧ w' = w := by
  have hc := c.toNat_lt
  have hst' : st = 0 ∨ st = 1 ∨ st = 2 ∨ st = 3 ∨ st = 4 ∨ st = 5 ∨ st = 6 ∨ st = 7 ∨ st = 8 := by omega
  rcases hst' with rfl | rfl | rfl | rfl | rfl | rfl | rfl | rfl | rfl
  all_goals
    clear hst
    go_enter Try.func22, Try.ntmps22
    go_wp2
    all_goals
      go_ret
      refine ⟨retI ?_, rfl⟩
      go_light
      try simp only [beq_iff_eq, beq_eq_false_iff_ne, ne_eq] at *
      simp only [step, digB, signB, dotB, markB, decide_eq_true_eq]
      repeat' split
      all_goals omega

end Go.Proofs.Qxb6618103a.Num
