/-
  The small predicates on bytes, by their contracts. My own text.
-/
import Derived.Test.Qxb6601166aRows
import Derived.WalkKit
import Derived.ProofKit
namespace Go.Proofs.Qxb6601166a
open Go.ChangeShapes Go.WideShapes Go.ChangeAt Go.RowKit

def lowB (c : Int) : Bool := decide (97 ≤ c) && decide (c ≤ 122)
def upB (c : Int) : Bool := decide (65 ≤ c) && decide (c ≤ 90)
def digB (c : Int) : Bool := decide (48 ≤ c) && decide (c ≤ 57)
def keepB (c : Int) : Bool := lowB c || upB c || digB c || (c == 95)

theorem ret_bool {a b : Bool} (h : a = b) : Ending.returned (.bool a) = .returned (.bool b) := by rw [h]

theorem isLower_any (c : Int) (w : World) : Calls Try.prog 25 #[.int .u8 c] w fun e w' => e = .returned (.bool (lowB c)) ∧ w' = w := by
  unfold lowB
  by_cases h : 97 ≤ c
  all_goals
    go_enter Try.func25, Try.ntmps25
    go_wp2
    go_ret
    exact ⟨ret_bool (by rw [Bool.eq_iff_iff]; simp <;> omega), rfl⟩

theorem isUpper_any (c : Int) (w : World) : Calls Try.prog 24 #[.int .u8 c] w fun e w' => e = .returned (.bool (upB c)) ∧ w' = w := by
  unfold upB
  by_cases h : 65 ≤ c
  all_goals
    go_enter Try.func24, Try.ntmps24
    go_wp2
    go_ret
    exact ⟨ret_bool (by rw [Bool.eq_iff_iff]; simp <;> omega), rfl⟩

theorem isDigit_any (c : Int) (w : World) : Calls Try.prog 22 #[.int .u8 c] w fun e w' => e = .returned (.bool (digB c)) ∧ w' = w := by
  unfold digB
  by_cases h : 48 ≤ c
  all_goals
    go_enter Try.func22, Try.ntmps22
    go_wp2
    go_ret
    exact ⟨ret_bool (by rw [Bool.eq_iff_iff]; simp <;> omega), rfl⟩

theorem zzIsDigit_any (c : Int) (w : World) : Calls Try.prog 12 #[.int .u8 c] w fun e w' => e = .returned (.bool (digB c)) ∧ w' = w := by
  unfold digB
  by_cases h : 48 ≤ c
  all_goals
    go_enter Try.func12, Try.ntmps12
    go_wp2
    go_ret
    exact ⟨ret_bool (by rw [Bool.eq_iff_iff]; simp <;> omega), rfl⟩

theorem zzIsLower_any (c : Int) (w : World) : Calls Try.prog 13 #[.int .u8 c] w fun e w' => e = .returned (.bool (lowB c)) ∧ w' = w := by
  unfold lowB
  by_cases h : 97 ≤ c
  all_goals
    go_enter Try.func13, Try.ntmps13
    go_wp2
    go_ret
    exact ⟨ret_bool (by rw [Bool.eq_iff_iff]; simp <;> omega), rfl⟩

end Go.Proofs.Qxb6601166a
