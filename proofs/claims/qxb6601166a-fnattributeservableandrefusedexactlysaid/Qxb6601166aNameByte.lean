/-
  zzNamingIsNameByte and the bound on the length, by their contracts. My own text.
-/
import Derived.Test.Qxb6601166aName
namespace Go.Proofs.Qxb6601166a
open Go.ChangeShapes Go.WideShapes Go.ChangeAt Go.RowKit

theorem table : ∀ n : Fin 256, keepB ((n.val : Nat) : Int) = (digB (n.val : Int) || ((n.val : Int) == 95) || (decide (97 ≤ bits BinOp.or IntKind.u8 (n.val : Int) 32) && decide (bits BinOp.or IntKind.u8 (n.val : Int) 32 ≤ 122))) := by decide +kernel
theorem keepB_bits (c : Int) (h0 : 0 ≤ c) (h1 : c ≤ 255) : keepB c = (digB c || (c == 95) || (decide (97 ≤ bits BinOp.or IntKind.u8 c 32) && decide (bits BinOp.or IntKind.u8 c 32 ≤ 122))) := by
  have h := table ⟨c.toNat, by omega⟩
  have e : ((c.toNat : Nat) : Int) = c := by omega
  simpa only [e] using h

set_option maxHeartbeats 1000000 in
theorem isNameByte_any (c : Int) (h0 : 0 ≤ c) (h1 : c ≤ 255) (w : World) : Calls Try.prog 17 #[.int .u8 c] w fun e w' => e = .returned (.bool (keepB c)) ∧ w' = w := by
  cases hd : digB c
  · cases hu : (c == 95)
    · go_enter Try.func17, Try.ntmps17
      go_wp2_with (go_at_call 12; refine (zzIsDigit_any _ _).mono ?_; rintro e w' ⟨rfl, hw'⟩; subst w')
      all_goals
        go_ret
        exact ⟨ret_bool (by rw [keepB_bits c h0 h1, hd, hu, Bool.eq_iff_iff]; simp <;> omega), rfl⟩
    · go_enter Try.func17, Try.ntmps17
      go_wp2_with (go_at_call 12; refine (zzIsDigit_any _ _).mono ?_; rintro e w' ⟨rfl, hw'⟩; subst w')
      go_ret
      exact ⟨ret_bool (by simp [keepB, *]), rfl⟩
  · go_enter Try.func17, Try.ntmps17
    go_wp2_with (go_at_call 12; refine (zzIsDigit_any _ _).mono ?_; rintro e w' ⟨rfl, hw'⟩; subst w')
    go_ret
    exact ⟨ret_bool (by simp [keepB, *]), rfl⟩
theorem zzBytes15_yes (s : ByteArray) (w : World) (hs : s.size ≤ 1048576) : Calls Try.prog 15 #[.string s] w fun e w' => e = .returned (.bool true) ∧ w' = w := by
  go_enter Try.func15, Try.ntmps15
  go_wp2
  go_ret
  exact ⟨rfl, rfl⟩

theorem zzBytes15_no (s : ByteArray) (w : World) (hs : 1048576 < s.size) : Calls Try.prog 15 #[.string s] w fun e w' => e = .returned (.bool false) ∧ w' = w := by
  go_enter Try.func15, Try.ntmps15
  go_wp2
  go_ret
  exact ⟨rfl, rfl⟩
end Go.Proofs.Qxb6601166a
