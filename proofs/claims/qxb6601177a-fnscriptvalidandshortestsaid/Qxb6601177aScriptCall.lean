/-
  ZZscript, by its contract. My own text.
-/
import Derived.Test.Qxb6601177aScript
namespace Go.Proofs.Qxb6601177a
open Go.ChangeShapes Go.WideShapes Go.ChangeAt Go.RowKit

theorem zzScript_any (a b : Option Addr) (n m ca cb : Nat) (A B : List ByteArray) (w : World) (hA : Strs w a n ca A) (hB : Strs w b m cb B) (hnm : n + m ≤ 1048576) :
    Calls Try.prog 12 #[.slice a n ca, .slice b m cb] w fun e w' => Scripted (eqE A B) n m w e w' := by
  have HS := script_any a b n m ca cb A B w hA hB hnm
  have H : Hid (Calls Try.prog 22 #[.slice a n ca, .slice b m cb] w fun e w' => Scripted (eqE A B) n m w e w') := HS
  clear HS
  go_enter Try.func12, Try.ntmps12
  go_wp2_with fail
  refine H.out.mono ?_
  intro e w' hS
  obtain ⟨v, st, h, t, mid, rfl, r⟩ := hS
  go_wp2
  go_ret
  exact ⟨v, st, h, t, mid, rfl, r⟩
end Go.Proofs.Qxb6601177a
