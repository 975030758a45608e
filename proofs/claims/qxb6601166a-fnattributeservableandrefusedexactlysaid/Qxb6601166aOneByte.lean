/-
  FnNameCharactersOfOneByte: the walk. My own text.
-/
import Derived.Test.Qxb6601166aName
import Derived.Laws.BytesArg
namespace Go.Proofs.Qxb6601166a
open Go.ChangeShapes Go.WideShapes Go.ChangeAt Go.RowKit

theorem zzNameCharacters_any (s : ByteArray) (w : World) (hs : s.size ≤ 1048576) :
    Calls Try.prog 16 #[.string s] w fun e w' => e = .returned (.slice (some ⟨w.heap.size, 0, none⟩) (kept (bytesOf s)).length s.size) ∧
      w'.ownsRow w.heap.size 5 1 (.slice (some ⟨w.heap.size, 0, none⟩) (kept (bytesOf s)).length s.size) (kept (bytesOf s)).length ((kept (bytesOf s)).map (Value.int .u8)) ∧ Below w.heap.size w w' := by
  go_enter Try.func16, Try.ntmps16
  go_wp2_with (go_at_call 21; refine (nameCharacters_any s _ hs).mono ?_; rintro e w' ⟨rfl, hown, hb⟩)
  go_ret
  exact ⟨rfl, hown, hb⟩

theorem bytesOf_one (c : Int) (h0 : 0 ≤ c) (h1 : c ≤ 255) : bytesOf (strOfNums [c]) = [c] := by
  simp [bytesOf, strOfNums]
  omega
theorem size_one (c : Int) : (strOfNums [c]).size = 1 := rfl

theorem one_yes (c : Int) (h0 : 0 ≤ c) (h1 : c ≤ 255) (hk : keepB c = true) (w : World) :
    Calls Try.prog 16 #[.string (strOfNums [c])] w fun e w' => e = .returned (.slice (some ⟨w.heap.size, 0, none⟩) 1 1) ∧ w'.cell? ⟨w.heap.size, 0, none⟩ = some (.int .u8 c) ∧ Below w.heap.size w w' := by
  have hb := bytesOf_one c h0 h1
  have e1 : kept [c] = [c] := by simp [kept, hk]
  refine (zzNameCharacters_any (strOfNums [c]) w (by rw [size_one]; omega)).mono ?_
  rintro e w' ⟨rfl, hown, hbel⟩
  rw [hb, e1, size_one] at *
  exact ⟨rfl, by simpa [Addr.add] using hown.cells (g := w.heap.size) rfl 0 (.int .u8 c) rfl, hbel⟩

theorem one_no (c : Int) (h0 : 0 ≤ c) (h1 : c ≤ 255) (hk : keepB c = false) (w : World) :
    Calls Try.prog 16 #[.string (strOfNums [c])] w fun e w' => e = .returned (.slice (some ⟨w.heap.size, 0, none⟩) 0 1) ∧ Below w.heap.size w w' := by
  have hb := bytesOf_one c h0 h1
  have e1 : kept [c] = [] := by simp [kept, hk]
  refine (zzNameCharacters_any (strOfNums [c]) w (by rw [size_one]; omega)).mono ?_
  rintro e w' ⟨rfl, hown, hbel⟩
  rw [hb, e1, size_one] at *
  exact ⟨rfl, hbel⟩

set_option maxHeartbeats 1000000 in
theorem oneByte_walk (c : Int) (h0 : 0 ≤ c) (h1 : c ≤ 255) (w : World) :
    Calls Try.prog 6 #[.int .u8 c] w fun e w' => e = .returned (.bool true) ∧ Below w.heap.size w w' := by
  have hcv := run_convert_bytes_arg (P := Try.prog) (w.alloc (.cells #[.int .u8 c] 5)) 25 5 Try.underlying25 Try.underlying5 w.heap.size 0 1 1 [c] rfl (by intro i hi; obtain rfl : i = 0 := (by omega); simp) 9 Try.underlying9
  have hcases : (c < 48) ∨ (48 ≤ c ∧ c ≤ 57) ∨ (58 ≤ c ∧ c < 65) ∨ (65 ≤ c ∧ c ≤ 90) ∨ c = 95 ∨ (91 ≤ c ∧ c < 97 ∧ (c == 95) = false) ∨ (97 ≤ c ∧ c ≤ 122) ∨ 123 ≤ c := by
    rcases h : (c == 95) with _ | _
    · simp at h; simp; omega
    · simp at h; omega
  rcases hcases with hc | hc | hc | hc | rfl | hc | hc | hc
  · have hk : keepB c = false := by simp [keepB, lowB, upB, digB]; omega
    go_enter Try.func6, Try.ntmps6
    go_wp2_with (go_at_call 16; refine (one_no c h0 h1 hk _).mono ?_; rintro e w' ⟨rfl, hb⟩)
    go_ret
    exact ⟨rfl, ((Below.refl _ _).alloc (Nat.le_refl _) _).trans (hb.mono (by simp))⟩
  · have hk : keepB c = true := by simp [keepB, lowB, upB, digB]; omega
    go_enter Try.func6, Try.ntmps6
    go_wp2_with (go_at_call 16; refine (one_yes c h0 h1 hk _).mono ?_; rintro e w' ⟨rfl, hc0, hb⟩; simp at hc0)
    go_ret
    exact ⟨by simp, ((Below.refl _ _).alloc (Nat.le_refl _) _).trans (hb.mono (by simp))⟩
  · have hk : keepB c = false := by simp [keepB, lowB, upB, digB]; omega
    go_enter Try.func6, Try.ntmps6
    go_wp2_with (go_at_call 16; refine (one_no c h0 h1 hk _).mono ?_; rintro e w' ⟨rfl, hb⟩)
    go_ret
    exact ⟨rfl, ((Below.refl _ _).alloc (Nat.le_refl _) _).trans (hb.mono (by simp))⟩
  · have hk : keepB c = true := by simp [keepB, lowB, upB, digB]; omega
    go_enter Try.func6, Try.ntmps6
    go_wp2_with (go_at_call 16; refine (one_yes c h0 h1 hk _).mono ?_; rintro e w' ⟨rfl, hc0, hb⟩; simp at hc0)
    go_ret
    exact ⟨by simp, ((Below.refl _ _).alloc (Nat.le_refl _) _).trans (hb.mono (by simp))⟩
  · have hk : keepB 95 = true := by decide
    go_enter Try.func6, Try.ntmps6
    go_wp2_with (go_at_call 16; refine (one_yes 95 h0 h1 hk _).mono ?_; rintro e w' ⟨rfl, hc0, hb⟩; simp at hc0)
    go_ret
    exact ⟨by simp, ((Below.refl _ _).alloc (Nat.le_refl _) _).trans (hb.mono (by simp))⟩
  · have hk : keepB c = false := by simp [keepB, lowB, upB, digB]; simp at hc; omega
    go_enter Try.func6, Try.ntmps6
    go_wp2_with (go_at_call 16; refine (one_no c h0 h1 hk _).mono ?_; rintro e w' ⟨rfl, hb⟩)
    go_ret
    exact ⟨rfl, ((Below.refl _ _).alloc (Nat.le_refl _) _).trans (hb.mono (by simp))⟩
  · have hk : keepB c = true := by simp [keepB, lowB, upB, digB]; omega
    go_enter Try.func6, Try.ntmps6
    go_wp2_with (go_at_call 16; refine (one_yes c h0 h1 hk _).mono ?_; rintro e w' ⟨rfl, hc0, hb⟩; simp at hc0)
    go_ret
    exact ⟨by simp, ((Below.refl _ _).alloc (Nat.le_refl _) _).trans (hb.mono (by simp))⟩
  · have hk : keepB c = false := by simp [keepB, lowB, upB, digB]; omega
    go_enter Try.func6, Try.ntmps6
    go_wp2_with (go_at_call 16; refine (one_no c h0 h1 hk _).mono ?_; rintro e w' ⟨rfl, hb⟩)
    go_ret
    exact ⟨rfl, ((Below.refl _ _).alloc (Nat.le_refl _) _).trans (hb.mono (by simp))⟩
end Go.Proofs.Qxb6601166a
