/-
  FnAttributeServableAndRefusedExactly: the walk. My own text.
-/
import Derived.Test.Qxb6601166aAttr
namespace Go.Proofs.Qxb6601166a
open Go.ChangeShapes Go.WideShapes Go.ChangeAt Go.RowKit

theorem zzBytes11_yes (s : ByteArray) (w : World) (hs : s.size ≤ 1048576) : Calls Try.prog 11 #[.string s] w fun e w' => e = .returned (.bool true) ∧ w' = w := by
  go_enter Try.func11, Try.ntmps11
  go_wp2
  go_ret
  exact ⟨rfl, rfl⟩

theorem zzBytes11_no (s : ByteArray) (w : World) (hs : 1048576 < s.size) : Calls Try.prog 11 #[.string s] w fun e w' => e = .returned (.bool false) ∧ w' = w := by
  go_enter Try.func11, Try.ntmps11
  go_wp2
  go_ret
  exact ⟨rfl, rfl⟩

theorem byte_bounds (c : UInt8) : 0 ≤ (c.toNat : Int) ∧ (c.toNat : Int) ≤ 255 := by have := c.toNat_lt; omega

theorem any_take (l : List Int) (p : Int → Bool) (k : Nat) (hk : k < l.length) (h0 : (l.take k).any p = false) : (l.take (k + 1)).any p = p l[k] := by
  rw [List.take_succ_eq_append_getElem hk, List.any_append, h0]
  simp

theorem bytesOf_at (s : ByteArray) (k : Nat) (hk : k < s.size) (hl : k < (bytesOf s).length) : (bytesOf s)[k] = (s[k].toNat : Int) := by
  simp [bytesOf]
  rfl

set_option maxHeartbeats 1000000 in
theorem hasLetter_any (s : ByteArray) (w : World) (hs : s.size ≤ 1048576) : Calls Try.prog 14 #[.string s] w fun e w' => e = .returned (.bool (hasB (bytesOf s))) ∧ w' = w := by
  have HS : Hid ((bytesOf s).length = s.size) := bytesOf_length s
  go_enter Try.func14, Try.ntmps14
  go_wp2
  go_loop [3] (fun i => ∃ k : Nat, k ≤ s.size ∧ i = .int .i64 k ∧ hasB ((bytesOf s).take k) = false) (fun i => s.size - (intOf i).toNat)
  case atStart => exact ⟨0, Nat.zero_le _, rfl, rfl⟩
  case round =>
    obtain ⟨k, hk, rfl, hno⟩ := hrel
    by_cases hlt : k < s.size
    · have hl : k < (bytesOf s).length := by rw [HS.out]; exact hlt
      have hst : hasB ((bytesOf s).take (k + 1)) = (keepB (s[k].toNat : Int) && !digB (s[k].toNat : Int)) := by
        have := any_take (bytesOf s) (fun c => keepB c && !digB c) k hl hno
        rw [bytesOf_at s k hlt hl] at this
        exact this
      have hall : hasB (bytesOf s) = (hasB ((bytesOf s).take (k + 1)) || hasB ((bytesOf s).drop (k + 1))) := by
        unfold hasB; rw [← List.any_append, List.take_append_drop]
      have HN : Hid (hasB ((bytesOf s).take (k + 1)) = (keepB (s[k].toNat : Int) && !digB (s[k].toNat : Int))) := hst
      have HA : Hid (hasB (bytesOf s) = (hasB ((bytesOf s).take (k + 1)) || hasB ((bytesOf s).drop (k + 1)))) := hall
      obtain ⟨b0, b1⟩ := byte_bounds s[k]
      clear hno hst hall hl
      cases h1 : keepB (s[k].toNat : Int)
      · go_wp2_with (first
          | (go_at_call 17; refine (isNameByte_any _ b0 b1 _).mono ?_; rintro e w' ⟨rfl, hw'⟩; subst w')
          | (go_at_call 12; refine (zzIsDigit_any _ _).mono ?_; rintro e w' ⟨rfl, hw'⟩; subst w'))
        go_round
        case rel => exact ⟨k + 1, by omega, by go_num, by rw [HN.out, h1]; rfl⟩
        case measure => simp [intOf]; omega
      · cases h2 : digB (s[k].toNat : Int)
        · go_wp2_with (first
            | (go_at_call 17; refine (isNameByte_any _ b0 b1 _).mono ?_; rintro e w' ⟨rfl, hw'⟩; subst w')
            | (go_at_call 12; refine (zzIsDigit_any _ _).mono ?_; rintro e w' ⟨rfl, hw'⟩; subst w'))
          go_ret
          exact ⟨ret_bool (by rw [HA.out, HN.out, h1, h2]; rfl), rfl⟩
        · go_wp2_with (first
            | (go_at_call 17; refine (isNameByte_any _ b0 b1 _).mono ?_; rintro e w' ⟨rfl, hw'⟩; subst w')
            | (go_at_call 12; refine (zzIsDigit_any _ _).mono ?_; rintro e w' ⟨rfl, hw'⟩; subst w'))
          go_round
          case rel => exact ⟨k + 1, by omega, by go_num, by rw [HN.out, h1, h2]; rfl⟩
          case measure => simp [intOf]; omega
    · have HF : Hid (hasB (bytesOf s) = false) := by
        unfold Hid; rw [List.take_of_length_le (by rw [HS.out]; omega)] at hno; exact hno
      clear hno
      go_wp2
      go_ret
      exact ⟨ret_bool (by rw [HF.out]), rfl⟩

theorem isEmpty_pos (a : ByteArray) (h : 0 < a.size) : a.toList.isEmpty = false := by
  rw [ByteArray.toList_eq]
  cases hl : a.data.toList with
  | nil => have := congrArg List.length hl; simp only [Array.length_toList, List.length_nil] at this; have h2 : a.size = a.data.size := rfl; omega
  | cons _ _ => rfl
theorem isEmpty_zero (a : ByteArray) (h : a.size = 0) : a.toList.isEmpty = true := by
  rw [ByteArray.toList_eq]
  cases hl : a.data.toList with
  | nil => rfl
  | cons _ _ => have := congrArg List.length hl; simp only [Array.length_toList, List.length_cons] at this; have h2 : a.size = a.data.size := rfl; omega

set_option maxHeartbeats 2000000 in
theorem servable_walk (s : ByteArray) (hm : s.size ≤ maxLen) (w : World) :
    Calls Try.prog 4 #[.string s] w fun e w' => e = .returned (.bool true) ∧ Below w.heap.size w w' := by
  unfold maxLen at hm
  by_cases hs : s.size ≤ 1048576
  · have hKk := kept_keep (bytesOf s)
    have hKl := kept_length (bytesOf s)
    rw [bytesOf_length] at hKl
    have h1 := attrL_ok _ hKk
    have h2 := attrL_length (kept (bytesOf s))
    have h3 := attrL_first _ hKk
    have h4 : (attrL (kept (bytesOf s))).isEmpty = !hasB (bytesOf s) := by rw [attrL_nil, kept_digits]
    have h5 : bytesOf (attr s) = attrL (kept (bytesOf s)) := bytesOf_strOfNums _ (attrL_bounds _ hKk)
    have h6 : (attrL (kept (bytesOf s))).length = (attr s).size := by rw [← h5, bytesOf_length]
    rw [← h5] at h1 h3 h4
    rw [h6] at h2
    have h7 : (attr s).size ≤ s.size + s.size / 2 := by omega
    have h8 : ∀ k (hk : k < (attr s).size), (lowB ((attr s)[k].toNat : Int) || digB ((attr s)[k].toNat : Int) || (((attr s)[k].toNat : Int) == 95)) = true := by
      intro k hk
      have hl : k < (bytesOf (attr s)).length := by rw [bytesOf_length]; exact hk
      have := h1 ((bytesOf (attr s))[k]) (List.getElem_mem _)
      rw [bytesOf_at _ k hk hl] at this
      exact this
    have h9 : ∀ (hk : 0 < (attr s).size), digB ((attr s)[0].toNat : Int) = false := by
      intro hk
      have hl : 0 < (bytesOf (attr s)).length := by rw [bytesOf_length]; exact hk
      have := h3 (by rw [h5, h6]; exact hk)
      rw [show (bytesOf (attr s)).getD 0 0 = (bytesOf (attr s))[0] by simp [hl], bytesOf_at _ 0 hk hl] at this
      exact this
    clear h1 h2 h3 h5 h6 hKk hKl
    have h10 : (attr s).size = 0 ↔ hasB (bytesOf s) = false := by
      rw [← bytesOf_length, List.length_eq_zero_iff, ← List.isEmpty_iff, h4]; simp
    have H10 : Hid ((attr s).size = 0 ↔ hasB (bytesOf s) = false) := h10
    have H8 : Hid (∀ k (hk : k < (attr s).size), (lowB ((attr s)[k].toNat : Int) || digB ((attr s)[k].toNat : Int) || (((attr s)[k].toNat : Int) == 95)) = true) := h8
    clear h4 h10 h8
    have ha := attribute_any s
    have hh := hasLetter_any s
    have Ha : Hid (∀ (w : World), s.size ≤ 1048576 → Calls Try.prog 10 #[.string s] w fun e w' => e = .returned (.string (attr s)) ∧ Below w.heap.size w w') := ha
    have Hh : Hid (∀ (w : World), s.size ≤ 1048576 → Calls Try.prog 14 #[.string s] w fun e w' => e = .returned (.bool (hasB (bytesOf s))) ∧ w' = w) := hh
    clear ha hh
    generalize attr s = a at *
    have hpart : 0 < a.size ∨ a.size = 0 := by omega
    have hdig : ∀ (hk : 0 < a.size), digB (a[0].toNat : Int) = false := h9
    clear h9
    rcases hpart with hpos | hz
    · have hd0 := hdig hpos
      clear hdig
      go_enter Try.func4, Try.ntmps4
      go_wp2_with (first
        | (go_at_call 11; refine (zzBytes11_yes s _ hs).mono ?_; rintro e w' ⟨rfl, hw'⟩; subst w')
        | (go_at_call 10; refine (Ha.out _ hs).mono ?_; rintro e w1 ⟨rfl, hb⟩)
        | (go_at_call 12; refine (zzIsDigit_any _ _).mono ?_; rintro e w' ⟨rfl, hw'⟩; subst w'))
      go_loop [4] (fun i => ∃ k : Nat, k ≤ a.size ∧ i = .int .i64 k) (fun i => a.size - (intOf i).toNat)
      case atStart => exact ⟨0, Nat.zero_le _, rfl⟩
      case round =>
        obtain ⟨k, hk, rfl⟩ := hrel
        by_cases hlt : k < a.size
        · have h8 := H8.out k hlt
          cases h1 : lowB (a[k].toNat : Int)
          · cases h2 : digB (a[k].toNat : Int)
            · have h3 : ((a[k].toNat : Int) == 95) = true := by simpa [h1, h2] using h8
              clear h8
              go_wp2_with (first | (go_at_call 12; refine (zzIsDigit_any _ _).mono ?_; rintro e w' ⟨rfl, hw'⟩; subst w') | (go_at_call 13; refine (zzIsLower_any _ _).mono ?_; rintro e w' ⟨rfl, hw'⟩; subst w'))
              go_round
              case rel => exact ⟨k + 1, by omega, by go_num⟩
              case measure => simp [intOf]; omega
            · clear h8
              go_wp2_with (first | (go_at_call 12; refine (zzIsDigit_any _ _).mono ?_; rintro e w' ⟨rfl, hw'⟩; subst w') | (go_at_call 13; refine (zzIsLower_any _ _).mono ?_; rintro e w' ⟨rfl, hw'⟩; subst w'))
              go_round
              case rel => exact ⟨k + 1, by omega, by go_num⟩
              case measure => simp [intOf]; omega
          · clear h8
            go_wp2_with (first | (go_at_call 12; refine (zzIsDigit_any _ _).mono ?_; rintro e w' ⟨rfl, hw'⟩; subst w') | (go_at_call 13; refine (zzIsLower_any _ _).mono ?_; rintro e w' ⟨rfl, hw'⟩; subst w'))
            go_round
            case rel => exact ⟨k + 1, by omega, by go_num⟩
            case measure => simp [intOf]; omega
        · have hh : hasB (bytesOf s) = true := by
            cases h : hasB (bytesOf s)
            · have := H10.out.2 h; omega
            · rfl
          go_wp2_with (go_at_call 14; refine (Hh.out _ hs).mono ?_; rintro e w' ⟨rfl, hw'⟩; subst w')
          go_ret
          exact ⟨ret_bool (by rw [isEmpty_pos a hpos]; rfl), hb⟩
    · clear hdig H8
      have hh : hasB (bytesOf s) = false := H10.out.1 hz
      clear H10
      have he := isEmpty_zero a hz
      have hz1 : ¬ 0 < a.size := by omega
      have HZ : Hid (a.size = 0) := hz
      have HE : Hid (a.toList.isEmpty = true) := he
      clear hz he
      go_enter Try.func4, Try.ntmps4
      go_wp2_with (first
        | (go_at_call 11; refine (zzBytes11_yes s _ hs).mono ?_; rintro e w' ⟨rfl, hw'⟩; subst w')
        | (go_at_call 10; refine (Ha.out _ hs).mono ?_; rintro e w1 ⟨rfl, hb⟩))
      go_loop [4] (fun i => i = .int .i64 0) (fun _ => 0)
      case atStart => exact rfl
      case round =>
        obtain rfl := hrel
        go_wp2_with (go_at_call 14; refine (Hh.out _ hs).mono ?_; rintro e w' ⟨rfl, hw'⟩; subst w')
        go_ret
        exact ⟨ret_bool (by rw [HE.out]), hb⟩
  · go_enter Try.func4, Try.ntmps4
    go_wp2_with (go_at_call 11; refine (zzBytes11_no s _ (by omega)).mono ?_; rintro e w' ⟨rfl, hw'⟩; subst w')
    go_ret
    exact ⟨rfl, Below.refl _ _⟩
end Go.Proofs.Qxb6601166a
