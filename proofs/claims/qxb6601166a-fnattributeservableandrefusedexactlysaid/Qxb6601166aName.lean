/-
  nameCharacters, by its contract. My own text.
-/
import Derived.Test.Qxb6601166aLeaves
namespace Go.Proofs.Qxb6601166a
open Go.ChangeShapes Go.WideShapes Go.ChangeAt Go.RowKit

theorem info5 : (Try.prog.info? 5).map (fun i => (i.zero, i.size, i.bytes)) = some (some (.int .u8 0), 1, 1) := by kernel_rfl

def bytesOf (s : ByteArray) : List Int := s.data.toList.map (fun b => (b.toNat : Int))
def kept (l : List Int) : List Int := l.filter keepB

theorem bytesOf_length (s : ByteArray) : (bytesOf s).length = s.size := by simp [bytesOf]
theorem bytesOf_take (s : ByteArray) (k : Nat) (h : k < s.size) : (bytesOf s).take (k + 1) = (bytesOf s).take k ++ [(s[k].toNat : Int)] := by
  rw [List.take_succ_eq_append_getElem (by rw [bytesOf_length]; exact h)]
  congr 1
  simp [bytesOf]
  rfl
theorem kept_snoc_yes (l : List Int) (c : Int) (h : keepB c = true) : kept (l ++ [c]) = kept l ++ [c] := by simp [kept, List.filter_append, h]
theorem kept_snoc_no (l : List Int) (c : Int) (h : keepB c = false) : kept (l ++ [c]) = kept l := by simp [kept, List.filter_append, h]
theorem kept_length (l : List Int) : (kept l).length ≤ l.length := List.length_filter_le _ _

set_option maxHeartbeats 1000000 in
theorem nameCharacters_any (s : ByteArray) (w : World) (hs : s.size ≤ 1048576) :
    Calls Try.prog 21 #[.string s] w fun e w' => e = .returned (.slice (some ⟨w.heap.size, 0, none⟩) (kept (bytesOf s)).length s.size) ∧
      w'.ownsRow w.heap.size 5 1 (.slice (some ⟨w.heap.size, 0, none⟩) (kept (bytesOf s)).length s.size) (kept (bytesOf s)).length ((kept (bytesOf s)).map (Value.int .u8)) ∧ Below w.heap.size w w' := by
  obtain ⟨i0, hi, hz0, hz1, hz2⟩ := info_parts info5
  go_enter Try.func21, Try.ntmps21
  go_wp2_with (at_make; refine wpList_make_own _ rfl _ _ 25 rfl w.heap.size 5 i0 (.int .u8 0) 1 Try.underlying25 hi hz0 hz1 _ _ _ s.size rfl rfl (by omega) ?b2 ?b3 (Nat.le_refl _) ?_)
  case b2 => rw [hz2]; omega
  case b3 => unfold maxLen; omega
  intro w0 hown0 hgrow0
  go_wp2
  go_loopw [3, 4] (fun v i wr => ∃ k : Nat, k ≤ s.size ∧ i = .int .i64 k ∧ v = .slice (some ⟨w.heap.size, 0, none⟩) (kept ((bytesOf s).take k)).length s.size ∧
      wr.ownsRow w.heap.size 5 1 (.slice (some ⟨w.heap.size, 0, none⟩) (kept ((bytesOf s).take k)).length s.size) (kept ((bytesOf s).take k)).length ((kept ((bytesOf s).take k)).map (Value.int .u8)) ∧ Below w.heap.size w wr)
    (fun _ i _ => s.size - (intOf i).toNat)
  case atStart => exact ⟨0, Nat.zero_le _, rfl, rfl, hown0, (Below.refl _ _).grown hgrow0 (Nat.le_refl _) (fun k h => by cases h)⟩
  case round =>
    obtain ⟨k, hk, rfl, rfl, hown, hnx⟩ := hrel
    by_cases hlt : k < s.size
    · have hts := bytesOf_take s k hlt
      have hlen := kept_length ((bytesOf s).take k)
      have hlen2 : ((bytesOf s).take k).length ≤ k := List.length_take_le _ _
      cases h1 : lowB (s[k].toNat : Int)
      · cases h2 : upB (s[k].toNat : Int)
        · cases h3 : digB (s[k].toNat : Int)
          · cases h4 : ((s[k].toNat : Int) == 95)
            · have hkp : keepB (s[k].toNat : Int) = false := by simp [keepB, *]
              have HK : Hid (kept ((bytesOf s).take (k + 1)) = kept ((bytesOf s).take k)) := by unfold Hid; rw [hts, kept_snoc_no _ _ hkp]
              clear hts hkp
              generalize kept ((bytesOf s).take k) = ks at *
              go_wp2_with (first
                | (go_at_call 25; refine (isLower_any _ _).mono ?_; rintro e w' ⟨rfl, hw'⟩; subst w')
                | (go_at_call 24; refine (isUpper_any _ _).mono ?_; rintro e w' ⟨rfl, hw'⟩; subst w')
                | (go_at_call 22; refine (isDigit_any _ _).mono ?_; rintro e w' ⟨rfl, hw'⟩; subst w'))
              go_roundw
              case rel => exact ⟨k + 1, by omega, by go_num, by rw [HK.out], by rw [HK.out]; exact hown, hnx⟩
              case measure => simp [intOf]; omega
            · have hkp : keepB (s[k].toNat : Int) = true := by simp [keepB, *]
              have HK : Hid (kept ((bytesOf s).take (k + 1)) = kept ((bytesOf s).take k) ++ [(s[k].toNat : Int)]) := by unfold Hid; rw [hts, kept_snoc_yes _ _ hkp]
              clear hts hkp
              generalize kept ((bytesOf s).take k) = ks at *
              go_wp2_with (first
                | (go_at_call 25; refine (isLower_any _ _).mono ?_; rintro e w' ⟨rfl, hw'⟩; subst w')
                | (go_at_call 24; refine (isUpper_any _ _).mono ?_; rintro e w' ⟨rfl, hw'⟩; subst w')
                | (go_at_call 22; refine (isDigit_any _ _).mono ?_; rintro e w' ⟨rfl, hw'⟩; subst w')
                | (at_builtin; refine wpList_append_fits _ rfl (.tmp 32) (.tmp 34) 25 rfl w.heap.size 5 i0 1 Try.underlying25 hi hz1 w.heap.size ks.length s.size _ rfl (hown.alloc _) ⟨wr.heap.size, 0, none⟩ 1 1 [.int .u8 (s[k].toNat : Int)] rfl rfl (by intro t u ht; match t, ht with | 0, ht => simp at ht; subst ht; simp [Addr.add]) (by intro u hu; simp at hu; subst hu; rfl) (by omega) ?_; intro w1 hown1 hgrow1))
              go_roundw
              case rel =>
                refine ⟨k + 1, by omega, by go_num, ?_, ?_, (hnx.alloc hnx.size _).grown hgrow1 (by simp; have := hnx.size; omega) (fun k hk => by cases hk; exact Nat.le_refl _)⟩
                · rw [HK.out]; simp
                · rw [HK.out]; simpa using hown1
              case measure => simp [intOf]; omega
          · have hkp : keepB (s[k].toNat : Int) = true := by simp [keepB, *]
            have HK : Hid (kept ((bytesOf s).take (k + 1)) = kept ((bytesOf s).take k) ++ [(s[k].toNat : Int)]) := by unfold Hid; rw [hts, kept_snoc_yes _ _ hkp]
            clear hts hkp
            generalize kept ((bytesOf s).take k) = ks at *
            go_wp2_with (first
              | (go_at_call 25; refine (isLower_any _ _).mono ?_; rintro e w' ⟨rfl, hw'⟩; subst w')
              | (go_at_call 24; refine (isUpper_any _ _).mono ?_; rintro e w' ⟨rfl, hw'⟩; subst w')
              | (go_at_call 22; refine (isDigit_any _ _).mono ?_; rintro e w' ⟨rfl, hw'⟩; subst w')
              | (at_builtin; refine wpList_append_fits _ rfl (.tmp 32) (.tmp 34) 25 rfl w.heap.size 5 i0 1 Try.underlying25 hi hz1 w.heap.size ks.length s.size _ rfl (hown.alloc _) ⟨wr.heap.size, 0, none⟩ 1 1 [.int .u8 (s[k].toNat : Int)] rfl rfl (by intro t u ht; match t, ht with | 0, ht => simp at ht; subst ht; simp [Addr.add]) (by intro u hu; simp at hu; subst hu; rfl) (by omega) ?_; intro w1 hown1 hgrow1))
            go_roundw
            case rel =>
              refine ⟨k + 1, by omega, by go_num, ?_, ?_, (hnx.alloc hnx.size _).grown hgrow1 (by simp; have := hnx.size; omega) (fun k hk => by cases hk; exact Nat.le_refl _)⟩
              · rw [HK.out]; simp
              · rw [HK.out]; simpa using hown1
            case measure => simp [intOf]; omega
        · have hkp : keepB (s[k].toNat : Int) = true := by simp [keepB, *]
          have HK : Hid (kept ((bytesOf s).take (k + 1)) = kept ((bytesOf s).take k) ++ [(s[k].toNat : Int)]) := by unfold Hid; rw [hts, kept_snoc_yes _ _ hkp]
          clear hts hkp
          generalize kept ((bytesOf s).take k) = ks at *
          go_wp2_with (first
            | (go_at_call 25; refine (isLower_any _ _).mono ?_; rintro e w' ⟨rfl, hw'⟩; subst w')
            | (go_at_call 24; refine (isUpper_any _ _).mono ?_; rintro e w' ⟨rfl, hw'⟩; subst w')
            | (go_at_call 22; refine (isDigit_any _ _).mono ?_; rintro e w' ⟨rfl, hw'⟩; subst w')
            | (at_builtin; refine wpList_append_fits _ rfl (.tmp 32) (.tmp 34) 25 rfl w.heap.size 5 i0 1 Try.underlying25 hi hz1 w.heap.size ks.length s.size _ rfl (hown.alloc _) ⟨wr.heap.size, 0, none⟩ 1 1 [.int .u8 (s[k].toNat : Int)] rfl rfl (by intro t u ht; match t, ht with | 0, ht => simp at ht; subst ht; simp [Addr.add]) (by intro u hu; simp at hu; subst hu; rfl) (by omega) ?_; intro w1 hown1 hgrow1))
          go_roundw
          case rel =>
            refine ⟨k + 1, by omega, by go_num, ?_, ?_, (hnx.alloc hnx.size _).grown hgrow1 (by simp; have := hnx.size; omega) (fun k hk => by cases hk; exact Nat.le_refl _)⟩
            · rw [HK.out]; simp
            · rw [HK.out]; simpa using hown1
          case measure => simp [intOf]; omega
      · have hkp : keepB (s[k].toNat : Int) = true := by simp [keepB, *]
        have HK : Hid (kept ((bytesOf s).take (k + 1)) = kept ((bytesOf s).take k) ++ [(s[k].toNat : Int)]) := by unfold Hid; rw [hts, kept_snoc_yes _ _ hkp]
        clear hts hkp
        generalize kept ((bytesOf s).take k) = ks at *
        go_wp2_with (first
          | (go_at_call 25; refine (isLower_any _ _).mono ?_; rintro e w' ⟨rfl, hw'⟩; subst w')
          | (go_at_call 24; refine (isUpper_any _ _).mono ?_; rintro e w' ⟨rfl, hw'⟩; subst w')
          | (go_at_call 22; refine (isDigit_any _ _).mono ?_; rintro e w' ⟨rfl, hw'⟩; subst w')
          | (at_builtin; refine wpList_append_fits _ rfl (.tmp 32) (.tmp 34) 25 rfl w.heap.size 5 i0 1 Try.underlying25 hi hz1 w.heap.size ks.length s.size _ rfl (hown.alloc _) ⟨wr.heap.size, 0, none⟩ 1 1 [.int .u8 (s[k].toNat : Int)] rfl rfl (by intro t u ht; match t, ht with | 0, ht => simp at ht; subst ht; simp [Addr.add]) (by intro u hu; simp at hu; subst hu; rfl) (by omega) ?_; intro w1 hown1 hgrow1))
        go_roundw
        case rel =>
          refine ⟨k + 1, by omega, by go_num, ?_, ?_, (hnx.alloc hnx.size _).grown hgrow1 (by simp; have := hnx.size; omega) (fun k hk => by cases hk; exact Nat.le_refl _)⟩
          · rw [HK.out]; simp
          · rw [HK.out]; simpa using hown1
        case measure => simp [intOf]; omega
    · go_wp2
      have : k = s.size := by omega
      subst this
      go_ret
      rw [List.take_of_length_le (by rw [bytesOf_length]; exact Nat.le_refl _)] at *
      exact ⟨rfl, hown, hnx⟩
end Go.Proofs.Qxb6601166a
