/-
  Attribute, by its contract. My own text.
-/
import Derived.Test.Qxb6601166aScrub
import Derived.Test.Qxb6601166aBuilder
import Derived.WalkSmall
namespace Go.Proofs.Qxb6601166a
open Go.ChangeShapes Go.WideShapes Go.ChangeAt Go.RowKit

theorem cells_attrL (K : List Int) (hK : ∀ x ∈ K, keepB x = true) : Lib.byteCells ((attrL K).map fun n => UInt8.ofNat n.toNat) = (attrL K).map (Value.int .u8) := by
  unfold Lib.byteCells
  rw [List.map_map]
  apply List.map_congr_left
  intro x hx
  have := attrL_bounds K hK x hx
  simp
  omega

theorem grow_zero (B b : Nat) (w : World) (hB : B ≤ b) (hbk : w.heap[b]? = some (.cells #[.pointer none, .slice none 0 0] 31 (0, 0))) (hBw : B ≤ w.heap.size) :
    Calls Try.prog 23 #[.pointer (some ⟨b, 0, none⟩), .int .i64 0] w fun e w' => e = .returned (.tuple #[]) ∧ (Lib.BuilderAt 31 5 B b (.pointer (some ⟨b, 0, none⟩)) [] w' ∧ Below B w w') := by
  have h := Builder_Grow_fresh B b 0 w hB hbk hBw (by omega)
  rw [show ((0 : Nat) : Int) = 0 from rfl] at h
  exact h

set_option maxHeartbeats 2000000 in
theorem attribute_any (s : ByteArray) (w : World) (hs : s.size ≤ 1048576) :
    Calls Try.prog 10 #[.string s] w fun e w' => e = .returned (.string (attr s)) ∧ Below w.heap.size w w' := by
  obtain ⟨K, hK⟩ : ∃ K, kept (bytesOf s) = K := ⟨_, rfl⟩
  have HA : Hid (attr s = strOfNums (attrL K)) := by unfold Hid; rw [← hK]; rfl
  have hKl := kept_length (bytesOf s)
  have hKk := kept_keep (bytesOf s)
  rw [bytesOf_length] at hKl
  rw [hK] at hKl hKk
  have HK : Hid (kept (bytesOf s) = K) := hK
  have HKk : Hid (∀ x ∈ K, keepB x = true) := hKk
  clear hK hKk
  go_enter Try.func10, Try.ntmps10
  go_wp2_with (go_at_call 21; refine (nameCharacters_any s _ hs).mono ?_; rintro e w1 ⟨rfl, hown, hb⟩; rw [HK.out] at hown ⊢)
  have hcell : ∀ j, j < K.length → w1.cell? ⟨w.heap.size, j, none⟩ = some (.int .u8 (K.getD j 0)) := by
    intro j hj
    rw [hown.cellAt j (by simpa using hj)]
    simp [hj]
  have hlt1 : w.heap.size < w1.heap.size := (hown.lt w.heap.size rfl).2
  have HC : Hid (∀ j, j < K.length → w1.cell? ⟨w.heap.size, j, none⟩ = some (.int .u8 (K.getD j 0))) := hcell
  clear hown hcell
  go_loop [4] (fun i => ∃ k : Nat, k ≤ K.length ∧ i = .int .i64 k ∧ ∀ j, j < k → digB (K.getD j 0) = true) (fun i => K.length - (intOf i).toNat)
  case atStart => exact ⟨0, Nat.zero_le _, rfl, fun j hj => by omega⟩
  case round =>
    obtain ⟨k, hk, rfl, hall⟩ := hrel
    have HL : Hid (∀ j, j < k → digB (K.getD j 0) = true) := hall
    clear hall
    by_cases hgo : k < K.length ∧ digB (K.getD k 0) = true
    · obtain ⟨hlt, hd⟩ := hgo
      have hc := HC.out k hlt
      have HN : Hid (∀ j, j < k + 1 → digB (K.getD j 0) = true) := by
        intro j hj
        rcases Nat.lt_or_ge j k with h | h
        · exact HL.out j h
        · have : j = k := by omega
          subst this; exact hd
      generalize K.getD k 0 = x at hc hd
      go_wp2_with (go_at_call 22; refine (isDigit_any _ _).mono ?_; rintro e w' ⟨rfl, hw'⟩; subst w')
      go_round
      case rel => exact ⟨k + 1, by omega, by go_num, HN.out⟩
      case measure => simp [intOf]; omega
    · have hend : k = lead K := lead_eq K k HL.out hk (fun h => by
        cases h2 : digB (K.getD k 0)
        · rfl
        · exact absurd ⟨h, h2⟩ hgo)
      by_cases hlt : k < K.length
      · have hc := HC.out k hlt
        have hd : digB (K.getD k 0) = false := by
          cases h2 : digB (K.getD k 0)
          · rfl
          · exact absurd ⟨hlt, h2⟩ hgo
        generalize K.getD k 0 = x at hc hd
        have HE : Hid (k = lead K) := hend
        clear hgo hend
        go_wp2_with (go_at_call 22; refine (isDigit_any _ _).mono ?_; rintro e w' ⟨rfl, hw'⟩; subst w')
        clear hc hd
        rw [show ((K.length - k : Nat) : Int) + ((K.length - k : Nat) : Int) / 2 = ((K.length - k + (K.length - k) / 2 : Nat) : Int) from by omega]
        refine (Builder_Grow_fresh w1.heap.size w1.heap.size (K.length - k + (K.length - k) / 2) _ (Nat.le_refl _) (heap_alloc_new w1 _) (by simp) (by omega)).mono ?_
        rintro e w2 ⟨rfl, hB2, hbel2⟩
        have hbel : Below w1.heap.size w1 w2 := ((Below.refl _ w1).alloc (Nat.le_refl _) _).trans hbel2
        clear hbel2
        go_wp2
        go_loopw [35] (fun c wr => ∃ i : Nat, i ≤ K.length - k ∧ c = .int .i64 i ∧ Lib.IsBuilder 31 5 w1.heap.size w1.heap.size ((outp (K.drop k) i).map (Value.int .u8)) wr ∧ Below w1.heap.size w1 wr)
          (fun c _ => K.length - k - (intOf c).toNat)
        case atStart => exact ⟨0, Nat.zero_le _, rfl, .inr hB2, hbel⟩
        case round =>
          obtain ⟨i, hi, rfl, hIB, hnx⟩ := hrel
          have hol := (outp_length (K.drop k) i).1
          by_cases hik : i < K.length - k
          · have hc : wr.cell? ⟨w.heap.size, k + i, none⟩ = some (.int .u8 (K.getD (k + i) 0)) := (hnx.cell (by exact hlt1)).trans (HC.out (k + i) (by omega))
            have hp : 0 < i → wr.cell? ⟨w.heap.size, k + (i - 1), none⟩ = some (.int .u8 (K.getD (k + i - 1) 0)) := fun h0 => by
              rw [show k + i - 1 = k + (i - 1) by omega]
              exact (hnx.cell (by exact hlt1)).trans (HC.out (k + (i - 1)) (by omega))
            have hkx : keepB (K.getD (k + i) 0) = true := HKk.out _ (by simp [show k + i < K.length by omega])
            have HP : Hid (outp (K.drop k) (i + 1) = outp (K.drop k) i ++ ((if decide (0 < i) && upB (K.getD (k + i) 0) && lowB (K.getD (k + i - 1) 0) then [95] else []) ++ [low (K.getD (k + i) 0)])) := by
              unfold Hid
              rw [outp, piece, barAt]
              have e1 : (K.drop k).getD i 0 = K.getD (k + i) 0 := by simp
              rw [e1]
              by_cases h0 : 0 < i
              · have e2 : (K.drop k).getD (i - 1) 0 = K.getD (k + i - 1) 0 := by simp [show k + i - 1 = k + (i - 1) by omega]
                rw [e2]
              · simp [h0]
            generalize K.getD (k + i) 0 = x at *
            generalize K.getD (k + i - 1) 0 = px at *
            generalize outp (K.drop k) i = os at *
            have hx1 : 48 ≤ x ∧ x ≤ 122 := by simp [keepB, lowB, upB, digB] at hkx; omega
            obtain ⟨hx1, hx2⟩ := hx1
            clear hkx
            cases hu : upB x
            · have HP2 : Hid (outp (K.drop k) (i + 1) = os ++ [x]) := by unfold Hid; rw [HP.out]; simp [hu, low]
              clear HP
              have HP := HP2
              clear HP2
              by_cases h0 : 0 < i
              · go_wp2_with (first | (go_at_call 24; refine (isUpper_any _ _).mono ?_; rintro e w' ⟨rfl, hw'⟩; subst w') | (go_at_call 25; refine (isLower_any _ _).mono ?_; rintro e w' ⟨rfl, hw'⟩; subst w'))
                refine (Builder_WriteByte _ _ _ _ _ hIB (by simp; omega) (by have := hnx.size; omega)).mono ?_
                rintro e w3 ⟨rfl, hB3, hbel3⟩
                go_wp2
                go_roundw
                case rel => exact ⟨i + 1, by omega, by go_num, .inr (by rw [HP.out]; simpa using hB3), hnx.trans hbel3⟩
                case measure => simp [intOf]; omega
              · go_wp2_with (first | (go_at_call 24; refine (isUpper_any _ _).mono ?_; rintro e w' ⟨rfl, hw'⟩; subst w') | (go_at_call 25; refine (isLower_any _ _).mono ?_; rintro e w' ⟨rfl, hw'⟩; subst w'))
                refine (Builder_WriteByte _ _ _ _ _ hIB (by simp; omega) (by have := hnx.size; omega)).mono ?_
                rintro e w3 ⟨rfl, hB3, hbel3⟩
                go_wp2
                go_roundw
                case rel => exact ⟨i + 1, by omega, by go_num, .inr (by rw [HP.out]; simpa using hB3), hnx.trans hbel3⟩
                case measure => simp [intOf]; omega
            · have hx3 : 65 ≤ x ∧ x ≤ 90 := by simpa [upB] using hu
              obtain ⟨hx3, hx4⟩ := hx3
              by_cases h0 : 0 < i
              · have hpc := hp h0
                clear hp
                cases hl : lowB px
                · have HP2 : Hid (outp (K.drop k) (i + 1) = os ++ [x + 32]) := by unfold Hid; rw [HP.out]; simp [hu, hl, low]
                  clear HP
                  have HP := HP2
                  clear HP2
                  go_wp2_with (first | (go_at_call 24; refine (isUpper_any _ _).mono ?_; rintro e w' ⟨rfl, hw'⟩; subst w') | (go_at_call 25; refine (isLower_any _ _).mono ?_; rintro e w' ⟨rfl, hw'⟩; subst w'))
                  refine (Builder_WriteByte _ _ _ _ _ hIB (by simp; omega) (by have := hnx.size; omega)).mono ?_
                  rintro e w3 ⟨rfl, hB3, hbel3⟩
                  go_wp2
                  go_roundw
                  case rel => exact ⟨i + 1, by omega, by go_num, .inr (by rw [HP.out]; simpa using hB3), hnx.trans hbel3⟩
                  case measure => simp [intOf]; omega
                · have HP2 : Hid (outp (K.drop k) (i + 1) = os ++ [95, x + 32]) := by unfold Hid; rw [HP.out]; simp [hu, hl, low, h0]
                  clear HP
                  have HP := HP2
                  clear HP2
                  go_wp2_with (first | (go_at_call 24; refine (isUpper_any _ _).mono ?_; rintro e w' ⟨rfl, hw'⟩; subst w') | (go_at_call 25; refine (isLower_any _ _).mono ?_; rintro e w' ⟨rfl, hw'⟩; subst w'))
                  refine (Builder_WriteByte _ _ _ _ _ hIB (by simp; omega) (by have := hnx.size; omega)).mono ?_
                  rintro e w3 ⟨rfl, hB3, hbel3⟩
                  go_wp2_with (first | (go_at_call 24; refine (isUpper_any _ _).mono ?_; rintro e w' ⟨rfl, hw'⟩; subst w') | (go_at_call 25; refine (isLower_any _ _).mono ?_; rintro e w' ⟨rfl, hw'⟩; subst w'))
                  refine (Builder_WriteByte _ _ _ _ _ (.inr hB3) (by simp; omega) (by have := hnx.size; have := hbel3.size; omega)).mono ?_
                  rintro e w4 ⟨rfl, hB4, hbel4⟩
                  go_wp2
                  go_roundw
                  case rel => exact ⟨i + 1, by omega, by go_num, .inr (by rw [HP.out]; simpa using hB4), (hnx.trans hbel3).trans hbel4⟩
                  case measure => simp [intOf]; omega
              · have HP2 : Hid (outp (K.drop k) (i + 1) = os ++ [x + 32]) := by unfold Hid; rw [HP.out]; simp [hu, low, h0]
                clear HP hp
                have HP := HP2
                clear HP2
                go_wp2_with (first | (go_at_call 24; refine (isUpper_any _ _).mono ?_; rintro e w' ⟨rfl, hw'⟩; subst w') | (go_at_call 25; refine (isLower_any _ _).mono ?_; rintro e w' ⟨rfl, hw'⟩; subst w'))
                refine (Builder_WriteByte _ _ _ _ _ hIB (by simp; omega) (by have := hnx.size; omega)).mono ?_
                rintro e w3 ⟨rfl, hB3, hbel3⟩
                go_wp2
                go_roundw
                case rel => exact ⟨i + 1, by omega, by go_num, .inr (by rw [HP.out]; simpa using hB3), hnx.trans hbel3⟩
                case measure => simp [intOf]; omega
          · go_wp2_with fail
            have hii : i = K.length - k := by omega
            have ek : outp (K.drop k) i = attrL K := by rw [hii, HE.out]; rfl
            rw [ek, ← cells_attrL K HKk.out] at hIB
            clear hii ek hol
            refine (Builder_String_any w1.heap.size w1.heap.size _ _ hIB (by have := hnx.size; omega)).mono ?_
            rintro e w5 ⟨rfl, hb5⟩
            go_wp2
            go_ret
            exact ⟨by rw [HA.out]; rfl, hb.trans ((hnx.trans hb5).mono (by omega))⟩
      · have hkk : k = K.length := by omega
        subst hkk
        have HE : Hid (K.length = lead K) := hend
        clear hgo hend HL
        have ek : attrL K = [] := by unfold attrL; rw [← HE.out, Nat.sub_self]; rfl
        have HA2 : Hid (attr s = ⟨#[]⟩) := by unfold Hid; rw [HA.out, ek]; rfl
        clear ek HA HK HKk HC hk hlt HE
        go_wp2_with fail
        all_goals
          refine (grow_zero w1.heap.size w1.heap.size _ (Nat.le_refl _) (heap_alloc_new w1 _) (by simp)).mono ?_
          rintro e w2 ⟨rfl, hB2, hbel2⟩
          have hbel : Below w1.heap.size w1 w2 := ((Below.refl _ w1).alloc (Nat.le_refl _) _).trans hbel2
          clear hbel2
          go_wp2
          go_loop [35] (fun c => c = .int .i64 0) (fun _ => 0)
          case atStart => exact rfl
          case round =>
            obtain rfl := hrel
            go_wp2_with fail
            refine (Builder_String_empty w1.heap.size w1.heap.size _ (.inr hB2) (by have := hbel.size; omega)).mono ?_
            rintro e w5 ⟨rfl, hb5⟩
            go_wp2
            go_ret
            exact ⟨by rw [HA2.out]; rfl, hb.trans ((hbel.trans hb5).mono (by omega))⟩
end Go.Proofs.Qxb6601166a
