/-
  FnNameCharactersIsFullNameSubsequence: the walk. My own text.
-/
import Derived.Test.Qxb6601166aNameByte
import Derived.Test.Qxb6601166aOneByte
import Derived.WalkSmall
import Derived.Deep.QuietTactic
import Derived.BigQuiet
namespace Go.Proofs.Qxb6601166a
open Go.ChangeShapes Go.WideShapes Go.ChangeAt Go.RowKit

theorem bytesOf_bounds (s : ByteArray) : ∀ x ∈ bytesOf s, 0 ≤ x ∧ x ≤ 255 := by
  intro x hx
  simp only [bytesOf, List.mem_map] at hx
  obtain ⟨b, _, rfl⟩ := hx
  have := b.toNat_lt
  omega

theorem kept_at (l : List Int) (j : Nat) (hj : j < (kept l).length) : (kept l).getD j 0 ∈ l ∧ keepB ((kept l).getD j 0) = true := by
  have : (kept l).getD j 0 ∈ kept l := by simp [List.getD, hj]
  simpa [kept] using this

theorem kept_split (l : List Int) (k : Nat) (hk : k < l.length) : kept l = kept (l.take k) ++ kept (l[k] :: l.drop (k + 1)) := by
  rw [← List.drop_eq_getElem_cons hk]
  unfold kept
  rw [← List.filter_append, List.take_append_drop]

theorem kept_hit (l : List Int) (k : Nat) (hk : k < l.length) (h : keepB l[k] = true) : (kept (l.take k)).length < (kept l).length ∧ (kept l).getD (kept (l.take k)).length 0 = l[k] := by
  rw [kept_split l k hk]
  have e : kept (l[k] :: l.drop (k + 1)) = l[k] :: kept (l.drop (k + 1)) := List.filter_cons_of_pos h
  rw [e]
  exact ⟨by simp, by simp [List.getD]⟩

theorem kept_take_le (l : List Int) (k : Nat) : (kept (l.take k)).length ≤ (kept l).length := by
  have e : kept l = kept (l.take k) ++ kept (l.drop k) := by unfold kept; rw [← List.filter_append, List.take_append_drop]
  rw [e]; simp

theorem bytesOf_get (s : ByteArray) (k : Nat) (hk : k < s.size) : (bytesOf s)[k]'(by rw [bytesOf_length]; exact hk) = (s[k].toNat : Int) := by
  simp [bytesOf]
  rfl

set_option maxHeartbeats 2000000 in
theorem subseq_walk (s : ByteArray) (hm : s.size ≤ maxLen) (w : World) :
    Calls Try.prog 5 #[.string s] w fun e w' => e = .returned (.bool true) ∧ Below w.heap.size w w' := by
  unfold maxLen at hm
  by_cases hs : s.size ≤ 1048576
  · have hbnd := bytesOf_bounds s
    have hlenS := bytesOf_length s
    have hkl := kept_length (bytesOf s)
    have hO : ∃ O, kept (bytesOf s) = O := ⟨_, rfl⟩
    obtain ⟨O, hO⟩ := hO
    have hat : ∀ j, j < O.length → 0 ≤ O.getD j 0 ∧ O.getD j 0 ≤ 255 ∧ keepB (O.getD j 0) = true := by
      intro j hj
      rw [← hO] at hj ⊢
      have := kept_at (bytesOf s) j hj
      exact ⟨(hbnd _ this.1).1, (hbnd _ this.1).2, this.2⟩
    have hOl : O.length ≤ s.size := by rw [← hO]; omega
    have HO : Hid (kept (bytesOf s) = O) := hO
    have HL : Hid ((bytesOf s).length = s.size) := hlenS
    clear hO hlenS hbnd hkl
    go_enter Try.func5, Try.ntmps5
    go_wp2_with (first
      | (go_at_call 15; refine (zzBytes15_yes s _ hs).mono ?_; rintro e w' ⟨rfl, hw'⟩; subst w')
      | (go_at_call 16; refine (zzNameCharacters_any s _ hs).mono ?_; rintro e w1 ⟨rfl, hown, hb⟩; rw [HO.out] at hown ⊢))
    have hcell : ∀ j, j < O.length → w1.cell? ⟨w.heap.size, j, none⟩ = some (.int .u8 (O.getD j 0)) := by
      intro j hj
      rw [hown.cellAt j (by simpa using hj)]
      simp [hj]
    clear hown
    go_loop [4] (fun i => ∃ k : Nat, k ≤ O.length ∧ i = .int .i64 k) (fun i => O.length - (intOf i).toNat)
    case atStart => exact ⟨0, Nat.zero_le _, rfl⟩
    case round =>
      obtain ⟨k, hk, rfl⟩ := hrel
      by_cases hlt : k < O.length
      · have hc := hcell k hlt
        have hx := hat k hlt
        generalize O.getD k 0 = x at hc hx
        obtain ⟨hx0, hx1, hxk⟩ := hx
        clear hat hcell
        go_wp2_with (go_at_call 17; refine (isNameByte_any _ hx0 hx1 _).mono ?_; rintro e w' ⟨rfl, hw'⟩; subst w')
        go_round
        case rel => exact ⟨k + 1, by omega, by go_num⟩
        case measure => simp [intOf]; omega
      · have HA : Hid (∀ j, j < O.length → 0 ≤ O.getD j 0 ∧ O.getD j 0 ≤ 255 ∧ keepB (O.getD j 0) = true) := hat
        have HC : Hid (∀ j, j < O.length → w1.cell? ⟨w.heap.size, j, none⟩ = some (.int .u8 (O.getD j 0))) := hcell
        clear hat hcell
        have hk1 : k = O.length := by omega
        go_wp2
        clear hk1 hk hlt
        go_loopw [5, 6] (fun j i wr => ∃ k : Nat, k ≤ s.size ∧ i = .int .i64 k ∧ j = .int .i64 (kept ((bytesOf s).take k)).length ∧ ∃ q, wr = w1.drewN q)
          (fun _ i _ => s.size - (intOf i).toNat)
        case atStart => exact ⟨0, Nat.zero_le _, rfl, rfl, 0, rfl⟩
        case round =>
          obtain ⟨k, hk, rfl, rfl, q, rfl⟩ := hrel
          have hJle := kept_take_le (bytesOf s) k
          rw [HO.out] at hJle
          by_cases hboth : k < s.size ∧ (kept ((bytesOf s).take k)).length < O.length
          · obtain ⟨hlt, hj⟩ := hboth
            have hc := HC.out _ hj
            have hx := HA.out _ hj
            have hts := bytesOf_take s k hlt
            have hc0 : 0 ≤ (s[k].toNat : Int) ∧ (s[k].toNat : Int) ≤ 255 := by have := s[k].toNat_lt; omega
            cases hkp : keepB (s[k].toNat : Int)
            · have hne : ((s[k].toNat : Int) == O.getD (kept ((bytesOf s).take k)).length 0) = false := by
                rw [beq_eq_false_iff_ne]; intro e; rw [e, hx.2.2] at hkp; cases hkp
              have HN : Hid ((kept ((bytesOf s).take (k + 1))).length = (kept ((bytesOf s).take k)).length) := by unfold Hid; rw [hts, kept_snoc_no _ _ hkp]
              generalize O.getD (kept ((bytesOf s).take k)).length 0 = x at hc hx hne
              clear hts hkp hx
              generalize (kept ((bytesOf s).take k)).length = J at *
              go_wp2
              go_quiet (fail)
              go_wp2
              go_roundw
              case rel => exact ⟨k + 1, by omega, by go_num, by rw [HN.out], _, rfl⟩
              case measure => simp [intOf]; omega
            · have hh := kept_hit (bytesOf s) k (by rw [HL.out]; exact hlt) (by rw [bytesOf_get s k hlt]; exact hkp)
              rw [HO.out, bytesOf_get s k hlt] at hh
              have HN : Hid ((kept ((bytesOf s).take (k + 1))).length = (kept ((bytesOf s).take k)).length + 1) := by unfold Hid; rw [hts, kept_snoc_yes _ _ hkp]; simp
              rw [hh.2] at hc
              clear hts hkp hx hh
              generalize (kept ((bytesOf s).take k)).length = J at *
              go_wp2
              go_quiet (fail)
              go_wp2
              go_roundw
              case rel => exact ⟨k + 1, by omega, by go_num, by rw [HN.out]; go_num, _, rfl⟩
              case measure => simp [intOf]; omega
          · have hJ : (kept ((bytesOf s).take k)).length = O.length := by
              by_cases hlt : k < s.size
              · omega
              · have : (bytesOf s).take k = bytesOf s := List.take_of_length_le (by rw [HL.out]; omega)
                rw [this, HO.out]
            generalize (kept ((bytesOf s).take k)).length = J at *
            subst hJ
            clear hJle
            by_cases hlt : k < s.size
            all_goals
              clear hboth
              go_wp2
              go_loop [7, 8] (fun c i => ∃ k : Nat, k ≤ s.size ∧ i = .int .i64 k ∧ c = .int .i64 (kept ((bytesOf s).take k)).length) (fun _ i => s.size - (intOf i).toNat)
              case atStart => exact ⟨0, Nat.zero_le _, rfl, rfl⟩
              case round =>
                obtain ⟨k, hk, rfl, rfl⟩ := hrel
                by_cases hlt : k < s.size
                · have hts := bytesOf_take s k hlt
                  have hc0 : 0 ≤ (s[k].toNat : Int) ∧ (s[k].toNat : Int) ≤ 255 := by have := s[k].toNat_lt; omega
                  have hJle := kept_take_le (bytesOf s) k
                  rw [HO.out] at hJle
                  cases hkp : keepB (s[k].toNat : Int)
                  · have HN : Hid ((kept ((bytesOf s).take (k + 1))).length = (kept ((bytesOf s).take k)).length) := by unfold Hid; rw [hts, kept_snoc_no _ _ hkp]
                    clear hts
                    generalize (kept ((bytesOf s).take k)).length = J at *
                    go_wp2_with (go_at_call 17; refine (isNameByte_any _ hc0.1 hc0.2 _).mono ?_; rintro e w' ⟨rfl, hw'⟩; subst w')
                    go_round
                    case rel => exact ⟨k + 1, by omega, by go_num, by rw [HN.out]⟩
                    case measure => simp [intOf]; omega
                  · have HN : Hid ((kept ((bytesOf s).take (k + 1))).length = (kept ((bytesOf s).take k)).length + 1) := by unfold Hid; rw [hts, kept_snoc_yes _ _ hkp]; simp
                    clear hts
                    generalize (kept ((bytesOf s).take k)).length = J at *
                    go_wp2_with (go_at_call 17; refine (isNameByte_any _ hc0.1 hc0.2 _).mono ?_; rintro e w' ⟨rfl, hw'⟩; subst w')
                    go_round
                    case rel => exact ⟨k + 1, by omega, by go_num, by rw [HN.out]; go_num⟩
                    case measure => simp [intOf]; omega
                · have : (bytesOf s).take k = bytesOf s := List.take_of_length_le (by rw [HL.out]; omega)
                  rw [this, HO.out]
                  clear this
                  go_wp2
                  go_ret
                  exact ⟨ret_bool (by simp), below_drewN hb _⟩
  · go_enter Try.func5, Try.ntmps5
    go_wp2_with (go_at_call 15; refine (zzBytes15_no s _ (by omega)).mono ?_; rintro e w' ⟨rfl, hw'⟩; subst w')
    go_ret
    exact ⟨rfl, Below.refl _ _⟩
end Go.Proofs.Qxb6601166a
