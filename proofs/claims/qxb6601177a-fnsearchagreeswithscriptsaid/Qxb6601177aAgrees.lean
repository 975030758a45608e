/-
  FnSearchAgreesWithScript: the walk. My own text.
-/
import Derived.Test.Qxb6601177aScriptCall
import Derived.Test.Qxb6601177aIdentical
import Derived.Test.Qxb6601177aValid
namespace Go.Proofs.Qxb6601177a
open Go.ChangeShapes Go.WideShapes Go.ChangeAt Go.RowKit

theorem counts_of {E : Nat → Nat → Bool} {n m : Nat} {st : List Int} (hr : Plain.Reach E st.reverse n m) (hc : st.count 32 = Plain.L E n m) :
    st.count 45 = n - Plain.L E n m ∧ st.count 43 = m - Plain.L E n m ∧ st.length = n + m - Plain.L E n m := by
  have hx := hr.xy
  rw [List.count_reverse, List.count_reverse, List.count_reverse, List.length_reverse] at hx
  omega

set_option maxHeartbeats 1000000 in
theorem agrees_walk (a b : Option Addr) (n ca m cb : Nat) (A B : List ByteArray) (w : World) (hA : CameIn w a n ca A) (hB : CameIn w b m cb B) :
    Calls Try.prog 7 #[.slice a n ca, .slice b m cb] w fun e w' => e = .returned (.bool true) ∧ Below w.heap.size w w' := by
  have hA : Strs w a n ca A := hA
  have hB : Strs w b m cb B := hB
  have HA : Hid (Strs w a n ca A) := hA
  have HB : Hid (Strs w b m cb B) := hB
  have h1 : ca ≤ 9223372036854775807 := hA.2.2.1
  have h2 : n ≤ ca := hA.2.1
  have h3 : cb ≤ 9223372036854775807 := hB.2.2.1
  have h4 : m ≤ cb := hB.2.1
  clear hA hB
  go_enter Try.func7, Try.ntmps7
  go_wp2_with fail
  refine (zzBytes20_any a b n ca m cb A B _ HA.out HB.out).mono ?_
  rintro e w' ⟨⟨r, rfl⟩, hw'⟩
  subst w'
  cases r with
  | false =>
    go_wp2
    go_ret
    exact ⟨rfl, Below.refl _ _⟩
  | true =>
    go_wp2_with fail
    refine (zzOverBytes_any a b n ca m cb A B _ HA.out HB.out).mono ?_
    rintro e w' ⟨⟨r, rfl⟩, hw'⟩
    subst w'
    cases r with
    | true =>
      go_wp2
      go_ret
      exact ⟨rfl, Below.refl _ _⟩
    | false =>
      by_cases hn : n ≤ 512
      · by_cases hm : m ≤ 512
        · go_wp2_with fail
          refine (zzClone_any a n ca A _ HA.out (by omega)).mono ?_
          rintro e w1 ⟨a1, c1, rfl, hA1, hb1⟩
          have HA1 : Hid (Strs w1 a1 n c1 A) := hA1
          clear hA1
          go_wp2_with fail
          refine (zzClone_any b m cb B _ (HB.out.below hb1) (by omega)).mono ?_
          rintro e w2 ⟨b1, d1, rfl, hB1, hb2⟩
          have HB1 : Hid (Strs w2 b1 m d1 B) := hB1
          have HA2 : Hid (Strs w2 a1 n c1 A) := HA1.out.below hb2
          clear hB1
          go_wp2_with fail
          refine (zzSearch_any a1 b1 n m c1 d1 A B _ HA2.out HB1.out (by omega)).mono ?_
          intro e w3 hS
          obtain ⟨v, st, rfl, h1, h2, h3, hb3⟩ := hS
          obtain ⟨x1, x2, x3⟩ := counts_of h2 h3
          obtain ⟨s1, cs, hv, _, hB2, _⟩ := bytes_of_owned h1
          rw [x3] at hB2 hv
          subst hv
          obtain ⟨l, hl⟩ : ∃ l, Plain.L (eqE A B) n m = l := ⟨_, rfl⟩
          rw [hl] at x1 x2 x3 h3 hB2 ⊢
          obtain ⟨k, hk⟩ : ∃ k, n + m - l = k := ⟨_, rfl⟩
          rw [hk] at x3 hB2 ⊢
          have HL : Hid (Plain.L (eqE A B) n m = l) := hl
          have HK : Hid (n + m - l = k) := hk
          have HS1 : Hid (Bytes w3 s1 k st) := hB2
          have HX : Hid (st.count 32 = l ∧ st.count 45 = n - l ∧ st.count 43 = m - l) := ⟨h3, x1, x2⟩
          have hkb : k ≤ 1024 := by omega
          have hB3 : Below w.heap.size w w3 := (hb1.trans (hb2.mono hb1.size)).trans (hb3.mono (Nat.le_trans hb1.size hb2.size))
          clear h1 h2 h3 x1 x2 x3 hB2 hl hk
          go_wp2_with fail
          refine (zzScript_any a1 b1 n m c1 d1 A B _ (HA2.out.below hb3) (HB1.out.below hb3) (by omega)).mono ?_
          intro e w4 hS
          obtain ⟨v, tt, hh, tl, mid, rfl, h1, r1, r2, r3, r4, r5, r6, _, r8, r9, r10, hb4⟩ := hS
          obtain ⟨h2, h3⟩ := Scripted.whole r1 r2 r3 r4 r5 r6 r8 r9 r10
          clear r1 r2 r3 r4 r5 r6 r8 r9 r10
          obtain ⟨x1, x2, x3⟩ := counts_of h2 h3
          obtain ⟨s2, cs2, hv, _, hB2, _⟩ := bytes_of_owned h1
          rw [HL.out] at x1 x2 x3 h3
          rw [HK.out] at x3
          rw [x3] at hB2 hv
          subst hv
          have HS2 : Hid (Bytes w4 s2 k tt) := hB2
          have HS3 : Hid (Bytes w4 s1 k st) := HS1.out.below hb4
          have HY : Hid (tt.count 32 = l ∧ tt.count 45 = n - l ∧ tt.count 43 = m - l) := ⟨h3, x1, x2⟩
          have hB4 : Below w.heap.size w w4 := hB3.trans (hb4.mono hB3.size)
          clear h1 h2 h3 x1 x2 x3 hB2 HS1 HK HL
          go_wp2_with fail
          refine (zzCount_any s1 k cs st 32 _ HS3.out (by omega)).mono ?_
          rintro e w' ⟨rfl, hw'⟩
          subst w'
          rw [HX.out.1]
          go_wp2_with fail
          refine (zzCount_any s2 k cs2 tt 32 _ HS2.out (by omega)).mono ?_
          rintro e w' ⟨rfl, hw'⟩
          subst w'
          rw [HY.out.1]
          go_wp2_with fail
          refine (zzCount_any s1 k cs st 45 _ HS3.out (by omega)).mono ?_
          rintro e w' ⟨rfl, hw'⟩
          subst w'
          rw [HX.out.2.1]
          go_wp2_with fail
          refine (zzCount_any s2 k cs2 tt 45 _ HS2.out (by omega)).mono ?_
          rintro e w' ⟨rfl, hw'⟩
          subst w'
          rw [HY.out.2.1]
          go_wp2_with fail
          refine (zzCount_any s1 k cs st 43 _ HS3.out (by omega)).mono ?_
          rintro e w' ⟨rfl, hw'⟩
          subst w'
          rw [HX.out.2.2]
          go_wp2_with fail
          refine (zzCount_any s2 k cs2 tt 43 _ HS2.out (by omega)).mono ?_
          rintro e w' ⟨rfl, hw'⟩
          subst w'
          rw [HY.out.2.2]
          go_wp2
          go_ret
          exact ⟨by simp, hB4⟩
        · go_wp2
          go_ret
          exact ⟨rfl, Below.refl _ _⟩
      · go_wp2
        go_ret
        exact ⟨rfl, Below.refl _ _⟩
end Go.Proofs.Qxb6601177a
