/-
  FnScriptValidAndShortest: the walk. My own text.
-/
import Derived.Test.Qxb6601177aScriptCall
import Derived.Test.Qxb6601177aValid
import Derived.Test.Qxb6601177aBound
namespace Go.Proofs.Qxb6601177a
open Go.ChangeShapes Go.WideShapes Go.ChangeAt Go.RowKit

set_option maxHeartbeats 1000000 in
theorem scriptShortest_walk (a b : Option Addr) (n ca m cb : Nat) (A B : List ByteArray) (w : World) (hA : CameIn w a n ca A) (hB : CameIn w b m cb B) :
    Calls Try.prog 3 #[.slice a n ca, .slice b m cb] w fun e w' => e = .returned (.bool true) ∧ Below w.heap.size w w' := by
  have hA : Strs w a n ca A := hA
  have hB : Strs w b m cb B := hB
  have HA : Hid (Strs w a n ca A) := hA
  have HB : Hid (Strs w b m cb B) := hB
  have h1 : ca ≤ 9223372036854775807 := hA.2.2.1
  have h2 : n ≤ ca := hA.2.1
  have h3 : cb ≤ 9223372036854775807 := hB.2.2.1
  have h4 : m ≤ cb := hB.2.1
  clear hA hB
  go_enter Try.func3, Try.ntmps3
  go_wp2_with fail
  refine (zzBytes9_any a b n ca m cb A B _ HA.out HB.out).mono ?_
  rintro e w' ⟨⟨r, rfl⟩, hw'⟩
  subst w'
  cases r with
  | false =>
    go_wp2
    go_ret
    exact ⟨rfl, Below.refl _ _⟩
  | true =>
    go_wp2_with fail
    refine (zzOverBytes_any a b n ca m cb A B _ HA.out HB.out).mono ?_
    rintro e w' ⟨⟨r, rfl⟩, hw'⟩
    subst w'
    cases r with
    | true =>
      go_wp2
      go_ret
      exact ⟨rfl, Below.refl _ _⟩
    | false =>
      by_cases hn : n ≤ 512
      · by_cases hm : m ≤ 512
        · go_wp2_with fail
          refine (zzClone_any a n ca A _ HA.out (by omega)).mono ?_
          rintro e w1 ⟨a1, c1, rfl, hA1, hb1⟩
          have HA1 : Hid (Strs w1 a1 n c1 A) := hA1
          clear hA1
          go_wp2_with fail
          refine (zzClone_any b m cb B _ (HB.out.below hb1) (by omega)).mono ?_
          rintro e w2 ⟨b1, d1, rfl, hB1, hb2⟩
          have HB1 : Hid (Strs w2 b1 m d1 B) := hB1
          have HA2 : Hid (Strs w2 a1 n c1 A) := HA1.out.below hb2
          clear hB1
          go_wp2_with fail
          refine (zzScript_any a1 b1 n m c1 d1 A B _ HA2.out HB1.out (by omega)).mono ?_
          intro e w3 hS
          obtain ⟨v, st, hh, tt, mid, rfl, h1, r1, r2, r3, r4, r5, r6, _, r8, r9, r10, hb3⟩ := hS
          obtain ⟨h2, h3⟩ := Scripted.whole r1 r2 r3 r4 r5 r6 r8 r9 r10
          clear r1 r2 r3 r4 r5 r6 r8 r9 r10
          obtain ⟨s1, cs, hv, _, hB2, _⟩ := bytes_of_owned h1
          subst hv
          have HZ : Hid (Calls Try.prog 13 #[.slice a1 n c1, .slice b1 m d1, .slice s1 st.length cs] w3 fun e w' => e = .returned (.bool true) ∧ Below w3.heap.size w3 w') :=
            zzShortest_any a1 b1 s1 n m st.length c1 d1 cs A B st w3 (HA2.out.below hb3) (HB1.out.below hb3) hB2 (by omega) h2 h3
          have hB3 : Below w.heap.size w w3 := (hb1.trans (hb2.mono hb1.size)).trans (hb3.mono (Nat.le_trans hb1.size hb2.size))
          clear h1 h2 h3 hB2
          generalize st.length = k at *
          go_wp2_with fail
          refine HZ.out.mono ?_
          rintro e w4 ⟨rfl, hb4⟩
          go_wp2
          go_ret
          exact ⟨rfl, hB3.trans (hb4.mono hB3.size)⟩
        · go_wp2
          go_ret
          exact ⟨rfl, Below.refl _ _⟩
      · go_wp2
        go_ret
        exact ⟨rfl, Below.refl _ _⟩
end Go.Proofs.Qxb6601177a
