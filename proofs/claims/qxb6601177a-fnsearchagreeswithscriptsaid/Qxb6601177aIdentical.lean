/-
  FnSearchIdentical: the walk. My own text.
-/
import Derived.Test.Qxb6601177aSearch
import Derived.Test.Qxb6601177aBound
import Derived.Test.Qxb6601177aSmall
namespace Go.Proofs.Qxb6601177a
open Go.ChangeShapes Go.WideShapes Go.ChangeAt Go.RowKit

theorem zzSearch_any (a b : Option Addr) (n m ca cb : Nat) (A B : List ByteArray) (w : World) (hA : Strs w a n ca A) (hB : Strs w b m cb B) (hnm : n + m ≤ 1048576) :
    Calls Try.prog 19 #[.slice a n ca, .slice b m cb] w fun e w' => Searched (eqE A B) n m w e w' := by
  have HS := search_any a b n m ca cb A B w hA hB hnm
  have H : Hid (Calls Try.prog 25 #[.slice a n ca, .slice b m cb] w fun e w' => Searched (eqE A B) n m w e w') := HS
  clear HS
  go_enter Try.func19, Try.ntmps19
  go_wp2_with fail
  refine H.out.mono ?_
  intro e w' hS
  obtain ⟨v, st, rfl, h1, h2, h3, h4⟩ := hS
  go_wp2
  go_ret
  exact ⟨v, st, rfl, h1, h2, h3, h4⟩

theorem eqE_self (A : List ByteArray) (i : Nat) (h : i < A.length) : eqE A A i i = true := by simp [eqE, h]

theorem all_same {E : Nat → Nat → Bool} {n : Nat} {st : List Int} (hE : ∀ i, i < n → E i i = true) (hr : Plain.Reach E st.reverse n n) (hc : st.count 32 = Plain.L E n n) : st = List.replicate n 32 := by
  have hL := Plain.L_heads E n 0 0 hE
  rw [Nat.zero_add] at hL
  have hL0 : Plain.L (fun i j => E (i + n) (j + n)) 0 0 = 0 := by simp [Plain.L]
  rw [hL0] at hL
  have hx := hr.xy
  rw [List.count_reverse, List.count_reverse, List.count_reverse, List.length_reverse] at hx
  have hlen : st.count 32 = st.length := by omega
  have hn : st.length = n := by omega
  rw [← hn]
  exact List.eq_replicate_of_mem (fun b hb => (List.count_eq_length.1 hlen b hb).symm)

theorem zzRun_zero (a : Option Addr) (n c : Nat) (st : List Int) (x : Int) (w : World) (hS : Bytes w a n st) (i1 : Nat) (h1 : i1 ≤ n) (hn : n ≤ 4194304) (hx : ∀ i, i < i1 → st.getD i 0 = x) :
    Calls Try.prog 15 #[.slice a n c, .int .i64 0, .int .i64 i1, .int .u8 x] w fun e w' => e = .returned (.bool true) ∧ w' = w := by
  have h := zzRun_any a n c st 0 i1 x w hS (Nat.zero_le _) h1 hn (fun i _ hi => hx i hi)
  rw [show ((0 : Nat) : Int) = 0 from rfl] at h
  exact h

theorem strs_nil (w : World) : Strs w none 0 0 [] := ⟨rfl, Nat.le_refl _, by omega, fun h => by omega⟩

set_option maxHeartbeats 1000000 in
theorem identical_walk (a : Option Addr) (n c : Nat) (A : List ByteArray) (w : World) (hA : CameIn w a n c A) :
    Calls Try.prog 8 #[.slice a n c] w fun e w' => e = .returned (.bool true) ∧ Below w.heap.size w w' := by
  have hA : Strs w a n c A := hA
  have HA : Hid (Strs w a n c A) := hA
  have hcm : c ≤ 9223372036854775807 := hA.2.2.1
  have hnc : n ≤ c := hA.2.1
  clear hA
  go_enter Try.func8, Try.ntmps8
  go_wp2_with fail
  refine (zzBytes21_any a n c A _ HA.out).mono ?_
  rintro e w' ⟨⟨r, rfl⟩, hw'⟩
  subst w'
  cases r with
  | false =>
    go_wp2
    go_ret
    exact ⟨rfl, Below.refl _ _⟩
  | true =>
    go_wp2_with fail
    refine (zzOverBytes_any a none n c 0 0 A [] _ HA.out (strs_nil _)).mono ?_
    rintro e w' ⟨⟨r, rfl⟩, hw'⟩
    subst w'
    cases r with
    | true =>
      go_wp2
      go_ret
      exact ⟨rfl, Below.refl _ _⟩
    | false =>
      by_cases hn : n ≤ 65536
      · go_wp2_with fail
        refine (zzClone_any a n c A _ HA.out (by omega)).mono ?_
        rintro e w1 ⟨a1, c1, rfl, hA1, hb1⟩
        have HA1 : Hid (Strs w1 a1 n c1 A) := hA1
        clear hA1
        go_wp2_with fail
        refine (zzSearch_any a1 a1 n n c1 c1 A A _ HA1.out HA1.out (by omega)).mono ?_
        intro e w2 hS
        obtain ⟨v, st, rfl, h1, h2, h3, hb2⟩ := hS
        have hst : st = List.replicate n 32 := all_same (fun i hi => eqE_self A i (by have := HA1.out.1; omega)) h2 h3
        have hl : st.length = n := by rw [hst]; simp
        obtain ⟨a2, c2, hv, _, hB2, _⟩ := bytes_of_owned h1
        rw [hl] at hv hB2
        subst hv
        have HR : Hid (Calls Try.prog 15 #[.slice a2 n c2, .int .i64 0, .int .i64 n, .int .u8 32] w2 fun e w' => e = .returned (.bool true) ∧ w' = w2) :=
          zzRun_zero a2 n c2 st 32 w2 hB2 n (Nat.le_refl _) (by omega) (fun i hi => by rw [hst]; simp [hi])
        have hB3 : Below w.heap.size w w2 := hb1.trans (hb2.mono hb1.size)
        clear h1 h2 h3 hst hl hB2
        go_wp2_with (go_at_call 15; refine HR.out.mono ?_; rintro e w' ⟨rfl, hw'⟩; subst w')
        go_ret
        exact ⟨rfl, hB3⟩
      · go_wp2
        go_ret
        exact ⟨rfl, Below.refl _ _⟩
end Go.Proofs.Qxb6601177a
