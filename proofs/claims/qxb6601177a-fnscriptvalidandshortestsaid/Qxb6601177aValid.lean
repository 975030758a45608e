/-
  zzValid and zzShortest, by their contracts. My own text.
-/
import Derived.Test.Qxb6601177aLcs
import Derived.Test.Qxb6601177aSmall
namespace Go.Proofs.Qxb6601177a
open Go.ChangeShapes Go.WideShapes Go.ChangeAt Go.RowKit

theorem reach_suffix {E : Nat → Nat → Bool} : ∀ {s r : List Int} {n m : Nat}, Plain.Reach E (s ++ r) n m → ∃ x y, Plain.Reach E r x y ∧ x ≤ n ∧ y ≤ m := by
  intro s
  induction s with
  | nil => intro r n m h; exact ⟨n, m, h, Nat.le_refl _, Nat.le_refl _⟩
  | cons c s ih =>
    intro r n m h
    rcases h with ⟨rfl, x', y', rfl, rfl, _, h⟩ | ⟨rfl, x', rfl, h⟩ | ⟨rfl, y', rfl, h⟩
    all_goals
      obtain ⟨x, y, h1, h2, h3⟩ := ih h
      exact ⟨x, y, h1, by omega, by omega⟩

theorem reach_one {E : Nat → Nat → Bool} {r : List Int} {x y x' y' : Nat} (h : Plain.Reach E r x y) (h' : Plain.Reach E r x' y') : x = x' ∧ y = y' := by
  have h1 := h.xy
  have h2 := h'.xy
  omega

theorem valid_step {E : Nat → Nat → Bool} {st : List Int} {n m p x y : Nat} (h : Plain.Reach E st.reverse n m) (hp : p < st.length) (hr : Plain.Reach E (st.take p).reverse x y) :
    (st.getD p 0 = 32 ∧ E x y = true ∧ Plain.Reach E (st.take (p + 1)).reverse (x + 1) (y + 1) ∧ x + 1 ≤ n ∧ y + 1 ≤ m) ∨
    (st.getD p 0 = 45 ∧ Plain.Reach E (st.take (p + 1)).reverse (x + 1) y ∧ x + 1 ≤ n) ∨ (st.getD p 0 = 43 ∧ Plain.Reach E (st.take (p + 1)).reverse x (y + 1) ∧ y + 1 ≤ m) := by
  have e1 : (st.take (p + 1)).reverse = st.getD p 0 :: (st.take p).reverse := by
    rw [List.take_succ_eq_append_getElem hp]; simp [hp]
  have e2 : st.reverse = (st.drop (p + 1)).reverse ++ (st.take (p + 1)).reverse := by
    rw [← List.reverse_append, List.take_append_drop]
  rw [e2] at h
  obtain ⟨x2, y2, h1, h2, h3⟩ := reach_suffix h
  rw [e1] at h1 ⊢
  generalize st.getD p 0 = c at *
  rcases h1 with ⟨rfl, x', y', rfl, rfl, he, h1⟩ | ⟨rfl, x', rfl, h1⟩ | ⟨rfl, y', rfl, h1⟩
  · obtain ⟨rfl, rfl⟩ := reach_one hr h1
    exact .inl ⟨rfl, he, .inl ⟨rfl, x, y, rfl, rfl, he, hr⟩, h2, h3⟩
  · obtain ⟨rfl, rfl⟩ := reach_one hr h1
    exact .inr (.inl ⟨rfl, .inr (.inl ⟨rfl, x, rfl, hr⟩), h2⟩)
  · obtain ⟨rfl, rfl⟩ := reach_one hr h1
    exact .inr (.inr ⟨rfl, .inr (.inr ⟨rfl, y, rfl, hr⟩), h3⟩)

set_option maxHeartbeats 2000000 in
set_option maxRecDepth 100000 in
theorem zzValid_any (a b s : Option Addr) (n m k ca cb cs : Nat) (A B : List ByteArray) (st : List Int) (w : World) (hA : Strs w a n ca A) (hB : Strs w b m cb B) (hS : Bytes w s k st) (hnm : n + m ≤ 1048576)
    (hr : Plain.Reach (eqE A B) st.reverse n m) :
    Calls Try.prog 23 #[.slice a n ca, .slice b m cb, .slice s k cs] w fun e w' => e = .returned (.bool true) ∧ ∃ q, w' = w.drewN q := by
  obtain ⟨hAl, hAc, hAm, hAcl⟩ := hA
  obtain ⟨hBl, hBc, hBm, hBcl⟩ := hB
  obtain ⟨hSl, hScl⟩ := hS
  have hkb : k ≤ n + m := by have := hr.len; simp at this; omega
  have HR : Hid (Plain.Reach (eqE A B) st.reverse n m) := hr
  have HEQ : Hid (∀ x y, eqE A B x y = true → x < n ∧ y < m ∧ ((A.getD x ByteArray.empty).toList == (B.getD y ByteArray.empty).toList) = true) := by
    intro x y h
    simp only [eqE, Bool.and_eq_true, decide_eq_true_eq] at h
    exact ⟨by omega, by omega, h.2⟩
  have HA : Hid (Cells w a n (fun i => .string (A.getD i ByteArray.empty))) := hAcl
  have HB : Hid (Cells w b m (fun i => .string (B.getD i ByteArray.empty))) := hBcl
  have HS : Hid (Cells w s k (fun i => .int .u8 (st.getD i 0))) := hScl
  have HL : Hid (st.length = k) := hSl
  clear hAl hAcl hBl hBcl hSl hScl hr
  go_enter Try.func23, Try.ntmps23
  go_wp2
  go_loopg [7, 8, 9] k (fun gk i j p wr => ∃ P x y : Nat, gk + P = k ∧ x ≤ n ∧ y ≤ m ∧ i = .int .i64 x ∧ j = .int .i64 y ∧ p = .int .i64 P ∧ Plain.Reach (eqE A B) (st.take P).reverse x y ∧ ∃ q, wr = w.drewN q)
  case atStart => exact ⟨0, 0, 0, by omega, by omega, by omega, rfl, rfl, rfl, ⟨rfl, rfl⟩, 0, rfl⟩
  case round =>
    obtain ⟨P, x, y, hgk, hxn, hym, rfl, rfl, rfl, hre, q, rfl⟩ := hrel
    cases gk with
    | zero =>
      have hPk : P = k := by omega
      subst hPk
      rw [List.take_of_length_le (by rw [HL.out]; exact Nat.le_refl _)] at hre
      obtain ⟨rfl, rfl⟩ := reach_one hre HR.out
      clear hre HR HEQ HA HB HS
      go_wp2
      go_ret
      exact ⟨rfl, _, rfl⟩
    | succ gk =>
      obtain ⟨g3, o3, rfl, _, hc3⟩ := HS.out (by omega)
      have d3 : w.cell? ⟨g3, o3 + P, none⟩ = some (.int .u8 (st.getD P 0)) := hc3 P (by omega)
      have hPk : (P : Int) < (k : Int) := by omega
      have hst := valid_step HR.out (by rw [HL.out]; omega) hre
      clear hc3 hre
      rcases hst with ⟨hc, he, hn, hx1, hy1⟩ | ⟨hc, hn, hx1⟩ | ⟨hc, hn, hy1⟩
      · rw [hc] at d3
        obtain ⟨_, _, hee⟩ := HEQ.out x y he
        obtain ⟨g1, o1, rfl, _, hc1⟩ := HA.out (by omega)
        obtain ⟨g2, o2, rfl, _, hc2⟩ := HB.out (by omega)
        have d1 : w.cell? ⟨g1, o1 + x, none⟩ = some (.string (A.getD x ByteArray.empty)) := hc1 x (by omega)
        have d2 : w.cell? ⟨g2, o2 + y, none⟩ = some (.string (B.getD y ByteArray.empty)) := hc2 y (by omega)
        have HN : Hid (Plain.Reach (eqE A B) (st.take (P + 1)).reverse (x + 1) (y + 1)) := hn
        generalize A.getD x ByteArray.empty = s1 at *
        generalize B.getD y ByteArray.empty = s2 at *
        have k1 : decide ((n : Int) ≤ (x : Int)) = false := decide_eq_false (by omega)
        have k2 : decide ((m : Int) ≤ (y : Int)) = false := decide_eq_false (by omega)
        have k3 : (x : Int) < (n : Int) := by omega
        have k4 : (y : Int) < (m : Int) := by omega
        clear hc he hn hc1 hc2 HEQ HA HB HS HR HL
        go_wp2
        go_quiet (fail)
        go_wp2
        go_roundg gk
        case measure => omega
        case rel => exact ⟨P + 1, x + 1, y + 1, by omega, by omega, by omega, by go_num, by go_num, by go_num, HN.out, _, rfl⟩
      · rw [hc] at d3
        have HN : Hid (Plain.Reach (eqE A B) (st.take (P + 1)).reverse (x + 1) y) := hn
        clear hc hn HEQ HA HB HS HR HL
        go_wp2
        go_roundg gk
        case measure => omega
        case rel => exact ⟨P + 1, x + 1, y, by omega, by omega, by omega, by go_num, rfl, by go_num, HN.out, _, rfl⟩
      · rw [hc] at d3
        have HN : Hid (Plain.Reach (eqE A B) (st.take (P + 1)).reverse x (y + 1)) := hn
        clear hc hn HEQ HA HB HS HR HL
        go_wp2
        go_roundg gk
        case measure => omega
        case rel => exact ⟨P + 1, x, y + 1, by omega, by omega, by omega, rfl, by go_num, by go_num, HN.out, _, rfl⟩

theorem Bytes.below {w w' : World} {a : Option Addr} {n : Nat} {st : List Int} (h : Bytes w a n st) (hb : Below w.heap.size w w') : Bytes w' a n st := ⟨h.1, h.2.below hb⟩

set_option maxHeartbeats 1000000 in
theorem zzShortest_any (a b s : Option Addr) (n m k ca cb cs : Nat) (A B : List ByteArray) (st : List Int) (w : World) (hA : Strs w a n ca A) (hB : Strs w b m cb B) (hS : Bytes w s k st) (hnm : n + m ≤ 1048576)
    (hr : Plain.Reach (eqE A B) st.reverse n m) (hc : st.count 32 = Plain.L (eqE A B) n m) :
    Calls Try.prog 13 #[.slice a n ca, .slice b m cb, .slice s k cs] w fun e w' => e = .returned (.bool true) ∧ Below w.heap.size w w' := by
  have hx := hr.xy
  rw [List.count_reverse, List.count_reverse, List.count_reverse, List.length_reverse] at hx
  have hk : k ≤ n + m := by have := hS.1; omega
  obtain ⟨l, hl⟩ : ∃ l, Plain.L (eqE A B) n m = l := ⟨_, rfl⟩
  have HL : Hid (Plain.L (eqE A B) n m = l) := hl
  have c1 : st.count 32 = l := by rw [hc, hl]
  have c2 : st.count 45 + l = n := by omega
  have c3 : st.count 43 + l = m := by omega
  have HC1 : Hid (st.count 32 = l) := c1
  have HC2 : Hid (((st.count 45 : Nat) : Int) = (n : Int) - l) := by unfold Hid; omega
  have HC3 : Hid (((st.count 43 : Nat) : Int) = (m : Int) - l) := by unfold Hid; omega
  have hln : l ≤ n := by omega
  have hlm : l ≤ m := by omega
  have HV : Hid (Calls Try.prog 23 #[.slice a n ca, .slice b m cb, .slice s k cs] w fun e w' => e = .returned (.bool true) ∧ ∃ q, w' = w.drewN q) := zzValid_any a b s n m k ca cb cs A B st w hA hB hS hnm hr
  have HA : Hid (Strs w a n ca A) := hA
  have HB : Hid (Strs w b m cb B) := hB
  have HS : Hid (Bytes w s k st) := hS
  clear hx hl c1 c2 c3 hc hr hA hB hS
  go_enter Try.func13, Try.ntmps13
  go_wp2_with fail
  refine HV.out.mono ?_
  rintro e w' ⟨rfl, q, rfl⟩
  have hb0 : Below w.heap.size w (w.drewN q) := below_drewN (Below.refl _ _) q
  go_wp2_with fail
  refine (zzLCS_any a b n m ca cb A B _ (HA.out.below hb0) (HB.out.below hb0) hnm).mono ?_
  rw [HL.out]
  rintro e w1 ⟨rfl, hb1⟩
  have hb2 : Below w.heap.size w w1 := hb0.trans (hb1.mono (by exact Nat.le_refl _))
  have HB1 : Hid (Bytes w1 s k st) := HS.out.below hb2
  go_wp2_with fail
  refine (zzCount_any s k cs st 32 _ HB1.out (by omega)).mono ?_
  rintro e w' ⟨rfl, hw'⟩
  subst w'
  rw [HC1.out]
  go_wp2_with fail
  refine (zzCount_any s k cs st 45 _ HB1.out (by omega)).mono ?_
  rintro e w' ⟨rfl, hw'⟩
  subst w'
  rw [HC2.out]
  go_wp2_with fail
  refine (zzCount_any s k cs st 43 _ HB1.out (by omega)).mono ?_
  rintro e w' ⟨rfl, hw'⟩
  subst w'
  rw [HC3.out]
  go_wp2
  go_ret
  exact ⟨by simp, hb2⟩
end Go.Proofs.Qxb6601177a
