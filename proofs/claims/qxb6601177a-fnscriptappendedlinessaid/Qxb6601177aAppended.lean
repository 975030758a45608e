/-
  FnScriptAppendedLines: the walk. My own text.
-/
import Derived.Test.Qxb6601177aScriptCall
import Derived.Test.Qxb6601177aIdentical
namespace Go.Proofs.Qxb6601177a
open Go.ChangeShapes Go.WideShapes Go.ChangeAt Go.RowKit

theorem reach_add {E : Nat → Nat → Bool} {r : List Int} {y : Nat} (h : Plain.Reach E r 0 y) : r = List.replicate y 43 := by
  have hx := h.xy
  have hl : r.count 43 = r.length := by omega
  have hn : r.length = y := by omega
  rw [← hn]
  exact List.eq_replicate_of_mem (fun b hb => (List.count_eq_length.1 hl b hb).symm)

theorem reach_remove {E : Nat → Nat → Bool} {r : List Int} {x : Nat} (h : Plain.Reach E r x 0) : r = List.replicate x 45 := by
  have hx := h.xy
  have hl : r.count 45 = r.length := by omega
  have hn : r.length = x := by omega
  rw [← hn]
  exact List.eq_replicate_of_mem (fun b hb => (List.count_eq_length.1 hl b hb).symm)

theorem eqE_left (A C : List ByteArray) (i : Nat) (h : i < A.length) : eqE A (A ++ C) i i = true := by
  have e : (A ++ C).getD i ByteArray.empty = A.getD i ByteArray.empty := by rw [List.getD, List.getElem?_append_left h]; rfl
  unfold eqE
  rw [e, decide_eq_true h, decide_eq_true (by simp; omega)]; simp

theorem eqE_right (A C : List ByteArray) (i : Nat) (h : i < A.length) : eqE (A ++ C) A i i = true := by
  have e : (A ++ C).getD i ByteArray.empty = A.getD i ByteArray.empty := by rw [List.getD, List.getElem?_append_left h]; rfl
  unfold eqE
  rw [e, decide_eq_true h, decide_eq_true (by simp; omega)]; simp

theorem added {A C : List ByteArray} {n m N : Nat} (hA : A.length = n) (hN : n + m = N) {st mid : List Int} {h t : Nat} (hst : st = List.replicate h 32 ++ mid ++ List.replicate t 32) (hn : h ≤ n) (htn : t ≤ n - h)
    (hf : eqE A (A ++ C) h h = false) (hr : Plain.Reach (fun i j => eqE A (A ++ C) (i + h) (j + h)) mid.reverse (n - t - h) (N - t - h)) : st = List.replicate n 32 ++ List.replicate m 43 := by
  have hh : h = n := by
    rcases Nat.lt_or_ge h n with h1 | h1
    · rw [eqE_left A C h (by omega)] at hf; cases hf
    · omega
  subst hh
  have ht : t = 0 := by omega
  subst ht
  rw [show h - 0 - h = 0 by omega, show N - 0 - h = m by omega] at hr
  have h2 := reach_add hr
  have h3 : mid = List.replicate m 43 := by
    have := congrArg List.reverse h2
    simpa using this
  rw [hst, h3]; simp

theorem removed {A C : List ByteArray} {n m N : Nat} (hA : A.length = n) (hN : n + m = N) {st mid : List Int} {h t : Nat} (hst : st = List.replicate h 32 ++ mid ++ List.replicate t 32) (hn : h ≤ n) (htn : t ≤ n - h)
    (hf : eqE (A ++ C) A h h = false) (hr : Plain.Reach (fun i j => eqE (A ++ C) A (i + h) (j + h)) mid.reverse (N - t - h) (n - t - h)) : st = List.replicate n 32 ++ List.replicate m 45 := by
  have hh : h = n := by
    rcases Nat.lt_or_ge h n with h1 | h1
    · rw [eqE_right A C h (by omega)] at hf; cases hf
    · omega
  subst hh
  have ht : t = 0 := by omega
  subst ht
  rw [show h - 0 - h = 0 by omega, show N - 0 - h = m by omega] at hr
  have h2 := reach_remove hr
  have h3 : mid = List.replicate m 45 := by
    have := congrArg List.reverse h2
    simpa using this
  rw [hst, h3]; simp

theorem strs_of_owned {w : World} {base g n c : Nat} {A : List ByteArray} (h : w.ownsRow base 9 1 (.slice (some ⟨g, 0, none⟩) n c) n (A.map Value.string)) (hnc : n ≤ c) (hc : c ≤ 9223372036854775807) : Strs w (some ⟨g, 0, none⟩) n c A := by
  have hl : A.length = n := by simpa using h.1
  refine ⟨hl, hnc, hc, fun hpos => ?_⟩
  rcases h.2 with ⟨h', _⟩ | ⟨g', cap', cur, h', _, hg, _⟩
  · cases h'
  · cases h'
    refine ⟨g, 0, rfl, (Array.getElem?_eq_some_iff.1 hg).1, fun i hi => ?_⟩
    rw [Nat.zero_add, h.cellAt i (by omega)]
    simp [hl, hi]

theorem own_str {w : World} {base : Nat} {v : Value} {n : Nat} {l : List ByteArray} {x : ByteArray} (h : w.ownsRow base 9 1 v n (l.map Value.string ++ [.string x])) : w.ownsRow base 9 1 v n ((l ++ [x]).map Value.string) := by
  simpa using h

theorem runs_left (n m i : Nat) (x y : Int) (h : i < n) : (List.replicate n x ++ List.replicate m y).getD i 0 = x := by
  rw [List.getD, List.getElem?_append_left (by simpa using h)]; simp [h]
theorem runs_right (n m i : Nat) (x y : Int) (h : n ≤ i) (h2 : i < n + m) : (List.replicate n x ++ List.replicate m y).getD i 0 = y := by
  rw [List.getD, List.getElem?_append_right (by simpa using h)]; simp [show i - n < m by omega]

set_option maxHeartbeats 2000000 in
set_option maxRecDepth 100000 in
theorem appended_walk (a b : Option Addr) (n ca m cb : Nat) (A C : List ByteArray) (w : World) (hA : CameIn w a n ca A) (hB : CameIn w b m cb C) :
    Calls Try.prog 4 #[.slice a n ca, .slice b m cb] w fun e w' => e = .returned (.bool true) ∧ Below w.heap.size w w' := by
  obtain ⟨i9, hi9, hz90, hz91, hz92⟩ := info_parts info9
  have hA : Strs w a n ca A := hA
  have hB : Strs w b m cb C := hB
  have HA : Hid (Strs w a n ca A) := hA
  have HB : Hid (Strs w b m cb C) := hB
  have h1 : ca ≤ 9223372036854775807 := hA.2.2.1
  have h2 : n ≤ ca := hA.2.1
  have h3 : cb ≤ 9223372036854775807 := hB.2.2.1
  have h4 : m ≤ cb := hB.2.1
  clear hA hB
  go_enter Try.func4, Try.ntmps4
  go_wp2_with fail
  refine (zzBytes14_any a b n ca m cb A C _ HA.out HB.out).mono ?_
  rintro e w' ⟨⟨r, rfl⟩, hw'⟩
  subst w'
  cases r with
  | false =>
    go_wp2
    go_ret
    exact ⟨rfl, Below.refl _ _⟩
  | true =>
    go_wp2_with fail
    refine (zzOverBytes_any a b n ca m cb A C _ HA.out HB.out).mono ?_
    rintro e w' ⟨⟨r, rfl⟩, hw'⟩
    subst w'
    cases r with
    | true =>
      go_wp2
      go_ret
      exact ⟨rfl, Below.refl _ _⟩
    | false =>
      by_cases hn : n ≤ 65536
      · by_cases hm : m ≤ 512
        · by_cases hs : n + m ≤ 65536
          · have hd1 : decide ((65536 : Int) < (n : Int)) = false := decide_eq_false (by omega)
            have hd2 : decide ((512 : Int) < (m : Int)) = false := decide_eq_false (by omega)
            have hd3 : decide ((65536 : Int) < (n : Int) + m) = false := decide_eq_false (by omega)
            go_wp2_with fail
            refine (zzClone_any a n ca A _ HA.out (by omega)).mono ?_
            rintro e w1 ⟨a1, c1, rfl, hA1, hb1⟩
            have HA1 : Hid (Strs w1 a1 n c1 A) := hA1
            clear hA1
            go_wp2_with fail
            refine (zzClone_any b m cb C _ (HB.out.below hb1) (by omega)).mono ?_
            rintro e w2 ⟨b1, d1, rfl, hB1, hb2⟩
            have HB1 : Hid (Strs w2 b1 m d1 C) := hB1
            have HA2 : Hid (Strs w2 a1 n c1 A) := HA1.out.below hb2
            have hB2 : Below w.heap.size w w2 := hb1.trans (hb2.mono hb1.size)
            clear hB1 HA HB HA1 hb1 hb2
            go_wp2_with (at_make; refine wpList_make_own _ rfl _ _ 22 rfl w2.heap.size 9 i9 (.string ⟨#[]⟩) 1 Try.underlying22 hi9 hz90 hz91 _ _ _ (n + m) rfl rfl (by omega) ?b2 ?b3 ?b4 ?_)
            case b2 => rw [hz92]; omega
            case b3 => unfold maxLen; omega
            case b4 => exact Nat.le_refl _
            intro w3 hown3 hgrow3
            have hb3 : Below w2.heap.size w2 w3 := (Below.refl _ _).grown hgrow3 (Nat.le_refl _) (fun k hk => by cases hk)
            clear hgrow3
            go_wp2
            obtain ⟨N, hN⟩ : ∃ N, n + m = N := ⟨_, rfl⟩
            rw [show ((n : Int) + m) = (N : Int) by omega] at hd3 ⊢
            rw [hN] at hown3 ⊢
            have HN : Hid (n + m = N) := hN
            have hN1 : n + m ≤ N := by omega
            have hN2 : N ≤ n + m := by omega
            have HO3 : Hid (w3.ownsRow w2.heap.size 9 1 (.slice (some ⟨w2.heap.size, 0, none⟩) 0 N) 0 []) := hown3
            clear hN hown3
            go_loopg [6, 7] n (fun gk v c wr => ∃ i : Nat, gk + i = n ∧ c = .int .i64 i ∧ v = .slice (some ⟨w2.heap.size, 0, none⟩) i N ∧ wr.ownsRow w2.heap.size 9 1 (.slice (some ⟨w2.heap.size, 0, none⟩) i N) i ((A.take i).map Value.string) ∧ Below w2.heap.size w2 wr)
            case atStart => exact ⟨0, by omega, rfl, rfl, HO3.out, hb3⟩
            case round =>
              clear HO3 hb3
              obtain ⟨i, hgi, rfl, rfl, hown, hnx⟩ := hrel
              cases gk with
              | succ gk =>
                obtain ⟨g, o, rfl, hg, hc⟩ := HA2.out.2.2.2 (by omega)
                have d1 : wr.cell? ⟨g, o + i, none⟩ = some (.string (A.getD i ByteArray.empty)) := (hnx.cell (p := ⟨g, o + i, none⟩) hg).trans (hc i (by omega))
                have HT : Hid (A.take (i + 1) = A.take i ++ [A.getD i ByteArray.empty]) := by
                  have hi : i < A.length := by have := HA2.out.1; omega
                  unfold Hid
                  rw [List.take_succ_eq_append_getElem hi]; simp [hi]
                generalize A.getD i ByteArray.empty = x at *
                have hlt : i < n := by omega
                clear hc
                go_wp2_with (at_builtin; refine wpList_append_fits _ rfl (.tmp 51) (.tmp 56) 22 rfl w2.heap.size 9 i9 1 Try.underlying22 hi9 hz91 w2.heap.size (i) N _ rfl (hown.alloc _) ⟨wr.heap.size, 0, none⟩ 1 1 [.string x] rfl rfl (by intro t u ht; match t, ht with | 0, ht => simp at ht; subst ht; simp [Addr.add]) (by intro u hu; simp at hu; subst hu; rfl) (by omega) ?_; intro w4 hown4 hgrow4)
                go_roundg gk
                case measure => omega
                case rel => exact ⟨i + 1, by omega, by go_num, rfl, by rw [HT.out]; exact own_str hown4, (hnx.alloc hnx.size _).grown hgrow4 (by have := hnx.size; simp; omega) (fun k hk => by cases hk; exact Nat.le_refl _)⟩
              | zero =>
                obtain rfl : n = i := by omega
                rw [List.take_of_length_le (by have := HA2.out.1; omega)] at hown
                have HO4 : Hid (wr.ownsRow w2.heap.size 9 1 (.slice (some ⟨w2.heap.size, 0, none⟩) n N) n (A.map Value.string)) := hown
                clear hown
                go_wp2
                go_loopg [6, 8] m (fun gk v c wr => ∃ i : Nat, gk + i = m ∧ c = .int .i64 i ∧ v = .slice (some ⟨w2.heap.size, 0, none⟩) (n + i) N ∧ wr.ownsRow w2.heap.size 9 1 (.slice (some ⟨w2.heap.size, 0, none⟩) (n + i) N) (n + i) ((A ++ C.take i).map Value.string) ∧ Below w2.heap.size w2 wr)
                case atStart => exact ⟨0, by omega, rfl, rfl, by rw [List.take_zero, List.append_nil]; exact HO4.out, hnx⟩
                case round =>
                  clear HO4 hnx
                  obtain ⟨i, hgi, rfl, rfl, hown, hnx⟩ := hrel
                  cases gk with
                  | succ gk =>
                    obtain ⟨g, o, rfl, hg, hc⟩ := HB1.out.2.2.2 (by omega)
                    have d1 : wr.cell? ⟨g, o + i, none⟩ = some (.string (C.getD i ByteArray.empty)) := (hnx.cell (p := ⟨g, o + i, none⟩) hg).trans (hc i (by omega))
                    have HT : Hid (A ++ C.take (i + 1) = (A ++ C.take i) ++ [C.getD i ByteArray.empty]) := by
                      have hi : i < C.length := by have := HB1.out.1; omega
                      unfold Hid
                      rw [List.take_succ_eq_append_getElem hi]; simp [hi]
                    generalize C.getD i ByteArray.empty = x at *
                    have hlt : i < m := by omega
                    clear hc
                    go_wp2_with (at_builtin; refine wpList_append_fits _ rfl (.tmp 64) (.tmp 69) 22 rfl w2.heap.size 9 i9 1 Try.underlying22 hi9 hz91 w2.heap.size (n + i) N _ rfl (hown.alloc _) ⟨wr.heap.size, 0, none⟩ 1 1 [.string x] rfl rfl (by intro t u ht; match t, ht with | 0, ht => simp at ht; subst ht; simp [Addr.add]) (by intro u hu; simp at hu; subst hu; rfl) (by omega) ?_; intro w4 hown4 hgrow4)
                    go_roundg gk
                    case measure => omega
                    case rel => exact ⟨i + 1, by omega, by go_num, rfl, by rw [HT.out]; exact own_str hown4, (hnx.alloc hnx.size _).grown hgrow4 (by have := hnx.size; simp; omega) (fun k hk => by cases hk; exact Nat.le_refl _)⟩
                  | zero =>
                    obtain rfl : m = i := by omega
                    rw [List.take_of_length_le (by have := HB1.out.1; omega)] at hown
                    rw [HN.out] at hown ⊢
                    have HBB : Hid (Strs wr (some ⟨w2.heap.size, 0, none⟩) N N (A ++ C)) := strs_of_owned hown (Nat.le_refl _) (by omega)
                    have HA3 : Hid (Strs wr a1 n c1 A) := HA2.out.below hnx
                    have hB3 : Below w.heap.size w wr := hB2.trans (hnx.mono hB2.size)
                    clear hown hnx HA2 HB1 hB2
                    go_wp2_with fail
                    refine (zzScript_any a1 (some ⟨w2.heap.size, 0, none⟩) n N c1 N A (A ++ C) _ HA3.out HBB.out (by omega)).mono ?_
                    intro e w5 hS
                    obtain ⟨v, st, hh, tt, mid, rfl, h1, r1, r2, _, r4, _, _, r7, _, r9, _, hb5⟩ := hS
                    have hst := added HA3.out.1 HN.out r1 r2 r4 r7 r9
                    have hl : st.length = N := by rw [hst]; simp; exact HN.out
                    obtain ⟨s1, cs, hv, _, hBy, _⟩ := bytes_of_owned h1
                    rw [hl] at hv hBy
                    subst hv
                    have HR1 : Hid (Calls Try.prog 15 #[.slice s1 N cs, .int .i64 0, .int .i64 n, .int .u8 32] w5 fun e w' => e = .returned (.bool true) ∧ w' = w5) :=
                      zzRun_zero s1 N cs st 32 w5 hBy n (by omega) (by omega) (fun i hi => by rw [hst]; exact runs_left n m i 32 43 hi)
                    have HR2 : Hid (Calls Try.prog 15 #[.slice s1 N cs, .int .i64 n, .int .i64 N, .int .u8 43] w5 fun e w' => e = .returned (.bool true) ∧ w' = w5) :=
                      zzRun_any s1 N cs st n N 43 w5 hBy (by omega) (Nat.le_refl _) (by omega) (fun i hi1 hi2 => by rw [hst]; exact runs_right n m i 32 43 hi1 (by omega))
                    have HA5 : Hid (Strs w5 a1 n c1 A) := HA3.out.below hb5
                    have HB5 : Hid (Strs w5 (some ⟨w2.heap.size, 0, none⟩) N N (A ++ C)) := HBB.out.below hb5
                    have hB5 : Below w.heap.size w w5 := hB3.trans (hb5.mono hB3.size)
                    clear h1 r1 r2 r4 r7 r9 hst hl hBy hb5 HA3 HBB hB3
                    go_wp2_with fail
                    refine HR1.out.mono ?_
                    rintro e w' ⟨rfl, hw'⟩
                    subst w'
                    go_wp2_with fail
                    refine HR2.out.mono ?_
                    rintro e w' ⟨rfl, hw'⟩
                    subst w'
                    clear HR1 HR2
                    go_wp2_with fail
                    refine (zzScript_any (some ⟨w2.heap.size, 0, none⟩) a1 N n N c1 (A ++ C) A _ HB5.out HA5.out (by omega)).mono ?_
                    intro e w6 hS
                    obtain ⟨v, st, hh, tt, mid, rfl, h1, r1, _, r3, _, r5, _, r7, _, r9, _, hb6⟩ := hS
                    have hst := removed HA5.out.1 HN.out r1 r3 r5 r7 r9
                    have hl : st.length = N := by rw [hst]; simp; exact HN.out
                    obtain ⟨s2, cs2, hv, _, hBy, _⟩ := bytes_of_owned h1
                    rw [hl] at hv hBy
                    subst hv
                    have HR1 : Hid (Calls Try.prog 15 #[.slice s2 N cs2, .int .i64 0, .int .i64 n, .int .u8 32] w6 fun e w' => e = .returned (.bool true) ∧ w' = w6) :=
                      zzRun_zero s2 N cs2 st 32 w6 hBy n (by omega) (by omega) (fun i hi => by rw [hst]; exact runs_left n m i 32 45 hi)
                    have HR2 : Hid (Calls Try.prog 15 #[.slice s2 N cs2, .int .i64 n, .int .i64 N, .int .u8 45] w6 fun e w' => e = .returned (.bool true) ∧ w' = w6) :=
                      zzRun_any s2 N cs2 st n N 45 w6 hBy (by omega) (Nat.le_refl _) (by omega) (fun i hi1 hi2 => by rw [hst]; exact runs_right n m i 32 45 hi1 (by omega))
                    have hB6 : Below w.heap.size w w6 := hB5.trans (hb6.mono hB5.size)
                    clear h1 r1 r3 r5 r7 r9 hst hl hBy hb6 HA5 HB5 hB5
                    go_wp2_with fail
                    refine HR1.out.mono ?_
                    rintro e w' ⟨rfl, hw'⟩
                    subst w'
                    go_wp2_with fail
                    refine HR2.out.mono ?_
                    rintro e w' ⟨rfl, hw'⟩
                    subst w'
                    go_wp2
                    go_ret
                    exact ⟨rfl, hB6⟩
          · go_wp2
            go_ret
            exact ⟨rfl, Below.refl _ _⟩
        · go_wp2
          go_ret
          exact ⟨rfl, Below.refl _ _⟩
      · go_wp2
        go_ret
        exact ⟨rfl, Below.refl _ _⟩
end Go.Proofs.Qxb6601177a
