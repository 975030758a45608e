/-
  zzClone, zzRun, zzCount, by their contracts. My own text.
-/
import Derived.Test.Qxb6601177aBasics
namespace Go.Proofs.Qxb6601177a
open Go.ChangeShapes Go.WideShapes Go.ChangeAt Go.RowKit

theorem strs_alloc {w : World} {a : Option Addr} {n c : Nat} {A : List ByteArray} (h : Strs w a n c A) (o : Obj) : Strs (w.alloc o) a n c A :=
  h.below ((Below.refl _ _).alloc (Nat.le_refl _) o)

set_option maxHeartbeats 1000000 in
theorem zzClone_any (a : Option Addr) (n c : Nat) (A : List ByteArray) (w : World) (hA : Strs w a n c A) (hn : n ≤ 1048576) :
    Calls Try.prog 11 #[.slice a n c] w fun e w' => ∃ a' c', e = .returned (.slice a' n c') ∧ Strs w' a' n c' A ∧ Below w.heap.size w w' := by
  have q22 : ∀ (w : World) (a : Option Addr) (n c n' c' : Nat), (binOp .eql 22 (.slice a n c) (.slice none n' c')).run Try.prog w = .ok (.bool a.isNone) w := fun w a n c n' c' => Lib.run_eql_slice_nil w _ _ a n c n' c' Try.underlying22
  obtain ⟨hAl, hnc, hcm, hcl⟩ := hA
  cases a with
  | none =>
    have h0 : n = 0 := by
      rcases Nat.eq_zero_or_pos n with h | h
      · exact h
      · obtain ⟨b, o, e, _⟩ := hcl h; cases e
    subst h0
    have HF : Hid (Strs w none 0 0 A) := ⟨hAl, Nat.le_refl _, by omega, fun h => by omega⟩
    clear hcl hAl
    go_enter Try.func11, Try.ntmps11
    go_wp2
    go_ret
    exact ⟨none, 0, rfl, HF.out, Below.refl _ _⟩
  | some ad =>
    have HC : Hid (Cells w (some ad) n (fun i => .string (A.getD i ByteArray.empty))) := hcl
    have HL : Hid (A.length = n) := hAl
    clear hcl hAl
    have hmk := run_make_row' (P := Try.prog) 22 9 (.string ⟨#[]⟩) 16 Try.underlying22 info9 rfl .i64 .i64 n (by omega) (by omega)
    go_enter Try.func11, Try.ntmps11
    go_wp2
    clear hmk q22
    have hr0 := World.rowIs_made w (.string ⟨#[]⟩) n 9
    have hb0 : Below w.heap.size w (w.alloc (.cells (madeCells #[.string ⟨#[]⟩] n) 9)) := (Below.refl _ _).alloc (Nat.le_refl _) _
    generalize w.alloc (.cells (madeCells #[.string ⟨#[]⟩] n) 9) = w1 at *
    go_loopw [4] (fun i wr => ∃ k : Nat, k ≤ n ∧ i = .int .i64 k ∧ Below w.heap.size w wr ∧ ∃ f, wr.rowIs w.heap.size 9 n f ∧ ∀ j, j < k → f j = .string (A.getD j ByteArray.empty))
      (fun i _ => n - (intOf i).toNat)
    case atStart => exact ⟨0, Nat.zero_le _, rfl, hb0, _, hr0, fun j hj => by omega⟩
    case round =>
      obtain ⟨k, hk, rfl, hb, f, hr, hf⟩ := hrel
      have HF : Hid (∀ j, j < k → f j = .string (A.getD j ByteArray.empty)) := hf
      clear hf
      by_cases hlt : k < n
      · obtain ⟨g, o, e, hg, hc⟩ := HC.out (by omega)
        cases e
        have hcell : wr.cell? ⟨g, o + k, none⟩ = some (.string (A.getD k ByteArray.empty)) := (hb.cell (p := ⟨g, o + k, none⟩) hg).trans (hc k hlt)
        have hold := hr.cell hlt
        have hfr := hr.frozen k
        have HX : Hid (A.getD k ByteArray.empty = A.getD k ByteArray.empty) := rfl
        generalize hx : A.getD k ByteArray.empty = x at hcell
        have HX : Hid (A.getD k ByteArray.empty = x) := hx
        clear hc hx
        go_wp2
        go_roundw
        case rel =>
          refine ⟨k + 1, by omega, by go_num, hb.setCell (p := ⟨w.heap.size, k, none⟩) (Nat.le_refl _) _, _, hr.set k _, ?_⟩
          intro j hj
          by_cases hjk : j = k
          · subst hjk; simp only [if_true]; rw [HX.out]
          · simp only [if_neg hjk]; exact HF.out j (by omega)
        case measure => simp [intOf]; omega
      · go_wp2
        go_ret
        refine ⟨_, n, rfl, ⟨HL.out, Nat.le_refl _, by omega, fun _ => ⟨w.heap.size, 0, rfl, hr.lt, fun i hi => ?_⟩⟩, hb⟩
        rw [Nat.zero_add, hr.cell hi, HF.out i (by omega)]

set_option maxHeartbeats 1000000 in
theorem zzRun_any (a : Option Addr) (n c : Nat) (st : List Int) (i0 i1 : Nat) (x : Int) (w : World) (hS : Bytes w a n st) (h01 : i0 ≤ i1) (h1 : i1 ≤ n) (hn : n ≤ 4194304)
    (hx : ∀ i, i0 ≤ i → i < i1 → st.getD i 0 = x) :
    Calls Try.prog 15 #[.slice a n c, .int .i64 i0, .int .i64 i1, .int .u8 x] w fun e w' => e = .returned (.bool true) ∧ w' = w := by
  obtain ⟨_, hcl⟩ := hS
  have HC : Hid (Cells w a n (fun i => .int .u8 (st.getD i 0))) := hcl
  have HX : Hid (∀ i, i0 ≤ i → i < i1 → st.getD i 0 = x) := hx
  clear hcl hx
  go_enter Try.func15, Try.ntmps15
  go_wp2
  go_loop [9] (fun i => ∃ k : Nat, i0 ≤ k ∧ k ≤ i1 ∧ i = .int .i64 k) (fun i => i1 - (intOf i).toNat)
  case atStart => exact ⟨i0, Nat.le_refl _, h01, rfl⟩
  case round =>
    obtain ⟨k, hk0, hk, rfl⟩ := hrel
    by_cases hlt : k < i1
    · obtain ⟨g, o, rfl, _, hc⟩ := HC.out (by omega)
      have hcell : w.cell? ⟨g, o + k, none⟩ = some (.int .u8 x) := by rw [← HX.out k hk0 hlt]; exact hc k (by omega)
      have hkn : k < n := by omega
      clear hc
      go_wp2
      go_round
      case rel => exact ⟨k + 1, by omega, by omega, by go_num⟩
      case measure => simp [intOf]; omega
    · go_wp2
      go_ret
      exact ⟨rfl, rfl⟩

theorem count_snoc_hit (l : List Int) (k : Nat) (hk : k < l.length) (c : Int) (h : l.getD k 0 = c) : (l.take (k + 1)).count c = (l.take k).count c + 1 := by
  rw [List.take_succ_eq_append_getElem hk, List.count_append]
  have : l[k] = c := by simpa [hk] using h
  rw [this]; simp
theorem count_snoc_miss (l : List Int) (k : Nat) (hk : k < l.length) (c : Int) (h : l.getD k 0 ≠ c) : (l.take (k + 1)).count c = (l.take k).count c := by
  rw [List.take_succ_eq_append_getElem hk, List.count_append]
  have : l[k] ≠ c := by simpa [hk] using h
  simp [this]

set_option maxHeartbeats 1000000 in
theorem zzCount_any (a : Option Addr) (n c : Nat) (st : List Int) (x : Int) (w : World) (hS : Bytes w a n st) (hn : n ≤ 4194304) :
    Calls Try.prog 17 #[.slice a n c, .int .u8 x] w fun e w' => e = .returned (.int .i64 (st.count x)) ∧ w' = w := by
  obtain ⟨hl, hcl⟩ := hS
  have HC : Hid (Cells w a n (fun i => .int .u8 (st.getD i 0))) := hcl
  have HL : Hid (st.length = n) := hl
  clear hcl hl
  go_enter Try.func17, Try.ntmps17
  go_wp2
  go_loop [5, 6] (fun t i => ∃ k : Nat, k ≤ n ∧ i = .int .i64 k ∧ t = .int .i64 ((st.take k).count x)) (fun _ i => n - (intOf i).toNat)
  case atStart => exact ⟨0, Nat.zero_le _, rfl, rfl⟩
  case round =>
    obtain ⟨k, hk, rfl, rfl⟩ := hrel
    have hcb : (st.take k).count x ≤ k := Nat.le_trans List.count_le_length (List.length_take_le _ _)
    by_cases hlt : k < n
    · obtain ⟨g, o, rfl, _, hc⟩ := HC.out (by omega)
      have hcell : w.cell? ⟨g, o + k, none⟩ = some (.int .u8 (st.getD k 0)) := hc k hlt
      clear hc
      by_cases hh : st.getD k 0 = x
      · have HN : Hid ((st.take (k + 1)).count x = (st.take k).count x + 1) := count_snoc_hit st k (by rw [HL.out]; exact hlt) x hh
        rw [hh] at hcell
        clear hh
        generalize (st.take k).count x = t at *
        go_wp2
        go_round
        case rel => exact ⟨k + 1, by omega, by go_num, by rw [HN.out]; go_num⟩
        case measure => simp [intOf]; omega
      · have HN : Hid ((st.take (k + 1)).count x = (st.take k).count x) := count_snoc_miss st k (by rw [HL.out]; exact hlt) x hh
        have hne : (st.getD k 0 == x) = false := by simpa using hh
        clear hh
        generalize st.getD k 0 = y at *
        generalize (st.take k).count x = t at *
        go_wp2
        go_round
        case rel => exact ⟨k + 1, by omega, by go_num, by rw [HN.out]⟩
        case measure => simp [intOf]; omega
    · have HT : Hid (st.take k = st) := List.take_of_length_le (by rw [HL.out]; omega)
      go_wp2
      go_ret
      exact ⟨ret_int (by rw [HT.out]), rfl⟩
end Go.Proofs.Qxb6601177a
