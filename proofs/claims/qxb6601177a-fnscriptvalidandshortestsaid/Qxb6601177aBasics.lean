/-
  Slices by their cells, and the small functions of the laws, by their contracts. My own text.
-/
import Derived.Test.Qxb6601177aRows
import Derived.WalkKit
import Derived.ProofKit
import Derived.WalkSmall
import Derived.WalkSpells
import Derived.SliceStrings
import Derived.Deep.OwnRows
import Derived.Deep.QuietTactic
import Derived.BigQuiet
namespace Go.Proofs.Qxb6601177a
open Go.ChangeShapes Go.WideShapes Go.ChangeAt Go.RowKit

theorem cells9 : Try.prog.cellsOf 9 = 1 := by kernel_rfl
theorem info3 : (Try.prog.info? 3).map (fun i => (i.zero, i.size, i.bytes)) = some (some (.int .i64 0), 1, 8) := by kernel_rfl
theorem info5 : (Try.prog.info? 5).map (fun i => (i.zero, i.size, i.bytes)) = some (some (.int .u8 0), 1, 1) := by kernel_rfl
theorem info9 : (Try.prog.info? 9).map (fun i => (i.zero, i.size, i.bytes)) = some (some (.string ⟨#[]⟩), 1, 16) := by kernel_rfl
theorem info32 : (Try.prog.info? 32).map (fun i => (i.zero, i.size, i.bytes)) = some (some (.slice none 0 0), 1, 24) := by kernel_rfl

theorem ret_bool {a b : Bool} (h : a = b) : Ending.returned (.bool a) = .returned (.bool b) := by rw [h]
theorem ret_int {k : IntKind} {a b : Int} (h : a = b) : Ending.returned (.int k a) = .returned (.int k b) := by rw [h]

/-- Some bool is returned. -/
def ABool (e : Ending) : Prop := ∃ r : Bool, e = .returned (.bool r)

/-- The slice at address a has n elements of one cell each, element i holding 'f i'. -/
def Cells (w : World) (a : Option Addr) (n : Nat) (f : Nat → Value) : Prop :=
  0 < n → ∃ b o, a = some ⟨b, o, none⟩ ∧ b < w.heap.size ∧ ∀ i, i < n → w.cell? ⟨b, o + i, none⟩ = some (f i)

theorem Cells.below {w w' : World} {a : Option Addr} {n : Nat} {f : Nat → Value} (h : Cells w a n f) (hb : Below w.heap.size w w') : Cells w' a n f := by
  intro hn
  obtain ⟨b, o, e, hlt, hc⟩ := h hn
  exact ⟨b, o, e, Nat.lt_of_lt_of_le hlt hb.size, fun i hi => (hb.cell (p := ⟨b, o + i, none⟩) hlt).trans (hc i hi)⟩

theorem Cells.alike {w w' : World} {a : Option Addr} {n : Nat} {f : Nat → Value} (h : Cells w a n f) (hb : w'.heap = w.heap) : Cells w' a n f := by
  intro hn
  obtain ⟨b, o, e, hlt, hc⟩ := h hn
  exact ⟨b, o, e, by rw [hb]; exact hlt, fun i hi => by rw [← hc i hi]; simp [World.cell?, hb]⟩

/-- A slice of strings: A. -/
def Strs (w : World) (a : Option Addr) (n c : Nat) (A : List ByteArray) : Prop :=
  A.length = n ∧ n ≤ c ∧ c ≤ 9223372036854775807 ∧ Cells w a n (fun i => .string (A.getD i ByteArray.empty))

theorem Strs.below {w w' : World} {a : Option Addr} {n c : Nat} {A : List ByteArray} (h : Strs w a n c A) (hb : Below w.heap.size w w') : Strs w' a n c A :=
  ⟨h.1, h.2.1, h.2.2.1, h.2.2.2.below hb⟩

/-- A slice of bytes: st. -/
def Bytes (w : World) (a : Option Addr) (n : Nat) (st : List Int) : Prop :=
  st.length = n ∧ Cells w a n (fun i => .int .u8 (st.getD i 0))

theorem bytes_of_owned {w : World} {base : Nat} {v : Value} {n : Nat} {st : List Int} (h : w.ownsRow base 5 1 v n (st.map (Value.int .u8))) :
    ∃ a c, v = .slice a n c ∧ n ≤ c ∧ Bytes w a n st ∧ (n = 0 ∨ ∃ g, a = some ⟨g, 0, none⟩ ∧ base ≤ g) := by
  have hl : st.length = n := by simpa using h.1
  rcases h.2 with ⟨rfl, h0⟩ | ⟨g, cap, cur, rfl, hg, hh, hnc, _, _, _⟩
  · subst h0
    exact ⟨none, 0, rfl, Nat.le_refl _, ⟨hl, fun h => by omega⟩, .inl rfl⟩
  · refine ⟨_, cap, rfl, hnc, ⟨hl, fun _ => ⟨g, 0, rfl, (Array.getElem?_eq_some_iff.1 hh).1, fun i hi => ?_⟩⟩, .inr ⟨g, rfl, hg⟩⟩
    rw [Nat.zero_add, h.cellAt i (by omega)]
    simp [hl, hi]

/-- What the row hands the walk of an argument that is a slice of strings. -/
def CameIn (w : World) (a : Option Addr) (n c : Nat) (A : List ByteArray) : Prop := Strs w a n c A

theorem cameIn_of {H : Type} {enc : TypeId × Value → H} {W : World} {fuel : Nat} {a : Option Addr} {len cap : Nat} {x : DataW H × List MemPlace}
    (hf : DataW.trod enc Try.prog W 0 (fun _ => true) true fuel 22 (Value.cells (.slice a len cap)).toList = some x) : ∃ zs, CameIn W a len cap zs := by
  rcases open_strings Try.underlying22 Try.underlying9 cells9 hf with ⟨hcs, _⟩ | ⟨ad, l, c, ss, hcs, _, hl, hm, hz, _, hcell, _⟩
  · simp [Value.cells] at hcs
    obtain ⟨rfl, rfl, rfl⟩ := hcs
    exact ⟨[], rfl, Nat.le_refl _, by omega, fun h => by omega⟩
  · simp [Value.cells] at hcs
    obtain ⟨rfl, rfl, rfl⟩ := hcs
    simp only [if_true] at hz
    unfold maxLen at hm
    refine ⟨ss.take len, by simp; omega, hl, by omega, fun hn => ?_⟩
    obtain ⟨b, off, spot⟩ := ad
    have hspot : spot = none := by simpa [Addr.add] using World.cell?_spot (hcell 0 (by omega))
    subst hspot
    refine ⟨b, off, rfl, World.block_lt_of_cell? W ⟨b, off, none⟩ (by simpa [Addr.add] using hcell 0 (by omega)), fun i hi => ?_⟩
    have := hcell i (by omega)
    rw [show (⟨b, off, none⟩ : Addr).add i = ⟨b, off + i, none⟩ from by simp [Addr.add]] at this
    rw [this]
    simp [hi]

set_option maxHeartbeats 1000000 in
theorem zzBytes21_any (a : Option Addr) (n c : Nat) (A : List ByteArray) (w : World) (hA : Strs w a n c A) :
    Calls Try.prog 21 #[.slice a n c] w fun e w' => ABool e ∧ w' = w := by
  obtain ⟨_, hnc, hcm, hcl⟩ := hA
  have HC : Hid (Cells w a n (fun i => .string (A.getD i ByteArray.empty))) := hcl
  clear hcl
  by_cases hbig : n ≤ 1048576
  · go_enter Try.func21, Try.ntmps21
    go_wp2
    go_loop [3, 4] (fun t i => ∃ k s : Nat, k ≤ n ∧ s ≤ 1048576 ∧ i = .int .i64 k ∧ t = .int .i64 s) (fun _ i => n - (intOf i).toNat)
    case atStart => exact ⟨0, n, Nat.zero_le _, hbig, rfl, rfl⟩
    case round =>
      obtain ⟨k, s, hk, hs, rfl, rfl⟩ := hrel
      by_cases hlt : k < n
      · obtain ⟨b, o, rfl, _, hc⟩ := HC.out (by omega)
        have hcell : w.cell? ⟨b, o + k, none⟩ = some (.string (A.getD k ByteArray.empty)) := hc k hlt
        generalize A.getD k ByteArray.empty = x at hcell
        clear hc
        go_wp2
        · go_ret; exact ⟨⟨_, rfl⟩, rfl⟩
        · go_ret; exact ⟨⟨_, rfl⟩, rfl⟩
        · go_round
          case rel => exact ⟨k + 1, s + x.size, by omega, by omega, by go_num, by go_num⟩
          case measure => simp [intOf]; omega
      · go_wp2
        go_ret
        exact ⟨⟨_, rfl⟩, rfl⟩
  · go_enter Try.func21, Try.ntmps21
    go_wp2
    go_ret
    exact ⟨⟨_, rfl⟩, rfl⟩
end Go.Proofs.Qxb6601177a
