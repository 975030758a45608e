/-
  zzLCS, by its contract. My own text.
-/
import Derived.Test.Qxb6601177aRounds
namespace Go.Proofs.Qxb6601177a
open Go.ChangeShapes Go.WideShapes Go.ChangeAt Go.RowKit
open Plain (L)

theorem L_le (E : Nat → Nat → Bool) : ∀ x y, L E x y ≤ x := by
  intro x
  induction x with
  | zero => intro y; simp [L]
  | succ x ih => intro y; have h1 := ih y; have h2 := (Plain.L_right E x y).2; omega

theorem rowIs_drewN {w : World} {b : Nat} {t : TypeId} {n : Nat} {f : Nat → Value} (h : w.rowIs b t n f) (q : Nat) : (w.drewN q).rowIs b t n f := h.of_block rfl

/-- The two rows: gp holds line I of the table; gc, up to place J, line I + 1. -/
def LcsRows (E : Nat → Nat → Bool) (m : Nat) (w : World) (gp gc I J : Nat) (wr : World) : Prop :=
  wr.rowIs gp 3 (m + 1) (fun j => .int .i64 (L E I j)) ∧ (∃ h : Nat → Int, wr.rowIs gc 3 (m + 1) (fun j => .int .i64 (h j)) ∧ ∀ j, j < J → h j = L E (I + 1) j) ∧ Below w.heap.size w wr

theorem LcsRows.next {E : Nat → Nat → Bool} {m : Nat} {w wr : World} {gp gc I J : Nat} (h : LcsRows E m w gp gc I J wr) (hne : gp ≠ gc) (hgc : w.heap.size ≤ gc) (x : Int) (hx : x = L E (I + 1) J) :
    LcsRows E m w gp gc I (J + 1) (wr.setCell ⟨gc, J, none⟩ (.int .i64 x)) := by
  obtain ⟨h1, ⟨f, h2, h3⟩, h4⟩ := h
  refine ⟨h1.setOther (a := ⟨gc, J, none⟩) hne _, ⟨fun j => if j = J then x else f j, (h2.set J (.int .i64 x)).congr ?_, ?_⟩, h4.setCell (p := ⟨gc, J, none⟩) hgc _⟩
  · intro i hi
    show (if i = J then _ else _) = _
    by_cases e : i = J
    · simp only [if_pos e]
    · simp only [if_neg e]
  · intro j hj
    by_cases e : j = J
    · subst e; simp only [if_true]; exact hx
    · simp only [if_neg e]; exact h3 j (by omega)

theorem LcsRows.drewN {E : Nat → Nat → Bool} {m : Nat} {w wr : World} {gp gc I J : Nat} (h : LcsRows E m w gp gc I J wr) (q : Nat) : LcsRows E m w gp gc I J (wr.drewN q) := by
  obtain ⟨h1, ⟨f, h2, h3⟩, h4⟩ := h
  exact ⟨rowIs_drewN h1 q, ⟨f, rowIs_drewN h2 q, h3⟩, below_drewN h4 q⟩

theorem LcsRows.full {E : Nat → Nat → Bool} {m : Nat} {w wr : World} {gp gc I : Nat} (h : LcsRows E m w gp gc I (m + 1) wr) : LcsRows E m w gc gp (I + 1) 0 wr := by
  obtain ⟨h1, ⟨f, h2, h3⟩, h4⟩ := h
  exact ⟨h2.congr (fun i hi => by show Value.int .i64 (f i) = _; rw [h3 i hi]), ⟨_, h1, fun j hj => by omega⟩, h4⟩

set_option maxHeartbeats 2000000 in
set_option maxRecDepth 100000 in
theorem zzLCS_any (a b : Option Addr) (n m ca cb : Nat) (A B : List ByteArray) (w : World) (hA : Strs w a n ca A) (hB : Strs w b m cb B) (hnm : n + m ≤ 1048576) :
    Calls Try.prog 24 #[.slice a n ca, .slice b m cb] w fun e w' => e = .returned (.int .i64 (L (eqE A B) n m)) ∧ Below w.heap.size w w' := by
  obtain ⟨hAl, hAc, hAm, hAcl⟩ := hA
  obtain ⟨hBl, hBc, hBm, hBcl⟩ := hB
  obtain ⟨E, hE⟩ : ∃ E, eqE A B = E := ⟨_, rfl⟩
  have hEeq : ∀ x y, x < n → y < m → E x y = ((A.getD x ByteArray.empty).toList == (B.getD y ByteArray.empty).toList) := by
    intro x y hx hy
    rw [← hE, eqE, decide_eq_true (by omega), decide_eq_true (by omega)]; simp
  rw [hE]
  have HEQ : Hid (∀ x y, x < n → y < m → E x y = ((A.getD x ByteArray.empty).toList == (B.getD y ByteArray.empty).toList)) := hEeq
  have HA : Hid (Cells w a n (fun i => .string (A.getD i ByteArray.empty))) := hAcl
  have HB : Hid (Cells w b m (fun i => .string (B.getD i ByteArray.empty))) := hBcl
  clear hAl hAcl hBl hBcl hE hEeq
  have hmk := run_make_row' (P := Try.prog) 32 3 (.int .i64 0) 8 Try.underlying32 info3 rfl .i64 .i64 (m + 1) (by omega) (by omega)
  rw [show ((m + 1 : Nat) : Int) = (m : Int) + 1 by omega] at hmk
  go_enter Try.func24, Try.ntmps24
  go_wp2
  clear hmk
  have hs0 : LcsRows E m w w.heap.size (w.heap.size + 1) 0 0 ((w.alloc (.cells (madeCells #[.int .i64 0] (m + 1)) 3)).alloc (.cells (madeCells #[.int .i64 0] (m + 1)) 3)) := by
    have h1 := World.rowIs_made w (.int .i64 0) (m + 1) 3
    have h2 := World.rowIs_made (w.alloc (.cells (madeCells #[.int .i64 0] (m + 1)) 3)) (.int .i64 0) (m + 1) 3
    have e : (w.alloc (.cells (madeCells #[.int .i64 0] (m + 1)) 3)).heap.size = w.heap.size + 1 := by simp
    rw [e] at h2
    exact ⟨(h1.alloc _).congr (fun i hi => by simp [L]), ⟨_, h2, fun j hj => by omega⟩, ((Below.refl _ _).alloc (Nat.le_refl _) _).alloc (by simp) _⟩
  generalize (w.alloc (.cells (madeCells #[.int .i64 0] (m + 1)) 3)).alloc (.cells (madeCells #[.int .i64 0] (m + 1)) 3) = w0 at *
  have HS0 : Hid (LcsRows E m w w.heap.size (w.heap.size + 1) 0 0 w0) := hs0
  clear hs0
  go_loopg [5, 6, 7] n (fun gk p c i wr => ∃ (I gp gc : Nat), gk + I = n ∧ gp ≠ gc ∧ w.heap.size ≤ gp ∧ w.heap.size ≤ gc ∧ p = .slice (some ⟨gp, 0, none⟩) (m + 1) (m + 1) ∧ c = .slice (some ⟨gc, 0, none⟩) (m + 1) (m + 1) ∧ i = .int .i64 ((I : Int) + 1) ∧ LcsRows E m w gp gc I 0 wr)
  case atStart => exact ⟨0, w.heap.size, w.heap.size + 1, rfl, by omega, Nat.le_refl _, by omega, rfl, rfl, rfl, HS0.out⟩
  case round =>
    clear HS0
    obtain ⟨I, gp, gc, hgk, hne, hgp, hgc, rfl, rfl, rfl, hR⟩ := hrel
    cases gk with
    | zero =>
      have hIn : I = n := by omega
      subst hIn
      have hc := hR.1.cell (i := m) (by omega)
      have hbel := hR.2.2
      clear hR HEQ HA HB
      have hx : ¬ (I : Int) + 1 ≤ I := by omega
      go_wp2
      go_ret
      exact ⟨rfl, hbel⟩
    | succ gi =>
      obtain ⟨h1, ⟨h, h2, h3⟩, hbel⟩ := hR
      have c0 := h2.cell (i := 0) (by omega)
      have f0 := h2.frozen 0
      have HN : Hid (LcsRows E m w gp gc I 1 (wr.setCell ⟨gc, 0, none⟩ (.int .i64 0))) := LcsRows.next ⟨h1, ⟨h, h2, h3⟩, hbel⟩ hne hgc 0 (by simp [Plain.L_zero])
      clear h1 h2 h3 hbel
      have hdt : decide ((I : Int) + 1 ≤ (n : Int)) = true := decide_eq_true (by omega)
      go_wp2
      go_loopg [8] m (fun gk j wx => ∃ J : Nat, gk + J = m ∧ j = .int .i64 ((J : Int) + 1) ∧ LcsRows E m w gp gc I (J + 1) wx)
      case atStart => exact ⟨0, by omega, rfl, HN.out⟩
      case round =>
        clear HN c0 f0
        obtain ⟨J, hgJ, rfl, hR⟩ := hrel
        cases gk with
        | zero =>
          have hJm : J = m := by omega
          subst hJm
          have HF : Hid (LcsRows E J w gc gp (I + 1) 0 wr) := hR.full
          clear hR HEQ HA HB
          have hx : ¬ (J : Int) + 1 ≤ J := by omega
          go_wp2
          go_roundg gi
          case measure => omega
          case rel => exact ⟨I + 1, gc, gp, by omega, fun e => hne e.symm, hgc, hgp, rfl, rfl, by go_num, HF.out⟩
        | succ gj =>
          have HR : Hid (LcsRows E m w gp gc I (J + 1) wr) := hR
          obtain ⟨h1, ⟨h, h2, h3⟩, hbel⟩ := hR
          obtain ⟨g1, o1, rfl, hg1, hc1⟩ := HA.out (by omega)
          obtain ⟨g2, o2, rfl, hg2, hc2⟩ := HB.out (by omega)
          have d1 : wr.cell? ⟨g1, o1 + I, none⟩ = some (.string (A.getD I ByteArray.empty)) := (hbel.cell (p := ⟨g1, o1 + I, none⟩) hg1).trans (hc1 I (by omega))
          have d2 : wr.cell? ⟨g2, o2 + J, none⟩ = some (.string (B.getD J ByteArray.empty)) := (hbel.cell (p := ⟨g2, o2 + J, none⟩) hg2).trans (hc2 J (by omega))
          have hee := HEQ.out I J (by omega) (by omega)
          generalize A.getD I ByteArray.empty = s1 at *
          generalize B.getD J ByteArray.empty = s2 at *
          have p0 := h1.cell (i := J) (by omega)
          have p1 := h1.cell (i := J + 1) (by omega)
          have q0 := h2.cell (i := J) (by omega)
          rw [h3 J (by omega)] at q0
          have q1 := h2.cell (i := J + 1) (by omega)
          have qf := h2.frozen (J + 1)
          have hLb := L_le E I J
          have hlc := Plain.L_succ E I J
          have HNX : Hid (∀ (q : Nat) (x : Int), x = L E (I + 1) (J + 1) → LcsRows E m w gp gc I (J + 1 + 1) ((wr.drewN q).setCell ⟨gc, J + 1, none⟩ (.int .i64 x))) := fun q x hx => (HR.out.drewN q).next hne hgc x hx
          have hIn : (I : Int) < (n : Int) := by omega
          have hJm : (J : Int) < (m : Int) := by omega
          have hI0 : (0 : Int) ≤ (I : Int) := by omega
          have hJ0 : (0 : Int) ≤ (J : Int) := by omega
          clear h1 h2 h3 hbel hc1 hc2 HEQ HA HB HR
          cases he : (s1.toList == s2.toList)
          · rw [he] at hee
            rw [hee] at hlc
            simp only [Bool.false_eq_true, if_false] at hlc
            have HLC : Hid (L E (I + 1) (J + 1) = max (L E I (J + 1)) (L E (I + 1) J)) := hlc
            clear hlc hee
            generalize L E I J = l0 at *
            generalize L E I (J + 1) = l1 at *
            generalize L E (I + 1) J = l2 at *
            by_cases hge : l2 ≤ l1
            · have hgi : (l2 : Int) ≤ (l1 : Int) := by omega
              go_wp2
              go_quiet (fail)
              go_wp2
              go_quiet (fail)
              go_wp2
              go_roundg gj
              case measure => omega
              case rel => exact ⟨J + 1, by omega, by go_num, HNX.out _ _ (by rw [HLC.out]; omega)⟩
            · have hgi : ¬ (l2 : Int) ≤ (l1 : Int) := by omega
              go_wp2
              go_quiet (fail)
              go_wp2
              go_quiet (fail)
              go_wp2
              go_roundg gj
              case measure => omega
              case rel => exact ⟨J + 1, by omega, by go_num, HNX.out _ _ (by rw [HLC.out]; omega)⟩
          · rw [he] at hee
            rw [hee] at hlc
            simp only [if_true] at hlc
            have HLC : Hid (L E (I + 1) (J + 1) = L E I J + 1) := hlc
            clear hlc hee
            generalize L E I J = l0 at *
            generalize L E I (J + 1) = l1 at *
            generalize L E (I + 1) J = l2 at *
            go_wp2
            go_quiet (fail)
            go_wp2
            go_roundg gj
            case measure => omega
            case rel => exact ⟨J + 1, by omega, by go_num, HNX.out _ _ (by rw [HLC.out]; omega)⟩
end Go.Proofs.Qxb6601177a
