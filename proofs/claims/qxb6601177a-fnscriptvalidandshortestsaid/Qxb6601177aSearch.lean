/-
  search, by its contract. My own text.
-/
import Derived.Test.Qxb6601177aRounds
namespace Go.Proofs.Qxb6601177a
open Go.ChangeShapes Go.WideShapes Go.ChangeAt Go.RowKit
open Plain (V Val ed down slide NF)

def OuterRel (E : Nat → Nat → Bool) (n m off : Nat) (w : World) (gk : Nat) (vR d : Value) (wr : World) : Prop :=
  ∃ (D : Nat) (f : Nat → Int), gk + D = n + m + 1 ∧ d = .int .i64 D ∧ wr.rowIs w.heap.size 3 (2 * off + 1) (fun i => .int .i64 (f i)) ∧ Prev E n off D f ∧
    RoundsOk wr w.heap.size E n vR D ∧ NF E n m D ∧ Below w.heap.size w wr

def MidRel (E : Nat → Nat → Bool) (n m off : Nat) (w : World) (vR0 : Value) (D : Nat) (gk : Nat) (vR kv : Value) (wr : World) : Prop :=
  ∃ (j : Nat) (f : Nat → Int), gk + j = D + 1 ∧ vR = vR0 ∧ kv = .int .i64 (2 * j - D) ∧ wr.rowIs w.heap.size 3 (2 * off + 1) (fun i => .int .i64 (f i)) ∧ Prev E n off D f ∧
    Sofar E n off D (2 * j - D) f ∧ RoundsOk wr w.heap.size E n vR0 D ∧ (Val D ((n : Int) - m) → (n : Int) - m < 2 * j - D → V E n D ((n : Int) - m) < n) ∧ Below w.heap.size w wr

/-- What search leaves. -/
def Searched (E : Nat → Nat → Bool) (n m : Nat) (w : World) (e : Ending) (w' : World) : Prop :=
  ∃ (v : Value) (st : List Int), e = .returned v ∧ w'.ownsRow w.heap.size 5 1 v st.length (st.map (Value.int .u8)) ∧
      Plain.Reach E st.reverse n m ∧ st.count 32 = Plain.L E n m ∧ Below w.heap.size w w'

set_option maxHeartbeats 4000000 in
set_option maxRecDepth 100000 in
theorem search_any (a b : Option Addr) (n m ca cb : Nat) (A B : List ByteArray) (w : World) (hA : Strs w a n ca A) (hB : Strs w b m cb B) (hnm : n + m ≤ 1048576) :
    Calls Try.prog 25 #[.slice a n ca, .slice b m cb] w fun e w' => Searched (eqE A B) n m w e w' := by
  obtain ⟨i3, hi3, hz30, hz31, hz32⟩ := info_parts info3
  obtain ⟨i32, hi32, hz320, hz321, hz322⟩ := info_parts info32
  obtain ⟨hAl, hAc, hAm, hAcl⟩ := hA
  obtain ⟨hBl, hBc, hBm, hBcl⟩ := hB
  obtain ⟨E, hE⟩ : ∃ E, eqE A B = E := ⟨_, rfl⟩
  have hEin : ∀ x y, E x y = true → x < n ∧ y < m := fun x y h => by rw [← hE] at h; have := eqE_in h; omega
  have hEeq : ∀ x y, x < n → y < m → E x y = ((A.getD x ByteArray.empty).toList == (B.getD y ByteArray.empty).toList) := by
    intro x y hx hy
    rw [← hE, eqE, decide_eq_true (by omega), decide_eq_true (by omega)]; simp
  rw [hE]
  have HIN : Hid (∀ x y, E x y = true → x < n ∧ y < m) := hEin
  have HEQ : Hid (∀ x y, x < n → y < m → E x y = ((A.getD x ByteArray.empty).toList == (B.getD y ByteArray.empty).toList)) := hEeq
  have HA : Hid (Cells w a n (fun i => .string (A.getD i ByteArray.empty))) := hAcl
  have HB : Hid (Cells w b m (fun i => .string (B.getD i ByteArray.empty))) := hBcl
  clear hAl hAcl hBl hBcl hE hEin hEeq
  have hmk := run_make_row' (P := Try.prog) 32 3 (.int .i64 0) 8 Try.underlying32 info3 rfl .i64 .i64 (2 * (n + m + 1) + 1) (by omega) (by omega)
  rw [show ((2 * (n + m + 1) + 1 : Nat) : Int) = 2 * ((n : Int) + m + 1) + 1 by omega] at hmk
  go_enter Try.func25, Try.ntmps25
  go_wp2
  clear hmk
  have hrow := World.rowIs_made w (.int .i64 0) (2 * (n + m + 1) + 1) 3
  have hb0 : Below w.heap.size w (w.alloc (.cells (madeCells #[.int .i64 0] (2 * (n + m + 1) + 1)) 3)) := (Below.refl _ _).alloc (Nat.le_refl _) _
  generalize w.alloc (.cells (madeCells #[.int .i64 0] (2 * (n + m + 1) + 1)) 3) = w0 at *
  obtain ⟨off, hoff⟩ : ∃ off, n + m + 1 = off := ⟨_, rfl⟩
  rw [show ((n : Int) + m + 1) = (off : Int) by omega]
  rw [hoff] at hrow ⊢
  have HOFF : Hid (n + m + 1 = off) := hoff
  have hoff1 : n + m + 1 ≤ off := by omega
  have hoff2 : off ≤ n + m + 1 := by omega
  clear hoff
  have HS : Hid (OuterRel E n m off w (n + m + 1) (.slice none 0 0) (.int .i64 0) w0) :=
    ⟨0, fun _ => 0, rfl, rfl, hrow, rfl, RoundsOk.start _ _ _ _, fun d hd => by omega, hb0⟩
  clear hrow hb0
  go_loopg [9, 10] (n + m + 1) (OuterRel E n m off w)
  case atStart => exact HS.out
  case round =>
    obtain ⟨D, f, hgD, rfl, hrow, hprev, hrd, hnf, hbel⟩ := hrel
    clear HS
    have hDb := NF.bound HIN.out hnf
    have HNF : Hid (NF E n m D) := hnf
    have hDD : ¬ ((n : Int) + m < D) := by omega
    cases gk with
    | zero => omega
    | succ gk =>
      have HMS : Hid (∀ vR, RoundsOk wr w.heap.size E n vR D → MidRel E n m off w vR D (D + 1) vR (.int .i64 (-(D : Int))) wr) := by
        intro vR hvR
        exact ⟨0, f, rfl, rfl, by simp, hrow, hprev, fun k' hk' hlt => by unfold Val at hk'; omega, hvR, fun hv hlt => by unfold Val at hv; omega, hbel⟩
      clear hrow hprev hnf
      go_wp2
      have HRD : Hid (RoundsOk wr w.heap.size E n u9 D) := hrd
      clear hrd
      go_loopg [9, 11] (D + 1) (MidRel E n m off w u9 D)
      case atStart => exact HMS.out _ HRD.out
      case round =>
        clear HMS HRD hbel
        obtain ⟨j, f, hgj, rfl, rfl, hrow, hprev, hsof, hrd, hnof, hbel⟩ := hrel
        have HPREV : Hid (Prev E n off D f) := hprev
        have HSOF : Hid (Sofar E n off D (2 * j - D) f) := hsof
        have HNOF : Hid (Val D ((n : Int) - m) → (n : Int) - m < 2 * j - D → V E n D ((n : Int) - m) < n) := hnof
        clear hprev hsof hnof
        cases gk with
        | zero =>
          have hjD : j = D + 1 := by omega
          subst hjD
          have HREST : Hid (Prev E n off D f ∧ Sofar E n off D (2 * ((D + 1 : Nat) : Int) - D) f ∧ RoundsOk wr w.heap.size E n u9 D ∧ Below w.heap.size w wr) := ⟨HPREV.out, HSOF.out, hrd, hbel⟩
          have HROW : Hid (wr.rowIs w.heap.size 3 (2 * off + 1) (fun i => .int .i64 (f i))) := hrow
          have HFULL : Hid (∀ k, Val D k → f (off + k).toNat = V E n D k) := HSOF.out.full (by omega)
          have hNF2 : NF E n m (D + 1) := HNF.out.succ (fun hv => HNOF.out hv (by unfold Val at hv; omega))
          have HNF2 : Hid (NF E n m (D + 1)) := hNF2
          have hkx : ¬ (2 * ((D + 1 : Nat) : Int) - D) ≤ D := by omega
          clear HPREV HSOF HNOF hrd hbel hrow hNF2 HIN HEQ HA HB
          obtain ⟨hprevF, hsofF, ⟨rows, hownR, hrR⟩, hbelF⟩ := HREST.out
          have hBW : w.heap.size + 1 ≤ wr.heap.size := by have := (HROW.out).lt; omega
          have HROWS : Hid (∀ i, i < D → ∃ g cap cur, rows[i]? = some (.slice (some ⟨g, 0, none⟩) (2 * i + 1) cap) ∧ w.heap.size + 1 ≤ g ∧ wr.heap[g]? = some (.cells cur 3 (0, 0)) ∧ ∀ k, Val i k → cur[(k + i).toNat]? = some (.int .i64 (V E n i k))) := hrR
          clear HREST hrR hprevF hsofF
          go_wp2_with (at_builtin; refine wpList_append_own _ rfl (.const (.slice none 0 0)) (.tmp 147) 32 rfl wr.heap.size 3 i3 (.int .i64 0) 1 8 Try.underlying32 hi3 hz30 hz31 hz32 rfl (by decide) (.slice none 0 0) 0 [] rfl (World.ownsRow_nil _ _ _ _) ⟨w.heap.size, off - D, none⟩ (off + D + 1 - (off - D)) _ (news off D f) rfl (news_length _ _ _ (by omega)) (news_cells (HROW.out) (by omega)) (news_one _ _ _) (by unfold maxLen; omega) (by omega) (Nat.le_refl _) ?_)
          intro u w1 hu hg1 _
          have hu2 : w1.ownsRow wr.heap.size 3 1 u (2 * D + 1) (news off D f) := by
            have e : off + D + 1 - (off - D) = 2 * D + 1 := by omega
            rw [e] at hu
            exact hu
          have hg1n : wr.grownBy w1 none := hg1
          obtain ⟨g, cap, hue, hgB, hgs⟩ := owns_shape hu2
          subst hue
          have HU : Hid (w1.ownsRow wr.heap.size 3 1 (.slice (some ⟨g, 0, none⟩) (2 * D + 1) cap) (2 * D + 1) (news off D f)) := hu2
          have HG1 : Hid (wr.grownBy w1 none) := hg1n
          have hs1 := hg1n.size
          have hownR1 : w1.ownsRow (w.heap.size + 1) 32 1 u9 D rows := hownR.kept hg1n (by cases h : Value.ownBlock u9 <;> simp)
          clear hu hu2 hg1 hg1n
          go_wp2_with (at_builtin; refine wpList_append_own _ rfl (.tmp 138) (.tmp 149) 33 rfl (w.heap.size + 1) 32 i32 (.slice none 0 0) 1 24 Try.underlying33 hi32 hz320 hz321 hz322 rfl (by decide) u9 D rows rfl (hownR1.alloc _) ⟨w1.heap.size, 0, none⟩ 1 1 [.slice (some ⟨g, 0, none⟩) (2 * D + 1) cap] rfl rfl (by intro t u ht; match t, ht with | 0, ht => simp at ht; subst ht; simp [Addr.add]) (by intro u hu; simp at hu; subst hu; rfl) (by unfold maxLen; omega) (by omega) (by simp; omega) ?_)
          intro vR w3 hown3 hg3 _
          have hB3 : Below w.heap.size w w3 := ((hbelF.grown HG1.out hbelF.size (fun k hk => by cases hk)).alloc (by have := hbelF.size; omega) _).grown hg3 (by have := hbelF.size; simp; omega) (fun k hk => by have := (hownR.lt k hk).1; omega)
          obtain ⟨gR, capR, hRe, hgRB, hgRs⟩ := owns_shape hown3
          subst hRe
          have HO3 : Hid (w3.ownsRow (w.heap.size + 1) 32 1 (.slice (some ⟨gR, 0, none⟩) (D + 1) capR) (D + 1) (rows ++ [.slice (some ⟨g, 0, none⟩) (2 * D + 1) cap])) := hown3
          have HG3 : Hid ((w1.alloc (.cells #[.slice (some ⟨g, 0, none⟩) (2 * D + 1) cap] 32)).grownBy w3 u9.ownBlock) := hg3
          have HOR : Hid (wr.ownsRow (w.heap.size + 1) 32 1 u9 D rows) := hownR
          clear hown3 hg3 hownR hownR1
          go_wp2
          go_roundg gk
          case measure => omega
          case rel =>
            refine ⟨D + 1, f, by omega, by go_num, ?_, HFULL.out, RoundsOk.snoc hBW HOR.out HROWS.out HU.out HG1.out (by omega) HFULL.out HO3.out HG3.out, HNF2.out, hB3⟩
            obtain ⟨c, h1, h2, h3⟩ := HROW.out
            have hlt := (Array.getElem?_eq_some_iff.1 h1).1
            refine ⟨c, ?_, h2, h3⟩
            rw [HG3.out.block w.heap.size (by simp; omega) (fun e => by have := (HOR.out.lt _ e.symm).1; omega), Below.heap_alloc _ _ _ (by omega), HG1.out.block _ hlt (by simp)]
            exact h1
        | succ gm =>
          have hv : Val D (2 * (j : Int) - D) := by unfold Val; omega
          have hk1 : -(D : Int) ≤ 2 * (j : Int) - D := by omega
          have hk2 : 2 * (j : Int) - D ≤ D := by omega
          generalize hkk : 2 * (j : Int) - D = k at *
          have HKK : Hid (2 * (j : Int) - D = k) := hkk
          have HV : Hid (Val D k) := hv
          have hcells : ∀ i, i < 2 * off + 1 → wr.cell? ⟨w.heap.size, i, none⟩ = some (.int .i64 (f i)) := fun i hi => hrow.cell hi
          have HCE : Hid (∀ i, i < 2 * off + 1 → wr.cell? ⟨w.heap.size, i, none⟩ = some (.int .i64 (f i))) := hcells
          obtain ⟨bb, hb1, hb2, hb3, hb4, hb5⟩ := dir HPREV.out hv (by omega : D + 1 ≤ off)
          rw [show ((off : Int) + k - 1).toNat = ((off : Int) + k).toNat - 1 by omega] at hb3 hb5
          have HB4 : Hid (bb = true → f ((off : Int) + k + 1).toNat = S E n D k) := hb4
          have HB5 : Hid (bb = false → f (((off : Int) + k).toNat - 1) + 1 = S E n D k) := hb5
          have HB1 : Hid ((k = -(D : Int) → bb = true) ∧ (k ≠ -(D : Int) → k = D → bb = false) ∧ (k ≠ -(D : Int) → k ≠ D → bb = decide (f (((off : Int) + k).toNat - 1) < f ((off : Int) + k + 1).toNat))) := ⟨hb1, hb2, hb3⟩
          clear hkk hv hcells hb1 hb2 hb3 hb4 hb5
          have HROW : Hid (wr.rowIs w.heap.size 3 (2 * off + 1) (fun i => .int .i64 (f i))) := hrow
          have HRD : Hid (RoundsOk wr w.heap.size E n u9 D) := hrd
          have HBEL : Hid (Below w.heap.size w wr) := hbel
          clear hrow hrd hbel
          go_upto_region 12 with fail
          go_cut [65] (fun t wc => t = .bool bb ∧ ∃ q, wc = wr.drewN q)
          case first =>
            have c1 := HCE.out (((off : Int) + k).toNat - 1) (by omega)
            have c2 := HCE.out ((off : Int) + k + 1).toNat (by omega)
            generalize f (((off : Int) + k).toNat - 1) = l at *
            generalize f ((off : Int) + k + 1).toNat = r at *
            obtain ⟨hb1, hb2, hb3⟩ := HB1.out
            clear HB1 HB4 HB5 HPREV HSOF HNOF HKK HV HCE HROW HRD HBEL HNF HIN HEQ HA HB HOFF
            by_cases hA : k = -(D : Int)
            · have h1 : (k == -(D : Int)) = true := beq_iff_eq.2 hA
              have HBB : Hid (bb = true) := hb1 hA
              clear hA hb1 hb2 hb3 c1 c2
              go_quiet (fail)
              go_wp2
              go_meet
              case rel => exact ⟨by rw [HBB.out], _, rfl⟩
            · have h1 : (k == -(D : Int)) = false := beq_eq_false_iff_ne.2 hA
              by_cases hD : k = (D : Int)
              · have h2 : (k != (D : Int)) = false := by simp [hD]
                have HBB : Hid (bb = false) := hb2 hA hD
                clear hA hD hb1 hb2 hb3 c1 c2
                go_quiet (fail)
                go_wp2
                go_meet
                case rel => exact ⟨by rw [HBB.out], _, rfl⟩
              · have h2 : (k != (D : Int)) = true := by rw [bne_iff_ne]; exact hD
                have HBB : Hid (bb = decide (l < r)) := hb3 hA hD
                clear hA hD hb1 hb2 hb3
                go_quiet (fail)
                go_wp2
                go_meet
                case rel => exact ⟨by rw [HBB.out], _, rfl⟩
          case rest =>
            obtain ⟨rfl, q, rfl⟩ := hcut
            clear HB1
            go_upto_if 65 with fail
            go_cut [12] (fun x wc => x = .int .i64 (S E n D k) ∧ ∃ q, wc = wr.drewN q)
            case first =>
              have c1 := HCE.out (((off : Int) + k).toNat - 1) (by omega)
              have c2 := HCE.out ((off : Int) + k + 1).toNat (by omega)
              cases bb with
              | true =>
                rw [HB4.out rfl] at c2
                clear HB4 HB5 HPREV HSOF HNOF HKK HV HCE HROW HRD HBEL HNF HIN HEQ HA HB HOFF
                go_wp2
                go_meet
                case rel => exact ⟨rfl, _, rfl⟩
              | false =>
                have hSb := S_le (fun x y h => (HIN.out x y h).1) D k
                have hl : f (((off : Int) + k).toNat - 1) = (S E n D k : Int) - 1 := by have := HB5.out rfl; omega
                rw [hl] at c1
                have hS0 : 1 ≤ S E n D k + 1 := by omega
                clear HB4 HB5 HPREV HSOF HNOF HKK HV HCE HROW HRD HBEL HNF HIN HEQ HA HB HOFF hl
                generalize S E n D k = sx at *
                go_wp2
                go_meet
                case rel => exact ⟨int_eq (by omega), _, rfl⟩
            case rest =>
              obtain ⟨rfl, q2, rfl⟩ := hcut
              have hS1 := S_ge E n D k HV.out
              have hS2 := S_le (fun x y h => (HIN.out x y h).1) D k
              clear HB4 HB5
              have HFND : Hid (∀ i y : Nat, (y : Int) = (S E n D k : Int) - k → (∀ j, j < i → E (S E n D k + j) (y + j) = true) → E (S E n D k + i) (y + i) = false → S E n D k + i = V E n D k) :=
                fun i y hy h1 h2 => V_found (fun x y h => (HIN.out x y h).1) D k HV.out i y hy h1 h2
              generalize S E n D k = sx at *
              obtain ⟨y0, hy0⟩ : ∃ y0 : Nat, (y0 : Int) = (sx : Int) - k := ⟨((sx : Int) - k).toNat, by omega⟩
              have HY0 : Hid ((y0 : Int) = (sx : Int) - k) := hy0
              have hy1 : (y0 : Int) ≤ n + D + D := by omega
              go_wp2
              rw [← HY0.out]
              clear hy0
              go_loopg [12, 13] (n - sx) (fun gx x y wx => ∃ i : Nat, gx = n - (sx + i) ∧ sx + i ≤ n + D ∧ x = .int .i64 ((sx + i : Nat) : Int) ∧ y = .int .i64 ((y0 + i : Nat) : Int) ∧ (∀ j, j < i → E (sx + j) (y0 + j) = true) ∧ ∃ q, wx = wr.drewN q)
              case atStart => exact ⟨0, rfl, by omega, rfl, rfl, fun j hj => by omega, _, rfl⟩
              case round =>
                obtain ⟨i, hgx, hib, rfl, rfl, hrun, q3, rfl⟩ := hrel
                have HRUN : Hid (∀ j, j < i → E (sx + j) (y0 + j) = true) := hrun
                have HGX : Hid (gk = n - (sx + i)) := hgx
                clear hrun hgx
                obtain ⟨X, hX⟩ : ∃ X, sx + i = X := ⟨_, rfl⟩
                obtain ⟨Y, hY⟩ : ∃ Y, y0 + i = Y := ⟨_, rfl⟩
                rw [hX, hY]
                rw [hX] at hib
                have HX : Hid (sx + i = X) := hX
                have HY : Hid (y0 + i = Y) := hY
                have hYb : (Y : Int) ≤ (X : Int) + D := by have := HY0.out; omega
                clear hX hY
                go_upto_region 16 with fail
                go_cut [102] (fun t wc => t = .bool (E X Y) ∧ ∃ q, wc = wr.drewN q)
                case first =>
                  clear HPREV HSOF HNOF HKK HV HCE HROW HRD HNF HOFF HFND HY0 HRUN HGX HX HY
                  by_cases hXn : X < n
                  · by_cases hYm : Y < m
                    · obtain ⟨g1, o1, rfl, hg1, hc1⟩ := HA.out (by omega)
                      obtain ⟨g2, o2, rfl, hg2, hc2⟩ := HB.out (by omega)
                      have d1 : wr.cell? ⟨g1, o1 + X, none⟩ = some (.string (A.getD X ByteArray.empty)) := (HBEL.out.cell (p := ⟨g1, o1 + X, none⟩) hg1).trans (hc1 X hXn)
                      have d2 : wr.cell? ⟨g2, o2 + Y, none⟩ = some (.string (B.getD Y ByteArray.empty)) := (HBEL.out.cell (p := ⟨g2, o2 + Y, none⟩) hg2).trans (hc2 Y hYm)
                      have HEE : Hid (E X Y = ((A.getD X ByteArray.empty).toList == (B.getD Y ByteArray.empty).toList)) := HEQ.out X Y hXn hYm
                      have hXi : (X : Int) < (n : Int) := by omega
                      have hYi : (Y : Int) < (m : Int) := by omega
                      generalize A.getD X ByteArray.empty = s1 at *
                      generalize B.getD Y ByteArray.empty = s2 at *
                      clear hc1 hc2 HA HB HEQ HIN HBEL hg1 hg2
                      go_quiet (fail)
                      go_wp2
                      go_meet
                      case rel => exact ⟨by rw [HEE.out], _, World.drewN_drewN _ _ _⟩
                    · have HEE : Hid (E X Y = false) := by
                        unfold Hid
                        cases h : E X Y
                        · rfl
                        · have := HIN.out X Y h; omega
                      have hXi : (X : Int) < (n : Int) := by omega
                      have hYi : decide ((Y : Int) < (m : Int)) = false := decide_eq_false (by omega)
                      clear HA HB HEQ HIN HBEL
                      go_quiet (fail)
                      go_wp2
                      go_meet
                      case rel => exact ⟨by rw [HEE.out], _, World.drewN_drewN _ _ _⟩
                  · have HEE : Hid (E X Y = false) := by
                      unfold Hid
                      cases h : E X Y
                      · rfl
                      · have := HIN.out X Y h; omega
                    have hXi : decide ((X : Int) < (n : Int)) = false := decide_eq_false (by omega)
                    clear HA HB HEQ HIN HBEL
                    go_quiet (fail)
                    go_wp2
                    go_meet
                    case rel => exact ⟨by rw [HEE.out], _, World.drewN_drewN _ _ _⟩
                case rest =>
                  obtain ⟨rfl, q4, rfl⟩ := hcut
                  cases hEE : E X Y
                  · have hXV : X = V E n D k := by
                      rw [← HX.out]
                      exact HFND.out i y0 HY0.out HRUN.out (by rw [HX.out, HY.out]; exact hEE)
                    have HXV : Hid (X = V E n D k) := hXV
                    have hYk : (Y : Int) = (X : Int) - k := by have := HX.out; have := HY.out; have := HY0.out; omega
                    have HYK : Hid ((Y : Int) = (X : Int) - k) := hYk
                    clear hXV hYk HFND HRUN HY0 HGX HX HY hEE
                    go_upto_region 18 with fail
                    go_cut [12] (fun x wc => x = .int .i64 X ∧ ∃ f', wc.rowIs w.heap.size 3 (2 * off + 1) (fun i => .int .i64 (f' i)) ∧ Prev E n off D f' ∧ Sofar E n off D (k + 2) f' ∧ RoundsOk wc w.heap.size E n u9 D ∧ Below w.heap.size w wc)
                    case first =>
                      have hold := HROW.out.cell (i := ((off : Int) + k).toNat) (by omega)
                      have hfr := HROW.out.frozen ((off : Int) + k).toNat
                      clear HCE HEQ HA HB HIN HNF
                      go_wp2
                      go_meet
                      case rel =>
                        refine ⟨rfl, _, (HROW.out.set ((off : Int) + k).toNat (.int .i64 X)).congr (g := fun i => .int .i64 (if i = ((off : Int) + k).toNat then (V E n D k : Int) else f i)) ?_, HPREV.out.store k HV.out (by omega) _, HSOF.out.store HV.out (by omega), ?_, ?_⟩
                        · intro i hi
                          show (if i = _ then _ else _) = _
                          by_cases h : i = ((off : Int) + k).toNat
                          · simp only [if_pos h]; rw [← HXV.out]
                          · simp only [if_neg h]
                        · exact (HRD.out.drewN _).setCell _ _
                        · exact (below_drewN HBEL.out _).setCell (p := ⟨w.heap.size, _, none⟩) (Nat.le_refl _) _
                    case rest =>
                      obtain ⟨rfl, f', hrow', hprev', hsof', hrd', hbel'⟩ := hcut
                      have HROW' : Hid (wc.rowIs w.heap.size 3 (2 * off + 1) (fun i => .int .i64 (f' i))) := hrow'
                      have HREST : Hid (Prev E n off D f' ∧ Sofar E n off D (k + 2) f' ∧ RoundsOk wc w.heap.size E n u9 D ∧ Below w.heap.size w wc) := ⟨hprev', hsof', hrd', hbel'⟩
                      clear hrow' hprev' hsof' hrd' hbel' HROW HPREV HSOF HRD HBEL HCE
                      by_cases hfire : n ≤ X ∧ m ≤ Y
                      · obtain ⟨hf1, hf2⟩ := hfire
                        have hfd := Plain.fired HIN.out HNF.out k HV.out (by rw [← HXV.out]; exact hf1) (by have h5 := HXV.out; have h6 := HYK.out; rw [← h5]; omega)
                        have HFD : Hid (V E n D ((n : Int) - m) = n ∧ Val D ((n : Int) - m)) := by
                          have h7 := hfd.1
                          have h8 := HV.out
                          rw [hfd.2] at h7 h8
                          exact ⟨h7, h8⟩
                        clear hfd
                        obtain ⟨hprevF, hsofF, ⟨rows, hownR, hrR⟩, hbelF⟩ := HREST.out
                        have hBW : w.heap.size + 1 ≤ wc.heap.size := by have := (HROW'.out).lt; omega
                        have HROWS : Hid (∀ i, i < D → ∃ g cap cur, rows[i]? = some (.slice (some ⟨g, 0, none⟩) (2 * i + 1) cap) ∧ w.heap.size + 1 ≤ g ∧ wc.heap[g]? = some (.cells cur 3 (0, 0)) ∧ ∀ k, Val i k → cur[(k + i).toNat]? = some (.int .i64 (V E n i k))) := hrR
                        clear HREST hrR hprevF hsofF
                        go_wp2_with (at_builtin; refine wpList_append_own _ rfl (.const (.slice none 0 0)) (.tmp 130) 32 rfl wc.heap.size 3 i3 (.int .i64 0) 1 8 Try.underlying32 hi3 hz30 hz31 hz32 rfl (by decide) (.slice none 0 0) 0 [] rfl (World.ownsRow_nil _ _ _ _) ⟨w.heap.size, off - D, none⟩ (off + D + 1 - (off - D)) _ (news off D f') rfl (news_length _ _ _ (by omega)) (news_cells (HROW'.out) (by omega)) (news_one _ _ _) (by unfold maxLen; omega) (by omega) (Nat.le_refl _) ?_)
                        intro u w1 hu hg1 _
                        have hu2 : w1.ownsRow wc.heap.size 3 1 u (2 * D + 1) (news off D f') := by
                          have e : off + D + 1 - (off - D) = 2 * D + 1 := by omega
                          rw [e] at hu
                          exact hu
                        have hg1n : wc.grownBy w1 none := hg1
                        obtain ⟨g, cap, hue, hgB, hgs⟩ := owns_shape hu2
                        subst hue
                        have HU : Hid (w1.ownsRow wc.heap.size 3 1 (.slice (some ⟨g, 0, none⟩) (2 * D + 1) cap) (2 * D + 1) (news off D f')) := hu2
                        have HG1 : Hid (wc.grownBy w1 none) := hg1n
                        have hs1 := hg1n.size
                        have hownR1 : w1.ownsRow (w.heap.size + 1) 32 1 u9 D rows := hownR.kept hg1n (by cases h : Value.ownBlock u9 <;> simp)
                        clear hu hu2 hg1 hg1n
                        go_wp2_with (at_builtin; refine wpList_append_own _ rfl (.tmp 121) (.tmp 132) 33 rfl (w.heap.size + 1) 32 i32 (.slice none 0 0) 1 24 Try.underlying33 hi32 hz320 hz321 hz322 rfl (by decide) u9 D rows rfl (hownR1.alloc _) ⟨w1.heap.size, 0, none⟩ 1 1 [.slice (some ⟨g, 0, none⟩) (2 * D + 1) cap] rfl rfl (by intro t u ht; match t, ht with | 0, ht => simp at ht; subst ht; simp [Addr.add]) (by intro u hu; simp at hu; subst hu; rfl) (by unfold maxLen; omega) (by omega) (by simp; omega) ?_)
                        intro vR w3 hown3 hg3 _
                        have hB3 : Below w.heap.size w w3 := ((hbelF.grown HG1.out hbelF.size (fun k hk => by cases hk)).alloc (by have := hbelF.size; omega) _).grown hg3 (by have := hbelF.size; simp; omega) (fun k hk => by have := (hownR.lt k hk).1; omega)
                        obtain ⟨gR, capR, hRe, hgRB, hgRs⟩ := owns_shape hown3
                        subst hRe
                        have HO3 : Hid (w3.ownsRow (w.heap.size + 1) 32 1 (.slice (some ⟨gR, 0, none⟩) (D + 1) capR) (D + 1) (rows ++ [.slice (some ⟨g, 0, none⟩) (2 * D + 1) cap])) := hown3
                        have HG3 : Hid ((w1.alloc (.cells #[.slice (some ⟨g, 0, none⟩) (2 * D + 1) cap] 32)).grownBy w3 u9.ownBlock) := hg3
                        have HOR : Hid (wc.ownsRow (w.heap.size + 1) 32 1 u9 D rows) := hownR
                        clear hown3 hg3 hownR hownR1
                        have HTR : Hid (Calls Try.prog 26 #[.slice (some ⟨gR, 0, none⟩) (D + 1) capR, .int .i64 n, .int .i64 m] w3 fun e w' => Traced E n m D w3 e w') :=
                          trace_any (some ⟨gR, 0, none⟩) capR D n m E _ w3 (owned_cells HO3.out) (fun i hi => rowAt_of (rows_after HOR.out HROWS.out HG1.out HG3.out i hi)) HIN.out HFD.out.2 HFD.out.1 hnm hDb
                        go_wp2_with fail
                        refine HTR.out.mono ?_
                        intro e w4 hT
                        obtain ⟨v, st, rfl, hst, hre, hed, hb4⟩ := hT
                        have HCT : Hid (st.count 32 = Plain.L E n m) := by
                          have := Plain.shortest HIN.out HNF.out _ hre hed
                          rw [List.count_reverse] at this
                          exact this
                        go_wp2
                        go_ret
                        exact ⟨v, st, rfl, owns_mono hst (by have := hB3.size; omega), hre, HCT.out, hB3.trans (hb4.mono (by have := hB3.size; omega))⟩
                      · have HNX : Hid (MidRel E n m off w u9 D gm u9 (.int .i64 (k + 2)) wc) := by
                          obtain ⟨h1, h2, h3, h4⟩ := HREST.out
                          refine ⟨j + 1, f', by omega, rfl, int_eq (by have := HKK.out; omega), HROW'.out, h1, by rw [show 2 * ((j + 1 : Nat) : Int) - D = k + 2 by have := HKK.out; omega]; exact h2, h3, ?_, h4⟩
                          intro hvv hlt
                          rw [show 2 * ((j + 1 : Nat) : Int) - D = k + 2 by have := HKK.out; omega] at hlt
                          by_cases hkd : (n : Int) - m = k
                          · have h5 := HXV.out
                            have h6 := HYK.out
                            rw [hkd, ← h5]
                            omega
                          · exact HNOF.out hvv (by have := HV.out; unfold Val at this hvv; omega)
                        clear HROW' HREST
                        by_cases hf1 : n ≤ X
                        · have hf2 : ¬ m ≤ Y := fun h => hfire ⟨hf1, h⟩
                          clear hfire
                          go_wp2
                          go_roundg gm
                          case measure => omega
                          case rel => exact HNX.out
                        · clear hfire
                          go_wp2
                          go_roundg gm
                          case measure => omega
                          case rel => exact HNX.out
                  · have hXn := HIN.out X Y hEE
                    have HEE : Hid (E X Y = true) := hEE
                    clear hEE
                    go_wp2
                    go_roundg (n - (sx + (i + 1)))
                    case measure => have := HGX.out; have := HX.out; omega
                    case rel =>
                      refine ⟨i + 1, rfl, by have := HX.out; omega, int_eq (by have := HX.out; omega), int_eq (by have := HY.out; omega), ?_, _, rfl⟩
                      intro j hj
                      rcases Nat.lt_or_ge j i with h | h
                      · exact HRUN.out j h
                      · have : j = i := by omega
                        subst this
                        rw [HX.out, HY.out]; exact HEE.out
end Go.Proofs.Qxb6601177a
