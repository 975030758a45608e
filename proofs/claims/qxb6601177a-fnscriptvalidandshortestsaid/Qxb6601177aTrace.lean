/-
  trace, by its contract. My own text.
-/
import Derived.Test.Qxb6601177aBasics
import Derived.Test.Qxb6601177aMath2
import Derived.Deep.DeepCutAuto
import Derived.Deep.LoopGhost
import Derived.RegionTactic
import Derived.BigRegion
namespace Go.Proofs.Qxb6601177a
open Go.ChangeShapes Go.WideShapes Go.ChangeAt Go.RowKit
open Plain (V Val ed down start slide)

/-- Row i of the rounds: the value, and what its cells hold. -/
def RowAt (w : World) (E : Nat → Nat → Bool) (n i : Nat) (v : Value) : Prop :=
  ∃ g cap, v = .slice (some ⟨g, 0, none⟩) (2 * i + 1) cap ∧ g < w.heap.size ∧ ∀ k, Val i k → w.cell? ⟨g, (k + i).toNat, none⟩ = some (.int .i64 (V E n i k))

def TraceRel (E : Nat → Nat → Bool) (n m D : Nat) (w : World) (gk : Nat) (v x y d : Value) (wr : World) : Prop :=
  ∃ (X Y : Nat) (s : List Int), d = .int .i64 gk ∧ x = .int .i64 X ∧ y = .int .i64 Y ∧ Val gk ((X : Int) - Y) ∧ V E n gk ((X : Int) - Y) = X ∧
    wr.ownsRow w.heap.size 5 1 v s.length (s.map (Value.int .u8)) ∧ Below w.heap.size w wr ∧ (∀ r, Plain.Reach E r X Y → Plain.Reach E (s ++ r) n m) ∧ ed s + gk = D ∧ X ≤ n ∧ Y ≤ m ∧ s.length ≤ n + m

def Traced (E : Nat → Nat → Bool) (n m D : Nat) (w : World) (e : Ending) (w' : World) : Prop :=
  ∃ (v : Value) (st : List Int), e = .returned v ∧ w'.ownsRow w.heap.size 5 1 v st.length (st.map (Value.int .u8)) ∧
      Plain.Reach E st.reverse n m ∧ ed st.reverse = D ∧ Below w.heap.size w w'

theorem int_eq {k : IntKind} {a b : Int} (h : a = b) : Value.int k a = Value.int k b := by rw [h]

theorem own_snoc {w : World} {B : Nat} {v : Value} {t : List Int} {x : Int} (h : w.ownsRow B 5 1 v (t.length + 1) (t.map (Value.int .u8) ++ [.int .u8 x])) : w.ownsRow B 5 1 v (t ++ [x]).length ((t ++ [x]).map (Value.int .u8)) := by
  simpa using h

theorem next_down {E : Nat → Nat → Bool} {n m D d X Y p : Nat} {k : Int} {s t : List Int} {v' : Value} {w w' : World} (HK : (X : Int) - Y = k) (hv : Val (d + 1) k) (hV : V E n (d + 1) k = X)
    (hd : down (d + 1 : Nat) k (V E n d (k - 1)) (V E n d (k + 1)) = true) (hp : V E n d (k + 1) = p) (hr : ∀ r, Plain.Reach E r X Y → Plain.Reach E (s ++ r) n m) (he : ed s + (d + 1) = D)
    (ht : t = s ++ List.replicate (X - p) 32) (hown : w'.ownsRow w.heap.size 5 1 v' (t ++ [43]).length ((t ++ [43]).map (Value.int .u8))) (hb : Below w.heap.size w w') :
    TraceRel E n m D w d v' (.int .i64 p) (.int .i64 ((p : Int) - (k + 1))) (.int .i64 d) w' := by
  subst HK
  obtain ⟨hv', hle, hge, hst⟩ := Plain.back_down E n d X Y hv hV hd
  rw [hp] at hle hge hst
  have ey : ((((p : Int) - ((X : Int) - Y + 1)).toNat : Nat) : Int) = (p : Int) - ((X : Int) - Y + 1) := by omega
  have ek : (p : Int) - ((((p : Int) - ((X : Int) - Y + 1)).toNat : Nat) : Int) = (X : Int) - Y + 1 := by omega
  have hall : ∀ r, Plain.Reach E r p ((p : Int) - ((X : Int) - Y + 1)).toNat → Plain.Reach E ((t ++ [43]) ++ r) n m := by
    intro r h
    have := hr _ (hst r _ ey h)
    rw [ht]
    simpa using this
  obtain ⟨r0, hr0, _⟩ := Plain.reached E n d ((X : Int) - Y + 1) hv'
  rw [hp] at hr0
  have hpt := Plain.Reach.parts hr0 (hall r0 hr0)
  refine ⟨p, ((p : Int) - ((X : Int) - Y + 1)).toNat, t ++ [43], rfl, rfl, int_eq ey.symm, by rw [ek]; exact hv', by rw [ek]; exact hp, hown, hb, hall, ?_, hpt.1, hpt.2.1, hpt.2.2⟩
  rw [Plain.ed_append, ht, Plain.ed_append, Plain.ed_replicate]
  have : ed [43] = 1 := by decide
  omega

theorem next_right {E : Nat → Nat → Bool} {n m D d X Y p : Nat} {k : Int} {s t : List Int} {v' : Value} {w w' : World} (HK : (X : Int) - Y = k) (hv : Val (d + 1) k) (hV : V E n (d + 1) k = X)
    (hd : down (d + 1 : Nat) k (V E n d (k - 1)) (V E n d (k + 1)) = false) (hp : V E n d (k - 1) = p) (hr : ∀ r, Plain.Reach E r X Y → Plain.Reach E (s ++ r) n m) (he : ed s + (d + 1) = D)
    (ht : t = s ++ List.replicate (X - (p + 1)) 32) (hown : w'.ownsRow w.heap.size 5 1 v' (t ++ [45]).length ((t ++ [45]).map (Value.int .u8))) (hb : Below w.heap.size w w') :
    TraceRel E n m D w d v' (.int .i64 p) (.int .i64 ((p : Int) - (k - 1))) (.int .i64 d) w' := by
  subst HK
  obtain ⟨hv', hle, hge, hst⟩ := Plain.back_right E n d X Y hv hV hd
  rw [hp] at hle hge hst
  have ey : ((((p : Int) - ((X : Int) - Y - 1)).toNat : Nat) : Int) = (p : Int) - ((X : Int) - Y - 1) := by omega
  have ek : (p : Int) - ((((p : Int) - ((X : Int) - Y - 1)).toNat : Nat) : Int) = (X : Int) - Y - 1 := by omega
  have hall : ∀ r, Plain.Reach E r p ((p : Int) - ((X : Int) - Y - 1)).toNat → Plain.Reach E ((t ++ [45]) ++ r) n m := by
    intro r h
    have := hr _ (hst r _ ey h)
    rw [ht]
    simpa using this
  obtain ⟨r0, hr0, _⟩ := Plain.reached E n d ((X : Int) - Y - 1) hv'
  rw [hp] at hr0
  have hpt := Plain.Reach.parts hr0 (hall r0 hr0)
  refine ⟨p, ((p : Int) - ((X : Int) - Y - 1)).toNat, t ++ [45], rfl, rfl, int_eq ey.symm, by rw [ek]; exact hv', by rw [ek]; exact hp, hown, hb, hall, ?_, hpt.1, hpt.2.1, hpt.2.2⟩
  rw [Plain.ed_append, ht, Plain.ed_append, Plain.ed_replicate]
  have : ed [45] = 1 := by decide
  omega

set_option maxHeartbeats 4000000 in
set_option maxRecDepth 100000 in
theorem trace_any (a : Option Addr) (c D n m : Nat) (E : Nat → Nat → Bool) (R : Nat → Value) (w : World) (hR : Cells w a (D + 1) R) (hrow : ∀ i, i < D → RowAt w E n i (R i))
    (hE : ∀ x y, E x y = true → x < n ∧ y < m) (hv : Val D ((n : Int) - m)) (hV : V E n D ((n : Int) - m) = n) (hnm : n + m ≤ 1048576) (hD : D ≤ n + m) :
    Calls Try.prog 26 #[.slice a (D + 1) c, .int .i64 n, .int .i64 m] w fun e w' => Traced E n m D w e w' := by
  obtain ⟨i5, hi5, hz50, hz51, hz52⟩ := info_parts info5
  obtain ⟨ba, oa, rfl, hba, hca⟩ := hR (by omega)
  have HC : Hid (∀ i, i < D + 1 → w.cell? ⟨ba, oa + i, none⟩ = some (R i)) := hca
  have HR : Hid (∀ i, i < D → RowAt w E n i (R i)) := hrow
  have HE : Hid (∀ x y, E x y = true → x < n ∧ y < m) := hE
  have HS : Hid (TraceRel E n m D w D (.slice none 0 0) (.int .i64 n) (.int .i64 m) (.int .i64 D) w) :=
    ⟨n, m, [], rfl, rfl, rfl, hv, hV, World.ownsRow_nil _ _ _ _, Below.refl _ _, fun r hr => hr, by simp [ed], Nat.le_refl _, Nat.le_refl _, by simp⟩
  clear hca hrow hE hR hv hV
  go_enter Try.func26, Try.ntmps26
  go_wp2
  go_loopg [7, 8, 9, 10] D (TraceRel E n m D w)
  case atStart => exact HS.out
  case round =>
    obtain ⟨X, Y, s, rfl, rfl, rfl, hv, hV, hown, hnx, hr, he, hX, hY, hs⟩ := hrel
    clear HS
    cases gk with
    | zero =>
      have hbe := Plain.back_end E n X Y hv hV
      have hall := hr _ hbe
      have hedz : ed (s ++ List.replicate X 32) = D := by rw [Plain.ed_append, Plain.ed_replicate]; omega
      have hlen := hall.len
      rw [List.length_append, List.length_replicate] at hlen
      have HALL : Hid (Plain.Reach E (s ++ List.replicate X 32) n m) := hall
      have HED : Hid (ed (s ++ List.replicate X 32) = D) := hedz
      clear hbe hall hedz hv hV hr he HR HC HE
      go_wp2
      go_loopg [7, 101] X (fun gk v c wx => ∃ (i : Nat) (t : List Int), i + gk = X ∧ c = .int .i64 i ∧ t = s ++ List.replicate i 32 ∧ wx.ownsRow w.heap.size 5 1 v t.length (t.map (Value.int .u8)) ∧ Below w.heap.size w wx)
      case atStart => exact ⟨0, s, by omega, rfl, by simp, hown, hnx⟩
      case round =>
        obtain ⟨i, t, hi, rfl, ht, hown2, hnx2⟩ := hrel
        have htl : t.length = s.length + i := by rw [ht]; simp
        have HTL : Hid (t.length = s.length + i) := htl
        have HT : Hid (t = s ++ List.replicate i 32) := ht
        clear ht htl
        cases gk with
        | succ gk =>
          have hlt : i < X := by omega
          go_wp2_with (at_builtin; refine wpList_append_own _ rfl (.tmp 103) (.tmp 104) 25 rfl w.heap.size 5 i5 (.int .u8 0) 1 1 Try.underlying25 hi5 hz50 hz51 hz52 rfl (by decide) _ _ _ rfl (hown2.alloc _) ⟨wr.heap.size, 0, none⟩ 1 1 [.int .u8 32] rfl rfl (by intro t u ht; match t, ht with | 0, ht => simp at ht; subst ht; simp [Addr.add]) (by intro u hu; simp at hu; subst hu; rfl) (by unfold maxLen; have := HTL.out; omega) (by have := HTL.out; omega) (by have := hnx2.size; simp; omega) ?_; intro v' w1 hown' hgrow _)
          go_roundg gk
          case measure => omega
          case rel =>
            refine ⟨i + 1, t ++ [32], by omega, by go_num, ?_, own_snoc hown', (hnx2.alloc hnx2.size _).grown hgrow (by have := hnx2.size; simp; omega) (fun k hk => (hown2.lt k hk).1)⟩
            rw [HT.out, List.replicate_succ']; simp
        | zero =>
          have hiX : i = X := by omega
          subst hiX
          rw [← HT.out] at HALL HED
          have hlt : t.length ≤ n + m := by rw [HTL.out]; exact hlen
          clear hlen HT HTL hi
          rcases hown2.2 with ⟨hu, h0⟩ | ⟨gg, cap, cur, hu, hgB, _, hnc, _, _, _⟩
          · subst hu
            have h0' : t = [] := List.eq_nil_of_length_eq_zero h0
            subst h0'
            have HF : Hid (wr.ownsRow w.heap.size 5 1 (.slice none 0 0) 0 []) := World.ownsRow_nil _ _ _ _
            clear hown2
            go_wp2
            go_loop [17, 18] (fun a b => a = .int .i64 0 ∧ b = .int .i64 (-1)) (fun _ _ => 0)
            case atStart => exact ⟨rfl, rfl⟩
            case round =>
              obtain ⟨rfl, rfl⟩ := hrel
              go_wp2
              go_ret
              exact ⟨_, [], rfl, HF.out, HALL.out, HED.out, hnx2⟩
          · subst hu
            have HO : Hid (wr.ownsRow w.heap.size 5 1 (.slice (some ⟨gg, 0, none⟩) t.length cap) t.length (t.map (Value.int .u8))) := hown2
            clear hown2
            go_wp2
            go_loopg [17, 18] t.length (fun gk a b wx => ∃ (i : Nat) (ys : List Int), gk + i = t.length ∧ a = .int .i64 i ∧ b = .int .i64 ((t.length : Int) - 1 - i) ∧ Plain.Swapped t ys i ∧
              wx.ownsRow w.heap.size 5 1 (.slice (some ⟨gg, 0, none⟩) t.length cap) t.length (ys.map (Value.int .u8)) ∧ Below w.heap.size w wx)
            case atStart => exact ⟨0, t, by omega, rfl, int_eq (by omega), Plain.Swapped.start t, HO.out, hnx2⟩
            case round =>
              obtain ⟨i, ys, hi, rfl, rfl, hsw, hown3, hnx3⟩ := hrel
              by_cases hij : 2 * i + 1 < t.length
              · have hyl : ys.length = t.length := hsw.1
                have c1 := hown3.cellAt i (by omega)
                have c2 := hown3.cellAt (t.length - 1 - i) (by omega)
                have f1 := hown3.frozenAt i
                have f2 := hown3.frozenAt (t.length - 1 - i)
                have e1 : (ys.map (Value.int .u8))[i]? = some (.int .u8 (ys.getD i 0)) := by simp [show i < ys.length by omega]
                have e2 : (ys.map (Value.int .u8))[t.length - 1 - i]? = some (.int .u8 (ys.getD (t.length - 1 - i) 0)) := by simp [show t.length - 1 - i < ys.length by omega]
                rw [e1] at c1
                rw [e2] at c2
                have HN : Hid (Plain.Swapped t ((ys.set i (ys.getD (t.length - 1 - i) 0)).set (t.length - 1 - i) (ys.getD i 0)) (i + 1)) := hsw.step hij
                have HO3 : Hid (∀ x y : Int, ((wr.setCell ⟨gg, i, none⟩ (.int .u8 x)).setCell ⟨gg, t.length - 1 - i, none⟩ (.int .u8 y)).ownsRow w.heap.size 5 1 (.slice (some ⟨gg, 0, none⟩) t.length cap) t.length (((ys.set i x).set (t.length - 1 - i) y).map (Value.int .u8))) := by
                  intro x y
                  have h1 := (hown3.stored i (.int .u8 x)).1
                  have h2 := (h1.stored (t.length - 1 - i) (.int .u8 y)).1
                  rw [List.map_set, List.map_set]
                  exact h2
                generalize ys.getD i 0 = x at *
                generalize ys.getD (t.length - 1 - i) 0 = y at *
                have hlt1 : (i : Int) < (t.length : Int) := by omega
                have hlt2 : (t.length : Int) - 1 - i < (t.length : Int) := by omega
                have hlt3 : 0 ≤ (t.length : Int) - 1 - i := by omega
                have hij2 : (i : Int) < (t.length : Int) - 1 - i := by omega
                clear hsw hown3 hyl e1 e2
                go_wp2
                go_region
                all_goals
                  go_wp2
                  go_roundg (t.length - (i + 1))
                  case measure => omega
                  case rel => exact ⟨i + 1, _, by omega, by go_num, int_eq (by omega), HN.out, (HO3.out y x).drew, ((hnx3.setCell (p := ⟨gg, i, none⟩) hgB _).setCell (p := ⟨gg, t.length - 1 - i, none⟩) hgB _).drew⟩
              · have hdn := hsw.done (by omega)
                subst hdn
                clear hsw
                have hij2 : ¬ (i : Int) < (t.length : Int) - 1 - i := by omega
                go_wp2
                go_ret
                refine ⟨_, t.reverse, rfl, by simpa using hown3, by simpa using HALL.out, by simpa using HED.out, hnx3⟩
    | succ d =>
      have hVl := Plain.V_le (fun x y h => (HE.out x y h).1) d ((X : Int) - Y - 1)
      have hVr := Plain.V_le (fun x y h => (HE.out x y h).1) d ((X : Int) - Y + 1)
      obtain ⟨g, cap, hRd, hg, hcl⟩ := HR.out d (by omega)
      have hcR : wr.cell? ⟨ba, oa + d, none⟩ = some (.slice (some ⟨g, 0, none⟩) (2 * d + 1) cap) := by
        rw [← hRd]; exact (hnx.cell (p := ⟨ba, oa + d, none⟩) hba).trans (HC.out d (by omega))
      have HCL : Hid (∀ k, Val d k → wr.cell? ⟨g, (k + d).toNat, none⟩ = some (.int .i64 (V E n d k))) := fun k hk => (hnx.cell (p := ⟨g, (k + d).toNat, none⟩) hg).trans (hcl k hk)
      have HV : Hid (V E n (d + 1) ((X : Int) - Y) = X) := hV
      have HVa : Hid (Val (d + 1) ((X : Int) - Y)) := hv
      have HRr : Hid (∀ r, Plain.Reach E r X Y → Plain.Reach E (s ++ r) n m) := hr
      have hkb : -((d : Int) + 1) ≤ (X : Int) - Y ∧ (X : Int) - Y ≤ (d : Int) + 1 := by unfold Val at hv; omega
      have HED : Hid (ed s + (d + 1) = D) := he
      obtain ⟨hk1, hk2⟩ := hkb
      have hdD : d < D := by omega
      clear hRd hcl hV hv hr he
      go_upto_region 9 with fail
      generalize hk : (X : Int) - Y = k at *
      have HK : Hid ((X : Int) - Y = k) := hk
      clear hk
      go_cut [65] (fun t wc => t = .bool (down (d + 1 : Nat) k (V E n d (k - 1)) (V E n d (k + 1))) ∧ ∃ q, wc = wr.drewN q)
      case first =>
        by_cases hA : k = -((d : Int) + 1)
        · have h1 : (k == -((d : Int) + 1)) = true := beq_iff_eq.2 hA
          have HD : Hid (down (d + 1 : Nat) k (V E n d (k - 1)) (V E n d (k + 1)) = true) := by unfold Hid; simp [down, hA]
          clear hA HCL HV HVa HRr HED HC HR HE hVl hVr HK hown hnx
          go_quiet (fail)
          go_wp2
          go_meet
          case rel => exact ⟨by rw [HD.out], _, rfl⟩
        · have h1 : (k == -((d : Int) + 1)) = false := beq_eq_false_iff_ne.2 hA
          by_cases hB : k = (d : Int) + 1
          · have h2 : (k != (d : Int) + 1) = false := by simp [hB]
            have HD : Hid (down (d + 1 : Nat) k (V E n d (k - 1)) (V E n d (k + 1)) = false) := by unfold Hid; simp [down, hB]; omega
            clear hA hB HCL HV HVa HRr HED HC HR HE hVl hVr HK hown hnx
            go_quiet (fail)
            go_wp2
            go_meet
            case rel => exact ⟨by rw [HD.out], _, rfl⟩
          · have h2 : (k != (d : Int) + 1) = true := by rw [bne_iff_ne]; exact hB
            have hv1 : Val d (k - 1) := by have := HVa.out; unfold Val at *; omega
            have hv2 : Val d (k + 1) := by have := HVa.out; unfold Val at *; omega
            have hc1 := HCL.out _ hv1
            have hc2 := HCL.out _ hv2
            have hkk : 1 ≤ k + d ∧ k + d ≤ 2 * d - 1 := by unfold Val at hv1 hv2; omega
            rw [show (k - 1 + (d : Int)).toNat = (k - 1 + ((d : Int) + 1)).toNat - 1 by omega] at hc1
            rw [show (k + 1 + (d : Int)).toNat = (k + 1 + ((d : Int) + 1)).toNat - 1 by omega] at hc2
            have HD : Hid (down (d + 1 : Nat) k (V E n d (k - 1)) (V E n d (k + 1)) = decide (V E n d (k - 1) < V E n d (k + 1))) := by
              unfold Hid down
              rw [show ((d + 1 : Nat) : Int) = (d : Int) + 1 by omega, h1, h2]; simp
            generalize V E n d (k - 1) = l at *
            generalize V E n d (k + 1) = r at *
            obtain ⟨hkk1, hkk2⟩ := hkk
            clear hA hB HCL HV HVa HRr HED HC HR HE HK hown hnx hv1 hv2
            go_quiet (fail)
            go_wp2
            go_meet
            case rel => exact ⟨by rw [HD.out], _, rfl⟩
      case rest =>
        obtain ⟨rfl, q, rfl⟩ := hcut
        cases hd : down (d + 1 : Nat) k (V E n d (k - 1)) (V E n d (k + 1))
        · obtain ⟨hv', hle, hge, _⟩ := Plain.back_right E n d X Y (by rw [HK.out]; exact HVa.out) (by rw [HK.out]; exact HV.out) (by rw [HK.out]; exact hd)
          rw [HK.out] at hv' hle hge
          have hcp := HCL.out _ hv'
          have hix : 0 ≤ k - 1 + d ∧ k - 1 + d ≤ 2 * d := by unfold Val at hv'; omega
          obtain ⟨hix1, hix2⟩ := hix
          rw [show (k - 1 + (d : Int)).toNat = (k - 1 + ((d : Int) + 1)).toNat - 1 by omega] at hcp
          obtain ⟨p, hp⟩ : ∃ p, V E n d (k - 1) = p := ⟨_, rfl⟩
          rw [hp] at hcp hle hge
          have HP : Hid (V E n d (k - 1) = p) := hp
          have HD : Hid (down (d + 1 : Nat) k (V E n d (k - 1)) (V E n d (k + 1)) = false) := hd
          clear hd hp hv' HCL hVl hVr
          go_wp2
          go_loopg [7, 8, 9] (X - (p + 1)) (fun gk v x y wx => ∃ (i : Nat) (t : List Int), i + gk = X - (p + 1) ∧ x = .int .i64 ((X : Int) - i) ∧ y = .int .i64 ((Y : Int) - i) ∧ t = s ++ List.replicate i 32 ∧
            wx.ownsRow w.heap.size 5 1 v t.length (t.map (Value.int .u8)) ∧ Below w.heap.size w wx)
          case atStart => exact ⟨0, s, by omega, by simp, by simp, by simp, hown, below_drewN hnx _⟩
          case round =>
            obtain ⟨i, t, hi, rfl, rfl, ht, hown2, hnx2⟩ := hrel
            have htl : t.length = s.length + i := by rw [ht]; simp
            have HTL : Hid (t.length = s.length + i) := htl
            have HT : Hid (t = s ++ List.replicate i 32) := ht
            clear ht htl
            cases gk with
            | zero =>
              have hiX : i = X - (p + 1) := by omega
              have HI : Hid (i = X - (p + 1)) := hiX
              have hxx : ¬ (p : Int) + 1 < (X : Int) - i := by omega
              clear hiX
              go_wp2_with (at_builtin; refine wpList_append_own _ rfl (.tmp 92) (.tmp 94) 25 rfl w.heap.size 5 i5 (.int .u8 0) 1 1 Try.underlying25 hi5 hz50 hz51 hz52 rfl (by decide) _ _ _ rfl (hown2.alloc _) ⟨wr.heap.size, 0, none⟩ 1 1 [.int .u8 45] rfl rfl (by intro t u ht; match t, ht with | 0, ht => simp at ht; subst ht; simp [Addr.add]) (by intro u hu; simp at hu; subst hu; rfl) (by unfold maxLen; have := HTL.out; omega) (by have := HTL.out; omega) (by have := hnx2.size; simp; omega) ?_; intro v' w1 hown' hgrow _)
              go_roundg d
              case measure => omega
              case rel =>
                exact next_right HK.out HVa.out HV.out HD.out HP.out HRr.out HED.out (by rw [HT.out, HI.out]) (own_snoc hown') ((hnx2.alloc hnx2.size _).grown hgrow (by have := hnx2.size; simp; omega) (fun k hk => (hown2.lt k hk).1))
            | succ gk =>
              have hxx : (p : Int) + 1 < (X : Int) - i := by omega
              go_wp2_with (at_builtin; refine wpList_append_own _ rfl (.tmp 89) (.tmp 90) 25 rfl w.heap.size 5 i5 (.int .u8 0) 1 1 Try.underlying25 hi5 hz50 hz51 hz52 rfl (by decide) _ _ _ rfl (hown2.alloc _) ⟨wr.heap.size, 0, none⟩ 1 1 [.int .u8 32] rfl rfl (by intro t u ht; match t, ht with | 0, ht => simp at ht; subst ht; simp [Addr.add]) (by intro u hu; simp at hu; subst hu; rfl) (by unfold maxLen; have := HTL.out; omega) (by have := HTL.out; omega) (by have := hnx2.size; simp; omega) ?_; intro v' w1 hown' hgrow _)
              go_roundg gk
              case measure => omega
              case rel =>
                refine ⟨i + 1, t ++ [32], by omega, int_eq (by omega), int_eq (by omega), ?_, own_snoc hown', (hnx2.alloc hnx2.size _).grown hgrow (by have := hnx2.size; simp; omega) (fun k hk => (hown2.lt k hk).1)⟩
                rw [HT.out, List.replicate_succ']; simp
        · obtain ⟨hv', hle, hge, _⟩ := Plain.back_down E n d X Y (by rw [HK.out]; exact HVa.out) (by rw [HK.out]; exact HV.out) (by rw [HK.out]; exact hd)
          rw [HK.out] at hv' hle hge
          have hcp := HCL.out _ hv'
          have hix : 0 ≤ k + 1 + d ∧ k + 1 + d ≤ 2 * d := by unfold Val at hv'; omega
          obtain ⟨hix1, hix2⟩ := hix
          rw [show (k + 1 + (d : Int)).toNat = (k + 1 + ((d : Int) + 1)).toNat - 1 by omega] at hcp
          obtain ⟨p, hp⟩ : ∃ p, V E n d (k + 1) = p := ⟨_, rfl⟩
          rw [hp] at hcp hle hge
          have HP : Hid (V E n d (k + 1) = p) := hp
          have HD : Hid (down (d + 1 : Nat) k (V E n d (k - 1)) (V E n d (k + 1)) = true) := hd
          have hdg : ((k + 1) == (k - 1)) = false := beq_eq_false_iff_ne.2 (by omega)
          clear hd hp hv' HCL hVl hVr
          go_wp2
          go_loopg [7, 8, 9] (X - p) (fun gk v x y wx => ∃ (i : Nat) (t : List Int), i + gk = X - p ∧ x = .int .i64 ((X : Int) - i) ∧ y = .int .i64 ((Y : Int) - i) ∧ t = s ++ List.replicate i 32 ∧
            wx.ownsRow w.heap.size 5 1 v t.length (t.map (Value.int .u8)) ∧ Below w.heap.size w wx)
          case atStart => exact ⟨0, s, by omega, by simp, by simp, by simp, hown, below_drewN hnx _⟩
          case round =>
            obtain ⟨i, t, hi, rfl, rfl, ht, hown2, hnx2⟩ := hrel
            have htl : t.length = s.length + i := by rw [ht]; simp
            have HTL : Hid (t.length = s.length + i) := htl
            have HT : Hid (t = s ++ List.replicate i 32) := ht
            clear ht htl
            cases gk with
            | zero =>
              have hiX : i = X - p := by omega
              have HI : Hid (i = X - p) := hiX
              have hxx : ¬ (p : Int) < (X : Int) - i := by omega
              clear hiX
              go_wp2_with (at_builtin; refine wpList_append_own _ rfl (.tmp 92) (.tmp 94) 25 rfl w.heap.size 5 i5 (.int .u8 0) 1 1 Try.underlying25 hi5 hz50 hz51 hz52 rfl (by decide) _ _ _ rfl (hown2.alloc _) ⟨wr.heap.size, 0, none⟩ 1 1 [.int .u8 43] rfl rfl (by intro t u ht; match t, ht with | 0, ht => simp at ht; subst ht; simp [Addr.add]) (by intro u hu; simp at hu; subst hu; rfl) (by unfold maxLen; have := HTL.out; omega) (by have := HTL.out; omega) (by have := hnx2.size; simp; omega) ?_; intro v' w1 hown' hgrow _)
              go_roundg d
              case measure => omega
              case rel =>
                exact next_down HK.out HVa.out HV.out HD.out HP.out HRr.out HED.out (by rw [HT.out, HI.out]) (own_snoc hown') ((hnx2.alloc hnx2.size _).grown hgrow (by have := hnx2.size; simp; omega) (fun k hk => (hown2.lt k hk).1))
            | succ gk =>
              have hxx : (p : Int) < (X : Int) - i := by omega
              go_wp2_with (at_builtin; refine wpList_append_own _ rfl (.tmp 89) (.tmp 90) 25 rfl w.heap.size 5 i5 (.int .u8 0) 1 1 Try.underlying25 hi5 hz50 hz51 hz52 rfl (by decide) _ _ _ rfl (hown2.alloc _) ⟨wr.heap.size, 0, none⟩ 1 1 [.int .u8 32] rfl rfl (by intro t u ht; match t, ht with | 0, ht => simp at ht; subst ht; simp [Addr.add]) (by intro u hu; simp at hu; subst hu; rfl) (by unfold maxLen; have := HTL.out; omega) (by have := HTL.out; omega) (by have := hnx2.size; simp; omega) ?_; intro v' w1 hown' hgrow _)
              go_roundg gk
              case measure => omega
              case rel =>
                refine ⟨i + 1, t ++ [32], by omega, int_eq (by omega), int_eq (by omega), ?_, own_snoc hown', (hnx2.alloc hnx2.size _).grown hgrow (by have := hnx2.size; simp; omega) (fun k hk => (hown2.lt k hk).1)⟩
                rw [HT.out, List.replicate_succ']; simp
end Go.Proofs.Qxb6601177a
