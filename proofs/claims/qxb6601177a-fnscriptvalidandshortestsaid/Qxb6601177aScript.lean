/-
  script, by its contract. My own text.
-/
import Derived.Test.Qxb6601177aScriptLaws
namespace Go.Proofs.Qxb6601177a
open Go.ChangeShapes Go.WideShapes Go.ChangeAt Go.RowKit
open Plain (L)

set_option maxHeartbeats 4000000 in
set_option maxRecDepth 100000 in
theorem script_any (a b : Option Addr) (n m ca cb : Nat) (A B : List ByteArray) (w : World) (hA : Strs w a n ca A) (hB : Strs w b m cb B) (hnm : n + m ≤ 1048576) :
    Calls Try.prog 22 #[.slice a n ca, .slice b m cb] w fun e w' => Scripted (eqE A B) n m w e w' := by
  obtain ⟨i5, hi5, hz50, hz51, hz52⟩ := info_parts info5
  have HSA : Hid (Strs w a n ca A) := hA
  have HSB : Hid (Strs w b m cb B) := hB
  obtain ⟨hAl, hAc, hAm, hAcl⟩ := hA
  obtain ⟨hBl, hBc, hBm, hBcl⟩ := hB
  obtain ⟨E, hE⟩ : ∃ E, eqE A B = E := ⟨_, rfl⟩
  have hEin : ∀ x y, E x y = true → x < n ∧ y < m := fun x y h => by rw [← hE] at h; have := eqE_in h; omega
  have hEeq : ∀ x y, x < n → y < m → E x y = ((A.getD x ByteArray.empty).toList == (B.getD y ByteArray.empty).toList) := by
    intro x y hx hy
    rw [← hE, eqE, decide_eq_true (by omega), decide_eq_true (by omega)]; simp
  rw [hE]
  have HE : Hid (eqE A B = E) := hE
  have HIN : Hid (∀ x y, E x y = true → x < n ∧ y < m) := hEin
  have HEQ : Hid (∀ x y, x < n → y < m → E x y = ((A.getD x ByteArray.empty).toList == (B.getD y ByteArray.empty).toList)) := hEeq
  have HA : Hid (Cells w a n (fun i => .string (A.getD i ByteArray.empty))) := hAcl
  have HB : Hid (Cells w b m (fun i => .string (B.getD i ByteArray.empty))) := hBcl
  have HAL : Hid (A.length = n) := hAl
  have HBL : Hid (B.length = m) := hBl
  clear hAl hAcl hBl hBcl hE hEin hEeq
  go_enter Try.func22, Try.ntmps22
  go_wp2
  go_loopg [5] n (fun gk hv wr => ∃ h : Nat, gk + h = n ∧ h ≤ m ∧ hv = .int .i64 h ∧ (∀ i, i < h → E i i = true) ∧ ∃ q, wr = w.drewN q)
  case atStart => exact ⟨0, by omega, by omega, rfl, fun i hi => by omega, 0, rfl⟩
  case round =>
    obtain ⟨h, hgh, hhm, rfl, hhd, q, rfl⟩ := hrel
    have HHD : Hid (∀ i, i < h → E i i = true) := hhd
    clear hhd
    go_upto_region 2 with fail
    go_cut [28] (fun t wc => t = .bool (E h h) ∧ ∃ q, wc = w.drewN q)
    case first =>
      by_cases hXn : h < n
      · by_cases hYm : h < m
        · obtain ⟨g1, o1, rfl, hg1, hc1⟩ := HA.out (by omega)
          obtain ⟨g2, o2, rfl, hg2, hc2⟩ := HB.out (by omega)
          have d1 : w.cell? ⟨g1, o1 + h, none⟩ = some (.string (A.getD h ByteArray.empty)) := hc1 h hXn
          have d2 : w.cell? ⟨g2, o2 + h, none⟩ = some (.string (B.getD h ByteArray.empty)) := hc2 h hYm
          have HEE : Hid (E h h = ((A.getD h ByteArray.empty).toList == (B.getD h ByteArray.empty).toList)) := HEQ.out h h hXn hYm
          have hXi : (h : Int) < (n : Int) := by omega
          have hYi : (h : Int) < (m : Int) := by omega
          clear hc1 hc2 HA HB HEQ HIN HE HSA HSB HAL HBL HHD
          generalize A.getD h ByteArray.empty = s1 at *
          generalize B.getD h ByteArray.empty = s2 at *
          go_quiet (fail)
          go_wp2
          go_meet
          case rel => exact ⟨by rw [HEE.out], _, World.drewN_drewN _ _ _⟩
        · have HEE : Hid (E h h = false) := by
            unfold Hid
            cases hh : E h h
            · rfl
            · have := HIN.out h h hh; omega
          have hXi : (h : Int) < (n : Int) := by omega
          have hYi : decide ((h : Int) < (m : Int)) = false := decide_eq_false (by omega)
          clear HA HB HEQ HIN HE HSA HSB HAL HBL HHD
          go_quiet (fail)
          go_wp2
          go_meet
          case rel => exact ⟨by rw [HEE.out], _, World.drewN_drewN _ _ _⟩
      · have HEE : Hid (E h h = false) := by
          unfold Hid
          cases hh : E h h
          · rfl
          · have := HIN.out h h hh; omega
        have hXi : decide ((h : Int) < (n : Int)) = false := decide_eq_false (by omega)
        clear HA HB HEQ HIN HE HSA HSB HAL HBL HHD
        go_quiet (fail)
        go_wp2
        go_meet
        case rel => exact ⟨by rw [HEE.out], _, World.drewN_drewN _ _ _⟩
    case rest =>
      obtain ⟨rfl, q1, rfl⟩ := hcut
      cases hEE : E h h
      · have HHE : Hid (E h h = false) := hEE
        clear hEE
        go_wp2
        go_loopg [6] (n - h) (fun gk tv wr => ∃ t : Nat, gk + t = n - h ∧ t ≤ m - h ∧ tv = .int .i64 t ∧ (∀ i, i < t → E (n - 1 - i) (m - 1 - i) = true) ∧ ∃ q, wr = w.drewN q)
        case atStart => exact ⟨0, by omega, by omega, rfl, fun i hi => by omega, _, rfl⟩
        case round =>
          obtain ⟨t, hgt, htm, rfl, htl, q2, rfl⟩ := hrel
          have HTL : Hid (∀ i, i < t → E (n - 1 - i) (m - 1 - i) = true) := htl
          clear htl
          obtain ⟨tb, htb⟩ : ∃ tb, (decide (t < n - h) && decide (t < m - h) && E (n - 1 - t) (m - 1 - t)) = tb := ⟨_, rfl⟩
          have HTB : Hid ((decide (t < n - h) && decide (t < m - h) && E (n - 1 - t) (m - 1 - t)) = tb) := htb
          clear htb
          go_upto_region 5 with fail
          go_cut [63] (fun x wc => x = .bool tb ∧ ∃ q, wc = w.drewN q)
          case first =>
            by_cases hXn : t < n - h
            · by_cases hYm : t < m - h
              · obtain ⟨g1, o1, rfl, hg1, hc1⟩ := HA.out (by omega)
                obtain ⟨g2, o2, rfl, hg2, hc2⟩ := HB.out (by omega)
                have d1 : w.cell? ⟨g1, o1 + (n - 1 - t), none⟩ = some (.string (A.getD (n - 1 - t) ByteArray.empty)) := hc1 (n - 1 - t) (by omega)
                have d2 : w.cell? ⟨g2, o2 + (m - 1 - t), none⟩ = some (.string (B.getD (m - 1 - t) ByteArray.empty)) := hc2 (m - 1 - t) (by omega)
                have HEE : Hid (tb = ((A.getD (n - 1 - t) ByteArray.empty).toList == (B.getD (m - 1 - t) ByteArray.empty).toList)) := by
                  unfold Hid
                  rw [← HTB.out, decide_eq_true hXn, decide_eq_true hYm, HEQ.out _ _ (by omega) (by omega)]; rfl
                have hXi : (t : Int) < (n : Int) - h := by omega
                have hYi : (t : Int) < (m : Int) - h := by omega
                have hz1 : 0 ≤ (n : Int) - 1 - t := by omega
                have hz2 : 0 ≤ (m : Int) - 1 - t := by omega
                have hz3 : (n : Int) - 1 - t < n := by omega
                have hz4 : (m : Int) - 1 - t < m := by omega
                clear hc1 hc2 HA HB HEQ HIN HE HSA HSB HAL HBL HHD HTB HTL HHE
                generalize A.getD (n - 1 - t) ByteArray.empty = s1 at *
                generalize B.getD (m - 1 - t) ByteArray.empty = s2 at *
                go_quiet (fail)
                go_wp2
                go_meet
                case rel => exact ⟨by rw [HEE.out], _, World.drewN_drewN _ _ _⟩
              · have HEE : Hid (tb = false) := by unfold Hid; rw [← HTB.out, decide_eq_false hYm]; simp
                have hXi : (t : Int) < (n : Int) - h := by omega
                have hYi : decide ((t : Int) < (m : Int) - h) = false := decide_eq_false (by omega)
                clear HA HB HEQ HIN HE HSA HSB HAL HBL HHD HTB HTL HHE
                go_quiet (fail)
                go_wp2
                go_meet
                case rel => exact ⟨by rw [HEE.out], _, World.drewN_drewN _ _ _⟩
            · have HEE : Hid (tb = false) := by unfold Hid; rw [← HTB.out, decide_eq_false hXn]; simp
              have hXi : decide ((t : Int) < (n : Int) - h) = false := decide_eq_false (by omega)
              clear HA HB HEQ HIN HE HSA HSB HAL HBL HHD HTB HTL HHE
              go_quiet (fail)
              go_wp2
              go_meet
              case rel => exact ⟨by rw [HEE.out], _, World.drewN_drewN _ _ _⟩
          case rest =>
            obtain ⟨rfl, q3, rfl⟩ := hcut
            cases tb with
            | true =>
              have htt := HTB.out
              simp only [Bool.and_eq_true, decide_eq_true_eq] at htt
              obtain ⟨⟨ht1, ht2⟩, ht3⟩ := htt
              have HT3 : Hid (E (n - 1 - t) (m - 1 - t) = true) := ht3
              clear ht3 HTB
              go_wp2
              go_roundg (n - h - (t + 1))
              case measure => omega
              case rel =>
                refine ⟨t + 1, by omega, by omega, by go_num, ?_, _, rfl⟩
                intro i hi
                rcases Nat.lt_or_ge i t with h1 | h1
                · exact HTL.out i h1
                · have : i = t := by omega
                  subst this
                  exact HT3.out
            | false =>
              clear HTB
              go_wp2_with (at_make; refine wpList_make_own _ rfl _ _ 25 rfl w.heap.size 5 i5 (.int .u8 0) 1 Try.underlying25 hi5 hz50 hz51 _ _ _ (n + m) rfl rfl (by omega) ?b2 ?b3 ?b4 ?_)
              case b2 => rw [hz52]; omega
              case b3 => unfold maxLen; omega
              case b4 => exact Nat.le_refl _
              intro w0 hown0 hgrow0
              have hown0' : w0.ownsRow w.heap.size 5 1 (.slice (some ⟨w.heap.size, 0, none⟩) 0 (n + m)) 0 [] := hown0
              have hb0 : Below w.heap.size w w0 := (below_drewN (Below.refl _ w) q3).grown hgrow0 (Nat.le_refl _) (fun k hk => by cases hk)
              clear hown0 hgrow0
              go_wp2
              go_loopg [7, 73] h (fun gk v c wr => ∃ i : Nat, gk + i = h ∧ c = .int .i64 i ∧ v = .slice (some ⟨w.heap.size, 0, none⟩) i (n + m) ∧
                wr.ownsRow w.heap.size 5 1 (.slice (some ⟨w.heap.size, 0, none⟩) i (n + m)) i (List.replicate i (.int .u8 32)) ∧ Below w.heap.size w wr)
              case atStart => exact ⟨0, by omega, rfl, rfl, hown0', hb0⟩
              case round =>
                clear hown0' hb0
                obtain ⟨i, hgi, rfl, rfl, hown, hnx⟩ := hrel
                cases gk with
                | succ gk =>
                  have hlt : i < h := by omega
                  go_wp2_with (at_builtin; refine wpList_append_fits _ rfl (.tmp 75) (.tmp 76) 25 rfl w.heap.size 5 i5 1 Try.underlying25 hi5 hz51 w.heap.size i (n + m) _ rfl (hown.alloc _) ⟨wr.heap.size, 0, none⟩ 1 1 [.int .u8 32] rfl rfl (by intro t u ht; match t, ht with | 0, ht => simp at ht; subst ht; simp [Addr.add]) (by intro u hu; simp at hu; subst hu; rfl) (by omega) ?_; intro w1 hown1 hgrow1)
                  go_roundg gk
                  case measure => omega
                  case rel => exact ⟨i + 1, by omega, by go_num, rfl, by rw [List.replicate_succ']; exact hown1, (hnx.alloc hnx.size _).grown hgrow1 (by have := hnx.size; simp; omega) (fun k hk => by cases hk; exact Nat.le_refl _)⟩
                | zero =>
                  obtain rfl : h = i := by omega
                  have hhn : h ≤ n := by omega
                  have htn : t ≤ n - h := by omega
                  have hslA := slice22 a n ca h t hhn htn hAc
                  have hslB := slice22 b m cb h t hhm htm hBc
                  obtain ⟨a1, ha1⟩ : ∃ a1, a1 = (if ca = h then a else a.map (·.add (h * 1))) := ⟨_, rfl⟩
                  obtain ⟨b1, hb1⟩ : ∃ b1, b1 = (if cb = h then b else b.map (·.add (h * 1))) := ⟨_, rfl⟩
                  rw [← ha1] at hslA
                  rw [← hb1] at hslB
                  have HS : Hid (Calls Try.prog 25 #[.slice a1 (n - t - h) (ca - h), .slice b1 (m - t - h) (cb - h)] wr.drew fun e w' => Searched (eqE ((A.drop h).take (n - t - h)) ((B.drop h).take (m - t - h))) (n - t - h) (m - t - h) wr.drew e w') :=
                    search_any a1 b1 _ _ _ _ _ _ wr.drew ((HSA.out.below hnx.drew).part h t htn hhn a1 ha1) ((HSB.out.below hnx.drew).part h t htm hhm b1 hb1) (by omega)
                  have hml : ∀ mid : List Int, Plain.Reach (eqE ((A.drop h).take (n - t - h)) ((B.drop h).take (m - t - h))) mid.reverse (n - t - h) (m - t - h) → mid.length ≤ (n - t - h) + (m - t - h) := by
                    intro mid hr
                    have := hr.len
                    simpa using this
                  have HML : Hid (∀ mid : List Int, Plain.Reach (eqE ((A.drop h).take (n - t - h)) ((B.drop h).take (m - t - h))) mid.reverse (n - t - h) (m - t - h) → mid.length ≤ (n - t - h) + (m - t - h)) := hml
                  clear ha1 hb1 hml HSA HSB HA HB HEQ
                  have hwn : IntKind.i64.wrap ((n : Int) - t) = (n : Int) - t := by rw [IntKind.wrap_i64]; omega
                  have hwm : IntKind.i64.wrap ((m : Int) - t) = (m : Int) - t := by rw [IntKind.wrap_i64]; omega
                  go_wp2
                  go_region_law (first
                    | (go_simp; go_at_call 25; refine HS.out.mono ?_; intro e w4 hS; obtain ⟨v, mid, rfl, hst, hre, hcn, hb3⟩ := hS; have hmid := HML.out mid hre; have hownS : w4.ownsRow w.heap.size 5 1 (.slice (some ⟨w.heap.size, 0, none⟩) h (n + m)) h (List.replicate h (.int .u8 32)) := hown.drew.kept (below_grown hb3) (.inr (by simp [Value.ownBlock])))
                    | (refine step_append_own rfl (.tmp 79) (.tmp 94) 25 rfl w.heap.size 5 i5 Try.underlying25 hi5 hz51 w.heap.size h (n + m) (List.replicate h (.int .u8 32)) rfl hownS v mid.length (mid.map (Value.int .u8)) rfl _ hst (bytes_one _) (by omega) ?_; intro w5 hown5 hgrow5))
                  have hpf := part_found HAL.out HBL.out hre hcn
                  rw [HE.out] at hpf
                  have HPF : Hid (Plain.Reach (fun i j => E (i + h) (j + h)) mid.reverse (n - t - h) (m - t - h) ∧ mid.count 32 = L (fun i j => E (i + h) (j + h)) (n - t - h) (m - t - h)) := hpf
                  have hb5 : Below w.heap.size w w5 := (hnx.drew.trans (hb3.mono hnx.size)).grown hgrow5 (Nat.le_trans hnx.size hb3.size) (fun k hk => by cases hk; exact Nat.le_refl _)
                  have hown6 : w5.ownsRow w.heap.size 5 1 (.slice (some ⟨w.heap.size, 0, none⟩) (h + mid.length) (n + m)) (h + mid.length) ((List.replicate h 32 ++ mid).map (Value.int .u8)) := by
                    rw [List.map_append, List.map_replicate]; exact hown5
                  have HO6 : Hid (w5.ownsRow w.heap.size 5 1 (.slice (some ⟨w.heap.size, 0, none⟩) (h + mid.length) (n + m)) (h + mid.length) ((List.replicate h 32 ++ mid).map (Value.int .u8))) := hown6
                  clear hpf hre hcn hst hb3 hownS hgrow5 hown5 hown6 hslA hslB hwn hwm HS HML hown hnx
                  generalize hml : mid.length = ml at *
                  have HML : Hid (mid.length = ml) := hml
                  clear hml
                  go_wp2
                  go_loopg [7, 97] t (fun gk v c wx => ∃ i : Nat, gk + i = t ∧ c = .int .i64 i ∧ v = .slice (some ⟨w.heap.size, 0, none⟩) (h + ml + i) (n + m) ∧
                    wx.ownsRow w.heap.size 5 1 (.slice (some ⟨w.heap.size, 0, none⟩) (h + ml + i) (n + m)) (h + ml + i) ((List.replicate h 32 ++ mid ++ List.replicate i 32).map (Value.int .u8)) ∧ Below w.heap.size w wx)
                  case atStart => exact ⟨0, by omega, rfl, rfl, by rw [List.replicate_zero, List.append_nil]; exact HO6.out, hb5⟩
                  case round =>
                    clear HO6 hb5
                    obtain ⟨i, hgi, rfl, rfl, hown, hnx⟩ := hrel
                    cases gk with
                    | succ gk =>
                      have hlt : i < t := by omega
                      go_wp2_with (at_builtin; refine wpList_append_fits _ rfl (.tmp 99) (.tmp 100) 25 rfl w.heap.size 5 i5 1 Try.underlying25 hi5 hz51 w.heap.size (h + ml + i) (n + m) _ rfl (hown.alloc _) ⟨wr.heap.size, 0, none⟩ 1 1 [.int .u8 32] rfl rfl (by intro t u ht; match t, ht with | 0, ht => simp at ht; subst ht; simp [Addr.add]) (by intro u hu; simp at hu; subst hu; rfl) (by omega) ?_; intro w1 hown1 hgrow1)
                      go_roundg gk
                      case measure => omega
                      case rel =>
                        refine ⟨i + 1, by omega, by go_num, rfl, ?_, (hnx.alloc hnx.size _).grown hgrow1 (by have := hnx.size; simp; omega) (fun k hk => by cases hk; exact Nat.le_refl _)⟩
                        rw [List.replicate_succ', ← List.append_assoc, List.map_append]; exact hown1
                    | zero =>
                      obtain rfl : t = i := by omega
                      go_wp2
                      go_ret
                      have hlen : (List.replicate h 32 ++ mid ++ List.replicate t 32 : List Int).length = h + ml + t := by simp [HML.out]; omega
                      exact ⟨_, _, h, t, mid, rfl, by rw [hlen]; exact hown, rfl, hhn, hhm, htn, htm, HHD.out, HHE.out, HTL.out, HPF.out.1, HPF.out.2, hnx⟩
      · have hXn := HIN.out h h hEE
        have HEE : Hid (E h h = true) := hEE
        clear hEE
        go_wp2
        go_roundg (n - (h + 1))
        case measure => omega
        case rel =>
          refine ⟨h + 1, by omega, by omega, by go_num, ?_, _, rfl⟩
          intro i hi
          rcases Nat.lt_or_ge i h with h1 | h1
          · exact HHD.out i h1
          · have : i = h := by omega
            subst this
            exact HEE.out
end Go.Proofs.Qxb6601177a
