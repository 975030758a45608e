/-
  What script does, as plain laws; and two steps of a region that draws. My own text.
-/
import Derived.Test.Qxb6601177aSearch
import Derived.Deep.RegionLaw
namespace Go.Proofs.Qxb6601177a
open Go.ChangeShapes Go.WideShapes Go.ChangeAt Go.RowKit
open Plain (L)

/-- append WITHIN THE CAPACITY, onto a row of the call's own, as one step of a region that draws. -/
theorem step_append_own {P : Program} {ops : Array Oper} {o : Oper} {a : Act} {w : World} {K : Act → World → Prop} {Q : Exit → Act → World → Prop} {E : Prop}
    (hg : o.guard = none) (s x : Operand) (t : TypeId) (hop : o.op = Op.call { callee := Callee.builtin Builtin.append, args := #[s, x], argTypes := #[t, t] })
    (base : Nat) (e : TypeId) (i : TypeInfo) (h1 : P.underlying t = some (.slice e)) (h2 : P.info? e = some i) (h4 : i.size = 1)
    (g k cap : Nat) (xs : List Value) (hs : a.eval s = .slice (some ⟨g, 0, none⟩) k cap) (hown : w.ownsRow base e 1 (.slice (some ⟨g, 0, none⟩) k cap) k xs) (v : Value) (m : Nat) (news : List Value) (hx : a.eval x = v)
    (base2 : Nat) (hv : w.ownsRow base2 e 1 v m news) (h1c : ∀ u ∈ news, u.oneCell' = true) (b1 : k + m ≤ cap)
    (hK : ∀ w', w'.ownsRow base e 1 (.slice (some ⟨g, 0, none⟩) (k + m) cap) (k + m) (xs ++ news) → w.grownBy w' (some g) → K (a.put o.dst (.slice (some ⟨g, 0, none⟩) (k + m) cap)) w') :
    if Region.wanted o (yielded ops a.tmps) = true then Oper.wp P o a w K Q else E := by
  have hw : Region.wanted o (yielded ops a.tmps) = true := by simp [Region.wanted, hg]
  rw [if_pos hw]
  rcases hv.2 with ⟨rfl, rfl⟩ | ⟨g2, cap2, cur2, rfl, _, hg2, _, _, _, _⟩
  · have hnews : news = [] := List.eq_nil_of_length_eq_zero (by simpa using hv.1)
    subst hnews
    have hrun := run_append_owned_none (P := P) w base t o.type e i 1 h1 h2 _ k xs hown
    unfold Oper.wp
    simp [execOp, hop, resolve, invoke, builtin, hs, hx, hrun, Result.andThen]
    have hk := hK w (by simpa using hown) (World.grownBy.refl _ _)
    rw [Nat.add_zero] at hk
    exact hk
  · obtain ⟨w', hrun, r1, r2⟩ := run_append_fits (P := P) w base t o.type e i 1 h1 h2 h4 g k cap xs hown ⟨g2, 0, none⟩ m cap2 news hv.1 (hv.cells (g := g2) rfl) h1c b1
    unfold Oper.wp
    simp [execOp, hop, resolve, invoke, builtin, hs, hx, hrun, Result.andThen]
    exact hK w' r1 r2

/-- What script leaves. -/
def Scripted (E : Nat → Nat → Bool) (n m : Nat) (w : World) (e : Ending) (w' : World) : Prop :=
  ∃ (v : Value) (st : List Int) (h t : Nat) (mid : List Int), e = .returned v ∧ w'.ownsRow w.heap.size 5 1 v st.length (st.map (Value.int .u8)) ∧ st = List.replicate h 32 ++ mid ++ List.replicate t 32 ∧
    h ≤ n ∧ h ≤ m ∧ t ≤ n - h ∧ t ≤ m - h ∧ (∀ i, i < h → E i i = true) ∧ E h h = false ∧ (∀ i, i < t → E (n - 1 - i) (m - 1 - i) = true) ∧
    Plain.Reach (fun i j => E (i + h) (j + h)) mid.reverse (n - t - h) (m - t - h) ∧ mid.count 32 = L (fun i j => E (i + h) (j + h)) (n - t - h) (m - t - h) ∧ Below w.heap.size w w'

/-- The whole script: it turns the one into the other, and is as short as any. -/
theorem Scripted.whole {E : Nat → Nat → Bool} {n m h t : Nat} {st mid : List Int} (hst : st = List.replicate h 32 ++ mid ++ List.replicate t 32) (hn : h ≤ n) (hm : h ≤ m) (htn : t ≤ n - h) (htm : t ≤ m - h)
    (hh : ∀ i, i < h → E i i = true) (ht : ∀ i, i < t → E (n - 1 - i) (m - 1 - i) = true)
    (hr : Plain.Reach (fun i j => E (i + h) (j + h)) mid.reverse (n - t - h) (m - t - h)) (hc : mid.count 32 = L (fun i j => E (i + h) (j + h)) (n - t - h) (m - t - h)) :
    Plain.Reach E st.reverse n m ∧ st.count 32 = L E n m := by
  have hs := Plain.Reach.shift hh hr
  rw [show n - t - h + h = n - t by omega, show m - t - h + h = m - t by omega] at hs
  have htail : ∀ j, j < t → E (n - t + j) (m - t + j) = true := by
    intro j hj
    have := ht (t - 1 - j) (by omega)
    rw [show n - 1 - (t - 1 - j) = n - t + j by omega, show m - 1 - (t - 1 - j) = m - t + j by omega] at this
    exact this
  have hw := Plain.Reach.slide t hs htail
  rw [show n - t + t = n by omega, show m - t + t = m by omega] at hw
  have e1 : st.reverse = List.replicate t 32 ++ (mid.reverse ++ List.replicate h 32) := by rw [hst]; simp [List.append_assoc]
  constructor
  · rw [e1]; exact hw
  · have h1 := Plain.L_heads E h (n - t - h) (m - t - h) hh
    rw [show n - t - h + h = n - t by omega, show m - t - h + h = m - t by omega] at h1
    have h2 := Plain.L_tails E (n - t) (m - t) t htail
    rw [show n - t + t = n by omega, show m - t + t = m by omega] at h2
    rw [h2, h1, ← hc, hst]
    simp only [List.count_append, List.count_replicate_self]
    omega

/-- A part of a slice of strings. -/
theorem Strs.part {w : World} {a : Option Addr} {n c : Nat} {A : List ByteArray} (hA : Strs w a n c A) (h t : Nat) (_ht : t ≤ n - h) (hh : h ≤ n) (a1 : Option Addr) (ha1 : a1 = if c = h then a else a.map (·.add (h * 1))) :
    Strs w a1 (n - t - h) (c - h) ((A.drop h).take (n - t - h)) := by
  obtain ⟨h1, h2, h3, h4⟩ := hA
  refine ⟨by simp; omega, by omega, by omega, fun hpos => ?_⟩
  obtain ⟨b, o, rfl, hb, hc⟩ := h4 (by omega)
  rw [if_neg (by omega)] at ha1
  refine ⟨b, o + h, by rw [ha1]; simp [Addr.add], hb, fun i hi => ?_⟩
  rw [Nat.add_assoc, hc (h + i) (by omega)]
  simp [hi]

theorem eqE_part {A B : List ByteArray} {n m h t : Nat} (hA : A.length = n) (hB : B.length = m) (i j : Nat) (hi : i < n - t - h) (hj : j < m - t - h) :
    eqE ((A.drop h).take (n - t - h)) ((B.drop h).take (m - t - h)) i j = eqE A B (i + h) (j + h) := by
  have e1 : ((A.drop h).take (n - t - h)).getD i ByteArray.empty = A.getD (i + h) ByteArray.empty := by simp [hi, Nat.add_comm]
  have e2 : ((B.drop h).take (m - t - h)).getD j ByteArray.empty = B.getD (j + h) ByteArray.empty := by simp [hj, Nat.add_comm]
  unfold eqE
  rw [e1, e2]
  have l1 : ((A.drop h).take (n - t - h)).length = n - t - h := by simp; omega
  have l2 : ((B.drop h).take (m - t - h)).length = m - t - h := by simp; omega
  rw [l1, l2, hA, hB, decide_eq_true hi, decide_eq_true hj, decide_eq_true (by omega : i + h < n), decide_eq_true (by omega : j + h < m)]

/-- What search found of the parts, said of the wholes. -/
theorem part_found {A B : List ByteArray} {n m h t : Nat} {mid : List Int} (hA : A.length = n) (hB : B.length = m)
    (hr : Plain.Reach (eqE ((A.drop h).take (n - t - h)) ((B.drop h).take (m - t - h))) mid.reverse (n - t - h) (m - t - h))
    (hc : mid.count 32 = L (eqE ((A.drop h).take (n - t - h)) ((B.drop h).take (m - t - h))) (n - t - h) (m - t - h)) :
    Plain.Reach (fun i j => eqE A B (i + h) (j + h)) mid.reverse (n - t - h) (m - t - h) ∧ mid.count 32 = L (fun i j => eqE A B (i + h) (j + h)) (n - t - h) (m - t - h) :=
  ⟨hr.congr fun i j hi hj he => by rw [← eqE_part hA hB i j hi hj]; exact he, by rw [hc]; exact Plain.L_congr _ _ _ _ _ rfl fun i j hi hj => eqE_part hA hB i j hi hj⟩

theorem elem22 : Try.prog.underlying 22 = some (.slice (Try.prog.elem 22)) := by kernel_rfl
theorem size22 (w : World) : (Go.sizeOf (Try.prog.elem 22)).run Try.prog w = .ok 1 w := by kernel_rfl

theorem slice22 (a : Option Addr) (n ca h t : Nat) (hn : h ≤ n) (ht : t ≤ n - h) (hc : n ≤ ca) (w : World) :
    (Instr.slice 22 (.slice a n ca) (some (.int .i64 (h : Int))) (some (.int .i64 ((n : Int) - t))) none).run Try.prog w = .ok (.slice (if ca = h then a else a.map (·.add (h * 1))) (n - t - h) (ca - h)) w := by
  rw [run_slice_lh w 22 a n ca elem22 .i64 .i64 h (n - t) (by omega) (by omega) (by omega), size22]
  have e1 : ((h : Nat) : Int).toNat = h := by omega
  have e2 : ((n : Int) - t).toNat = n - t := by omega
  simp only [Result.andThen, sliced, e1, e2]

theorem below_grown {w w' : World} (h : Below w.heap.size w w') : w.grownBy w' none := ⟨h.os, h.tape, h.output, h.size, fun k hk _ => h.block k hk⟩

theorem bytes_one (l : List Int) : ∀ u ∈ l.map (Value.int .u8), u.oneCell' = true := ints_oneCell .u8 l
end Go.Proofs.Qxb6601177a
