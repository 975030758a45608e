/-
  What trace does, as plain laws. No Go in sight.
-/
import Derived.Test.Qxb6601177aMath
namespace Go.Proofs.Qxb6601177a.Plain

theorem V_succ (E : Nat → Nat → Bool) (n d : Nat) (k : Int) : V E n (d + 1) k = slide E n (start (d + 1 : Nat) k (V E n d (k - 1)) (V E n d (k + 1))) ((start (d + 1 : Nat) k (V E n d (k - 1)) (V E n d (k + 1)) : Int) - k).toNat := by
  rw [V]

/-- From where the slide of round d+1 on diagonal k begins to where it ends. -/
theorem slid (E : Nat → Nat → Bool) (n d : Nat) (k : Int) (hv : Val (d + 1) k) (s : Nat) (hs : start (d + 1 : Nat) k (V E n d (k - 1)) (V E n d (k + 1)) = s) (r : List Int)
    (hr : Reach E r s ((s : Int) - k).toNat) : s ≤ V E n (d + 1) k ∧ Reach E (List.replicate (V E n (d + 1) k - s) 32 ++ r) (V E n (d + 1) k) ((V E n (d + 1) k : Int) - k).toNat := by
  have hg := start_ge E n d k hv
  rw [hs] at hg
  have e : V E n (d + 1) k = slide E n s ((s : Int) - k).toNat := by rw [V_succ, hs]
  have h1 := slide_ge E n s ((s : Int) - k).toNat
  have h := Reach.slide (E := E) (slide E n s ((s : Int) - k).toNat - s) hr (fun j hj => slide_run E n s ((s : Int) - k).toNat j (by omega))
  rw [show s + (slide E n s ((s : Int) - k).toNat - s) = slide E n s ((s : Int) - k).toNat by omega] at h
  rw [e]
  refine ⟨h1, ?_⟩
  rw [show ((slide E n s ((s : Int) - k).toNat : Int) - k).toNat = ((s : Int) - k).toNat + (slide E n s ((s : Int) - k).toNat - s) by omega]
  exact h

/-- One round back, by a line added. -/
theorem back_down (E : Nat → Nat → Bool) (n d x y : Nat) (hv : Val (d + 1) ((x : Int) - y)) (hV : V E n (d + 1) ((x : Int) - y) = x)
    (hd : down (d + 1 : Nat) ((x : Int) - y) (V E n d ((x : Int) - y - 1)) (V E n d ((x : Int) - y + 1)) = true) :
    Val d ((x : Int) - y + 1) ∧ V E n d ((x : Int) - y + 1) ≤ x ∧ (x : Int) - y + 1 ≤ V E n d ((x : Int) - y + 1) ∧
      ∀ (r : List Int) (y' : Nat), (y' : Int) = (V E n d ((x : Int) - y + 1) : Int) - ((x : Int) - y + 1) → Reach E r (V E n d ((x : Int) - y + 1)) y' → Reach E (List.replicate (x - V E n d ((x : Int) - y + 1)) 32 ++ 43 :: r) x y := by
  have hv' := down_true hv hd
  have hs : start (d + 1 : Nat) ((x : Int) - y) (V E n d ((x : Int) - y - 1)) (V E n d ((x : Int) - y + 1)) = V E n d ((x : Int) - y + 1) := by unfold start; rw [if_pos hd]
  have hg := V_ge E n d _ hv'
  have hle : V E n d ((x : Int) - y + 1) ≤ x := by
    have h1 := slide_ge E n (V E n d ((x : Int) - y + 1)) ((V E n d ((x : Int) - y + 1) : Int) - ((x : Int) - y)).toNat
    have h2 := V_succ E n d ((x : Int) - y)
    rw [hs, hV] at h2
    omega
  refine ⟨hv', hle, hg, ?_⟩
  intro r y' hy hr
  have h := (slid E n d _ hv _ hs (43 :: r) (.inr (.inr ⟨rfl, y', by omega, hr⟩))).2
  rw [hV] at h
  rw [show ((x : Int) - ((x : Int) - y)).toNat = y by omega] at h
  exact h

/-- One round back, by a line removed. -/
theorem back_right (E : Nat → Nat → Bool) (n d x y : Nat) (hv : Val (d + 1) ((x : Int) - y)) (hV : V E n (d + 1) ((x : Int) - y) = x)
    (hd : down (d + 1 : Nat) ((x : Int) - y) (V E n d ((x : Int) - y - 1)) (V E n d ((x : Int) - y + 1)) = false) :
    Val d ((x : Int) - y - 1) ∧ V E n d ((x : Int) - y - 1) + 1 ≤ x ∧ (x : Int) - y - 1 ≤ V E n d ((x : Int) - y - 1) ∧
      ∀ (r : List Int) (y' : Nat), (y' : Int) = (V E n d ((x : Int) - y - 1) : Int) - ((x : Int) - y - 1) → Reach E r (V E n d ((x : Int) - y - 1)) y' → Reach E (List.replicate (x - (V E n d ((x : Int) - y - 1) + 1)) 32 ++ 45 :: r) x y := by
  have hv' := down_false hv hd
  have hs : start (d + 1 : Nat) ((x : Int) - y) (V E n d ((x : Int) - y - 1)) (V E n d ((x : Int) - y + 1)) = V E n d ((x : Int) - y - 1) + 1 := by unfold start; rw [hd]; rfl
  have hg := V_ge E n d _ hv'
  have hle : V E n d ((x : Int) - y - 1) + 1 ≤ x := by
    have h1 := slide_ge E n (V E n d ((x : Int) - y - 1) + 1) (((V E n d ((x : Int) - y - 1) + 1 : Nat) : Int) - ((x : Int) - y)).toNat
    have h2 := V_succ E n d ((x : Int) - y)
    rw [hs, hV] at h2
    omega
  refine ⟨hv', hle, hg, ?_⟩
  intro r y' hy hr
  have hy2 : (((V E n d ((x : Int) - y - 1) + 1 : Nat) : Int) - ((x : Int) - y)).toNat = y' := by omega
  have h := (slid E n d _ hv _ hs (45 :: r) (by rw [hy2]; exact .inr (.inl ⟨rfl, _, rfl, hr⟩))).2
  rw [hV] at h
  rw [show ((x : Int) - ((x : Int) - y)).toNat = y by omega] at h
  exact h

theorem back_end (E : Nat → Nat → Bool) (n x y : Nat) (hv : Val 0 ((x : Int) - y)) (hV : V E n 0 ((x : Int) - y) = x) : Reach E (List.replicate x 32) x y := by
  have hxy : x = y := by unfold Val at hv; omega
  have e : slide E n 0 0 = x := by rw [← hV, V]
  have h := Reach.slide (E := E) (r := []) (x := 0) (y := 0) x ⟨rfl, rfl⟩ (fun j hj => by have := slide_run E n 0 0 j (by omega); simpa using this)
  rw [List.append_nil, Nat.zero_add] at h
  rw [← hxy]
  exact h

theorem Reach.len {E : Nat → Nat → Bool} {r : List Int} {x y : Nat} (h : Reach E r x y) : r.length ≤ x + y := by
  have := h.xy; omega

theorem Reach.parts {E : Nat → Nat → Bool} {s r : List Int} {x y n m : Nat} (h : Reach E r x y) (h2 : Reach E (s ++ r) n m) : x ≤ n ∧ y ≤ m ∧ s.length ≤ n + m := by
  have h3 := h.xy
  have h4 := h2.xy
  have h5 := h2.len
  simp only [List.count_append, List.length_append] at h4 h5
  omega

theorem ed_append (s r : List Int) : ed (s ++ r) = ed s + ed r := by simp [ed, List.count_append]; omega
theorem ed_replicate (i : Nat) : ed (List.replicate i 32) = 0 := by
  have := ed_replicate_append i []
  simpa [ed] using this

/-- What the swaps have made of s behind i of them. -/
def Swapped (s ys : List Int) (i : Nat) : Prop :=
  ys.length = s.length ∧ ∀ p, p < s.length → ys.getD p 0 = if p < i ∨ s.length - 1 - i < p then s.getD (s.length - 1 - p) 0 else s.getD p 0

theorem Swapped.start (s : List Int) : Swapped s s 0 := ⟨rfl, fun p hp => by rw [if_neg (by omega)]⟩

theorem getD_set (l : List Int) (i p : Nat) (x : Int) (hi : i < l.length) : (l.set i x).getD p 0 = if p = i then x else l.getD p 0 := by
  by_cases h : p = i
  · subst h; simp [hi]
  · simp [Ne.symm h, h]

theorem Swapped.step {s ys : List Int} {i : Nat} (h : Swapped s ys i) (hij : 2 * i + 1 < s.length) :
    Swapped s ((ys.set i (ys.getD (s.length - 1 - i) 0)).set (s.length - 1 - i) (ys.getD i 0)) (i + 1) := by
  have e1 := h.2 i (by omega)
  have e2 := h.2 (s.length - 1 - i) (by omega)
  rw [if_neg (by omega)] at e1 e2
  refine ⟨by simp [h.1], fun p hp => ?_⟩
  rw [getD_set _ _ _ _ (by simp [h.1]; omega), getD_set _ _ _ _ (by rw [h.1]; omega)]
  by_cases h1 : p = s.length - 1 - i
  · rw [if_pos h1, if_pos (.inr (by omega)), e1, h1]
    congr 1; omega
  · rw [if_neg h1]
    by_cases h2 : p = i
    · rw [if_pos h2, if_pos (.inl (by omega)), e2, h2]
    · rw [if_neg h2, h.2 p hp]
      by_cases h3 : p < i ∨ s.length - 1 - i < p
      · rw [if_pos h3, if_pos (by omega)]
      · rw [if_neg h3, if_neg (by omega)]

theorem Swapped.done {s ys : List Int} {i : Nat} (h : Swapped s ys i) (hij : s.length ≤ 2 * i + 1) : ys = s.reverse := by
  apply List.ext_getElem?
  intro p
  by_cases hp : p < s.length
  · have h1 := h.2 p hp
    have h2 : p < ys.length := by rw [h.1]; exact hp
    rw [List.getElem?_reverse hp]
    have h3 : s.length - 1 - p < s.length := by omega
    rw [List.getElem?_eq_getElem h2, List.getElem?_eq_getElem h3]
    congr 1
    have h4 : ys.getD p 0 = ys[p] := by simp [h2]
    have h5 : s.getD (s.length - 1 - p) 0 = s[s.length - 1 - p] := by simp [h3]
    rw [← h4, ← h5, h1]
    by_cases h6 : p < i ∨ s.length - 1 - i < p
    · rw [if_pos h6]
    · rw [if_neg h6]; congr 1; omega
  · rw [List.getElem?_eq_none (by rw [h.1]; omega), List.getElem?_eq_none (by simp; omega)]

end Go.Proofs.Qxb6601177a.Plain
