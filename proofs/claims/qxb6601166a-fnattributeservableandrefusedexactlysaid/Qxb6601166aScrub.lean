/-
  The scrub that Attribute makes, as plain functions on lists of numbers, and what they give. No Go in sight but the names of the byte predicates.
-/
import Derived.Test.Qxb6601166aNameByte
import Derived.Test.Qxb6601166aOneByte
namespace Go.Proofs.Qxb6601166a

def low (c : Int) : Int := if upB c then c + 32 else c
/-- Does '_' go in ahead of place i? -/
def barAt (K : List Int) (i : Nat) : Bool := (decide (0 < i)) && upB (K.getD i 0) && lowB (K.getD (i - 1) 0)
def piece (K : List Int) (i : Nat) : List Int := (if barAt K i then [95] else []) ++ [low (K.getD i 0)]
def outp (K : List Int) : Nat → List Int
  | 0 => []
  | k + 1 => outp K k ++ piece K k
def lead (K : List Int) : Nat := (K.takeWhile digB).length
def attrL (K : List Int) : List Int := outp (K.drop (lead K)) (K.length - lead K)
def attr (s : ByteArray) : ByteArray := strOfNums (attrL (kept (bytesOf s)))

theorem low_bounds (c : Int) (h0 : 0 ≤ c) (h1 : c ≤ 255) : 0 ≤ low c ∧ low c ≤ 255 := by
  unfold low upB; split
  · rename_i h; simp at h; omega
  · omega

theorem low_ok (c : Int) (h : keepB c = true) : (lowB (low c) || digB (low c) || (low c == 95)) = true := by
  unfold low
  by_cases hu : upB c = true
  · rw [if_pos hu]
    simp [upB] at hu
    simp [lowB]; omega
  · rw [if_neg hu]
    simp [keepB, hu] at h
    simp
    omega

theorem piece_ok (K : List Int) (i : Nat) (hi : i < K.length) (hK : ∀ x ∈ K, keepB x = true) : ∀ x ∈ piece K i, (lowB x || digB x || (x == 95)) = true := by
  intro x hx
  unfold piece at hx
  rw [List.mem_append] at hx
  rcases hx with hx | hx
  · split at hx
    · simp at hx; subst hx; decide
    · cases hx
  · simp at hx
    subst hx
    have : K[i]?.getD 0 ∈ K := by simp [hi]
    exact low_ok _ (hK _ this)

theorem outp_ok (K : List Int) (hK : ∀ x ∈ K, keepB x = true) : ∀ k, k ≤ K.length → ∀ x ∈ outp K k, (lowB x || digB x || (x == 95)) = true := by
  intro k
  induction k with
  | zero => intro _ x hx; cases hx
  | succ k ih =>
    intro hk x hx
    rw [outp, List.mem_append] at hx
    rcases hx with hx | hx
    · exact ih (by omega) x hx
    · exact piece_ok K k (by omega) hK x hx

theorem piece_length (K : List Int) (i : Nat) : (piece K i).length = (if barAt K i then 1 else 0) + 1 := by
  unfold piece; split <;> simp

theorem outp_length (K : List Int) : ∀ k, (outp K k).length ≤ k + k / 2 ∧ (barAt K k = true → (outp K k).length ≤ k + (k - 1) / 2) := by
  intro k
  induction k with
  | zero => simp [outp]
  | succ k ih =>
    have e : (outp K (k + 1)).length = (outp K k).length + ((if barAt K k then 1 else 0) + 1) := by rw [outp, List.length_append, piece_length]
    rw [e]
    constructor
    · by_cases hb : barAt K k = true
      · have h1 := ih.2 hb
        have h2 : 0 < k := by unfold barAt at hb; simp at hb; omega
        rw [if_pos hb]; omega
      · rw [if_neg hb]; omega
    · intro hb
      have : ¬ barAt K k = true := by
        intro hb2
        unfold barAt at hb hb2
        simp [lowB, upB] at hb hb2
        omega
      rw [if_neg this]; omega

theorem outp_pos (K : List Int) : ∀ k, k ≤ (outp K k).length := by
  intro k
  induction k with
  | zero => omega
  | succ k ih => rw [outp, List.length_append, piece_length]; omega

theorem outp_first (K : List Int) : ∀ k, 0 < k → (outp K k).getD 0 0 = low (K.getD 0 0) := by
  intro k
  induction k with
  | zero => intro h; omega
  | succ k ih =>
    intro _
    cases k with
    | zero => simp [outp, piece, barAt]
    | succ k =>
      have h1 := ih (by omega)
      have h2 := outp_pos K (k + 1)
      rw [outp]
      rw [← h1]
      simp only [List.getD_eq_getElem?_getD]
      rw [List.getElem?_append_left (by omega)]

theorem lead_le (K : List Int) : lead K ≤ K.length := (List.takeWhile_prefix _).length_le

theorem lead_at (K : List Int) (h : lead K < K.length) : digB (K.getD (lead K) 0) = false := by
  unfold lead at *
  induction K with
  | nil => simp at h
  | cons c r ih =>
    cases hc : digB c
    · simp [hc]
    · rw [List.takeWhile_cons_of_pos hc] at h ⊢
      have := ih (by simpa using h)
      simpa using this

theorem lead_before (K : List Int) : ∀ i, i < lead K → digB (K.getD i 0) = true := by
  unfold lead
  induction K with
  | nil => intro i h; simp at h
  | cons c r ih =>
    intro i h
    cases hc : digB c
    · simp [hc] at h
    · rw [List.takeWhile_cons_of_pos hc] at h
      cases i with
      | zero => simpa using hc
      | succ i => simpa using ih i (by simpa using h)

/-- Two ways to say where the digits end. -/
theorem lead_eq (K : List Int) (i : Nat) (h1 : ∀ j, j < i → digB (K.getD j 0) = true) (h2 : i ≤ K.length) (h3 : i < K.length → digB (K.getD i 0) = false) : i = lead K := by
  rcases Nat.lt_trichotomy i (lead K) with h | h | h
  · have h4 := lead_le K
    have h5 := lead_before K i h
    rw [h3 (by omega)] at h5; cases h5
  · exact h
  · have h5 := h1 _ h
    rw [lead_at K (by omega)] at h5; cases h5

theorem attrL_ok (K : List Int) (hK : ∀ x ∈ K, keepB x = true) : ∀ x ∈ attrL K, (lowB x || digB x || (x == 95)) = true :=
  outp_ok _ (fun x hx => hK x (List.mem_of_mem_drop hx)) _ (by simp)

theorem attrL_length (K : List Int) : (attrL K).length ≤ K.length + K.length / 2 := by
  have := (outp_length (K.drop (lead K)) (K.length - lead K)).1
  unfold attrL; omega

theorem attrL_first (K : List Int) (hK : ∀ x ∈ K, keepB x = true) (h : 0 < (attrL K).length) : digB ((attrL K).getD 0 0) = false := by
  by_cases hl : lead K < K.length
  · unfold attrL
    rw [outp_first _ _ (by omega)]
    have e : (K.drop (lead K)).getD 0 0 = K.getD (lead K) 0 := by simp
    rw [e]
    have h1 := lead_at K hl
    have h2 := hK (K.getD (lead K) 0) (by simp [hl])
    generalize K.getD (lead K) 0 = c at *
    unfold low
    by_cases hu : upB c = true
    · rw [if_pos hu]; simp [upB] at hu; simp [digB]; omega
    · rw [if_neg hu]; exact h1
  · have e : attrL K = [] := by
      have : K.length - lead K = 0 := by omega
      unfold attrL; rw [this]; rfl
    rw [e] at h; cases h

theorem attrL_nil (K : List Int) : (attrL K).isEmpty = K.all digB := by
  have hp := outp_pos (K.drop (lead K)) (K.length - lead K)
  by_cases hl : lead K < K.length
  · have h1 := lead_at K hl
    have e1 : K.all digB = false := by
      rw [List.all_eq_false]
      exact ⟨K.getD (lead K) 0, by simp [hl], by simpa using h1⟩
    rw [e1]
    have : 0 < (attrL K).length := by unfold attrL; omega
    cases hA : attrL K with
    | nil => rw [hA] at this; cases this
    | cons _ _ => rfl
  · have h2 := lead_le K
    have e2 : K.all digB = true := by
      rw [List.all_eq_true]
      intro x hx
      obtain ⟨i, hi, rfl⟩ := List.getElem_of_mem hx
      have := lead_before K i (by omega)
      simpa [hi] using this
    rw [e2]
    have : K.length - lead K = 0 := by omega
    unfold attrL; rw [this]; rfl

def hasB (l : List Int) : Bool := l.any (fun c => keepB c && !digB c)

theorem kept_digits (l : List Int) : (kept l).all digB = !hasB l := by
  unfold hasB kept
  rw [Bool.eq_iff_iff]
  simp only [List.all_eq_true, List.mem_filter, Bool.not_eq_true', List.any_eq_false, Bool.and_eq_true]
  constructor
  · intro h x hx hk
    obtain ⟨h1, h2⟩ := hk
    have := h x ⟨hx, h1⟩
    rw [this] at h2; simp at h2
  · intro h x hx
    have := h x hx.1
    simp [hx.2] at this
    exact this

theorem attrL_bounds (K : List Int) (hK : ∀ x ∈ K, keepB x = true) : ∀ x ∈ attrL K, 0 ≤ x ∧ x ≤ 255 := by
  intro x hx
  have := attrL_ok K hK x hx
  simp [lowB, digB] at this
  omega

theorem bytesOf_strOfNums (xs : List Int) (h : ∀ x ∈ xs, 0 ≤ x ∧ x ≤ 255) : bytesOf (strOfNums xs) = xs := by
  unfold bytesOf
  rw [strOfNums_data, List.map_map]
  conv => rhs; rw [← List.map_id xs]
  apply List.map_congr_left
  intro x hx
  have := h x hx
  simp
  omega

theorem kept_keep (l : List Int) : ∀ x ∈ kept l, keepB x = true := by intro x hx; simp [kept] at hx; exact hx.2
end Go.Proofs.Qxb6601166a
