namespace Go.Proofs.Qxb6601177a.Plain

/-! Myers' search and the textbook LCS, over a bare relation E of matches. No Go in sight. -/

def slide (E : Nat → Nat → Bool) : Nat → Nat → Nat → Nat
  | 0, x, _ => x
  | f + 1, x, y => if E x y then slide E f (x + 1) (y + 1) else x

theorem slide_ge (E : Nat → Nat → Bool) : ∀ f x y, x ≤ slide E f x y := by
  intro f
  induction f with
  | zero => intro x y; exact Nat.le_refl _
  | succ f ih =>
    intro x y
    unfold slide
    split
    · have := ih (x + 1) (y + 1); omega
    · exact Nat.le_refl _

theorem slide_run (E : Nat → Nat → Bool) : ∀ f x y i, x + i < slide E f x y → E (x + i) (y + i) = true := by
  intro f
  induction f with
  | zero => intro x y i h; unfold slide at h; omega
  | succ f ih =>
    intro x y i h
    unfold slide at h
    split at h
    · rename_i he
      cases i with
      | zero => simpa using he
      | succ i =>
        have := ih (x + 1) (y + 1) i (by omega)
        rw [show x + (i + 1) = x + 1 + i by omega, show y + (i + 1) = y + 1 + i by omega]
        exact this
    · omega

theorem slide_stop {E : Nat → Nat → Bool} {n : Nat} (hE : ∀ x y, E x y = true → x < n) :
    ∀ f x y, n ≤ x + f → E (slide E f x y) (y + (slide E f x y - x)) = false := by
  intro f
  induction f with
  | zero =>
    intro x y h
    unfold slide
    cases he : E x (y + (x - x)) with
    | false => rfl
    | true => have := hE _ _ he; omega
  | succ f ih =>
    intro x y h
    unfold slide
    split
    · have h1 := ih (x + 1) (y + 1) (by omega)
      have h2 := slide_ge E f (x + 1) (y + 1)
      rw [show y + (slide E f (x + 1) (y + 1) - x) = y + 1 + (slide E f (x + 1) (y + 1) - (x + 1)) by omega]
      exact h1
    · rename_i he
      simpa using he

theorem slide_le {E : Nat → Nat → Bool} {n : Nat} (hE : ∀ x y, E x y = true → x < n) (f x y : Nat) :
    slide E f x y ≤ x ∨ slide E f x y ≤ n := by
  by_cases h : slide E f x y ≤ x
  · exact .inl h
  · right
    have h1 := slide_run E f x y (slide E f x y - 1 - x) (by omega)
    have := hE _ _ h1
    omega

theorem slide_eq {E : Nat → Nat → Bool} {n : Nat} (hE : ∀ x y, E x y = true → x < n) (f x y i : Nat) (hf : n ≤ x + f)
    (h1 : ∀ j, j < i → E (x + j) (y + j) = true) (h2 : E (x + i) (y + i) = false) : slide E f x y = x + i := by
  have g := slide_ge E f x y
  have s := slide_stop hE f x y hf
  rcases Nat.lt_trichotomy (slide E f x y) (x + i) with h | h | h
  · have := h1 (slide E f x y - x) (by omega)
    rw [show x + (slide E f x y - x) = slide E f x y by omega, s] at this
    cases this
  · exact h
  · have := slide_run E f x y i h
    rw [h2] at this
    cases this

/-- Does the path on diagonal k of round d come down from diagonal k+1? -/
def down (d k : Int) (l r : Nat) : Bool := k == -d || (k != d && decide (l < r))

def start (d k : Int) (l r : Nat) : Nat := if down d k l r then r else l + 1

/-- How far along the first text the path on diagonal k reaches with d edits. -/
def V (E : Nat → Nat → Bool) (n : Nat) : Nat → Int → Nat
  | 0, _ => slide E n 0 0
  | d + 1, k => slide E n (start (d + 1 : Nat) k (V E n d (k - 1)) (V E n d (k + 1))) ((start (d + 1 : Nat) k (V E n d (k - 1)) (V E n d (k + 1)) : Int) - k).toNat

def Val (d : Nat) (k : Int) : Prop := -(d : Int) ≤ k ∧ k ≤ d ∧ (k + d) % 2 = 0

theorem down_true {d : Nat} {k : Int} {l r : Nat} (hv : Val (d + 1) k) (h : down (d + 1 : Nat) k l r = true) : Val d (k + 1) := by
  unfold Val at *
  simp [down] at h
  omega

theorem down_false {d : Nat} {k : Int} {l r : Nat} (hv : Val (d + 1) k) (h : down (d + 1 : Nat) k l r = false) : Val d (k - 1) := by
  unfold Val at *
  simp [down] at h
  omega

theorem V_ge (E : Nat → Nat → Bool) (n : Nat) : ∀ d k, Val d k → k ≤ V E n d k := by
  intro d
  induction d with
  | zero => intro k h; unfold Val at h; omega
  | succ d ih =>
    intro k h
    unfold V
    have g := slide_ge E n (start (d + 1 : Nat) k (V E n d (k - 1)) (V E n d (k + 1))) ((start (d + 1 : Nat) k (V E n d (k - 1)) (V E n d (k + 1)) : Int) - k).toNat
    have : k ≤ start (d + 1 : Nat) k (V E n d (k - 1)) (V E n d (k + 1)) := by
      unfold start
      split
      · rename_i hd
        have := ih _ (down_true h hd); omega
      · rename_i hd
        have := ih _ (down_false h (by simpa using hd)); omega
    omega

theorem start_ge (E : Nat → Nat → Bool) (n : Nat) (d : Nat) (k : Int) (h : Val (d + 1) k) : k ≤ start (d + 1 : Nat) k (V E n d (k - 1)) (V E n d (k + 1)) := by
  unfold start
  split
  · rename_i hd
    have := V_ge E n _ _ (down_true h hd); omega
  · rename_i hd
    have := V_ge E n _ _ (down_false h (by simpa using hd)); omega

theorem V_le {E : Nat → Nat → Bool} {n : Nat} (hE : ∀ x y, E x y = true → x < n) : ∀ d k, V E n d k ≤ n + d := by
  intro d
  induction d with
  | zero =>
    intro k
    unfold V
    rcases slide_le hE n 0 0 with h | h <;> omega
  | succ d ih =>
    intro k
    unfold V
    have h1 := ih (k - 1)
    have h2 := ih (k + 1)
    have : start (d + 1 : Nat) k (V E n d (k - 1)) (V E n d (k + 1)) ≤ n + d + 1 := by unfold start; split <;> omega
    rcases slide_le hE n (start (d + 1 : Nat) k (V E n d (k - 1)) (V E n d (k + 1))) ((start (d + 1 : Nat) k (V E n d (k - 1)) (V E n d (k + 1)) : Int) - k).toNat with h | h <;> omega

theorem start_le {E : Nat → Nat → Bool} {n : Nat} (hE : ∀ x y, E x y = true → x < n) (d : Nat) (k : Int) :
    start (d + 1 : Nat) k (V E n d (k - 1)) (V E n d (k + 1)) ≤ n + d + 1 := by
  have h1 := V_le hE d (k - 1)
  have h2 := V_le hE d (k + 1)
  unfold start; split <;> omega

/-- The list r of steps, the LAST STEP FIRST, leads from (0, 0) to (x, y). -/
def Reach (E : Nat → Nat → Bool) : List Int → Nat → Nat → Prop
  | [], x, y => x = 0 ∧ y = 0
  | c :: r, x, y =>
    (c = 32 ∧ ∃ x' y', x = x' + 1 ∧ y = y' + 1 ∧ E x' y' = true ∧ Reach E r x' y') ∨
    (c = 45 ∧ ∃ x', x = x' + 1 ∧ Reach E r x' y) ∨
    (c = 43 ∧ ∃ y', y = y' + 1 ∧ Reach E r x y')

def ed (r : List Int) : Nat := r.count 45 + r.count 43

theorem Reach.xy {E : Nat → Nat → Bool} : ∀ {r x y}, Reach E r x y → x = r.count 32 + r.count 45 ∧ y = r.count 32 + r.count 43 ∧ r.length = r.count 32 + r.count 45 + r.count 43 := by
  intro r
  induction r with
  | nil => intro x y h; simpa [Reach] using h
  | cons c r ih =>
    intro x y h
    rcases h with ⟨rfl, x', y', rfl, rfl, _, h⟩ | ⟨rfl, x', rfl, h⟩ | ⟨rfl, y', rfl, h⟩
    all_goals
      have := ih h
      simp
      omega

theorem ed_same (r : List Int) : ed (32 :: r) = ed r := by simp [ed]
theorem ed_remove (r : List Int) : ed (45 :: r) = ed r + 1 := by simp [ed]; omega
theorem ed_add (r : List Int) : ed (43 :: r) = ed r + 1 := by simp [ed]; omega

theorem V_stop {E : Nat → Nat → Bool} {n : Nat} (hE : ∀ x y, E x y = true → x < n) (d : Nat) (k : Int) (hv : Val d k) :
    E (V E n d k) ((V E n d k : Int) - k).toNat = false := by
  cases d with
  | zero =>
    unfold Val at hv
    have : k = 0 := by omega
    subst this
    unfold V
    have := slide_stop hE n 0 0 (by omega)
    simpa using this
  | succ d =>
    have hs := start_ge E n d k hv
    unfold V
    generalize hst : start (d + 1 : Nat) k (V E n d (k - 1)) (V E n d (k + 1)) = s at *
    have h1 := slide_stop hE n s ((s : Int) - k).toNat (by omega)
    have h2 := slide_ge E n s ((s : Int) - k).toNat
    rw [show ((slide E n s ((s : Int) - k).toNat : Int) - k).toNat = ((s : Int) - k).toNat + (slide E n s ((s : Int) - k).toNat - s) by omega]
    exact h1

/-- No path with d edits reaches further on its diagonal. -/
theorem furthest {E : Nat → Nat → Bool} {n : Nat} (hE : ∀ x y, E x y = true → x < n) : ∀ r x y, Reach E r x y → Val (ed r) ((x : Int) - y) ∧ x ≤ V E n (ed r) ((x : Int) - y) := by
  intro r
  induction r with
  | nil =>
    intro x y h
    simp [Reach] at h
    obtain ⟨rfl, rfl⟩ := h
    exact ⟨by simp [Val, ed], Nat.zero_le _⟩
  | cons c r ih =>
    intro x y h
    rcases h with ⟨rfl, x', y', rfl, rfl, he, h⟩ | ⟨rfl, x', rfl, h⟩ | ⟨rfl, y', rfl, h⟩
    · obtain ⟨hv, hx⟩ := ih _ _ h
      rw [ed_same]
      have e : ((x' + 1 : Nat) : Int) - ((y' + 1 : Nat) : Int) = (x' : Int) - y' := by omega
      rw [e]
      refine ⟨hv, ?_⟩
      rcases Nat.lt_or_ge x' (V E n (ed r) ((x' : Int) - y')) with g | g
      · omega
      · have := V_stop hE _ _ hv
        have e2 : V E n (ed r) ((x' : Int) - y') = x' := by omega
        rw [e2, show ((x' : Int) - ((x' : Int) - y')).toNat = y' by omega, he] at this
        cases this
    · obtain ⟨hv, hx⟩ := ih _ _ h
      rw [ed_remove]
      have e : ((x' + 1 : Nat) : Int) - y = (x' : Int) - y + 1 := by omega
      rw [e]
      generalize hk : (x' : Int) - y = k at *
      refine ⟨by unfold Val at *; omega, ?_⟩
      have g := slide_ge E n (start (ed r + 1 : Nat) (k + 1) (V E n (ed r) (k + 1 - 1)) (V E n (ed r) (k + 1 + 1))) ((start (ed r + 1 : Nat) (k + 1) (V E n (ed r) (k + 1 - 1)) (V E n (ed r) (k + 1 + 1)) : Int) - (k + 1)).toNat
      have : x' + 1 ≤ start (ed r + 1 : Nat) (k + 1) (V E n (ed r) (k + 1 - 1)) (V E n (ed r) (k + 1 + 1)) := by
        rw [show k + 1 - 1 = k by omega]
        unfold start
        split
        · rename_i hd
          simp [down] at hd
          unfold Val at hv
          omega
        · omega
      show _ ≤ V E n (ed r + 1) (k + 1)
      unfold V
      omega
    · obtain ⟨hv, hx⟩ := ih _ _ h
      rw [ed_add]
      have e : (x : Int) - ((y' + 1 : Nat) : Int) = (x : Int) - y' - 1 := by omega
      rw [e]
      generalize hk : (x : Int) - y' = k at *
      refine ⟨by unfold Val at *; omega, ?_⟩
      have g := slide_ge E n (start (ed r + 1 : Nat) (k - 1) (V E n (ed r) (k - 1 - 1)) (V E n (ed r) (k - 1 + 1))) ((start (ed r + 1 : Nat) (k - 1) (V E n (ed r) (k - 1 - 1)) (V E n (ed r) (k - 1 + 1)) : Int) - (k - 1)).toNat
      have : x ≤ start (ed r + 1 : Nat) (k - 1) (V E n (ed r) (k - 1 - 1)) (V E n (ed r) (k - 1 + 1)) := by
        rw [show k - 1 + 1 = k by omega]
        unfold start
        split
        · omega
        · rename_i hd
          simp [down] at hd
          unfold Val at hv
          omega
      show _ ≤ V E n (ed r + 1) (k - 1)
      unfold V
      omega

theorem Reach.slide {E : Nat → Nat → Bool} {r : List Int} {x y : Nat} : ∀ i, Reach E r x y → (∀ j, j < i → E (x + j) (y + j) = true) → Reach E (List.replicate i 32 ++ r) (x + i) (y + i) := by
  intro i
  induction i with
  | zero => intro h _; simpa using h
  | succ i ih =>
    intro h hj
    have h1 := ih h (fun j hj' => hj j (by omega))
    rw [List.replicate_succ, List.cons_append]
    exact .inl ⟨rfl, x + i, y + i, rfl, rfl, hj i (by omega), h1⟩

theorem ed_replicate_append (i : Nat) (r : List Int) : ed (List.replicate i 32 ++ r) = ed r := by
  induction i with
  | zero => rfl
  | succ i ih => rw [List.replicate_succ, List.cons_append, ed_same, ih]

/-- What the search finds is reached, by d edits, in the graph without walls. -/
theorem reached (E : Nat → Nat → Bool) (n : Nat) : ∀ d k, Val d k → ∃ r, Reach E r (V E n d k) ((V E n d k : Int) - k).toNat ∧ ed r = d := by
  intro d
  induction d with
  | zero =>
    intro k hv
    unfold Val at hv
    have : k = 0 := by omega
    subst this
    have h := Reach.slide (E := E) (r := []) (x := 0) (y := 0) (slide E n 0 0) ⟨rfl, rfl⟩ (fun j hj => by have := slide_run E n 0 0 j (by omega); simpa using this)
    refine ⟨_, ?_, ed_replicate_append (slide E n 0 0) []⟩
    unfold V
    simpa using h
  | succ d ih =>
    intro k hv
    have hs := start_ge E n d k hv
    have h0 : ∃ r, Reach E r (start (d + 1 : Nat) k (V E n d (k - 1)) (V E n d (k + 1))) ((start (d + 1 : Nat) k (V E n d (k - 1)) (V E n d (k + 1)) : Int) - k).toNat ∧ ed r = d + 1 := by
      unfold start
      split
      · rename_i hd
        have hv' := down_true hv hd
        obtain ⟨r, hr, he⟩ := ih _ hv'
        have hg := V_ge E n _ _ hv'
        refine ⟨43 :: r, .inr (.inr ⟨rfl, ((V E n d (k + 1) : Int) - (k + 1)).toNat, by omega, hr⟩), by rw [ed_add, he]⟩
      · rename_i hd
        have hv' := down_false hv (by simpa using hd)
        obtain ⟨r, hr, he⟩ := ih _ hv'
        have hg := V_ge E n _ _ hv'
        refine ⟨45 :: r, .inr (.inl ⟨rfl, V E n d (k - 1), rfl, ?_⟩), by rw [ed_remove, he]⟩
        rw [show (((V E n d (k - 1) + 1 : Nat) : Int) - k).toNat = ((V E n d (k - 1) : Int) - (k - 1)).toNat by omega]
        exact hr
    obtain ⟨r, hr, he⟩ := h0
    unfold V
    generalize hst : start (d + 1 : Nat) k (V E n d (k - 1)) (V E n d (k + 1)) = s at *
    have hg := slide_ge E n s ((s : Int) - k).toNat
    have h := Reach.slide (E := E) (slide E n s ((s : Int) - k).toNat - s) hr (fun j hj => slide_run E n s ((s : Int) - k).toNat j (by omega))
    rw [show s + (slide E n s ((s : Int) - k).toNat - s) = slide E n s ((s : Int) - k).toNat by omega] at h
    rw [show ((slide E n s ((s : Int) - k).toNat : Int) - k).toNat = ((s : Int) - k).toNat + (slide E n s ((s : Int) - k).toNat - s) by omega]
    exact ⟨_, h, by rw [ed_replicate_append, he]⟩

/-- A path that leaves the box is longer, by as much as it lies outside, than one that does not. -/
theorem clamp {E : Nat → Nat → Bool} {n m : Nat} (hE : ∀ x y, E x y = true → x < n ∧ y < m) : ∀ r x y, Reach E r x y → ∃ r', Reach E r' (min x n) (min y m) ∧ ed r' + (x - n) + (y - m) ≤ ed r := by
  intro r
  induction r with
  | nil => intro x y h; simp [Reach] at h; obtain ⟨rfl, rfl⟩ := h; exact ⟨[], by simp [Reach], by simp⟩
  | cons c r ih =>
    intro x y h
    rcases h with ⟨rfl, x', y', rfl, rfl, he, h⟩ | ⟨rfl, x', rfl, h⟩ | ⟨rfl, y', rfl, h⟩
    · obtain ⟨r', hr, hl⟩ := ih _ _ h
      have hb := hE _ _ he
      refine ⟨32 :: r', .inl ⟨rfl, min x' n, min y' m, by omega, by omega, ?_, hr⟩, by rw [ed_same, ed_same]; omega⟩
      rw [show min x' n = x' by omega, show min y' m = y' by omega]
      exact he
    · obtain ⟨r', hr, hl⟩ := ih _ _ h
      rw [ed_remove]
      by_cases hx : x' < n
      · exact ⟨45 :: r', .inr (.inl ⟨rfl, min x' n, by omega, hr⟩), by rw [ed_remove]; omega⟩
      · exact ⟨r', by rw [show min (x' + 1) n = min x' n by omega]; exact hr, by omega⟩
    · obtain ⟨r', hr, hl⟩ := ih _ _ h
      rw [ed_add]
      by_cases hy : y' < m
      · exact ⟨43 :: r', .inr (.inr ⟨rfl, min y' m, by omega, hr⟩), by rw [ed_add]; omega⟩
      · exact ⟨r', by rw [show min (y' + 1) m = min y' m by omega]; exact hr, by omega⟩

/-- No round before d has come to the far corner. -/
def NF (E : Nat → Nat → Bool) (n m d : Nat) : Prop := ∀ d', d' < d → Val d' ((n : Int) - m) → V E n d' ((n : Int) - m) < n

theorem NF.least {E : Nat → Nat → Bool} {n m d : Nat} (hE : ∀ x y, E x y = true → x < n ∧ y < m) (h : NF E n m d) (r : List Int) (hr : Reach E r n m) : d ≤ ed r := by
  have hf := furthest (n := n) (fun x y he => (hE x y he).1) r n m hr
  rcases Nat.lt_or_ge (ed r) d with g | g
  · have := h _ g hf.1; omega
  · exact g

theorem NF.bound {E : Nat → Nat → Bool} {n m d : Nat} (hE : ∀ x y, E x y = true → x < n ∧ y < m) (h : NF E n m d) : d ≤ n + m := by
  have hx : ∀ n, Reach E (List.replicate n 45) n 0 := by
    intro n
    induction n with
    | zero => exact ⟨rfl, rfl⟩
    | succ n ih => rw [List.replicate_succ]; exact .inr (.inl ⟨rfl, n, rfl, ih⟩)
  have hy : ∀ m, Reach E (List.replicate m 43 ++ List.replicate n 45) n m := by
    intro m
    induction m with
    | zero => exact hx n
    | succ m ih => rw [List.replicate_succ, List.cons_append]; exact .inr (.inr ⟨rfl, m, rfl, ih⟩)
  have := NF.least hE h _ (hy m)
  simp [ed, List.count_append, List.count_replicate] at this
  omega

/-- WHERE THE SEARCH STOPS it stands in the far corner itself. -/
theorem fired {E : Nat → Nat → Bool} {n m d : Nat} (hE : ∀ x y, E x y = true → x < n ∧ y < m) (h : NF E n m d) (k : Int) (hv : Val d k)
    (hx : n ≤ V E n d k) (hy : (m : Int) ≤ (V E n d k : Int) - k) : V E n d k = n ∧ k = (n : Int) - m := by
  obtain ⟨r, hr, he⟩ := reached E n d k hv
  obtain ⟨r', hr', hl⟩ := clamp hE _ _ _ hr
  rw [show min (V E n d k) n = n by omega, show min ((V E n d k : Int) - k).toNat m = m by omega] at hr'
  have := NF.least hE h _ hr'
  omega

theorem NF.succ {E : Nat → Nat → Bool} {n m d : Nat} (h : NF E n m d) (hn : Val d ((n : Int) - m) → V E n d ((n : Int) - m) < n) : NF E n m (d + 1) := by
  intro d' hd hv
  rcases Nat.lt_or_ge d' d with g | g
  · exact h d' g hv
  · have : d' = d := by omega
    subst this
    exact hn hv

/-! ### the textbook's longest common subsequence -/
def L (E : Nat → Nat → Bool) : Nat → Nat → Nat
  | 0, _ => 0
  | _ + 1, 0 => 0
  | x + 1, y + 1 => if E x y then L E x y + 1 else max (L E x (y + 1)) (L E (x + 1) y)

theorem L_succ (E : Nat → Nat → Bool) (x y : Nat) : L E (x + 1) (y + 1) = if E x y then L E x y + 1 else max (L E x (y + 1)) (L E (x + 1) y) := by rw [L]

theorem L_zero (E : Nat → Nat → Bool) (x : Nat) : L E x 0 = 0 := by cases x <;> simp [L]

theorem L_steps (E : Nat → Nat → Bool) : ∀ s x y, x + y = s → (L E x y ≤ L E (x + 1) y ∧ L E (x + 1) y ≤ L E x y + 1) ∧ (L E x y ≤ L E x (y + 1) ∧ L E x (y + 1) ≤ L E x y + 1) := by
  intro s
  induction s using Nat.strongRecOn with
  | _ s ih =>
    intro x y hs
    constructor
    · cases y with
      | zero => simp [L_zero]
      | succ y =>
        have h1 := (ih (x + y) (by omega) x y rfl).2
        have h2 := (ih (x + y) (by omega) x y rfl).1
        rw [L]
        split
        · omega
        · omega
    · cases x with
      | zero => simp [L]
      | succ x =>
        have h1 := (ih (x + y) (by omega) x y rfl).2
        have h2 := (ih (x + y) (by omega) x y rfl).1
        rw [L]
        split
        · omega
        · omega

theorem L_right (E : Nat → Nat → Bool) (x y : Nat) : L E x y ≤ L E (x + 1) y ∧ L E (x + 1) y ≤ L E x y + 1 := (L_steps E _ x y rfl).1
theorem L_up (E : Nat → Nat → Bool) (x y : Nat) : L E x y ≤ L E x (y + 1) ∧ L E x (y + 1) ≤ L E x y + 1 := (L_steps E _ x y rfl).2

theorem L_top (E : Nat → Nat → Bool) : ∀ r x y, Reach E r x y → r.count 32 ≤ L E x y := by
  intro r
  induction r with
  | nil => intro x y _; simp
  | cons c r ih =>
    intro x y h
    rcases h with ⟨rfl, x', y', rfl, rfl, he, h⟩ | ⟨rfl, x', rfl, h⟩ | ⟨rfl, y', rfl, h⟩
    · have := ih _ _ h
      simp [L, he]
      exact this
    · have := ih _ _ h
      have := (L_right E x' y).1
      simp
      omega
    · have := ih _ _ h
      have := (L_up E x y').1
      simp
      omega

theorem L_made (E : Nat → Nat → Bool) : ∀ s x y, x + y = s → ∃ r, Reach E r x y ∧ r.count 32 = L E x y := by
  intro s
  induction s using Nat.strongRecOn with
  | _ s ih =>
    intro x y hs
    cases x with
    | zero =>
      cases y with
      | zero => exact ⟨[], ⟨rfl, rfl⟩, by simp [L]⟩
      | succ y =>
        obtain ⟨r, hr, hc⟩ := ih y (by omega) 0 y (by omega)
        refine ⟨43 :: r, .inr (.inr ⟨rfl, y, rfl, hr⟩), ?_⟩
        simp [hc, L]
    | succ x =>
      cases y with
      | zero =>
        obtain ⟨r, hr, hc⟩ := ih x (by omega) x 0 (by omega)
        refine ⟨45 :: r, .inr (.inl ⟨rfl, x, rfl, hr⟩), ?_⟩
        simp [hc, L_zero]
      | succ y =>
        by_cases he : E x y = true
        · obtain ⟨r, hr, hc⟩ := ih (x + y) (by omega) x y rfl
          refine ⟨32 :: r, .inl ⟨rfl, x, y, rfl, rfl, he, hr⟩, ?_⟩
          simp [hc, L, he]
        · by_cases hm : L E x (y + 1) ≤ L E (x + 1) y
          · obtain ⟨r, hr, hc⟩ := ih (x + 1 + y) (by omega) (x + 1) y rfl
            refine ⟨43 :: r, .inr (.inr ⟨rfl, y, rfl, hr⟩), ?_⟩
            simp [hc, L, he]
            omega
          · obtain ⟨r, hr, hc⟩ := ih (x + (y + 1)) (by omega) x (y + 1) rfl
            refine ⟨45 :: r, .inr (.inl ⟨rfl, x, rfl, hr⟩), ?_⟩
            simp [hc, L, he]
            omega

/-- A path with as few edits as any keeps as many lines as any. -/
theorem shortest {E : Nat → Nat → Bool} {n m d : Nat} (hE : ∀ x y, E x y = true → x < n ∧ y < m) (h : NF E n m d) (r : List Int) (hr : Reach E r n m) (hd : ed r = d) : r.count 32 = L E n m := by
  obtain ⟨r', hr', hc⟩ := L_made E _ n m rfl
  have h1 := NF.least hE h r' hr'
  have h2 := L_top E r n m hr
  have h3 := hr.xy
  have h4 := hr'.xy
  unfold ed at h1 hd
  omega

/-- A common first line. -/
theorem L_head (E : Nat → Nat → Bool) (h0 : E 0 0 = true) : ∀ s x y, x + y = s → L E (x + 1) (y + 1) = L (fun i j => E (i + 1) (j + 1)) x y + 1 := by
  intro s
  induction s using Nat.strongRecOn with
  | _ s ih =>
    intro x y hs
    cases x with
    | zero =>
      cases y with
      | zero => simp [L, h0]
      | succ y =>
        have h1 := ih y (by omega) 0 y (by omega)
        have h2 := (L_up E (0 + 1) (y + 1)).1
        have h3 := (L_right E 0 (y + 1 + 1)).2
        have h4 : L E 0 (y + 1 + 1) = 0 := by simp [L]
        have h5 : ∀ F : Nat → Nat → Bool, ∀ z, L F 0 z = 0 := fun F z => by simp [L]
        rw [h5] at h1 ⊢
        omega
    | succ x =>
      cases y with
      | zero =>
        have h1 := ih x (by omega) x 0 (by omega)
        have h2 := (L_right E (x + 1) (0 + 1)).1
        have h3 := (L_up E (x + 1 + 1) 0).2
        rw [L_zero] at h1 h3 ⊢
        omega
      | succ y =>
        have h1 := ih (x + y) (by omega) x y rfl
        have h2 := ih (x + (y + 1)) (by omega) x (y + 1) rfl
        have h3 := ih (x + 1 + y) (by omega) (x + 1) y rfl
        rw [L_succ E (x + 1) (y + 1), L_succ (fun i j => E (i + 1) (j + 1)) x y]
        by_cases he : E (x + 1) (y + 1) = true
        · simp only [he, if_true]; omega
        · simp only [he]
          simp only [Bool.false_eq_true, if_false]
          omega

theorem L_heads (E : Nat → Nat → Bool) : ∀ h x y, (∀ i, i < h → E i i = true) → L E (x + h) (y + h) = L (fun i j => E (i + h) (j + h)) x y + h := by
  intro h
  induction h generalizing E with
  | zero => intro x y _; rfl
  | succ h ih =>
    intro x y hh
    have h1 := L_head E (hh 0 (by omega)) _ (x + h) (y + h) rfl
    have h2 := ih (fun i j => E (i + 1) (j + 1)) x y (fun i hi => hh (i + 1) (by omega))
    rw [show x + (h + 1) = x + h + 1 by omega, show y + (h + 1) = y + h + 1 by omega, h1, h2]
    have e : (fun i j => E (i + h + 1) (j + h + 1)) = fun i j => E (i + (h + 1)) (j + (h + 1)) := rfl
    rw [e]
    omega

theorem L_tails (E : Nat → Nat → Bool) (x y : Nat) : ∀ t, (∀ i, i < t → E (x + i) (y + i) = true) → L E (x + t) (y + t) = L E x y + t := by
  intro t
  induction t with
  | zero => intro _; rfl
  | succ t ih =>
    intro h
    have := ih (fun i hi => h i (by omega))
    rw [show x + (t + 1) = x + t + 1 by omega, show y + (t + 1) = y + t + 1 by omega, L, if_pos (h t (by omega)), this]
    omega

/-- L sees only the box. -/
theorem L_congr (E F : Nat → Nat → Bool) : ∀ s x y, x + y = s → (∀ i j, i < x → j < y → E i j = F i j) → L E x y = L F x y := by
  intro s
  induction s using Nat.strongRecOn with
  | _ s ih =>
    intro x y hs h
    cases x with
    | zero => simp [L]
    | succ x =>
      cases y with
      | zero => simp [L]
      | succ y =>
        rw [L, L, h x y (by omega) (by omega), ih (x + y) (by omega) x y rfl (fun i j hi hj => h i j (by omega) (by omega)),
          ih (x + (y + 1)) (by omega) x (y + 1) rfl (fun i j hi hj => h i j (by omega) (by omega)), ih (x + 1 + y) (by omega) (x + 1) y rfl (fun i j hi hj => h i j (by omega) (by omega))]

theorem Reach.congr {E F : Nat → Nat → Bool} : ∀ {r x y}, Reach E r x y → (∀ i j, i < x → j < y → E i j = true → F i j = true) → Reach F r x y := by
  intro r
  induction r with
  | nil => intro x y h _; exact h
  | cons c r ih =>
    intro x y h hh
    rcases h with ⟨rfl, x', y', rfl, rfl, he, h⟩ | ⟨rfl, x', rfl, h⟩ | ⟨rfl, y', rfl, h⟩
    · exact .inl ⟨rfl, x', y', rfl, rfl, hh _ _ (by omega) (by omega) he, ih h (fun i j hi hj => hh i j (by omega) (by omega))⟩
    · exact .inr (.inl ⟨rfl, x', rfl, ih h (fun i j hi hj => hh i j (by omega) (by omega))⟩)
    · exact .inr (.inr ⟨rfl, y', rfl, ih h (fun i j hi hj => hh i j (by omega) (by omega))⟩)

/-- A path in the shifted box, behind h kept lines. -/
theorem Reach.shift {E : Nat → Nat → Bool} {h : Nat} (hh : ∀ i, i < h → E i i = true) : ∀ {r x y}, Reach (fun i j => E (i + h) (j + h)) r x y → Reach E (r ++ List.replicate h 32) (x + h) (y + h) := by
  intro r
  induction r with
  | nil =>
    intro x y hr
    obtain ⟨rfl, rfl⟩ := hr
    have := Reach.slide (E := E) (r := []) (x := 0) (y := 0) h ⟨rfl, rfl⟩ (fun j hj => by simpa using hh j hj)
    simpa using this
  | cons c r ih =>
    intro x y hr
    rcases hr with ⟨rfl, x', y', rfl, rfl, he, hr⟩ | ⟨rfl, x', rfl, hr⟩ | ⟨rfl, y', rfl, hr⟩
    · exact .inl ⟨rfl, x' + h, y' + h, by omega, by omega, he, ih hr⟩
    · exact .inr (.inl ⟨rfl, x' + h, by omega, ih hr⟩)
    · exact .inr (.inr ⟨rfl, y' + h, by omega, ih hr⟩)

end Go.Proofs.Qxb6601177a.Plain
