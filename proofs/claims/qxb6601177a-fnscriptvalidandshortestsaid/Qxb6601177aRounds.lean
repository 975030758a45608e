/-
  What search keeps in memory: the row v, the rounds. Lemmas without a walk. My own text.
-/
import Derived.Test.Qxb6601177aTrace
namespace Go.Proofs.Qxb6601177a
open Go.RowKit
open Plain (V Val ed down slide NF)

/-- Line x of the first text is line y of the second. -/
def eqE (A B : List ByteArray) (x y : Nat) : Bool :=
  decide (x < A.length) && decide (y < B.length) && ((A.getD x ByteArray.empty).toList == (B.getD y ByteArray.empty).toList)

theorem eqE_in {A B : List ByteArray} {x y : Nat} (h : eqE A B x y = true) : x < A.length ∧ y < B.length := by
  simp [eqE] at h; exact ⟨h.1.1, h.1.2⟩

/-- The rounds: row i holds what round i left. -/
def RoundsOk (w : World) (B : Nat) (E : Nat → Nat → Bool) (n : Nat) (v : Value) (d : Nat) : Prop :=
  ∃ rows : List Value, w.ownsRow (B + 1) 32 1 v d rows ∧ ∀ i, i < d → ∃ g cap cur, rows[i]? = some (.slice (some ⟨g, 0, none⟩) (2 * i + 1) cap) ∧ B + 1 ≤ g ∧
    w.heap[g]? = some (.cells cur 3 (0, 0)) ∧ ∀ k, Val i k → cur[(k + i).toNat]? = some (.int .i64 (V E n i k))

theorem RoundsOk.start (w : World) (B : Nat) (E : Nat → Nat → Bool) (n : Nat) : RoundsOk w B E n (.slice none 0 0) 0 :=
  ⟨[], World.ownsRow_nil _ _ _ _, fun i hi => by omega⟩

/-- Blocks from B + 1 on that were there are as they were. -/
theorem RoundsOk.kept {w w' : World} {B : Nat} {E : Nat → Nat → Bool} {n d : Nat} {v : Value} (h : RoundsOk w B E n v d) (hk : ∀ k, B + 1 ≤ k → k < w.heap.size → w'.heap[k]? = w.heap[k]?) : RoundsOk w' B E n v d := by
  obtain ⟨rows, hown, hr⟩ := h
  refine ⟨rows, ⟨hown.1, ?_⟩, ?_⟩
  · rcases hown.2 with h0 | ⟨g, cap, cur, hv, hb, hg, rest⟩
    · exact .inl h0
    · exact .inr ⟨g, cap, cur, hv, hb, by rw [hk g hb (Array.getElem?_eq_some_iff.1 hg).1]; exact hg, rest⟩
  · intro i hi
    obtain ⟨g, cap, cur, h1, h2, h3, h4⟩ := hr i hi
    exact ⟨g, cap, cur, h1, h2, by rw [hk g h2 (Array.getElem?_eq_some_iff.1 h3).1]; exact h3, h4⟩

theorem RoundsOk.setCell {w : World} {B : Nat} {E : Nat → Nat → Bool} {n d : Nat} {v : Value} (h : RoundsOk w B E n v d) (o : Nat) (u : Value) : RoundsOk (w.setCell ⟨B, o, none⟩ u) B E n v d :=
  h.kept fun k hk _ => Below.heap_setCell _ _ _ _ (by show k ≠ B; omega)

theorem RoundsOk.drewN {w : World} {B : Nat} {E : Nat → Nat → Bool} {n d : Nat} {v : Value} (h : RoundsOk w B E n v d) (q : Nat) : RoundsOk (w.drewN q) B E n v d :=
  h.kept fun _ _ _ => rfl

/-- The copy of v's part that a round lays. -/
def news (off d : Nat) (f : Nat → Int) : List Value := (List.range (2 * d + 1)).map fun i => .int .i64 (f (off - d + i))

theorem news_length (off d : Nat) (f : Nat → Int) (h : d ≤ off) : (news off d f).length = (off + d + 1 - (off - d)) * 1 := by simp [news]; omega

theorem news_one (off d : Nat) (f : Nat → Int) : ∀ u ∈ news off d f, u.oneCell' = true := by
  intro u hu
  obtain ⟨_, _, rfl⟩ := List.mem_map.1 hu
  rfl

theorem news_cells {W : World} {B off d : Nat} {f : Nat → Int} (hrow : W.rowIs B 3 (2 * off + 1) (fun i => .int .i64 (f i))) (h : d + 1 ≤ off) :
    ∀ j u, (news off d f)[j]? = some u → W.cell? ((⟨B, off - d, none⟩ : Addr).add j) = some u := by
  intro j u hu
  have hj : j < 2 * d + 1 := by have := (List.getElem?_eq_some_iff.1 hu).1; simpa [news] using this
  rw [show (⟨B, off - d, none⟩ : Addr).add j = ⟨B, off - d + j, none⟩ from by simp [Addr.add], hrow.cell (by omega), ← hu]
  simp [news, hj]

/-- Behind the two appends of a round the elder rows are as they were. -/
theorem rows_after {W W1 W3 : World} {B d n : Nat} {E : Nat → Nat → Bool} {v u : Value} {rows : List Value} (hown : W.ownsRow (B + 1) 32 1 v d rows)
    (hr : ∀ i, i < d → ∃ g cap cur, rows[i]? = some (.slice (some ⟨g, 0, none⟩) (2 * i + 1) cap) ∧ B + 1 ≤ g ∧ W.heap[g]? = some (.cells cur 3 (0, 0)) ∧ ∀ k, Val i k → cur[(k + i).toNat]? = some (.int .i64 (V E n i k)))
    (hg1 : W.grownBy W1 none) (hg3 : (W1.alloc (.cells #[u] 32)).grownBy W3 v.ownBlock) :
    ∀ i, i < d → ∃ g cap cur, (rows ++ [u])[i]? = some (.slice (some ⟨g, 0, none⟩) (2 * i + 1) cap) ∧ B + 1 ≤ g ∧ W3.heap[g]? = some (.cells cur 3 (0, 0)) ∧ ∀ k, Val i k → cur[(k + i).toNat]? = some (.int .i64 (V E n i k)) := by
  have hrl : rows.length = d := by simpa using hown.1
  have hne : ∀ g cur, W.heap[g]? = some (.cells cur 3 (0, 0)) → some g ≠ v.ownBlock := by
    intro g cur hg e
    rcases hown.2 with ⟨rfl, _⟩ | ⟨g', cap', cur', rfl, _, hg', _⟩
    · simp [Value.ownBlock] at e
    · simp only [Value.ownBlock, Option.some.injEq] at e
      subst e
      rw [hg] at hg'
      simp at hg'
  intro i h
  obtain ⟨g, cap, cur, h1, h2, h3, h4⟩ := hr i h
  have hlt := (Array.getElem?_eq_some_iff.1 h3).1
  refine ⟨g, cap, cur, by rw [List.getElem?_append_left (by omega)]; exact h1, h2, ?_, h4⟩
  have hs1 := hg1.size
  rw [hg3.block g (by simp; omega) (hne g cur h3), Below.heap_alloc _ _ _ (by omega), hg1.block g hlt (by simp)]
  exact h3

/-- One round more: a copy of v's part is laid, then appended to the rounds. -/
theorem RoundsOk.snoc {W W1 W3 : World} {B d n off : Nat} {E : Nat → Nat → Bool} {v v' u : Value} {rows : List Value} {f : Nat → Int} (hBW : B + 1 ≤ W.heap.size)
    (hown : W.ownsRow (B + 1) 32 1 v d rows)
    (hr : ∀ i, i < d → ∃ g cap cur, rows[i]? = some (.slice (some ⟨g, 0, none⟩) (2 * i + 1) cap) ∧ B + 1 ≤ g ∧ W.heap[g]? = some (.cells cur 3 (0, 0)) ∧ ∀ k, Val i k → cur[(k + i).toNat]? = some (.int .i64 (V E n i k)))
    (hu : W1.ownsRow W.heap.size 3 1 u (2 * d + 1) (news off d f)) (hg1 : W.grownBy W1 none) (hdo : d ≤ off)
    (hf : ∀ k, Val d k → f (off + k).toNat = V E n d k)
    (hown3 : W3.ownsRow (B + 1) 32 1 v' (d + 1) (rows ++ [u])) (hg3 : (W1.alloc (.cells #[u] 32)).grownBy W3 v.ownBlock) : RoundsOk W3 B E n v' (d + 1) := by
  refine ⟨rows ++ [u], hown3, ?_⟩
  have hrl : rows.length = d := by simpa using hown.1
  intro i hi
  rcases Nat.lt_or_ge i d with h | h
  · exact rows_after hown hr hg1 hg3 i h
  · have hid : i = d := by omega
    subst hid
    rcases hu.2 with ⟨_, h0⟩ | ⟨g, cap, cur, hu', hb, hg, _, _, _, htake⟩
    · omega
    · have hlt := (Array.getElem?_eq_some_iff.1 hg).1
      have hgv : some g ≠ v.ownBlock := by
        intro e
        have := (hown.lt g e.symm).2
        omega
      refine ⟨g, cap, cur, by rw [List.getElem?_append_right (by omega), hrl]; simp [hu'], by omega, ?_, ?_⟩
      · rw [hg3.block g (by simp; omega) hgv, Below.heap_alloc _ _ _ hlt]; exact hg
      · intro k hk
        have hkb : 0 ≤ k + i ∧ k + i ≤ 2 * i := by unfold Val at hk; omega
        have e1 : cur[(k + i).toNat]? = (cur.toList.take ((2 * i + 1) * 1))[(k + i).toNat]? := by
          rw [List.getElem?_take, if_pos (by omega)]; simp
        rw [e1, htake]
        have h3 : (k + i).toNat < 2 * i + 1 := by omega
        simp only [news, List.getElem?_map, List.getElem?_range h3, Option.map_some]
        rw [show off - i + (k + i).toNat = (off + k).toNat by omega, hf k hk]

theorem owns_mono {w : World} {B B' : Nat} {e : TypeId} {size : Nat} {v : Value} {n : Nat} {xs : List Value} (h : w.ownsRow B e size v n xs) (hB : B' ≤ B) : w.ownsRow B' e size v n xs := by
  refine ⟨h.1, ?_⟩
  rcases h.2 with h0 | ⟨g, cap, cur, hv, hb, r⟩
  · exact .inl h0
  · exact .inr ⟨g, cap, cur, hv, by omega, r⟩

/-- The shape of a value that owns something. -/
theorem owns_shape {w : World} {B : Nat} {e : TypeId} {v : Value} {n : Nat} {xs : List Value} (h : w.ownsRow B e 1 v (n + 1) xs) : ∃ g cap, v = .slice (some ⟨g, 0, none⟩) (n + 1) cap ∧ B ≤ g ∧ g < w.heap.size := by
  rcases h.2 with ⟨_, h0⟩ | ⟨g, cap, cur, hv, hb, hg, _⟩
  · omega
  · exact ⟨g, cap, hv, hb, (Array.getElem?_eq_some_iff.1 hg).1⟩

theorem owned_cells {w : World} {B g cap n : Nat} {e : TypeId} {xs : List Value} (h : w.ownsRow B e 1 (.slice (some ⟨g, 0, none⟩) (n + 1) cap) (n + 1) xs) : Cells w (some ⟨g, 0, none⟩) (n + 1) (fun i => xs.getD i undef) := by
  intro _
  obtain ⟨g', cap', he, _, hs⟩ := owns_shape h
  cases he
  refine ⟨g, 0, rfl, hs, fun i hi => ?_⟩
  have h1 := h.cellAt i (by omega)
  have h2 : i < xs.length := by have := h.1; omega
  rw [Nat.zero_add, h1]
  simp [List.getElem?_eq_getElem h2]

theorem rowAt_of {w : World} {B n i : Nat} {E : Nat → Nat → Bool} {xs : List Value}
    (h : ∃ g cap cur, xs[i]? = some (.slice (some ⟨g, 0, none⟩) (2 * i + 1) cap) ∧ B + 1 ≤ g ∧ w.heap[g]? = some (.cells cur 3 (0, 0)) ∧ ∀ k, Val i k → cur[(k + i).toNat]? = some (.int .i64 (V E n i k))) :
    RowAt w E n i (xs.getD i undef) := by
  obtain ⟨g, cap, cur, h1, h2, h3, h4⟩ := h
  refine ⟨g, cap, by simp [h1], (Array.getElem?_eq_some_iff.1 h3).1, fun k hk => ?_⟩
  rw [← h4 k hk]
  simp [World.cell?, h3]

/-- Where the path of round d on diagonal k begins to slide. -/
def S (E : Nat → Nat → Bool) (n : Nat) : Nat → Int → Nat
  | 0, _ => 0
  | d + 1, k => Plain.start (d + 1 : Nat) k (V E n d (k - 1)) (V E n d (k + 1))

theorem S_ge (E : Nat → Nat → Bool) (n d : Nat) (k : Int) (hv : Val d k) : k ≤ S E n d k := by
  cases d with
  | zero => unfold Val at hv; unfold S; omega
  | succ d => exact Plain.start_ge E n d k hv

theorem S_le {E : Nat → Nat → Bool} {n : Nat} (hE : ∀ x y, E x y = true → x < n) (d : Nat) (k : Int) : S E n d k ≤ n + d := by
  cases d with
  | zero => rw [S]; omega
  | succ d => exact Plain.start_le hE d k

theorem V_of_S (E : Nat → Nat → Bool) (n d : Nat) (k : Int) (hv : Val d k) : V E n d k = slide E n (S E n d k) ((S E n d k : Int) - k).toNat := by
  cases d with
  | zero =>
    have : k = 0 := by unfold Val at hv; omega
    subst this
    rw [V, S]; rfl
  | succ d => rw [V, S]

/-- The slide has come to its end. -/
theorem V_found {E : Nat → Nat → Bool} {n : Nat} (hE : ∀ x y, E x y = true → x < n) (d : Nat) (k : Int) (hv : Val d k) (i y : Nat) (hy : (y : Int) = (S E n d k : Int) - k)
    (h1 : ∀ j, j < i → E (S E n d k + j) (y + j) = true) (h2 : E (S E n d k + i) (y + i) = false) : S E n d k + i = V E n d k := by
  rw [V_of_S E n d k hv]
  have e : ((S E n d k : Int) - k).toNat = y := by omega
  rw [e]
  exact (Plain.slide_eq hE n _ y i (by omega) h1 h2).symm

/-- What v holds at the head of round d. -/
def Prev (E : Nat → Nat → Bool) (n off d : Nat) (f : Nat → Int) : Prop :=
  match d with
  | 0 => f (off + 1) = 0
  | d + 1 => ∀ k, Val d k → f (off + k).toNat = V E n d k

/-- What round d has made of v so far. -/
def Sofar (E : Nat → Nat → Bool) (n off d : Nat) (k : Int) (f : Nat → Int) : Prop := ∀ k', Val d k' → k' < k → f (off + k').toNat = V E n d k'

theorem Prev.store {E : Nat → Nat → Bool} {n off d : Nat} {f : Nat → Int} (h : Prev E n off d f) (k : Int) (hv : Val d k) (hoff : d + 1 ≤ off) (x : Int) : Prev E n off d (fun j => if j = (off + k).toNat then x else f j) := by
  cases d with
  | zero =>
    show (if off + 1 = _ then x else f (off + 1)) = 0
    rw [if_neg (by unfold Val at hv; omega)]; exact h
  | succ d =>
    intro k' hk'
    show (if (off + k').toNat = _ then x else _) = _
    rw [if_neg (by unfold Val at hv hk'; omega)]
    exact h k' hk'

theorem Sofar.store {E : Nat → Nat → Bool} {n off d : Nat} {f : Nat → Int} {k : Int} (h : Sofar E n off d k f) (hv : Val d k) (hoff : d + 1 ≤ off) : Sofar E n off d (k + 2) (fun j => if j = (off + k).toNat then (V E n d k : Int) else f j) := by
  intro k' hk' hlt
  by_cases e : k' = k
  · subst e; simp
  · show (if (off + k').toNat = _ then _ else _) = _
    rw [if_neg (by unfold Val at hv hk'; omega)]
    exact h k' hk' (by unfold Val at hv hk'; omega)

theorem Sofar.full {E : Nat → Nat → Bool} {n off d : Nat} {f : Nat → Int} {k : Int} (h : Sofar E n off d k f) (hk : (d : Int) < k) : ∀ k', Val d k' → f (off + k').toNat = V E n d k' :=
  fun k' hk' => h k' hk' (by unfold Val at hk'; omega)


/-- Down or right, and from where. -/
theorem dir {E : Nat → Nat → Bool} {n off D : Nat} {f : Nat → Int} {k : Int} (hp : Prev E n off D f) (hv : Val D k) (hoff : D + 1 ≤ off) :
    ∃ bb : Bool, (k = -(D : Int) → bb = true) ∧ (k ≠ -(D : Int) → k = D → bb = false) ∧ (k ≠ -(D : Int) → k ≠ D → bb = decide (f (off + k - 1).toNat < f (off + k + 1).toNat)) ∧
      (bb = true → f (off + k + 1).toNat = S E n D k) ∧ (bb = false → f (off + k - 1).toNat + 1 = S E n D k) := by
  cases D with
  | zero =>
    have hk : k = 0 := by unfold Val at hv; omega
    subst hk
    refine ⟨true, fun _ => rfl, fun h => absurd rfl h, fun h => absurd rfl h, fun _ => ?_, fun h => by cases h⟩
    rw [S, show ((off : Int) + 0 + 1).toNat = off + 1 by omega]
    exact hp
  | succ d =>
    refine ⟨down (d + 1 : Nat) k (V E n d (k - 1)) (V E n d (k + 1)), ?_, ?_, ?_, ?_, ?_⟩
    · intro h; simp [down, h]
    · intro h1 h2
      have h3 : (k == -((d + 1 : Nat) : Int)) = false := beq_eq_false_iff_ne.2 h1
      have h4 : (k != ((d + 1 : Nat) : Int)) = false := by rw [h2]; simp
      unfold down
      rw [h3, h4]; rfl
    · intro h1 h2
      have h3 : (k == -((d + 1 : Nat) : Int)) = false := beq_eq_false_iff_ne.2 h1
      have h4 : (k != ((d + 1 : Nat) : Int)) = true := by rw [bne_iff_ne]; exact h2
      have e1 : f (off + k - 1).toNat = V E n d (k - 1) := by
        rw [show (off : Int) + k - 1 = off + (k - 1) by omega]; exact hp (k - 1) (by unfold Val at *; omega)
      have e2 : f (off + k + 1).toNat = V E n d (k + 1) := by
        rw [show (off : Int) + k + 1 = off + (k + 1) by omega]; exact hp (k + 1) (by unfold Val at *; omega)
      unfold down
      rw [h3, h4, e1, e2]; simp
    · intro hb
      rw [S, Plain.start, if_pos hb, show (off : Int) + k + 1 = off + (k + 1) by omega]
      exact hp (k + 1) (Plain.down_true hv hb)
    · intro hb
      rw [S, Plain.start, hb, show (off : Int) + k - 1 = off + (k - 1) by omega, hp (k - 1) (Plain.down_false hv hb)]
      simp

end Go.Proofs.Qxb6601177a
