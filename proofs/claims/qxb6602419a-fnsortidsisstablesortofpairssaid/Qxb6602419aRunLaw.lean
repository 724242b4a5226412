/-
  PLAIN LAWS of a bottom-up merge sort that takes from the left run on ties: no Go, no program.
-/
import Derived.Test.Qxb6602419aSortLaw
namespace Go.Proofs.Qxb6602419a.Plain

/-- The order of places: by their numbers, places of one number in their own order. -/
def Lt (z : Nat → Nat) (a b : Nat) : Prop := z a < z b ∨ (z a = z b ∧ a < b)
theorem Lt.trans {z : Nat → Nat} {a b c : Nat} (h : Lt z a b) (k : Lt z b c) : Lt z a c := by
  unfold Lt at h k ⊢
  omega

theorem block_one {W t t' j : Nat} (h1 : W * t ≤ j) (h2 : j < W * t + W) (h3 : W * t' ≤ j) (h4 : j < W * t' + W) : t = t' := by
  rcases Nat.lt_trichotomy t t' with h | h | h
  · have : W * (t + 1) ≤ W * t' := Nat.mul_le_mul_left W h
    rw [Nat.mul_add] at this
    omega
  · exact h
  · have : W * (t' + 1) ≤ W * t := Nat.mul_le_mul_left W h
    rw [Nat.mul_add] at this
    omega

/-- The first m places s, in runs of W: each run holds its own places, in order. -/
structure Run (n m W : Nat) (z s : Nat → Nat) : Prop where
  inn : ∀ t j, W * t ≤ j → j < W * t + W → j < m → W * t ≤ s j ∧ s j < W * t + W ∧ s j < n
  asc : ∀ t i j, W * t ≤ i → i < j → j < W * t + W → j < m → Lt z (s i) (s j)

theorem Run.one (n : Nat) (z : Nat → Nat) : Run n n 1 z (fun j => j) := ⟨fun t j h1 h2 h3 => ⟨h1, h2, h3⟩, fun t i j h1 h2 h3 h4 => by omega⟩
theorem Run.none (n W : Nat) (z s : Nat → Nat) : Run n 0 W z s := ⟨fun _ j _ _ h => absurd h (by omega), fun _ _ j _ _ _ h => absurd h (by omega)⟩
theorem Run.done {n W : Nat} {z s : Nat → Nat} (h : Run n n W z s) (hW : n ≤ W) : Done n z s :=
  ⟨fun j hj => (h.inn 0 j (by omega) (by omega) hj).2.2, fun i j hij hj => h.asc 0 i j (by omega) hij (by omega) hj⟩

/-- In the midst of a merge: x and y are next in the two runs, k places are laid. -/
structure Mg (n W t mid hi x y k : Nat) (z s s' : Nat → Nat) : Prop where
  x1 : 2 * W * t ≤ x
  x2 : x ≤ mid
  y1 : mid ≤ y
  y2 : y ≤ hi
  hk : k + mid = x + y
  run : Run n k (2 * W) z s'
  low1 : ∀ i, 2 * W * t ≤ i → i < k → ∀ j, x ≤ j → j < mid → Lt z (s' i) (s j)
  low2 : ∀ i, 2 * W * t ≤ i → i < k → ∀ j, y ≤ j → j < hi → Lt z (s' i) (s j)

/-- The ends of the two runs. -/
structure Ends (n W t mid hi : Nat) : Prop where
  m1 : 2 * W * t ≤ mid
  m2 : mid ≤ 2 * W * t + W
  m3 : mid ≤ hi
  h1 : hi ≤ 2 * W * t + 2 * W
  h2 : hi ≤ n
  e : mid < hi → mid = 2 * W * t + W

theorem Mg.start {n W t mid hi : Nat} {z s s' : Nat → Nat} (e : Ends n W t mid hi) (h : Run n (2 * W * t) (2 * W) z s') : Mg n W t mid hi (2 * W * t) mid (2 * W * t) z s s' :=
  ⟨Nat.le_refl _, e.m1, Nat.le_refl _, e.m3, by omega, h, fun i h1 h2 => by omega, fun i h1 h2 => by omega⟩

/-- One more place. -/
def put (s' : Nat → Nat) (k v : Nat) : Nat → Nat := fun j => if j = k then v else s' j
theorem put_at (s' : Nat → Nat) (k v : Nat) : put s' k v k = v := by simp [put]
theorem put_lt (s' : Nat → Nat) (k v : Nat) {j : Nat} (h : j < k) : put s' k v j = s' j := by
  have : ¬ j = k := by omega
  simp [put, this]

theorem Run.snoc {n k W t v : Nat} {z s' : Nat → Nat} (h : Run n k (2 * W) z s') (hk1 : 2 * W * t ≤ k) (hk2 : k < 2 * W * t + 2 * W) (hv1 : 2 * W * t ≤ v) (hv2 : v < 2 * W * t + 2 * W) (hv3 : v < n)
    (hlow : ∀ i, 2 * W * t ≤ i → i < k → Lt z (s' i) v) : Run n (k + 1) (2 * W) z (put s' k v) := by
  refine ⟨fun t' j h1 h2 h3 => ?_, fun t' i j h1 h2 h3 h4 => ?_⟩
  · by_cases e : j = k
    · subst e
      rw [put_at, block_one h1 h2 hk1 hk2]
      exact ⟨hv1, hv2, hv3⟩
    · rw [put_lt s' k v (by omega)]
      exact h.inn t' j h1 h2 (by omega)
  · by_cases e : j = k
    · subst e
      rw [put_at, put_lt s' j v h2]
      exact hlow i (by rw [← block_one (show 2 * W * t' ≤ j by omega) h3 hk1 hk2]; exact h1) h2
    · rw [put_lt s' k v (show j < k by omega), put_lt s' k v (show i < k by omega)]
      exact h.asc t' i j h1 h2 h3 (by omega)

theorem two_blocks (W t : Nat) : W * (2 * t) = 2 * W * t ∧ W * (2 * t + 1) = 2 * W * t + W := by
  have h : W * (2 * t) = 2 * W * t := by rw [← Nat.mul_assoc, Nat.mul_comm W 2]
  exact ⟨h, by rw [Nat.mul_add, h, Nat.mul_one]⟩

theorem Mg.left {n W t mid hi x y k : Nat} {z s s' : Nat → Nat} (e : Ends n W t mid hi) (r : Run n n W z s) (m : Mg n W t mid hi x y k z s s') (hx : x < mid) (hle : y < hi → z (s x) ≤ z (s y)) :
    Mg n W t mid hi (x + 1) y (k + 1) z s (put s' k (s x)) := by
  obtain ⟨b0, b1⟩ := two_blocks W t
  obtain ⟨x1, x2, y1, y2, hk, run, low1, low2⟩ := m
  obtain ⟨m1, m2, m3, h1, h2, e⟩ := e
  have ix := r.inn (2 * t) x (by omega) (by omega) (by omega)
  have hl2 : ∀ j, y ≤ j → j < hi → Lt z (s x) (s j) := by
    intro j hj1 hj2
    have em := e (by omega)
    have iy := r.inn (2 * t + 1) y (by omega) (by omega) (by omega)
    have h0 : Lt z (s x) (s y) := by
      have := hle (by omega)
      unfold Lt
      omega
    by_cases ej : j = y
    · rw [ej]; exact h0
    · exact h0.trans (r.asc (2 * t + 1) y j (by omega) (by omega) (by omega) (by omega))
  refine ⟨by omega, by omega, y1, y2, by omega, run.snoc (t := t) (by omega) (by omega) (by omega) (by omega) (by omega) (fun i hi1 hi2 => low1 i hi1 hi2 x (Nat.le_refl _) hx), ?_, ?_⟩
  · intro i hi1 hi2 j hj1 hj2
    by_cases ei : i = k
    · subst ei
      rw [put_at]
      exact r.asc (2 * t) x j (by omega) (by omega) (by omega) (by omega)
    · rw [put_lt _ _ _ (by omega)]
      exact low1 i hi1 (by omega) j (by omega) hj2
  · intro i hi1 hi2 j hj1 hj2
    by_cases ei : i = k
    · subst ei
      rw [put_at]
      exact hl2 j hj1 hj2
    · rw [put_lt _ _ _ (by omega)]
      exact low2 i hi1 (by omega) j hj1 hj2

theorem Mg.right {n W t mid hi x y k : Nat} {z s s' : Nat → Nat} (e : Ends n W t mid hi) (r : Run n n W z s) (m : Mg n W t mid hi x y k z s s') (hy : y < hi) (hlt : x < mid → z (s y) < z (s x)) :
    Mg n W t mid hi x (y + 1) (k + 1) z s (put s' k (s y)) := by
  obtain ⟨b0, b1⟩ := two_blocks W t
  obtain ⟨x1, x2, y1, y2, hk, run, low1, low2⟩ := m
  obtain ⟨m1, m2, m3, h1, h2, e⟩ := e
  have em := e (by omega)
  have iy := r.inn (2 * t + 1) y (by omega) (by omega) (by omega)
  have hl1 : ∀ j, x ≤ j → j < mid → Lt z (s y) (s j) := by
    intro j hj1 hj2
    have h0 : Lt z (s y) (s x) := .inl (hlt (by omega))
    by_cases ej : j = x
    · rw [ej]; exact h0
    · exact h0.trans (r.asc (2 * t) x j (by omega) (by omega) (by omega) (by omega))
  refine ⟨x1, x2, by omega, by omega, by omega, run.snoc (t := t) (by omega) (by omega) (by omega) (by omega) (by omega) (fun i hi1 hi2 => low2 i hi1 hi2 y (Nat.le_refl _) hy), ?_, ?_⟩
  · intro i hi1 hi2 j hj1 hj2
    by_cases ei : i = k
    · subst ei
      rw [put_at]
      exact hl1 j hj1 hj2
    · rw [put_lt _ _ _ (by omega)]
      exact low1 i hi1 (by omega) j hj1 hj2
  · intro i hi1 hi2 j hj1 hj2
    by_cases ei : i = k
    · subst ei
      rw [put_at]
      exact r.asc (2 * t + 1) y j (by omega) (by omega) (by omega) (by omega)
    · rw [put_lt _ _ _ (by omega)]
      exact low2 i hi1 (by omega) j (by omega) hj2

end Go.Proofs.Qxb6602419a.Plain
