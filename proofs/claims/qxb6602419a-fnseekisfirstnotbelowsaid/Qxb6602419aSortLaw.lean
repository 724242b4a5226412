/-
  PLAIN LAWS of a radix sort by one digit after the other: no Go, no program.
-/
namespace Go.Proofs.Qxb6602419a.Plain

/-- How many of the first k digits are d. -/
def cnt (D : Nat → Nat) (d : Nat) : Nat → Nat
  | 0 => 0
  | k + 1 => cnt D d k + (if D k = d then 1 else 0)
/-- How many of the n digits are below d. -/
def start (D : Nat → Nat) (n : Nat) : Nat → Nat
  | 0 => 0
  | d + 1 => start D n d + cnt D d n
/-- Where number y goes. -/
def pos (D : Nat → Nat) (n y : Nat) : Nat := start D n (D y) + cnt D (D y) y
/-- What lies in the new row after x numbers have been laid. -/
def scat (q F T : Nat → Nat) : Nat → Nat → Nat
  | 0 => T
  | x + 1 => fun j => if j = q x then F x else scat q F T x j

theorem cnt_le (D : Nat → Nat) (d : Nat) : ∀ k, cnt D d k ≤ k
  | 0 => Nat.le_refl _
  | k + 1 => by
    have h := cnt_le D d k
    simp only [cnt]
    split <;> omega
theorem cnt_mono (D : Nat → Nat) (d a : Nat) : ∀ k, cnt D d a ≤ cnt D d (a + k)
  | 0 => Nat.le_refl _
  | k + 1 => by
    have h := cnt_mono D d a k
    show _ ≤ cnt D d (a + k) + _
    omega
theorem cnt_mono' (D : Nat → Nat) (d : Nat) {a b : Nat} (h : a ≤ b) : cnt D d a ≤ cnt D d b := by
  have := cnt_mono D d a (b - a)
  rwa [show a + (b - a) = b from by omega] at this
theorem cnt_step (D : Nat → Nat) (y : Nat) : cnt D (D y) (y + 1) = cnt D (D y) y + 1 := by simp [cnt]
theorem cnt_lt (D : Nat → Nat) {y n : Nat} (h : y < n) : cnt D (D y) y < cnt D (D y) n := by
  have h1 := cnt_mono' D (D y) (show y + 1 ≤ n from h)
  have h2 := cnt_step D y
  omega

theorem start_succ (D : Nat → Nat) (k : Nat) : ∀ m, start D (k + 1) m = start D k m + (if D k < m then 1 else 0)
  | 0 => by simp [start]
  | m + 1 => by
    have h := start_succ D k m
    simp only [start, h, cnt]
    by_cases h1 : D k = m
    · have h2 : ¬ D k < m := by omega
      have h3 : D k < m + 1 := by omega
      simp [h1]; omega
    · by_cases h2 : D k < m
      · have h3 : D k < m + 1 := by omega
        simp [h1, h2, h3]; omega
      · have h3 : ¬ D k < m + 1 := by omega
        simp [h1, h2, h3]
theorem start_all (D : Nat → Nat) (m : Nat) : ∀ n, (∀ y, y < n → D y < m) → start D n m = n
  | 0, _ => by
    have : ∀ m, start D 0 m = 0 := fun m => by
      induction m with
      | zero => rfl
      | succ m ih => simp [start, ih, cnt]
    exact this m
  | n + 1, h => by
    rw [start_succ, start_all D m n (fun y hy => h y (by omega)), if_pos (h n (by omega))]
theorem start_mono (D : Nat → Nat) (n a : Nat) : ∀ k, start D n a ≤ start D n (a + k)
  | 0 => Nat.le_refl _
  | k + 1 => by
    have h := start_mono D n a k
    show _ ≤ start D n (a + k) + _
    omega
theorem start_mono' (D : Nat → Nat) (n : Nat) {a b : Nat} (h : a ≤ b) : start D n a ≤ start D n b := by
  have := start_mono D n a (b - a)
  rwa [show a + (b - a) = b from by omega] at this
theorem start_le (D : Nat → Nat) (n m d : Nat) (h : ∀ y, y < n → D y < m) (hd : d ≤ m) : start D n d ≤ n := by
  have h1 := start_mono' D n hd
  rwa [start_all D m n h] at h1

theorem pos_lt_next (D : Nat → Nat) {n y : Nat} (h : y < n) : pos D n y < start D n (D y + 1) := by
  have := cnt_lt D h
  unfold pos
  show _ < start D n (D y) + cnt D (D y) n
  omega
theorem pos_lt (D : Nat → Nat) {n m y : Nat} (hD : ∀ y, y < n → D y < m) (h : y < n) : pos D n y < n := by
  have h1 := pos_lt_next D h
  have h2 := start_le D n m (D y + 1) hD (hD y h)
  omega
theorem pos_order (D : Nat → Nat) {n a b : Nat} (hb : b < n) (h : pos D n a < pos D n b) : D a < D b ∨ (D a = D b ∧ a < b) := by
  rcases Nat.lt_trichotomy (D a) (D b) with h1 | h1 | h1
  · exact .inl h1
  · refine .inr ⟨h1, ?_⟩
    rcases Nat.lt_or_ge a b with h2 | h2
    · exact h2
    · have h3 := cnt_mono' D (D b) h2
      unfold pos at h
      rw [h1] at h
      omega
  · have h2 := pos_lt_next D hb
    have h3 := start_mono' D n (show D b + 1 ≤ D a from h1)
    unfold pos at h h2
    omega
theorem pos_inj (D : Nat → Nat) {n a b : Nat} (ha : a < n) (hb : b < n) (h : pos D n a = pos D n b) : a = b := by
  rcases Nat.lt_trichotomy (D a) (D b) with h1 | h1 | h1
  · have h2 := pos_lt_next D ha
    have h3 := start_mono' D n (show D a + 1 ≤ D b from h1)
    unfold pos at h h2
    omega
  · unfold pos at h
    rw [h1] at h
    rcases Nat.lt_trichotomy a b with h2 | h2 | h2
    · have h3 := cnt_mono' D (D b) (show a + 1 ≤ b from h2)
      have h4 := cnt_step D a
      rw [h1] at h4
      omega
    · exact h2
    · have h3 := cnt_mono' D (D b) (show b + 1 ≤ a from h2)
      have h4 := cnt_step D b
      omega
  · have h2 := pos_lt_next D hb
    have h3 := start_mono' D n (show D b + 1 ≤ D a from h1)
    unfold pos at h h2
    omega

theorem scat_at (q F T : Nat → Nat) : ∀ x, (∀ a b, a < x → b < x → q a = q b → a = b) → ∀ y, y < x → scat q F T x (q y) = F y
  | 0, _, y, h => absurd h (by omega)
  | x + 1, hq, y, h => by
    show (if q y = q x then F x else scat q F T x (q y)) = F y
    by_cases e : q y = q x
    · rw [if_pos e, hq y x h (by omega) e]
    · rw [if_neg e]
      have hy : y < x := by
        rcases Nat.lt_or_ge y x with h1 | h1
        · exact h1
        · exact absurd (by rw [show y = x from by omega]) e
      exact scat_at q F T x (fun a b ha hb => hq a b (by omega) (by omega)) y hy

/-- An injection of [0, n) into itself meets every number. -/
theorem inj_surj : ∀ (n : Nat) (f : Nat → Nat), (∀ i, i < n → f i < n) → (∀ i j, i < n → j < n → f i = f j → i = j) → ∀ p, p < n → ∃ i, i < n ∧ f i = p
  | 0, _, _, _, p, hp => absurd hp (by omega)
  | n + 1, f, hlt, hinj, p, hp => by
    by_cases hpn : f n = p
    · exact ⟨n, by omega, hpn⟩
    have ne : ∀ i, i < n → f i ≠ f n := fun i hi e => by have := hinj i n (by omega) (by omega) e; omega
    have hn := hlt n (by omega)
    obtain ⟨i, hi, e⟩ := inj_surj n (fun i => if f n < f i then f i - 1 else f i)
      (fun i hi => by
        have h1 := hlt i (by omega)
        have h2 := ne i hi
        by_cases h3 : f n < f i
        · simp only [h3, if_true]; omega
        · simp only [h3, if_false]; omega)
      (fun i j hi hj e => by
        have h2 := ne i hi
        have h3 := ne j hj
        refine hinj i j (by omega) (by omega) ?_
        by_cases h4 : f n < f i <;> by_cases h5 : f n < f j <;> simp only [h4, h5, if_true, if_false] at e <;> omega)
      (if f n < p then p - 1 else p)
      (by by_cases h4 : f n < p
          · simp only [h4, if_true]; omega
          · simp only [h4, if_false]; omega)
    refine ⟨i, by omega, ?_⟩
    have h2 := ne i hi
    by_cases h4 : f n < f i <;> by_cases h5 : f n < p <;> simp only [h4, h5, if_true, if_false] at e <;> omega

/-- The places s, in order: by their numbers' residues, places of one residue in their own order. -/
structure Srt (n : Nat) (z : Nat → Nat) (m : Nat) (s : Nat → Nat) : Prop where
  lt : ∀ j, j < n → s j < n
  asc : ∀ i j, i < j → j < n → z (s i) % m < z (s j) % m ∨ (z (s i) % m = z (s j) % m ∧ s i < s j)

theorem Srt.first (n : Nat) (z : Nat → Nat) : Srt n z 1 (fun j => j) := ⟨fun _ h => h, fun i j h _ => .inr ⟨by omega, h⟩⟩

theorem Srt.inj {n : Nat} {z : Nat → Nat} {m : Nat} {s : Nat → Nat} (h : Srt n z m s) : ∀ i j, i < n → j < n → s i = s j → i = j := by
  intro i j hi hj e
  rcases Nat.lt_trichotomy i j with h1 | h1 | h1
  · have := h.asc i j h1 hj; rw [e] at this; omega
  · exact h1
  · have := h.asc j i h1 hi; rw [e] at this; omega

theorem mod_step (x m : Nat) : x % (m * 256) = x % m + m * (x / m % 256) := Nat.mod_mul

theorem lt_of_digit {a b m A B : Nat} (hm : 0 < m) (h : A < B) : a % m + m * A < b % m + m * B := by
  have h1 := Nat.mod_lt a hm
  have h2 : m * (A + 1) ≤ m * B := Nat.mul_le_mul_left m h
  rw [Nat.mul_add] at h2
  omega

/-- One pass. -/
theorem Srt.pass {n : Nat} {z : Nat → Nat} {m : Nat} {s D T : Nat → Nat} (hm : 0 < m) (h : Srt n z m s) (hD : ∀ y, y < n → D y = z (s y) / m % 256) : Srt n z (m * 256) (scat (pos D n) s T n) := by
  have hlt : ∀ y, y < n → D y < 256 := fun y hy => by rw [hD y hy]; omega
  have hat := scat_at (pos D n) s T n (fun a b ha hb e => pos_inj D ha hb e)
  have hsur := inj_surj n (pos D n) (fun y hy => pos_lt D hlt hy) (fun a b ha hb e => pos_inj D ha hb e)
  refine ⟨fun j hj => ?_, fun i j hij hj => ?_⟩
  · obtain ⟨y, hy, rfl⟩ := hsur j hj
    rw [hat y hy]
    exact h.lt y hy
  · obtain ⟨a, ha, rfl⟩ := hsur i (by omega)
    obtain ⟨b, hb, rfl⟩ := hsur j hj
    rw [hat a ha, hat b hb, mod_step, mod_step, ← hD a ha, ← hD b hb]
    rcases pos_order D hb hij with h1 | ⟨h1, h2⟩
    · exact .inl (lt_of_digit hm h1)
    · rw [h1]
      rcases h.asc a b h2 hb with h3 | ⟨h3, h4⟩
      · exact .inl (by omega)
      · exact .inr ⟨by omega, h4⟩
/-- What is carried along. -/
theorem pass_at {n : Nat} {s D T T' F f : Nat → Nat} (hlt : ∀ y, y < n → D y < 256) (hF : ∀ y, y < n → F y = f (s y)) : ∀ j, j < n → scat (pos D n) F T n j = f (scat (pos D n) s T' n j) := by
  intro j hj
  obtain ⟨y, hy, rfl⟩ := inj_surj n (pos D n) (fun y hy => pos_lt D hlt hy) (fun a b ha hb e => pos_inj D ha hb e) j hj
  rw [scat_at (pos D n) F T n (fun a b ha hb e => pos_inj D ha hb e) y hy, scat_at (pos D n) s T' n (fun a b ha hb e => pos_inj D ha hb e) y hy]
  exact hF y hy
/-- A pass that is left out: all digits agree. -/
theorem Srt.skip {n : Nat} {z : Nat → Nat} {m : Nat} {s : Nat → Nat} (h : Srt n z m s) (hD : ∀ a b, a < n → b < n → z a / m % 256 = z b / m % 256) : Srt n z (m * 256) s := by
  refine ⟨h.lt, fun i j hij hj => ?_⟩
  have e := hD (s i) (s j) (h.lt i (by omega)) (h.lt j hj)
  rw [mod_step, mod_step, e]
  rcases h.asc i j hij hj with h3 | ⟨h3, h4⟩
  · exact .inl (by omega)
  · exact .inr ⟨by omega, h4⟩

/-! ### what all agree on -/
def andU (z : Nat → Nat) : Nat → Nat
  | 0 => 18446744073709551615
  | k + 1 => andU z k &&& z k
def orU (z : Nat → Nat) : Nat → Nat
  | 0 => 0
  | k + 1 => orU z k ||| z k
def U64 : Nat := 18446744073709551616

theorem andU_lt (z : Nat → Nat) : ∀ k, andU z k < U64
  | 0 => by simp [andU, U64]
  | k + 1 => Nat.lt_of_le_of_lt Nat.and_le_left (andU_lt z k)
theorem orU_lt (z : Nat → Nat) (hz : ∀ j, z j < U64) : ∀ k, orU z k < U64
  | 0 => by simp [orU, U64]
  | k + 1 => by
    have h := orU_lt z hz k
    have h2 := hz k
    unfold U64 at h h2
    show orU z k ||| z k < 2 ^ 64
    exact Nat.or_lt_two_pow (by omega) (by omega)
theorem and_bit (z : Nat → Nat) (i : Nat) : ∀ k y, y < k → (andU z k).testBit i = true → (z y).testBit i = true
  | 0, y, h, _ => absurd h (by omega)
  | k + 1, y, h, hb => by
    simp only [andU, Nat.testBit_and, Bool.and_eq_true] at hb
    by_cases e : y = k
    · rw [e]; exact hb.2
    · exact and_bit z i k y (by omega) hb.1
theorem or_bit (z : Nat → Nat) (i : Nat) : ∀ k y, y < k → (z y).testBit i = true → (orU z k).testBit i = true
  | 0, y, h, _ => absurd h (by omega)
  | k + 1, y, h, hb => by
    simp only [orU, Nat.testBit_or, Bool.or_eq_true]
    by_cases e : y = k
    · rw [← e]; exact .inr hb
    · exact .inl (or_bit z i k y (by omega) hb)
theorem digit_bit (x s i : Nat) : (x / 2 ^ s % 256).testBit i = (decide (i < 8) && x.testBit (s + i)) := by
  have h := Nat.testBit_mod_two_pow (x / 2 ^ s) 8 i
  rw [show (2 : Nat) ^ 8 = 256 from rfl] at h
  rw [h, ← Nat.shiftRight_eq_div_pow, Nat.testBit_shiftRight]
/-- Where the digit of 'and ^ or' is nought all numbers have one digit. -/
theorem agree {z : Nat → Nat} {n s : Nat} (h : (andU z n ^^^ orU z n) / 2 ^ s % 256 = 0) : ∀ a b, a < n → b < n → z a / 2 ^ s % 256 = z b / 2 ^ s % 256 := by
  have key : ∀ a, a < n → ∀ i, i < 8 → (z a).testBit (s + i) = (orU z n).testBit (s + i) := by
    intro a ha i hi
    have h0 : ((andU z n ^^^ orU z n) / 2 ^ s % 256).testBit i = false := by rw [h]; exact Nat.zero_testBit i
    rw [digit_bit, Nat.testBit_xor] at h0
    simp only [hi, decide_true, Bool.true_and] at h0
    have h1 := and_bit z (s + i) n a ha
    have h2 := or_bit z (s + i) n a ha
    cases hA : (andU z n).testBit (s + i) <;> cases hO : (orU z n).testBit (s + i) <;> cases hz : (z a).testBit (s + i) <;> simp_all
  intro a b ha hb
  apply Nat.eq_of_testBit_eq
  intro i
  rw [digit_bit, digit_bit]
  by_cases hi : i < 8
  · rw [key a ha i hi, key b hb i hi]
  · simp [hi]

/-- The end: no residue any more. -/
structure Done (n : Nat) (z : Nat → Nat) (s : Nat → Nat) : Prop where
  lt : ∀ j, j < n → s j < n
  asc : ∀ i j, i < j → j < n → z (s i) < z (s j) ∨ (z (s i) = z (s j) ∧ s i < s j)
theorem Done.inj {n : Nat} {z : Nat → Nat} {s : Nat → Nat} (h : Done n z s) : ∀ i j, i < n → j < n → s i = s j → i = j := by
  intro i j hi hj e
  rcases Nat.lt_trichotomy i j with h1 | h1 | h1
  · have := h.asc i j h1 hj; rw [e] at this; omega
  · exact h1
  · have := h.asc j i h1 hi; rw [e] at this; omega
theorem Srt.done {n : Nat} {z : Nat → Nat} {m : Nat} {s : Nat → Nat} (h : Srt n z m s) (hz : ∀ j, z j < m) : Done n z s := by
  refine ⟨h.lt, fun i j hij hj => ?_⟩
  have := h.asc i j hij hj
  rwa [Nat.mod_eq_of_lt (hz _), Nat.mod_eq_of_lt (hz _)] at this
/-- Two such orders are one. -/
theorem Done.same {n : Nat} {z : Nat → Nat} {s t : Nat → Nat} (hs : Done n z s) (ht : Done n z t) : ∀ k, k < n → s k = t k := by
  intro k
  induction k using Nat.strongRecOn with
  | _ k ih =>
    intro hk
    obtain ⟨m, hm, e⟩ := inj_surj n t ht.lt ht.inj (s k) (hs.lt k hk)
    obtain ⟨m', hm', e'⟩ := inj_surj n s hs.lt hs.inj (t k) (ht.lt k hk)
    have g1 : k ≤ m := by
      rcases Nat.lt_or_ge m k with h | h
      · have h1 := ih m h hm
        have := hs.inj m k hm hk (by rw [h1, e])
        omega
      · exact h
    have g2 : k ≤ m' := by
      rcases Nat.lt_or_ge m' k with h | h
      · have h1 := ih m' h hm'
        have := ht.inj m' k hm' hk (by rw [← h1, e'])
        omega
      · exact h
    by_cases h1 : m = k
    · rw [← e, h1]
    by_cases h2 : m' = k
    · rw [← e', h2]
    have a1 := ht.asc k m (by omega) hm
    have a2 := hs.asc k m' (by omega) hm'
    rw [e] at a1
    rw [e'] at a2
    omega

end Go.Proofs.Qxb6602419a.Plain
