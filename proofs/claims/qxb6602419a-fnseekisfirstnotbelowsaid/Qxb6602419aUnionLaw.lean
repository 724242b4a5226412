/-
  PLAIN LAWS: what the merge of two ascending lists holds, and how often; a count read off two bounds: no Go, no program.
-/
import Derived.Test.Qxb6602419aMergeLaw
namespace Go.Proofs.Qxb6602419a.Plain

/-- Ascending, repeats allowed. -/
def Asc (A : List Nat) : Prop := A.Pairwise (· ≤ ·)

theorem Asc.head {x : Nat} {A : List Nat} (h : Asc (x :: A)) : ∀ y ∈ A, x ≤ y := (List.pairwise_cons.1 h).1
theorem Asc.tail {x : Nat} {A : List Nat} (h : Asc (x :: A)) : Asc A := (List.pairwise_cons.1 h).2

theorem mg_mem : ∀ (f : Nat) (A B : List Nat) (v : Nat), v ∈ mg f A B → v ∈ A ∨ v ∈ B
  | 0, A, B, v, h => by simpa [mg] using h
  | f + 1, [], B, v, h => by rw [mg_nil] at h; exact .inr h
  | f + 1, x :: A, [], v, h => by rw [mg_nil'] at h; exact .inl h
  | f + 1, x :: A, y :: B, v, h => by
    rcases Nat.lt_trichotomy x y with e | e | e
    · rw [mg_lt e] at h
      rcases List.mem_cons.1 h with h | h
      · exact .inl (by simp [h])
      · rcases mg_mem f A (y :: B) v h with h | h
        · exact .inl (List.mem_cons_of_mem _ h)
        · exact .inr h
    · subst e
      rw [mg_eq] at h
      rcases List.mem_cons.1 h with h | h
      · exact .inl (by simp [h])
      · rcases mg_mem f A B v h with h | h
        · exact .inl (List.mem_cons_of_mem _ h)
        · exact .inr (List.mem_cons_of_mem _ h)
    · rw [mg_gt e] at h
      rcases List.mem_cons.1 h with h | h
      · exact .inr (by simp [h])
      · rcases mg_mem f (x :: A) B v h with h | h
        · exact .inl h
        · exact .inr (List.mem_cons_of_mem _ h)

theorem mg_asc : ∀ (f : Nat) (A B : List Nat), A.length + B.length ≤ f → Asc A → Asc B → Asc (mg f A B)
  | 0, A, B, hf, hA, hB => by
    have h1 : A = [] := List.eq_nil_of_length_eq_zero (by omega)
    subst h1
    rw [mg_nil]
    exact hB
  | f + 1, [], B, _, _, hB => by rw [mg_nil]; exact hB
  | f + 1, x :: A, [], _, hA, _ => by rw [mg_nil']; exact hA
  | f + 1, x :: A, y :: B, hf, hA, hB => by
    simp only [List.length_cons] at hf
    rcases Nat.lt_trichotomy x y with e | e | e
    · rw [mg_lt e]
      refine List.pairwise_cons.2 ⟨fun v hv => ?_, mg_asc f A (y :: B) (by simp only [List.length_cons]; omega) hA.tail hB⟩
      rcases mg_mem f A (y :: B) v hv with h | h
      · exact hA.head v h
      · rcases List.mem_cons.1 h with h | h
        · omega
        · have := hB.head v h; omega
    · subst e
      rw [mg_eq]
      refine List.pairwise_cons.2 ⟨fun v hv => ?_, mg_asc f A B (by omega) hA.tail hB.tail⟩
      rcases mg_mem f A B v hv with h | h
      · exact hA.head v h
      · exact hB.head v h
    · rw [mg_gt e]
      refine List.pairwise_cons.2 ⟨fun v hv => ?_, mg_asc f (x :: A) B (by simp only [List.length_cons]; omega) hA hB.tail⟩
      rcases mg_mem f (x :: A) B v hv with h | h
      · rcases List.mem_cons.1 h with h | h
        · omega
        · have := hA.head v h; omega
      · exact hB.head v h

theorem mg_length : ∀ (f : Nat) (A B : List Nat), (mg f A B).length ≤ A.length + B.length
  | 0, A, B => by simp [mg]
  | f + 1, [], B => by rw [mg_nil]; simp
  | f + 1, x :: A, [] => by rw [mg_nil']; simp
  | f + 1, x :: A, y :: B => by
    rcases Nat.lt_trichotomy x y with e | e | e
    · have := mg_length f A (y :: B)
      rw [mg_lt e]; simp only [List.length_cons] at *; omega
    · subst e
      have := mg_length f A B
      rw [mg_eq]; simp only [List.length_cons]; omega
    · have := mg_length f (x :: A) B
      rw [mg_gt e]; simp only [List.length_cons] at *; omega

theorem count_below {v y : Nat} {B : List Nat} (hB : Asc (y :: B)) (h : v < y) : (y :: B).count v = 0 := by
  apply List.count_eq_zero.2
  intro hm
  rcases List.mem_cons.1 hm with e | e
  · omega
  · have := hB.head v e; omega

theorem mg_count (v : Nat) : ∀ (f : Nat) (A B : List Nat), A.length + B.length ≤ f → Asc A → Asc B → (mg f A B).count v = max (A.count v) (B.count v)
  | 0, A, B, hf, hA, hB => by
    have h1 : A = [] := List.eq_nil_of_length_eq_zero (by omega)
    subst h1
    rw [mg_nil]
    simp
  | f + 1, [], B, _, _, _ => by rw [mg_nil]; simp
  | f + 1, x :: A, [], _, _, _ => by rw [mg_nil']; simp
  | f + 1, x :: A, y :: B, hf, hA, hB => by
    simp only [List.length_cons] at hf
    rcases Nat.lt_trichotomy x y with e | e | e
    · rw [mg_lt e, List.count_cons, mg_count v f A (y :: B) (by simp only [List.length_cons]; omega) hA.tail hB, List.count_cons (l := A)]
      by_cases hv : x = v
      · subst hv
        rw [count_below hB e]
        simp
      · simp [hv]
    · subst e
      rw [mg_eq, List.count_cons, mg_count v f A B (by omega) hA.tail hB.tail, List.count_cons (l := A), List.count_cons (l := B)]
      by_cases hv : x = v
      · simp [hv]
      · simp [hv]
    · rw [mg_gt e, List.count_cons, mg_count v f (x :: A) B (by simp only [List.length_cons]; omega) hA hB.tail, List.count_cons (l := B)]
      by_cases hv : y = v
      · subst hv
        rw [count_below hA e]
        simp
      · simp [hv]

theorem mergeU_asc {A B : List Nat} (hA : Asc A) (hB : Asc B) : Asc (mergeU A B) := mg_asc _ A B (Nat.le_refl _) hA hB
theorem mergeU_count {A B : List Nat} (hA : Asc A) (hB : Asc B) (v : Nat) : (mergeU A B).count v = max (A.count v) (B.count v) := mg_count v _ A B (Nat.le_refl _) hA hB

/-- A count, read off two bounds. -/
theorem count_bounds {L : List Nat} {v lo hi : Nat} (h1 : lo ≤ hi) (h2 : hi ≤ L.length) (hl : ∀ i, i < lo → L.getD i 0 ≠ v) (hm : ∀ i, lo ≤ i → i < hi → L.getD i 0 = v) (hh : ∀ i, hi ≤ i → i < L.length → L.getD i 0 ≠ v) : L.count v = hi - lo := by
  have e : L = L.take lo ++ ((L.drop lo).take (hi - lo) ++ L.drop hi) := by
    have e1 : L.drop hi = (L.drop lo).drop (hi - lo) := by rw [List.drop_drop]; congr 1; omega
    rw [e1, List.take_append_drop, List.take_append_drop]
  have c1 : (L.take lo).count v = 0 := by
    apply List.count_eq_zero.2
    intro hv
    obtain ⟨i, hi', ei⟩ := List.mem_iff_getElem.1 hv
    rw [List.length_take] at hi'
    have := hl i (by omega)
    rw [List.getElem_take] at ei
    simp only [List.getD_eq_getElem?_getD, List.getElem?_eq_getElem (show i < L.length by omega), Option.getD_some] at this
    exact this ei
  have c3 : (L.drop hi).count v = 0 := by
    apply List.count_eq_zero.2
    intro hv
    obtain ⟨i, hi', ei⟩ := List.mem_iff_getElem.1 hv
    rw [List.length_drop] at hi'
    have := hh (hi + i) (by omega) (by omega)
    rw [List.getElem_drop] at ei
    simp only [List.getD_eq_getElem?_getD, List.getElem?_eq_getElem (show hi + i < L.length by omega), Option.getD_some] at this
    exact this ei
  have c2 : ((L.drop lo).take (hi - lo)).count v = hi - lo := by
    have hlen : ((L.drop lo).take (hi - lo)).length = hi - lo := by rw [List.length_take, List.length_drop]; omega
    rw [List.count_eq_length.2, hlen]
    intro b hb
    obtain ⟨i, hi', ei⟩ := List.mem_iff_getElem.1 hb
    rw [hlen] at hi'
    have := hm (lo + i) (by omega) (by omega)
    rw [List.getElem_take, List.getElem_drop] at ei
    simp only [List.getD_eq_getElem?_getD, List.getElem?_eq_getElem (show lo + i < L.length by omega), Option.getD_some] at this
    rw [← ei, this]
  have := congrArg (List.count v) e
  rw [List.count_append, List.count_append, c1, c2, c3] at this
  omega

theorem Asc.le {L : List Nat} (h : Asc L) {i j : Nat} (hij : i ≤ j) (hj : j < L.length) : L.getD i 0 ≤ L.getD j 0 := by
  simp only [List.getD_eq_getElem?_getD, List.getElem?_eq_getElem hj, List.getElem?_eq_getElem (show i < L.length by omega), Option.getD_some]
  by_cases e : i = j
  · subst e; exact Nat.le_refl _
  · exact List.pairwise_iff_getElem.1 h i j (by omega) hj (by omega)
theorem asc_of {L : List Nat} (h : ∀ k, 0 < k → k < L.length → L.getD (k - 1) 0 ≤ L.getD k 0) : Asc L := by
  refine List.pairwise_iff_getElem.2 fun i j hi hj hij => ?_
  have key : ∀ d, i + d < L.length → L.getD i 0 ≤ L.getD (i + d) 0 := by
    intro d
    induction d with
    | zero => intro _; exact Nat.le_refl _
    | succ d ih =>
      intro hd
      have h1 := ih (by omega)
      have h2 := h (i + (d + 1)) (by omega) hd
      rw [show i + (d + 1) - 1 = i + d from by omega] at h2
      omega
  have := key (j - i) (by omega)
  rw [show i + (j - i) = j from by omega] at this
  simpa only [List.getD_eq_getElem?_getD, List.getElem?_eq_getElem hj, List.getElem?_eq_getElem hi, Option.getD_some] using this
theorem count_pos_at {L : List Nat} {k : Nat} (hk : k < L.length) : 0 < L.count (L.getD k 0) := by
  apply List.count_pos_iff.2
  simp only [List.getD_eq_getElem?_getD, List.getElem?_eq_getElem hk, Option.getD_some]
  exact List.getElem_mem hk

end Go.Proofs.Qxb6602419a.Plain
