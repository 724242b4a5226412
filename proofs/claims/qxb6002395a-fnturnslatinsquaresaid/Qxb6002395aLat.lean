/-
  THE WALK of FnTurnsLatinSquare.
-/
import Derived.Test.Qxb6002395aTurns
namespace Go.Proofs.Qxb6002395a
open Go.RowKit

theorem cell_one {k i v i' v' : Nat} (hv : v < k) (hv' : v' < k) (e : i' * k + v' = i * k + v) : i' = i ∧ v' = v := by
  rcases Nat.lt_trichotomy i' i with h | h | h
  · have : (i' + 1) * k ≤ i * k := Nat.mul_le_mul_right k h
    rw [Nat.add_mul] at this
    omega
  · subst h
    exact ⟨rfl, by omega⟩
  · have : (i + 1) * k ≤ i' * k := Nat.mul_le_mul_right k h
    rw [Nat.add_mul] at this
    omega
theorem cell_lt {k i v : Nat} (hi : i < k) (hv : v < k) : i * k + v < k * k := by
  have : (i + 1) * k ≤ k * k := Nat.mul_le_mul_right k hi
  rw [Nat.add_mul] at this
  omega

/-- What has been marked, has been marked by an earlier set, or earlier in this one. -/
def Marked (n k j i : Nat) (f : Nat → Bool) : Prop :=
  ∀ i' v', i' < k → v' < k → f (i' * k + v') = true → ∃ j', (j' < j ∨ (j' = j ∧ i' < i)) ∧ v' = turn n k (j' + i')
theorem Marked.new {n k j i : Nat} {f : Nat → Bool} (h : Marked n k j i f) (hk : 1 ≤ k) (hj : j < k) (hi : i < k) : f (i * k + turn n k (j + i)) = false := by
  cases hf : f (i * k + turn n k (j + i)) with
  | false => rfl
  | true =>
    obtain ⟨j', hj', e⟩ := h i _ hi (turn_lt hk) hf
    have hlt : j' < j := by omega
    exact absurd e.symm (turn_ne (show j' + i < j + i by omega) (by omega))
theorem Marked.mark {n k j i : Nat} {f : Nat → Bool} (h : Marked n k j i f) (hk : 1 ≤ k) {g : Nat → Bool} (hg : ∀ p, g p = if p = i * k + turn n k (j + i) then true else f p) : Marked n k j (i + 1) g := by
  intro i' v' hi' hv' hf
  rw [hg] at hf
  by_cases e : i' * k + v' = i * k + turn n k (j + i)
  · obtain ⟨e1, e2⟩ := cell_one (turn_lt hk) hv' e
    subst e1
    exact ⟨j, .inr ⟨rfl, by omega⟩, e2⟩
  · rw [if_neg e] at hf
    obtain ⟨j', hj', e⟩ := h i' v' hi' hv' hf
    exact ⟨j', by omega, e⟩
theorem Marked.row {n k j : Nat} {f : Nat → Bool} (h : Marked n k j k f) : Marked n k (j + 1) 0 f := by
  intro i' v' hi' hv' hf
  obtain ⟨j', hj', e⟩ := h i' v' hi' hv' hf
  exact ⟨j', by omega, e⟩

set_option maxHeartbeats 1000000 in
theorem lat_main (n k : Nat) (w : World) (hk : 1 ≤ k) (hk2 : k ≤ 256) (hn : n ≤ 1073741824) :
    Calls Try.prog 5 #[.int .i64 (n : Int), .int .i64 (k : Int)] w fun e w' => e = .returned (.bool true) ∧ Grown w w' := by
  have d1 : decide ((k : Int) < 1) = false := decide_eq_false (by omega)
  have d2 : decide ((256 : Int) < (k : Int)) = false := decide_eq_false (by omega)
  have d3 : decide ((n : Int) < 0) = false := decide_eq_false (by omega)
  have d4 : decide ((1073741824 : Int) < (n : Int)) = false := decide_eq_false (by omega)
  have hkk : k * k ≤ 65536 := Nat.mul_le_mul hk2 hk2
  have hkk1 : (k : Int) * (k : Int) ≤ 65536 := by rw [← Int.natCast_mul]; omega
  have hkk0 : 0 ≤ (k : Int) * (k : Int) := by rw [← Int.natCast_mul]; omega
  have hmk := run_make_row' (P := Try.prog) 24 4 (.bool false) 1 Try.underlying24 Try.info4 rfl .i64 .i64 (k * k) (by omega) (by omega)
  rw [Int.natCast_mul] at hmk
  go_enter Try.func5, Try.ntmps5
  go_wp2_with fail
  go_loopw [6] (fun y wr => ∃ (j : Nat) (f : Nat → Bool), j ≤ k ∧ y = .int .i64 j ∧ Marked n k j 0 f ∧ wr.rowIs w.heap.size 4 (k * k) (fun p => .bool (f p)) ∧ Grown w wr) (fun y _ => k - (intOf y).toNat)
  case atStart => exact ⟨0, fun _ => false, Nat.zero_le _, rfl, fun i' v' h1 h2 hf => absurd hf Bool.false_ne_true, World.rowIs_made _ _ _ _, (Grown.refl _).alloc _ _⟩
  case round =>
    obtain ⟨j, f, hj, rfl, hM, hr, hg⟩ := hrel
    have HM : Hid (Marked n k j 0 f) := hM
    clear hM hmk
    by_cases hlt : j < k
    · go_wp2_with fail
      rw [show (n : Int) + (j : Int) = ((n + j : Nat) : Int) from by omega]
      refine (turns_walk (n + j) k wr hk (by omega) (by omega)).mono ?_
      obtain ⟨gO, hgO⟩ : ∃ g, wr.heap.size = g := ⟨_, rfl⟩
      rintro e w1 ⟨rfl, ro, hb1, hg1, -⟩
      have hr1 : w1.rowIs w.heap.size 4 (k * k) (fun p => .bool (f p)) := hr.of_block (hb1.block _ hr.lt)
      have hne : ¬ wr.heap.size = w.heap.size := by have := hr.lt; omega
      have hgw : Grown w w1 := grown_trans hg hg1
      rw [hgO] at ro hne
      rw [hgO]
      clear hr hg hg1 hb1 hgO
      go_wp2_with fail
      go_loopw [8] (fun y wq => ∃ (i : Nat) (f : Nat → Bool), i ≤ k ∧ y = .int .i64 i ∧ Marked n k j i f ∧ wq.rowIs w.heap.size 4 (k * k) (fun p => .bool (f p)) ∧ wq.rowIs gO 3 k (fun i => .int .i64 (turn (n + j) k i : Int)) ∧ Grown w wq) (fun y _ => k - (intOf y).toNat)
      case atStart => exact ⟨0, f, Nat.zero_le _, rfl, HM.out, hr1, ro, hgw⟩
      case round =>
        clear HM hr1 ro hgw f
        obtain ⟨i, f, hi, rfl, hM, hr, ro, hg⟩ := hrel
        have HM : Hid (Marked n k j i f) := hM
        clear hM
        by_cases hlti : i < k
        · obtain ⟨q, hq⟩ : ∃ q, q = turn n k (j + i) := ⟨_, rfl⟩
          have hqk : q < k := hq ▸ turn_lt hk
          have c1 : wr.cell? ⟨gO, i, none⟩ = some (.int .i64 (q : Int)) := by rw [hq, ← turn_shift]; exact ro.cell hlti
          have hpl : i * k + q < k * k := cell_lt hlti hqk
          have cS : wr.cell? ⟨w.heap.size, i * k + q, none⟩ = some (.bool false) := by rw [hr.cell hpl, hq, HM.out.new hk hlt hlti]
          have fS := hr.frozen (i * k + q)
          have d5 : decide ((q : Int) < 0) = false := decide_eq_false (by omega)
          have d6 : decide (k ≤ q) = false := decide_eq_false (by omega)
          have d7 : decide ((k : Int) ≤ (q : Int)) = false := decide_eq_false (by omega)
          have m0 : 0 ≤ (i : Int) * (k : Int) := by rw [← Int.natCast_mul]; omega
          have m1 : (i : Int) * (k : Int) + (q : Int) < (k : Int) * (k : Int) := by rw [← Int.natCast_mul, ← Int.natCast_mul]; omega
          have HQ : Hid (q = turn n k (j + i)) := hq
          clear hq
          go_wp2_with fail
          go_roundw
          case rel =>
            refine ⟨i + 1, fun p => if p = i * k + q then true else f p, by omega, by go_num, HM.out.mark hk (fun p => by rw [← HQ.out]), (hr.set (i * k + q) _).congr (fun p _ => ?_), ro.setOther (a := ⟨w.heap.size, i * k + q, none⟩) hne _, hg.setCell (Nat.le_refl _) _⟩
            show (if p = i * k + q then Value.bool true else .bool (f p)) = .bool (if p = i * k + q then true else f p)
            split <;> rfl
          case measure => simp [intOf]; omega
        · obtain rfl : i = k := by omega
          go_wp2_with fail
          go_roundw
          case rel => exact ⟨j + 1, f, by omega, by go_num, HM.out.row, hr, hg⟩
          case measure => simp [intOf]; omega
    · go_wp2_with fail
      go_ret
      exact ⟨rfl, hg⟩

theorem lat_walk (n k : Int) (w : World) : Calls Try.prog 5 #[.int .i64 n, .int .i64 k] w fun e w' => e = .returned (.bool true) ∧ Grown w w' := by
  by_cases h1 : k < 1
  · have d1 : decide (k < 1) = true := decide_eq_true h1
    go_enter Try.func5, Try.ntmps5
    go_wp2_with fail
    go_ret
    exact ⟨rfl, Grown.refl _⟩
  have d1 : decide (k < 1) = false := decide_eq_false h1
  by_cases h2 : 256 < k
  · go_enter Try.func5, Try.ntmps5
    go_wp2_with fail
    go_ret
    exact ⟨rfl, Grown.refl _⟩
  have d2 : decide (256 < k) = false := decide_eq_false h2
  by_cases h3 : n < 0
  · have d3 : decide (n < 0) = true := decide_eq_true h3
    go_enter Try.func5, Try.ntmps5
    go_wp2_with fail
    go_ret
    exact ⟨rfl, Grown.refl _⟩
  have d3 : decide (n < 0) = false := decide_eq_false h3
  by_cases h4 : 1073741824 < n
  · go_enter Try.func5, Try.ntmps5
    go_wp2_with fail
    go_ret
    exact ⟨rfl, Grown.refl _⟩
  obtain ⟨k', rfl⟩ := Int.eq_ofNat_of_zero_le (show 0 ≤ k by omega)
  obtain ⟨n', rfl⟩ := Int.eq_ofNat_of_zero_le (show 0 ≤ n by omega)
  exact lat_main n' k' w (by omega) (by omega) (by omega)

end Go.Proofs.Qxb6002395a
