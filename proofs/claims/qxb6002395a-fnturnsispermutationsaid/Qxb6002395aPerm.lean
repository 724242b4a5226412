/-
  THE WALK of FnTurnsIsPermutation.
-/
import Derived.Test.Qxb6002395aTurns
namespace Go.Proofs.Qxb6002395a
open Go.RowKit

/-- Which programs have been met among the first m. -/
def met (n k : Nat) : Nat → Nat → Bool
  | 0 => fun _ => false
  | m + 1 => fun j => if j = turn n k m then true else met n k m j
theorem met_new {n k j : Nat} : ∀ m, (∀ i, i < m → turn n k i ≠ j) → met n k m j = false
  | 0, _ => rfl
  | m + 1, h => by
    show (if j = turn n k m then true else met n k m j) = false
    rw [if_neg (fun e => h m (by omega) e.symm)]
    exact met_new m (fun i hi => h i (by omega))

set_option maxHeartbeats 1000000 in
theorem perm_main (n k : Nat) (w : World) (hk : 1 ≤ k) (hk2 : k ≤ 4096) (hn : n ≤ 1073741824) :
    Calls Try.prog 3 #[.int .i64 (n : Int), .int .i64 (k : Int)] w fun e w' => e = .returned (.bool true) ∧ Grown w w' := by
  have d1 : decide ((k : Int) < 1) = false := decide_eq_false (by omega)
  have d2 : decide ((4096 : Int) < (k : Int)) = false := decide_eq_false (by omega)
  have d3 : decide ((n : Int) < 0) = false := decide_eq_false (by omega)
  have d4 : decide ((1073741824 : Int) < (n : Int)) = false := decide_eq_false (by omega)
  have hmk := run_make_row' (P := Try.prog) 24 4 (.bool false) 1 Try.underlying24 Try.info4 rfl .i64 .i64 k (by omega) (by omega)
  go_enter Try.func3, Try.ntmps3
  go_wp2_with fail
  refine (turns_walk n k w hk hk2 (by omega)).mono ?_
  rintro e w1 ⟨rfl, hr1, hb1, hg1, -⟩
  go_wp2_with fail
  go_loopw [7] (fun i wr => ∃ m : Nat, m ≤ k ∧ i = .int .i64 m ∧ wr.rowIs w1.heap.size 4 k (fun j => .bool (met n k m j)) ∧ Below w1.heap.size w1 wr ∧ Grown w1 wr) (fun i _ => k - (intOf i).toNat)
  case atStart => exact ⟨0, Nat.zero_le _, rfl, World.rowIs_made _ _ _ _, (Below.refl _ _).alloc (Nat.le_refl _) _, (Grown.refl _).alloc _ _⟩
  case round =>
    obtain ⟨m, hm, rfl, hr, hb, hg⟩ := hrel
    clear hmk
    by_cases hlt : m < k
    · obtain ⟨q, hq⟩ : ∃ q, q = turn n k m := ⟨_, rfl⟩
      have hqk : q < k := hq ▸ turn_lt hk
      have c1 : wr.cell? ⟨w.heap.size, m, none⟩ = some (.int .i64 (q : Int)) := by rw [hq, hb.cell (p := ⟨w.heap.size, m, none⟩) hr1.lt]; exact hr1.cell hlt
      have cS : wr.cell? ⟨w1.heap.size, q, none⟩ = some (.bool false) := by rw [hr.cell hqk, met_new m (fun i hi e => by have := turn_inj (n := n) (k := k) (a := i) (b := m) (by omega) hlt (by rw [e, hq]); omega)]
      have fS := hr.frozen q
      have d5 : decide ((q : Int) < 0) = false := decide_eq_false (by omega)
      have HQ : Hid (q = turn n k m) := hq
      clear hq
      go_wp2_with fail
      go_roundw
      case rel =>
        refine ⟨m + 1, by omega, by go_num, (hr.set q _).congr (fun j _ => ?_), hb.setCell (Nat.le_refl _) _, hg.setCell (Nat.le_refl _) _⟩
        show (if j = q then Value.bool true else .bool (met n k m j)) = .bool (if j = turn n k m then true else met n k m j)
        rw [HQ.out]
        split <;> rfl
      case measure => simp [intOf]; omega
    · go_wp2_with fail
      go_ret
      exact ⟨rfl, grown_trans hg1 hg⟩

theorem perm_walk (n k : Int) (w : World) : Calls Try.prog 3 #[.int .i64 n, .int .i64 k] w fun e w' => e = .returned (.bool true) ∧ Grown w w' := by
  by_cases h1 : k < 1
  · have d1 : decide (k < 1) = true := decide_eq_true h1
    go_enter Try.func3, Try.ntmps3
    go_wp2_with fail
    go_ret
    exact ⟨rfl, Grown.refl _⟩
  have d1 : decide (k < 1) = false := decide_eq_false h1
  by_cases h2 : 4096 < k
  · go_enter Try.func3, Try.ntmps3
    go_wp2_with fail
    go_ret
    exact ⟨rfl, Grown.refl _⟩
  have d2 : decide (4096 < k) = false := decide_eq_false h2
  by_cases h3 : n < 0
  · have d3 : decide (n < 0) = true := decide_eq_true h3
    go_enter Try.func3, Try.ntmps3
    go_wp2_with fail
    go_ret
    exact ⟨rfl, Grown.refl _⟩
  have d3 : decide (n < 0) = false := decide_eq_false h3
  by_cases h4 : 1073741824 < n
  · go_enter Try.func3, Try.ntmps3
    go_wp2_with fail
    go_ret
    exact ⟨rfl, Grown.refl _⟩
  obtain ⟨k', rfl⟩ := Int.eq_ofNat_of_zero_le (show 0 ≤ k by omega)
  obtain ⟨n', rfl⟩ := Int.eq_ofNat_of_zero_le (show 0 ≤ n by omega)
  exact perm_main n' k' w (by omega) (by omega) (by omega)

end Go.Proofs.Qxb6002395a
