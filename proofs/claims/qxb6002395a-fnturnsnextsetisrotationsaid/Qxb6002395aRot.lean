/-
  THE WALK of FnTurnsNextSetIsRotation.
-/
import Derived.Test.Qxb6002395aTurns
namespace Go.Proofs.Qxb6002395a
open Go.RowKit

theorem rowIs_below {w w' : World} {B g : Nat} {t : TypeId} {n : Nat} {f : Nat → Value} (h : w.rowIs g t n f) (hb : Below B w w') (hg : g < B) : w'.rowIs g t n f := h.of_block (hb.block g hg)

set_option maxHeartbeats 1000000 in
theorem rot_main (n k : Nat) (w : World) (hk : 1 ≤ k) (hk2 : k ≤ 4096) (hn : n ≤ 1073741824) :
    Calls Try.prog 4 #[.int .i64 (n : Int), .int .i64 (k : Int)] w fun e w' => e = .returned (.bool true) ∧ Grown w w' := by
  have d1 : decide ((k : Int) < 1) = false := decide_eq_false (by omega)
  have d2 : decide ((4096 : Int) < (k : Int)) = false := decide_eq_false (by omega)
  have d3 : decide ((n : Int) < 0) = false := decide_eq_false (by omega)
  have d4 : decide ((1073741824 : Int) < (n : Int)) = false := decide_eq_false (by omega)
  go_enter Try.func4, Try.ntmps4
  go_wp2_with fail
  refine (turns_walk n k w hk hk2 (by omega)).mono ?_
  rintro e w1 ⟨rfl, ra, hb1, hg1, -⟩
  go_wp2_with fail
  rw [show (n : Int) + 1 = ((n + 1 : Nat) : Int) from by omega]
  refine (turns_walk (n + 1) k w1 hk hk2 (by omega)).mono ?_
  rintro e w2 ⟨rfl, rb, hb2, hg2, -⟩
  go_wp2_with fail
  rw [show (n : Int) + (k : Int) = ((n + k : Nat) : Int) from by omega]
  refine (turns_walk (n + k) k w2 hk hk2 (by omega)).mono ?_
  rintro e w3 ⟨rfl, rc, hb3, hg3, -⟩
  have ra2 := rowIs_below ra hb2 ra.lt
  have ra3 := rowIs_below ra2 hb3 ra2.lt
  have rb3 := rowIs_below rb hb3 rb.lt
  have hg : Grown w w3 := grown_trans (grown_trans hg1 hg2) hg3
  clear ra ra2 rb hb1 hb2 hb3 hg1 hg2 hg3
  go_wp2_with fail
  go_loopw [8] (fun i wr => ∃ m nq : Nat, m ≤ k ∧ i = .int .i64 m ∧ wr = w3.drewN nq) (fun i _ => k - (intOf i).toNat)
  case atStart => exact ⟨0, 0, Nat.zero_le _, rfl, rfl⟩
  case round =>
    obtain ⟨m, nq, hm, rfl, rfl⟩ := hrel
    by_cases hlt : m < k
    · obtain ⟨A, hA⟩ : ∃ A, A = turn n k m := ⟨_, rfl⟩
      obtain ⟨B, hB⟩ : ∃ B, B = turn (n + 1) k m := ⟨_, rfl⟩
      have ca : w3.cell? ⟨w.heap.size, m, none⟩ = some (.int .i64 (A : Int)) := by rw [hA]; exact ra3.cell hlt
      have cb : w3.cell? ⟨w1.heap.size, m, none⟩ = some (.int .i64 (B : Int)) := by rw [hB]; exact rb3.cell hlt
      have cc : w3.cell? ⟨w2.heap.size, m, none⟩ = some (.int .i64 (A : Int)) := by rw [hA, ← turn_round]; exact rc.cell hlt
      have i1 : (m : Int) < (k : Int) := by omega
      by_cases hw : m + 1 = k
      · have ca' : w3.cell? ⟨w.heap.size, 0, none⟩ = some (.int .i64 (B : Int)) := by rw [hB, turn_wrap n k m hw]; exact ra3.cell (by omega)
        have t1 : (((m : Int) + 1) == (k : Int)) = true := by rw [beq_iff_eq]; omega
        have i0 : (0 : Int) < (k : Int) := by omega
        have HW : Hid (m + 1 = k) := hw
        clear hA hB hw
        go_wp2
        go_quiet (fail)
        go_wp2
        go_quiet (fail)
        go_wp2
        go_roundw
        case rel => exact ⟨m + 1, _, by omega, by go_num, rfl⟩
        case measure => simp [intOf]; omega
      · have ca' : w3.cell? ⟨w.heap.size, m + 1, none⟩ = some (.int .i64 (B : Int)) := by rw [hB, turn_next n k m]; exact ra3.cell (by omega)
        have t1 : (((m : Int) + 1) == (k : Int)) = false := by simp; omega
        have i2 : (m : Int) + 1 < (k : Int) := by omega
        clear hA hB hw
        go_wp2
        go_quiet (fail)
        go_wp2
        go_quiet (fail)
        go_wp2
        go_roundw
        case rel => exact ⟨m + 1, _, by omega, by go_num, rfl⟩
        case measure => simp [intOf]; omega
    · go_wp2_with fail
      go_ret
      exact ⟨rfl, grown_drewN hg _⟩

theorem rot_walk (n k : Int) (w : World) : Calls Try.prog 4 #[.int .i64 n, .int .i64 k] w fun e w' => e = .returned (.bool true) ∧ Grown w w' := by
  by_cases h1 : k < 1
  · have d1 : decide (k < 1) = true := decide_eq_true h1
    go_enter Try.func4, Try.ntmps4
    go_wp2_with fail
    go_ret
    exact ⟨rfl, Grown.refl _⟩
  have d1 : decide (k < 1) = false := decide_eq_false h1
  by_cases h2 : 4096 < k
  · go_enter Try.func4, Try.ntmps4
    go_wp2_with fail
    go_ret
    exact ⟨rfl, Grown.refl _⟩
  have d2 : decide (4096 < k) = false := decide_eq_false h2
  by_cases h3 : n < 0
  · have d3 : decide (n < 0) = true := decide_eq_true h3
    go_enter Try.func4, Try.ntmps4
    go_wp2_with fail
    go_ret
    exact ⟨rfl, Grown.refl _⟩
  have d3 : decide (n < 0) = false := decide_eq_false h3
  by_cases h4 : 1073741824 < n
  · go_enter Try.func4, Try.ntmps4
    go_wp2_with fail
    go_ret
    exact ⟨rfl, Grown.refl _⟩
  obtain ⟨k', rfl⟩ := Int.eq_ofNat_of_zero_le (show 0 ≤ k by omega)
  obtain ⟨n', rfl⟩ := Int.eq_ofNat_of_zero_le (show 0 ≤ n by omega)
  exact rot_main n' k' w (by omega) (by omega) (by omega)

end Go.Proofs.Qxb6002395a
