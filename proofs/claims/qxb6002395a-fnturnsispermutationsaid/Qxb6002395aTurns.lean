/-
  THE WALK of bench.Turns, and the plain laws of a rotation.
-/
import Derived.Test.Qxb6002395aRows
import Derived.WalkKit
import Derived.WalkSpells
import Derived.Deep.OwnRows
import Derived.Deep.Draws
import Derived.Deep.QuietTactic
import Derived.BigQuiet
namespace Go.Proofs.Qxb6002395a
open Go.RowKit

theorem Try.info3 : (Try.prog.info? 3).map (fun i => (i.zero, i.size, i.bytes)) = some (some (.int .i64 0), 1, 8) := by kernel_rfl
theorem Try.info4 : (Try.prog.info? 4).map (fun i => (i.zero, i.size, i.bytes)) = some (some (.bool false), 1, 1) := by kernel_rfl

/-- Place j of set n of k programs. -/
def turn (n k j : Nat) : Nat := (n + j) % k
theorem turn_lt {n k j : Nat} (hk : 1 ≤ k) : turn n k j < k := Nat.mod_lt _ hk
theorem turn_cast (n k j : Nat) : ((n : Int) + (j : Int)) % (k : Int) = (turn n k j : Int) := by
  unfold turn
  rw [Int.natCast_emod, Int.natCast_add]
theorem turn_ne {n k a b : Nat} (h : a < b) (hb : b < a + k) : turn n k a ≠ turn n k b := by
  intro e
  have h1 : (n + b - (n + a)) % k = 0 := Nat.sub_mod_eq_zero_of_mod_eq e.symm
  rw [show n + b - (n + a) = b - a from by omega, Nat.mod_eq_of_lt (by omega)] at h1
  omega
theorem turn_inj {n k a b : Nat} (ha : a < k) (hb : b < k) (e : turn n k a = turn n k b) : a = b := by
  rcases Nat.lt_trichotomy a b with h | h | h
  · exact absurd e (turn_ne h (by omega))
  · exact h
  · exact absurd e.symm (turn_ne h (by omega))
theorem turn_next (n k i : Nat) : turn (n + 1) k i = turn n k (i + 1) := by
  unfold turn
  rw [show n + 1 + i = n + (i + 1) from by omega]
theorem turn_wrap (n k i : Nat) (h : i + 1 = k) : turn (n + 1) k i = turn n k 0 := by
  unfold turn
  rw [show n + 1 + i = n + k from by omega, Nat.add_mod_right, Nat.add_zero]
theorem turn_round (n k i : Nat) : turn (n + k) k i = turn n k i := by
  unfold turn
  rw [show n + k + i = n + i + k from by omega, Nat.add_mod_right]
theorem turn_shift (n j k i : Nat) : turn (n + j) k i = turn n k (j + i) := by
  unfold turn
  rw [show n + j + i = n + (j + i) from by omega]

/-- The order when i places are laid. -/
def laid (n k i : Nat) : Nat → Value := fun j => if j < i then .int .i64 (turn n k j : Int) else .int .i64 0
theorem laid_set (n k i j : Nat) : (if j = i then Value.int .i64 (turn n k i : Int) else laid n k i j) = laid n k (i + 1) j := by
  unfold laid
  by_cases h : j = i
  · subst h; simp
  · by_cases h1 : j < i
    · have h2 : j < i + 1 := by omega
      simp [h, h1, h2]
    · have h2 : ¬ j < i + 1 := by omega
      simp [h, h1, h2]

theorem grown_trans {a b c : World} (h : Grown a b) (k : Grown b c) : Grown a c := ⟨World.keptBut_trans h.1 k.1, fun x => (k.2.1 x).trans (h.2.1 x), Nat.le_trans h.2.2 k.2.2⟩
theorem grown_drewN {a w : World} (h : Grown a w) (n : Nat) : Grown a (w.drewN n) := h

set_option maxHeartbeats 400000 in
theorem turns_walk (n k : Nat) (w : World) (hk : 1 ≤ k) (hk2 : k ≤ 4096) (hn : n ≤ 4294967296) :
    Calls Try.prog 6 #[.int .i64 (n : Int), .int .i64 (k : Int)] w fun e w' => e = .returned (.slice (some ⟨w.heap.size, 0, none⟩) k k) ∧ w'.rowIs w.heap.size 3 k (fun j => .int .i64 (turn n k j : Int)) ∧ Below w.heap.size w w' ∧ Grown w w' ∧ w'.heap.size = w.heap.size + 1 := by
  have hmk := run_make_row' (P := Try.prog) 22 3 (.int .i64 0) 8 Try.underlying22 Try.info3 rfl .i64 .i64 k (by omega) (by omega)
  go_enter Try.func6, Try.ntmps6
  go_wp2
  go_loopw [11] (fun i wr => ∃ j : Nat, j ≤ k ∧ i = .int .i64 j ∧ wr.rowIs w.heap.size 3 k (laid n k j) ∧ Below w.heap.size w wr ∧ Grown w wr ∧ wr.heap.size = w.heap.size + 1) (fun i _ => k - (intOf i).toNat)
  case atStart => exact ⟨0, Nat.zero_le _, rfl, (World.rowIs_made _ _ _ _).congr (fun j _ => by simp [laid]), (Below.refl _ _).alloc (Nat.le_refl _) _, (Grown.refl _).alloc _ _, by simp⟩
  case round =>
    obtain ⟨j, hj, rfl, hr, hb, hg, hz⟩ := hrel
    clear hmk
    by_cases hlt : j < k
    · have hfz := hr.frozen j
      obtain ⟨ov, hold⟩ : ∃ ov, wr.cell? ⟨w.heap.size, j, none⟩ = some ov := ⟨_, hr.cell hlt⟩
      have htc := turn_cast n k j
      have hk0 : ¬ (k : Int) = 0 := by omega
      go_wp2
      go_roundw
      case rel => exact ⟨j + 1, by omega, by go_num, (hr.set j _).congr (fun i _ => laid_set n k j i), hb.setCell (Nat.le_refl _) _, hg.setCell (Nat.le_refl _) _, by simpa [World.setCell] using hz⟩
      case measure => simp [intOf]; omega
    · obtain rfl : j = k := by omega
      go_wp2
      go_ret
      exact ⟨rfl, hr.congr (fun i hi => by unfold laid; rw [if_pos hi]), hb, hg, hz⟩

end Go.Proofs.Qxb6002395a
