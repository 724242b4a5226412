/-
  THE WALKS of b1CloneU64 and b1CloneU32.
-/
import Derived.Test.Qxb6602419aKit
namespace Go.Proofs.Qxb6602419a
open Go.RowKit

/-- What the copy holds after k rounds. -/
def upTo (k : Nat) (z : Nat → Nat) : Nat → Nat := fun j => if j < k then z j else 0

theorem upTo_set (k : Nat) (z : Nat → Nat) (j : Nat) : (if j = k then z k else upTo k z j) = upTo (k + 1) z j := by
  unfold upTo
  by_cases h : j = k
  · subst h; simp
  · by_cases h1 : j < k
    · simp [h, h1, Nat.lt_succ_of_lt h1]
    · have : ¬ j < k + 1 := by omega
      simp [h, h1, this]
theorem cs_congr {k : IntKind} {z z' : Nat → Nat} {n : Nat} (h : ∀ j, z j = z' j) : ∀ j, j < n → cs k z j = cs k z' j := fun j _ => by unfold cs; rw [h]

set_option maxHeartbeats 400000 in
theorem clone64_some (x : Addr) (n cap : Nat) (z : Nat → Nat) (w : World) (hn : n ≤ 1048576) (hs : Seen w .u64 n z (some x)) :
    Calls Try.prog 11 #[.slice (some x) n cap] w fun e w' => e = .returned (.slice (some ⟨w.heap.size, 0, none⟩) n n) ∧ w'.rowIs w.heap.size 29 n (cs .u64 z) ∧ Below w.heap.size w w' ∧ w'.heap.size = w.heap.size + 1 := by
  have hmk := run_make_row' (P := Try.prog) 22 29 (.int .u64 0) 8 Try.underlying22 Try.info29 rfl .i64 .i64 n (by omega) (by omega)
  have hnil := fun w => Lib.run_eql_slice_nil (P := Try.prog) w 22 29 (some x) n cap 0 0 Try.underlying22
  go_enter Try.func11, Try.ntmps11
  go_wp2
  go_loopw [4] (fun i wr => ∃ k : Nat, k ≤ n ∧ i = .int .i64 k ∧ wr.rowIs w.heap.size 29 n (cs .u64 (upTo k z)) ∧ Below w.heap.size w wr ∧ wr.heap.size = w.heap.size + 1) (fun i _ => n - (intOf i).toNat)
  case atStart => exact ⟨0, Nat.zero_le _, rfl, row_made _ _ _ _, (Below.refl _ _).alloc (Nat.le_refl _) _, by simp⟩
  case round =>
    obtain ⟨k, hk, rfl, hr, hb, hz⟩ := hrel
    clear hmk hnil
    by_cases hlt : k < n
    · obtain ⟨b, off, hx, hbb, hc⟩ := hs k hlt
      cases hx
      have hc' : wr.cell? ⟨b, off + k, none⟩ = some (.int .u64 (z k)) := (hb.cell hbb).trans hc
      have hfz := hr.frozen k
      have hold := hr.cell hlt
      unfold cs at hold
      clear hs hc
      go_wp2
      go_roundw
      case rel => exact ⟨k + 1, by omega, by go_num, (row_set hr k (z k)).congr (cs_congr (upTo_set k z)), hb.setCell (Nat.le_refl _) _, by simpa [World.setCell] using hz⟩
      case measure => simp [intOf]; omega
    · go_wp2
      go_ret
      exact ⟨rfl, hr.congr (fun j hj => by show Value.int _ _ = _; rw [upTo, if_pos (by omega)]; rfl), hb, hz⟩

theorem clone64_nil (w : World) : Calls Try.prog 11 #[.slice none 0 0] w fun e w' => e = .returned (.slice none 0 0) ∧ w' = w := by
  have hnil := fun w => Lib.run_eql_slice_nil (P := Try.prog) w 22 29 none 0 0 0 0 Try.underlying22
  go_enter Try.func11, Try.ntmps11
  go_wp2
  go_ret
  exact ⟨rfl, rfl⟩

/-- The copy, of whatever slice. -/
theorem clone64 (a : Option Addr) (n cap : Nat) (z : Nat → Nat) (w : World) (hn : n ≤ 1048576) (h0 : a = none → n = 0 ∧ cap = 0) (hs : Seen w .u64 n z a) :
    Calls Try.prog 11 #[.slice a n cap] w fun e w' => ∃ v, e = .returned v ∧ Own w' .u64 29 n z v w.heap.size ∧ Below w.heap.size w w' ∧ w'.heap.size ≤ w.heap.size + 1 := by
  cases a with
  | none =>
    obtain ⟨rfl, rfl⟩ := h0 rfl
    refine (clone64_nil w).mono ?_
    rintro e w' ⟨rfl, rfl⟩
    exact ⟨_, rfl, .inl ⟨rfl, _, rfl⟩, Below.refl _ _, by omega⟩
  | some x =>
    refine (clone64_some x n cap z w hn hs).mono ?_
    rintro e w' ⟨rfl, hr, hb, hz⟩
    exact ⟨_, rfl, .inr ⟨rfl, hr⟩, hb, by omega⟩

set_option maxHeartbeats 400000 in
theorem clone32_some (x : Addr) (n cap : Nat) (z : Nat → Nat) (w : World) (hn : n ≤ 1048576) (hs : Seen w .u32 n z (some x)) :
    Calls Try.prog 12 #[.slice (some x) n cap] w fun e w' => e = .returned (.slice (some ⟨w.heap.size, 0, none⟩) n n) ∧ w'.rowIs w.heap.size 30 n (cs .u32 z) ∧ Below w.heap.size w w' ∧ w'.heap.size = w.heap.size + 1 := by
  have hmk := run_make_row' (P := Try.prog) 23 30 (.int .u32 0) 4 Try.underlying23 Try.info30 rfl .i64 .i64 n (by omega) (by omega)
  have hnil := fun w => Lib.run_eql_slice_nil (P := Try.prog) w 23 30 (some x) n cap 0 0 Try.underlying23
  go_enter Try.func12, Try.ntmps12
  go_wp2
  go_loopw [4] (fun i wr => ∃ k : Nat, k ≤ n ∧ i = .int .i64 k ∧ wr.rowIs w.heap.size 30 n (cs .u32 (upTo k z)) ∧ Below w.heap.size w wr ∧ wr.heap.size = w.heap.size + 1) (fun i _ => n - (intOf i).toNat)
  case atStart => exact ⟨0, Nat.zero_le _, rfl, row_made _ _ _ _, (Below.refl _ _).alloc (Nat.le_refl _) _, by simp⟩
  case round =>
    obtain ⟨k, hk, rfl, hr, hb, hz⟩ := hrel
    clear hmk hnil
    by_cases hlt : k < n
    · obtain ⟨b, off, hx, hbb, hc⟩ := hs k hlt
      cases hx
      have hc' : wr.cell? ⟨b, off + k, none⟩ = some (.int .u32 (z k)) := (hb.cell hbb).trans hc
      have hfz := hr.frozen k
      have hold := hr.cell hlt
      unfold cs at hold
      clear hs hc
      go_wp2
      go_roundw
      case rel => exact ⟨k + 1, by omega, by go_num, (row_set hr k (z k)).congr (cs_congr (upTo_set k z)), hb.setCell (Nat.le_refl _) _, by simpa [World.setCell] using hz⟩
      case measure => simp [intOf]; omega
    · go_wp2
      go_ret
      exact ⟨rfl, hr.congr (fun j hj => by show Value.int _ _ = _; rw [upTo, if_pos (by omega)]; rfl), hb, hz⟩

theorem clone32_nil (w : World) : Calls Try.prog 12 #[.slice none 0 0] w fun e w' => e = .returned (.slice none 0 0) ∧ w' = w := by
  have hnil := fun w => Lib.run_eql_slice_nil (P := Try.prog) w 23 30 none 0 0 0 0 Try.underlying23
  go_enter Try.func12, Try.ntmps12
  go_wp2
  go_ret
  exact ⟨rfl, rfl⟩

/-- The copy, of whatever slice. -/
theorem clone32 (a : Option Addr) (n cap : Nat) (z : Nat → Nat) (w : World) (hn : n ≤ 1048576) (h0 : a = none → n = 0 ∧ cap = 0) (hs : Seen w .u32 n z a) :
    Calls Try.prog 12 #[.slice a n cap] w fun e w' => ∃ v, e = .returned v ∧ Own w' .u32 30 n z v w.heap.size ∧ Below w.heap.size w w' ∧ w'.heap.size ≤ w.heap.size + 1 := by
  cases a with
  | none =>
    obtain ⟨rfl, rfl⟩ := h0 rfl
    refine (clone32_nil w).mono ?_
    rintro e w' ⟨rfl, rfl⟩
    exact ⟨_, rfl, .inl ⟨rfl, _, rfl⟩, Below.refl _ _, by omega⟩
  | some x =>
    refine (clone32_some x n cap z w hn hs).mono ?_
    rintro e w' ⟨rfl, hr, hb, hz⟩
    exact ⟨_, rfl, .inr ⟨rfl, hr⟩, hb, by omega⟩

end Go.Proofs.Qxb6602419a
