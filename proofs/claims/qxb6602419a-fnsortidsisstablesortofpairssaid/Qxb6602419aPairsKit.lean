/-
  What the walk of b1StableSortPairs leans on: the four rows that it made.
-/
import Derived.Test.Qxb6602419aClone
import Derived.Test.Qxb6602419aSortKit
import Derived.Test.Qxb6602419aRunLaw
namespace Go.Proofs.Qxb6602419a
open Go.RowKit
open Plain

/-- Four rows of the call's own, of one length, apart from one another. -/
structure Four (w0 : World) (n : Nat) (A P B Q : Nat → Nat) (a p b q : Nat) (w : World) : Prop where
  ra : w.rowIs a 29 n (cs .u64 A)
  rp : w.rowIs p 30 n (cs .u32 P)
  rb : w.rowIs b 29 n (cs .u64 B)
  rq : w.rowIs q 30 n (cs .u32 Q)
  ne : a ≠ p ∧ a ≠ b ∧ a ≠ q ∧ p ≠ b ∧ p ≠ q ∧ b ≠ q
  hi : w0.heap.size ≤ a ∧ w0.heap.size ≤ p ∧ w0.heap.size ≤ b ∧ w0.heap.size ≤ q
  bel : Below w0.heap.size w0 w

theorem Four.swap {w0 w : World} {n a p b q : Nat} {A P B Q : Nat → Nat} (h : Four w0 n A P B Q a p b q w) : Four w0 n B Q A P b q a p w :=
  ⟨h.rb, h.rq, h.ra, h.rp, by have := h.ne; omega, by have := h.hi; omega, h.bel⟩
theorem Four.congr {w0 w : World} {n a p b q : Nat} {A P B Q A' P' : Nat → Nat} (h : Four w0 n A P B Q a p b q w) (hA : ∀ j, j < n → A j = A' j) (hP : ∀ j, j < n → P j = P' j) : Four w0 n A' P' B Q a p b q w :=
  ⟨h.ra.congr (fun j hj => by unfold cs; rw [hA j hj]), h.rp.congr (fun j hj => by unfold cs; rw [hP j hj]), h.rb, h.rq, h.ne, h.hi, h.bel⟩

/-- A number and its place are laid at k. -/
theorem Four.lay {w0 w : World} {n a p b q : Nat} {A P B Q : Nat → Nat} (h : Four w0 n A P B Q a p b q w) (k x y m : Nat) :
    Four w0 n A P (put B k x) (put Q k y) a p b q (((w.setCell ⟨b, k, none⟩ (.int .u64 (x : Int))).setCell ⟨q, k, none⟩ (.int .u32 (y : Int))).drewN m) := by
  obtain ⟨n1, n2, n3, n4, n5, n6⟩ := h.ne
  refine ⟨?_, ?_, ?_, ?_, h.ne, h.hi, ?_⟩
  · exact World.rowIs.of_block (w := (w.setCell ⟨b, k, none⟩ (.int .u64 (x : Int))).setCell ⟨q, k, none⟩ (.int .u32 (y : Int))) ((h.ra.setOther (a := ⟨b, k, none⟩) n2 _).setOther (a := ⟨q, k, none⟩) n3 _) rfl
  · exact World.rowIs.of_block (w := (w.setCell ⟨b, k, none⟩ (.int .u64 (x : Int))).setCell ⟨q, k, none⟩ (.int .u32 (y : Int))) ((h.rp.setOther (a := ⟨b, k, none⟩) n4 _).setOther (a := ⟨q, k, none⟩) n5 _) rfl
  · exact World.rowIs.of_block (w := (w.setCell ⟨b, k, none⟩ (.int .u64 (x : Int))).setCell ⟨q, k, none⟩ (.int .u32 (y : Int))) ((row_set h.rb k x).setOther (a := ⟨q, k, none⟩) n6 _) rfl
  · exact World.rowIs.of_block (w := (w.setCell ⟨b, k, none⟩ (.int .u64 (x : Int))).setCell ⟨q, k, none⟩ (.int .u32 (y : Int))) (row_set (h.rq.setOther (a := ⟨b, k, none⟩) (Ne.symm n6) _) k y) rfl
  · have hb := (h.bel.setCell (p := ⟨b, k, none⟩) h.hi.2.2.1 (.int .u64 (x : Int))).setCell (p := ⟨q, k, none⟩) h.hi.2.2.2 (.int .u32 (y : Int))
    exact ⟨hb.os, hb.tape, hb.output, hb.size, hb.block⟩

theorem put_val {f g s' : Nat → Nat} {k v : Nat} (h : ∀ j, j < k → f j = g (s' j)) {x : Nat} (hx : x = g v) : ∀ j, j < k + 1 → put f k x j = g (put s' k v j) := by
  intro j hj
  by_cases e : j = k
  · subst e; rw [put_at, put_at, hx]
  · rw [put_lt _ _ _ (by omega), put_lt _ _ _ (by omega)]
    exact h j (by omega)

end Go.Proofs.Qxb6602419a
