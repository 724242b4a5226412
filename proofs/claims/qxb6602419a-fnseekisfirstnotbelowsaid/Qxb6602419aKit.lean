/-
  Arrays of numbers that the call itself made, as functions of the index; what is kept of the world. Over no function of the program.
-/
import Derived.Test.Qxb6602419aRows
import Derived.WalkKit
import Derived.WalkSpells
import Derived.Deep.OwnRows
import Derived.Deep.Draws
import Derived.Deep.QuietTactic
import Derived.BigQuiet
namespace Go.Proofs.Qxb6602419a
open Go.RowKit

theorem Try.info29 : (Try.prog.info? 29).map (fun i => (i.zero, i.size, i.bytes)) = some (some (.int .u64 0), 1, 8) := by kernel_rfl
theorem Try.info30 : (Try.prog.info? 30).map (fun i => (i.zero, i.size, i.bytes)) = some (some (.int .u32 0), 1, 4) := by kernel_rfl
theorem Try.info4 : (Try.prog.info? 4).map (fun i => (i.zero, i.size, i.bytes)) = some (some (.bool false), 1, 1) := by kernel_rfl

/-- Numbers as cells. -/
def cs (k : IntKind) (z : Nat → Nat) : Nat → Value := fun j => .int k (z j : Int)

/-- A slice of n numbers that lies at the head of block g (or has no element). -/
def Own (w : World) (k : IntKind) (e : TypeId) (n : Nat) (z : Nat → Nat) (v : Value) (g : Nat) : Prop :=
  (n = 0 ∧ ∃ a, v = .slice a 0 0) ∨ (v = .slice (some ⟨g, 0, none⟩) n n ∧ w.rowIs g e n (cs k z))

/-- What a slice that came in reads. -/
def Seen (w : World) (k : IntKind) (n : Nat) (z : Nat → Nat) (a : Option Addr) : Prop :=
  ∀ j, j < n → ∃ b off, a = some ⟨b, off, none⟩ ∧ b < w.heap.size ∧ w.cell? ⟨b, off + j, none⟩ = some (.int k (z j : Int))

/-- All blocks but those in S are as they were. -/
structure Kept (S : Nat → Prop) (w w' : World) : Prop where
  os : w'.os = w.os
  tape : w'.tape = w.tape
  output : w'.output = w.output
  size : w.heap.size ≤ w'.heap.size
  block : ∀ k, k < w.heap.size → ¬ S k → w'.heap[k]? = w.heap[k]?

theorem Kept.refl (S : Nat → Prop) (w : World) : Kept S w w := ⟨rfl, rfl, rfl, Nat.le_refl _, fun _ _ _ => rfl⟩
theorem Kept.trans {S : Nat → Prop} {a b c : World} (h : Kept S a b) (k : Kept S b c) : Kept S a c :=
  ⟨k.os.trans h.os, k.tape.trans h.tape, k.output.trans h.output, Nat.le_trans h.size k.size, fun i hi hs => (k.block i (Nat.lt_of_lt_of_le hi h.size) hs).trans (h.block i hi hs)⟩
theorem Kept.mono {S T : Nat → Prop} {a b : World} (h : Kept S a b) (hst : ∀ k, k < a.heap.size → S k → T k) : Kept T a b :=
  ⟨h.os, h.tape, h.output, h.size, fun i hi hs => h.block i hi (fun hS => hs (hst i hi hS))⟩
theorem Kept.drew {S : Nat → Prop} {a w : World} (h : Kept S a w) : Kept S a w.drew := ⟨h.os, h.tape, h.output, h.size, h.block⟩
theorem Kept.drewN {S : Nat → Prop} {a w : World} (h : Kept S a w) (n : Nat) : Kept S a (w.drewN n) := ⟨h.os, h.tape, h.output, h.size, h.block⟩
theorem Kept.alloc {S : Nat → Prop} {a w : World} (h : Kept S a w) (o : Obj) : Kept S a (w.alloc o) :=
  ⟨h.os, h.tape, h.output, by have := h.size; simp; omega, fun i hi hs => (Below.heap_alloc w o i (Nat.lt_of_lt_of_le hi h.size)).trans (h.block i hi hs)⟩
theorem Kept.setCell {S : Nat → Prop} {a w : World} (h : Kept S a w) {p : Addr} (hp : p.block < a.heap.size → S p.block) (u : Value) : Kept S a (w.setCell p u) :=
  ⟨h.os, h.tape, h.output, by have := h.size; simp [World.setCell]; omega, fun i hi hs => (Below.heap_setCell w p u i (fun e => hs (by rw [e]; exact hp (by rw [← e]; exact hi)))).trans (h.block i hi hs)⟩
theorem Kept.below {S : Nat → Prop} {B : Nat} {w w' : World} (h : Kept S w w') (hB : B ≤ w.heap.size) (hS : ∀ k, k < B → ¬ S k) : Below B w w' :=
  ⟨h.os, h.tape, h.output, h.size, fun k hk => h.block k (by omega) (hS k hk)⟩
theorem Kept.of_below {B : Nat} {w w' : World} (h : Below B w w') : Kept (fun k => B ≤ k) w w' :=
  ⟨h.os, h.tape, h.output, h.size, fun k _ hs => h.block k (Nat.lt_of_not_le hs)⟩
theorem Kept.row {S : Nat → Prop} {w w' : World} (h : Kept S w w') {g : Nat} {e : TypeId} {n : Nat} {f : Nat → Value} (hr : w.rowIs g e n f) (hs : ¬ S g) : w'.rowIs g e n f :=
  hr.of_block (h.block g hr.lt hs)
theorem Kept.own {S : Nat → Prop} {w w' : World} (h : Kept S w w') {k : IntKind} {g : Nat} {e : TypeId} {n : Nat} {z : Nat → Nat} {v : Value} (hr : Own w k e n z v g) (hs : 0 < n → ¬ S g) : Own w' k e n z v g := by
  rcases hr with hr | ⟨hv, hr⟩
  · exact .inl hr
  · by_cases h0 : n = 0
    · subst h0
      exact .inl ⟨rfl, _, hv⟩
    · exact .inr ⟨hv, h.row hr (hs (by omega))⟩

/-- A slice of the call's own reads as one that came in. -/
theorem Own.seen {w : World} {k : IntKind} {e : TypeId} {n g : Nat} {z : Nat → Nat} {v : Value} (h : Own w k e n z v g) : ∃ a, v = .slice a n n ∧ Seen w k n z a := by
  rcases h with ⟨rfl, a, rfl⟩ | ⟨rfl, hr⟩
  · exact ⟨a, rfl, fun j hj => absurd hj (by omega)⟩
  · exact ⟨_, rfl, fun j hj => ⟨g, 0, rfl, hr.lt, by rw [Nat.zero_add]; exact hr.cell hj⟩⟩
theorem Seen.kept {S : Nat → Prop} {w w' : World} {k : IntKind} {n : Nat} {z : Nat → Nat} {a : Option Addr} (h : Seen w k n z a) (hk : Kept S w w') (hs : ∀ b off, a = some ⟨b, off, none⟩ → ¬ S b) : Seen w' k n z a := by
  intro j hj
  obtain ⟨b, off, rfl, hb, hc⟩ := h j hj
  exact ⟨b, off, rfl, Nat.lt_of_lt_of_le hb hk.size, (World.cell?_of_block (w := w) (hk.block b hb (hs b off rfl))).trans hc⟩
theorem Seen.below {B : Nat} {w w' : World} {k : IntKind} {n : Nat} {z : Nat → Nat} {a : Option Addr} (h : Seen w k n z a) (hk : Below B w w') (hs : ∀ b off, a = some ⟨b, off, none⟩ → b < B) : Seen w' k n z a :=
  h.kept (Kept.of_below hk) (fun b off e => Nat.not_le_of_lt (hs b off e))

/-- The cells behind one store, said of numbers. -/
theorem row_set {w : World} {g : Nat} {e : TypeId} {n : Nat} {k : IntKind} {z : Nat → Nat} (h : w.rowIs g e n (cs k z)) (i x : Nat) :
    (w.setCell ⟨g, i, none⟩ (.int k (x : Int))).rowIs g e n (cs k (fun j => if j = i then x else z j)) :=
  (h.set i _).congr fun j _ => by
    show (if j = i then _ else _) = _
    unfold cs
    by_cases hj : j = i <;> simp [hj]
theorem row_made (w : World) (k : IntKind) (n : Nat) (t : TypeId) : (w.alloc (.cells (madeCells #[.int k 0] n) t)).rowIs w.heap.size t n (cs k (fun _ => 0)) :=
  (World.rowIs_made w (.int k 0) n t).congr fun _ _ => rfl

end Go.Proofs.Qxb6602419a
