/-
  From what the proof's frame says of a slice of numbers that came in to the walks' words.
-/
import Derived.Test.Qxb6602419aKit
import Derived.Test.Qxb6602419aSortLaw
import Derived.OpenShut
import Derived.ProofKit
namespace Go.Proofs.Qxb6602419a
open Go.RowKit
open Plain

theorem toNat_cell {k : IntKind} {x : Int} (h : 0 ≤ x) : Value.int k x = .int k ((x.toNat : Nat) : Int) := by rw [Int.toNat_of_nonneg h]
theorem seen_of_row {k : IntKind} {w : World} {a : Option Addr} {len cap M : Nat} {zs : List Int} (hk : ∀ n, (Lit.int k n).wf = true → 0 ≤ n ∧ n < (M : Int)) (hM : 0 < M)
    (h : (a = none ∧ len = 0 ∧ cap = 0 ∧ zs = []) ∨
      ∃ x, a = some x ∧ len ≤ cap ∧ cap ≤ maxLen ∧ zs.length = cap ∧ (∀ i, i < zs.length → w.cell? (x.add i) = some (.int k (zs.getD i 0))) ∧ ∀ n ∈ zs, (Lit.int k n).wf = true) :
    ∃ z : Nat → Nat, (∀ j, z j < M) ∧ Seen w k len z a ∧ (a = none → len = 0 ∧ cap = 0) ∧ len ≤ cap ∧ len ≤ maxLen := by
  rcases h with ⟨rfl, rfl, rfl, rfl⟩ | ⟨x, rfl, hl, hm, hz, hc, hw⟩
  · exact ⟨fun _ => 0, fun _ => hM, fun j hj => absurd hj (by omega), fun _ => ⟨rfl, rfl⟩, Nat.le_refl _, by unfold maxLen; omega⟩
  · refine ⟨fun j => (zs.getD j 0).toNat, fun j => ?_, fun j hj => ?_, (fun h => by simp at h), hl, by omega⟩
    · by_cases hj : j < zs.length
      · have := hk _ (hw (zs.getD j 0) (by simp [List.getD, hj]))
        show (zs.getD j 0).toNat < M
        omega
      · show (zs.getD j 0).toNat < M
        simp [List.getD, List.getElem?_eq_none (Nat.le_of_not_lt hj)]
        exact hM
    · have hj' : j < zs.length := by omega
      have h0 := hc 0 (by omega)
      have h1 := hc j hj'
      obtain ⟨b, off, spot⟩ := x
      have hspot : spot = none := by simpa [Addr.add] using World.cell?_spot h0
      subst hspot
      rw [show (⟨b, off, none⟩ : Addr).add j = ⟨b, off + j, none⟩ from by unfold Addr.add; split <;> simp_all] at h1
      have := hk _ (hw (zs.getD j 0) (by simp [List.getD, hj']))
      refine ⟨b, off, rfl, World.block_lt_of_cell? w _ h1, ?_⟩
      rw [h1]
      exact congrArg some (toNat_cell this.1)
theorem wf_u64 (n : Int) (h : (Lit.int .u64 n).wf = true) : 0 ≤ n ∧ n < (U64 : Int) := by
  have := bounds_u64 h
  unfold U64
  omega
theorem wf_u32 (n : Int) (h : (Lit.int .u32 n).wf = true) : 0 ≤ n ∧ n < ((4294967296 : Nat) : Int) := by
  have := bounds_u32 h
  omega
theorem U64_pos : 0 < U64 := by unfold U64; omega

end Go.Proofs.Qxb6602419a
