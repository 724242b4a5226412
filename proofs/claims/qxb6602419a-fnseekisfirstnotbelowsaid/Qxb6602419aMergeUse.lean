/-
  Slices as lists; the exported alias of mergeTwo.
-/
import Derived.Test.Qxb6602419aMerge
import Derived.Test.Qxb6602419aSortLaw
namespace Go.Proofs.Qxb6602419a
open Go.RowKit
open Plain

theorem Seen.later {w w' : World} {k : IntKind} {n : Nat} {z : Nat → Nat} {a : Option Addr} (h : Seen w k n z a) (hb : Below w.heap.size w w') : Seen w' k n z a := by
  intro j hj
  obtain ⟨b, off, rfl, hbl, hc⟩ := h j hj
  exact ⟨b, off, rfl, Nat.lt_of_lt_of_le hbl hb.size, (hb.cell (p := ⟨b, off + j, none⟩) hbl).trans hc⟩
theorem SeenL.later {w w' : World} {A : List Nat} {a : Option Addr} (h : SeenL w A a) (hb : Below w.heap.size w w') : SeenL w' A a := Seen.later h hb
/-- The list that a slice reads. -/
def listOf (n : Nat) (z : Nat → Nat) : List Nat := (List.range n).map z
theorem listOf_length (n : Nat) (z : Nat → Nat) : (listOf n z).length = n := by simp [listOf]
theorem listOf_at {n : Nat} {z : Nat → Nat} {j : Nat} (h : j < n) : (listOf n z).getD j 0 = z j := by simp [listOf, h]
theorem Seen.list {w : World} {n : Nat} {z : Nat → Nat} {a : Option Addr} (h : Seen w .u64 n z a) : SeenL w (listOf n z) a := by
  intro j hj
  rw [listOf_length] at hj
  obtain ⟨b, off, e, hbl, hc⟩ := h j hj
  exact ⟨b, off, e, hbl, by rw [hc]; show some (Value.int _ ((z j : Nat) : Int)) = some (Value.int _ (((listOf n z).getD j 0 : Nat) : Int)); rw [listOf_at hj]⟩
theorem SeenL.nil (w : World) (a : Option Addr) : SeenL w [] a := fun j hj => absurd hj (by simp)

theorem zzmerge_walk (a0 a1 : Option Addr) (A B : List Nat) (na nb c0 c1 : Nat) (w : World) (ena : A.length = na) (enb : B.length = nb) (hA : na ≤ 65536) (hB : nb ≤ 65536) (h0 : a0 = none → na = 0 ∧ c0 = 0) (h1 : a1 = none → nb = 0 ∧ c1 = 0) (hc0 : na ≤ c0) (hc1 : nb ≤ c1) (s0 : SeenL w A a0) (s1 : SeenL w B a1) :
    Calls Try.prog 18 #[.slice a0 na c0, .slice a1 nb c1] w fun e w' => ∃ g, e = .returned (.slice (some ⟨g, 0, none⟩) (mergeU A B).length (mergeU A B).length) ∧ SeenL w' (mergeU A B) (some ⟨g, 0, none⟩) ∧ w.heap.size ≤ g ∧ Below w.heap.size w w' := by
  subst ena enb
  go_enter Try.func18, Try.ntmps18
  go_wp2_with fail
  refine (mergeTwo_walk a0 a1 A B c0 c1 w hA hB h0 h1 hc0 hc1 s0 s1).mono ?_
  rintro e w1 ⟨g, rfl, hs, hg, hb⟩
  go_wp2
  go_ret
  exact ⟨g, rfl, hs, hg, hb⟩

theorem Own.nil0' {w : World} {k : IntKind} {e : TypeId} {n g c : Nat} {z : Nat → Nat} {a : Option Addr} (h : Own w k e n z (.slice a n c) g) : a = none → n = 0 ∧ c = 0 := by
  rintro rfl
  rcases h with ⟨h0, b, hb⟩ | ⟨hv, _⟩
  · cases hb; exact ⟨rfl, rfl⟩
  · cases hv

end Go.Proofs.Qxb6602419a
