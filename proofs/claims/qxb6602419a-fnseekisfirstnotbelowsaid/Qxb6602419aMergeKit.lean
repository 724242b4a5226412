/-
  What the walk of mergeTwo leans on: an append with room as one step of a region that draws its order; slices of numbers as lists.
-/
import Derived.Test.Qxb6602419aClone
import Derived.Test.Qxb6602419aMergeLaw
import Derived.Deep.RegionLaw
import Derived.Deep.LoopGhost
import Derived.Deep.DeepCutAuto
namespace Go.Proofs.Qxb6602419a
open Go.RowKit
open Plain

/-- append within the capacity of a row of the call's own, as one step of a region that draws. -/
theorem step_append_fits {P : Program} {ops : Array Oper} {o : Oper} {a : Act} {w : World} {K : Act → World → Prop} {Q : Exit → Act → World → Prop} {E : Prop}
    (hg : o.guard = none) (s x : Operand) (t : TypeId) (hop : o.op = Op.call { callee := Callee.builtin Builtin.append, args := #[s, x], argTypes := #[t, t] })
    (base : Nat) (e : TypeId) (i : TypeInfo) (size : Nat) (h1 : P.underlying t = some (.slice e)) (h2 : P.info? e = some i) (h4 : i.size = size)
    (g n cap : Nat) (xs : List Value) (hs : a.eval s = .slice (some ⟨g, 0, none⟩) n cap) (hown : w.ownsRow base e size (.slice (some ⟨g, 0, none⟩) n cap) n xs)
    (ad : Addr) (m c : Nat) (news : List Value) (hx : a.eval x = .slice (some ad) m c) (hn : news.length = m * size) (hc : ∀ j u, news[j]? = some u → w.cell? (ad.add j) = some u) (h1c : ∀ u ∈ news, u.oneCell' = true)
    (hroom : n + m ≤ cap)
    (hK : ∀ w', w'.ownsRow base e size (.slice (some ⟨g, 0, none⟩) (n + m) cap) (n + m) (xs ++ news) → w.grownBy w' (some g) → K (a.put o.dst (.slice (some ⟨g, 0, none⟩) (n + m) cap)) w') :
    if Region.wanted o (yielded ops a.tmps) = true then Oper.wp P o a w K Q else E := by
  have hw : Region.wanted o (yielded ops a.tmps) = true := by simp [Region.wanted, hg]
  rw [if_pos hw]
  obtain ⟨w', hrun, r1, r2⟩ := run_append_fits (P := P) w base t o.type e i size h1 h2 h4 g n cap xs hown ad m c news hn hc h1c hroom
  unfold Oper.wp
  simp [execOp, hop, resolve, invoke, builtin, hs, hx, hrun, Result.andThen]
  exact hK w' r1 r2

/-- Numbers as values. -/
def vals (R : List Nat) : List Value := R.map fun n : Nat => Value.int .u64 (n : Int)
theorem vals_length (R : List Nat) : (vals R).length = R.length := by simp [vals]
theorem vals_append (R S : List Nat) : vals (R ++ S) = vals R ++ vals S := by simp [vals]
theorem vals_one (R : List Nat) : ∀ u ∈ vals R, u.oneCell' = true := by
  intro u hu
  obtain ⟨_, _, rfl⟩ := List.mem_map.1 hu
  rfl
/-- A slice whose elements are the list's. -/
def SeenL (w : World) (A : List Nat) (a : Option Addr) : Prop := Seen w .u64 A.length (fun j => A.getD j 0) a

theorem SeenL.head {w : World} {x : Nat} {A : List Nat} {a : Option Addr} (h : SeenL w (x :: A) a) : ∃ b off, a = some ⟨b, off, none⟩ ∧ b < w.heap.size ∧ w.cell? ⟨b, off, none⟩ = some (.int .u64 (x : Int)) := by
  obtain ⟨b, off, e, hb, hc⟩ := h 0 (by simp)
  exact ⟨b, off, e, hb, by simpa using hc⟩
/-- 'a[1:]'. -/
theorem SeenL.tail {w : World} {x : Nat} {A : List Nat} {b off c : Nat} (h : SeenL w (x :: A) (some ⟨b, off, none⟩)) (hc : A.length + 1 ≤ c) (a : Option Addr) (ha : ¬ c = 1 → a = some ⟨b, off + 1, none⟩) : SeenL w A a := by
  intro j hj
  obtain ⟨b', off', e, hb, hcell⟩ := h (j + 1) (by simp; omega)
  cases e
  exact ⟨b, off + 1, ha (by omega), hb, by rw [Nat.add_assoc, Nat.add_comm 1 j]; simpa using hcell⟩
/-- The cells that 'append(out, a...)' reads. -/
theorem SeenL.cells {w w' : World} {A : List Nat} {a : Option Addr} (h : SeenL w A a) (hb : Below w.heap.size w w') : ∀ ad, a = some ad → ∀ j u, (vals A)[j]? = some u → w'.cell? (ad.add j) = some u := by
  intro ad had j u hu
  have hj : j < A.length := by
    have := (List.getElem?_eq_some_iff.1 hu).1
    simpa [vals] using this
  obtain ⟨b, off, e, hbl, hc⟩ := h j hj
  rw [had] at e
  cases e
  rw [Addr.add_lit, hb.cell (p := ⟨b, off + j, none⟩) hbl, hc]
  simp [vals, hj] at hu
  rw [← hu]
  simp [hj]

end Go.Proofs.Qxb6602419a
