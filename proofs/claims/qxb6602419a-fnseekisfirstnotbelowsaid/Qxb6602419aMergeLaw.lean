/-
  PLAIN LAWS of a merge of two lists that takes one of two equal heads: no Go, no program.
-/
namespace Go.Proofs.Qxb6602419a.Plain

/-- The merge, by fuel. -/
def mg : Nat → List Nat → List Nat → List Nat
  | 0, a, b => a ++ b
  | _ + 1, [], b => b
  | _ + 1, x :: a, [] => x :: a
  | f + 1, x :: a, y :: b => if x < y then x :: mg f a (y :: b) else if y < x then y :: mg f (x :: a) b else x :: mg f a b
def mergeU (a b : List Nat) : List Nat := mg (a.length + b.length) a b

theorem mg_nil (f : Nat) (b : List Nat) : mg f [] b = b := by cases f <;> rfl
theorem mg_nil' (f : Nat) (a : List Nat) : mg f a [] = a := by
  cases f with
  | zero => simp [mg]
  | succ f => cases a <;> rfl
theorem mg_lt {f x y : Nat} {a b : List Nat} (h : x < y) : mg (f + 1) (x :: a) (y :: b) = x :: mg f a (y :: b) := by simp [mg, h]
theorem mg_gt {f x y : Nat} {a b : List Nat} (h : y < x) : mg (f + 1) (x :: a) (y :: b) = y :: mg f (x :: a) b := by
  have : ¬ x < y := by omega
  simp [mg, h, this]
theorem mg_eq {f x : Nat} {a b : List Nat} : mg (f + 1) (x :: a) (x :: b) = x :: mg f a b := by simp [mg]

theorem mergeU_nil (b : List Nat) : mergeU [] b = b := mg_nil _ b
theorem mergeU_nil' (a : List Nat) : mergeU a [] = a := mg_nil' _ a
theorem mg_self : ∀ (f : Nat) (a : List Nat), a.length ≤ f → mg f a a = a
  | f, [], _ => mg_nil f []
  | f + 1, x :: a, h => by
    rw [mg_eq, mg_self f a (by simpa using h)]
theorem mergeU_self (a : List Nat) : mergeU a a = a := mg_self _ a (by omega)

end Go.Proofs.Qxb6602419a.Plain
