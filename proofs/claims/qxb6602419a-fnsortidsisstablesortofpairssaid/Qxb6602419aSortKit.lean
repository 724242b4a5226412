/-
  What the walk of sortIDs leans on: the digit in the walk's own spelling; an array's element; the state between two passes.
-/
import Derived.Test.Qxb6602419aClone
import Derived.Test.Qxb6602419aSortLaw
import Derived.Deep.DeepCutAuto
import Derived.Deep.LoopGhost
namespace Go.Proofs.Qxb6602419a
open Go.RowKit
open Plain

theorem Try.size3 : (Try.prog.info? 3).map (fun i => i.size) = some 1 := by kernel_rfl
theorem run_index39 (cs : Array Value) (d : Nat) (x : Int) (hd : d < 256) (hv : cs[d]? = some (.int .i64 x)) (w : World) : (Instr.index 39 (.agg cs) (.int .i64 (d : Int))).run Try.prog w = .ok (.int .i64 x) w := by
  obtain ⟨i, hi, hs⟩ := Option.map_eq_some_iff.1 Try.size3
  have h1 : (0 : Int) ≤ d ∧ (d : Int) < (256 : Nat) := by omega
  have hsz : (sizeOf 3).run Try.prog w = .ok 1 w := by simp [sizeOf, typeInfo, hi, hs]
  unfold Instr.index
  simp [run_underlying Try.underlying39, asIntOf, h1, hsz, part, isAgg, run_underlying Try.underlying3, hv, hd]

def zrow (n : Nat) : Array Value := (List.replicate n (Value.int .i64 0)).toArray
def Z39 : Array Value := zrow 256
theorem Try.zero39 : (Try.prog.info? 39).map (fun i => i.zero) = some (some (.agg Z39)) := by kernel_rfl
theorem run_zero39 (w : World) : (zeroValue 39).run Try.prog w = .ok (.agg Z39) w := by
  obtain ⟨i, hi, hs⟩ := Option.map_eq_some_iff.1 Try.zero39
  simp [zeroValue, typeInfo, hi, hs]
theorem zrow_size (n : Nat) : (zrow n).size = n := by simp [zrow]
theorem zrow_at (n i : Nat) (h : i < n) : (zrow n)[i]? = some (.int .i64 0) := by simp [zrow, h]
theorem row_zero39 (w : World) : (w.alloc (.cells Z39 39)).rowIs w.heap.size 39 256 (cs .i64 fun _ => 0) := by
  have e : Z39.size = 256 := zrow_size 256
  have h := World.rowIs_alloc w Z39 39 (cs .i64 fun _ => 0) (fun i hi => zrow_at 256 i (by rw [← e]; exact hi))
  rw [e] at h
  exact h

/-- Digit s of x. -/
def dgt (s x : Nat) : Nat := x / 2 ^ (8 * s) % 256
theorem dgt_lt (s x : Nat) : dgt s x < 256 := by unfold dgt; omega
theorem div_cast (x k : Nat) : (x : Int) / 2 ^ k = ((x / 2 ^ k : Nat) : Int) := by
  rw [Int.natCast_ediv, Int.natCast_pow]; rfl
theorem bits_dgt {x : Nat} (hx : x < U64) (s : Nat) : bits BinOp.and IntKind.u64 ((x : Int) / 2 ^ (8 * s)) 255 = (dgt s x : Int) := by
  unfold U64 at hx
  have h1 : x / 2 ^ (8 * s) < 18446744073709551616 := Nat.lt_of_le_of_lt (Nat.div_le_self _ _) hx
  rw [div_cast]
  have h := bits_and_u64_nat (x / 2 ^ (8 * s)) 255 h1 (by omega)
  have e : x / 2 ^ (8 * s) &&& 255 = dgt s x := by
    unfold dgt
    exact Nat.and_two_pow_sub_one_eq_mod _ 8
  rw [e] at h
  exact h
theorem bits_xor {a b : Nat} (ha : a < U64) (hb : b < U64) : bits BinOp.xor IntKind.u64 (a : Int) (b : Int) = ((a ^^^ b : Nat) : Int) := by
  unfold U64 at ha hb
  exact bits_xor_u64_nat a b ha hb
theorem xor_lt {a b : Nat} (ha : a < U64) (hb : b < U64) : a ^^^ b < U64 := by
  unfold U64 at ha hb ⊢
  exact Nat.xor_lt_two_pow (n := 64) (by omega) (by omega)
theorem bits_and {a b : Nat} (ha : a < U64) (hb : b < U64) : bits BinOp.and IntKind.u64 (a : Int) (b : Int) = ((a &&& b : Nat) : Int) := by
  unfold U64 at ha hb
  exact bits_and_u64_nat a b ha hb
theorem bits_or {a b : Nat} (ha : a < U64) (hb : b < U64) : bits BinOp.or IntKind.u64 (a : Int) (b : Int) = ((a ||| b : Nat) : Int) := by
  unfold U64 at ha hb
  exact bits_or_u64_nat a b ha hb
/-- The test by which a pass is left out. -/
theorem test_dgt {A O : Nat} (ha : A < U64) (ho : O < U64) (s : Nat) : (bits BinOp.and IntKind.u64 (bits BinOp.xor IntKind.u64 (A : Int) (O : Int) / 2 ^ (8 * s)) 255 == 0) = decide (dgt s (A ^^^ O) = 0) := by
  rw [bits_xor ha ho, bits_dgt (xor_lt ha ho)]
  rw [Bool.eq_iff_iff]
  simp

theorem Own.pos {w : World} {k : IntKind} {e : TypeId} {n g : Nat} {z : Nat → Nat} {v : Value} (h : Own w k e n z v g) (hn : 0 < n) : v = .slice (some ⟨g, 0, none⟩) n n ∧ w.rowIs g e n (cs k z) := by
  rcases h with ⟨h0, _⟩ | h
  · omega
  · exact h
theorem Own.congr {w : World} {k : IntKind} {e : TypeId} {n g : Nat} {z z' : Nat → Nat} {v : Value} (h : Own w k e n z v g) (hz : ∀ j, j < n → z j = z' j) : Own w k e n z' v g := by
  rcases h with h0 | ⟨hv, h⟩
  · exact .inl h0
  · exact .inr ⟨hv, h.congr fun j hj => by unfold cs; rw [hz j hj]⟩

/-- A block that the sort may write. -/
def Free (w0 : World) (g0 g1 b : Nat) : Prop := b = g0 ∨ b = g1 ∨ w0.heap.size ≤ b

/-- Between two passes: where the numbers and the places lie. -/
structure St (w0 : World) (n g0 g1 : Nat) (I P : Nat → Nat) (v0 v1 : Value) (b0 b1 : Nat) (w : World) : Prop where
  o0 : Own w .u64 29 n I v0 b0
  o1 : Own w .u32 30 n P v1 b1
  ne : 0 < n → b0 ≠ b1
  f0 : 0 < n → Free w0 g0 g1 b0
  f1 : 0 < n → Free w0 g0 g1 b1
  kept : Kept (fun k => k = g0 ∨ k = g1) w0 w
/-- Where the next pass lays them. -/
structure To (w0 : World) (n g0 g1 : Nat) (T10 T11 : Nat → Nat) (v10 v11 : Value) (b0 b1 b10 b11 : Nat) (w : World) : Prop where
  o10 : Own w .u64 29 n T10 v10 b10
  o11 : Own w .u32 30 n T11 v11 b11
  ne : 0 < n → b10 ≠ b0 ∧ b10 ≠ b1 ∧ b11 ≠ b0 ∧ b11 ≠ b1 ∧ b10 ≠ b11
  f10 : 0 < n → Free w0 g0 g1 b10
  f11 : 0 < n → Free w0 g0 g1 b11

theorem St.lt {w0 w : World} {n g0 g1 b0 b1 : Nat} {I P : Nat → Nat} {v0 v1 : Value} (h : St w0 n g0 g1 I P v0 v1 b0 b1 w) (hn : 0 < n) : b0 < w.heap.size ∧ b1 < w.heap.size := ⟨(h.o0.pos hn).2.lt, (h.o1.pos hn).2.lt⟩
theorem To.lt {w0 w : World} {n g0 g1 b0 b1 b10 b11 : Nat} {T10 T11 : Nat → Nat} {v10 v11 : Value} (h : To w0 n g0 g1 T10 T11 v10 v11 b0 b1 b10 b11 w) (hn : 0 < n) : b10 < w.heap.size ∧ b11 < w.heap.size := ⟨(h.o10.pos hn).2.lt, (h.o11.pos hn).2.lt⟩

/-- New memory turns nothing of it. -/
theorem St.later {w0 w w' : World} {n g0 g1 b0 b1 : Nat} {I P : Nat → Nat} {v0 v1 : Value} (h : St w0 n g0 g1 I P v0 v1 b0 b1 w) (hk : Kept (fun _ => False) w w') : St w0 n g0 g1 I P v0 v1 b0 b1 w' :=
  ⟨hk.own h.o0 (fun _ h => h), hk.own h.o1 (fun _ h => h), h.ne, h.f0, h.f1, h.kept.trans (hk.mono (fun _ _ h => h.elim))⟩
theorem To.later {w0 w w' : World} {n g0 g1 b0 b1 b10 b11 : Nat} {T10 T11 : Nat → Nat} {v10 v11 : Value} (h : To w0 n g0 g1 T10 T11 v10 v11 b0 b1 b10 b11 w) (hk : Kept (fun _ => False) w w') : To w0 n g0 g1 T10 T11 v10 v11 b0 b1 b10 b11 w' :=
  ⟨hk.own h.o10 (fun _ h => h), hk.own h.o11 (fun _ h => h), h.ne, h.f10, h.f11⟩

/-- The two new rows, in whichever order they were made. -/
theorem To.made {w0 w w' : World} {n g0 g1 b0 b1 b10 b11 : Nat} {I P : Nat → Nat} {v0 v1 : Value} (h : St w0 n g0 g1 I P v0 v1 b0 b1 w) (hne : b10 ≠ b11) (h10 : w.heap.size ≤ b10) (h11 : w.heap.size ≤ b11)
    (r10 : w'.rowIs b10 29 n (cs .u64 fun _ => 0)) (r11 : w'.rowIs b11 30 n (cs .u32 fun _ => 0)) :
    To w0 n g0 g1 (fun _ => 0) (fun _ => 0) (.slice (some ⟨b10, 0, none⟩) n n) (.slice (some ⟨b11, 0, none⟩) n n) b0 b1 b10 b11 w' := by
  have hs := h.kept.size
  refine ⟨.inr ⟨rfl, r10⟩, .inr ⟨rfl, r11⟩, fun hn => ?_, fun _ => .inr (.inr (by omega)), fun _ => .inr (.inr (by omega))⟩
  have := h.lt hn
  omega
theorem made_a (w : World) (n : Nat) : ((w.alloc (.cells (madeCells #[.int .u64 0] n) 29)).alloc (.cells (madeCells #[.int .u32 0] n) 30)).drew.rowIs w.heap.size 29 n (cs .u64 fun _ => 0) ∧
    ((w.alloc (.cells (madeCells #[.int .u64 0] n) 29)).alloc (.cells (madeCells #[.int .u32 0] n) 30)).drew.rowIs (w.heap.size + 1) 30 n (cs .u32 fun _ => 0) := by
  refine ⟨((row_made w .u64 n 29).alloc _).drew, ?_⟩
  have h := row_made (w.alloc (.cells (madeCells #[.int .u64 0] n) 29)) .u32 n 30
  rw [show (w.alloc (.cells (madeCells #[.int .u64 0] n) 29)).heap.size = w.heap.size + 1 from by simp] at h
  exact h.drew
theorem made_b (w : World) (n : Nat) : ((w.alloc (.cells (madeCells #[.int .u32 0] n) 30)).alloc (.cells (madeCells #[.int .u64 0] n) 29)).drew.rowIs (w.heap.size + 1) 29 n (cs .u64 fun _ => 0) ∧
    ((w.alloc (.cells (madeCells #[.int .u32 0] n) 30)).alloc (.cells (madeCells #[.int .u64 0] n) 29)).drew.rowIs w.heap.size 30 n (cs .u32 fun _ => 0) := by
  refine ⟨?_, ((row_made w .u32 n 30).alloc _).drew⟩
  have h := row_made (w.alloc (.cells (madeCells #[.int .u32 0] n) 30)) .u64 n 29
  rw [show (w.alloc (.cells (madeCells #[.int .u32 0] n) 30)).heap.size = w.heap.size + 1 from by simp] at h
  exact h.drew
theorem kept2 (S : Nat → Prop) (w : World) (a b : Obj) : Kept S w ((w.alloc a).alloc b).drew := (((Kept.refl S w).alloc a).alloc b).drew

/-- The array of 256 counts, a block apart from the rows. -/
structure Nx (w0 : World) (n b0 b1 b10 b11 g : Nat) : Prop where
  ne : 0 < n → g ≠ b0 ∧ g ≠ b1 ∧ g ≠ b10 ∧ g ≠ b11
  hi : w0.heap.size ≤ g
theorem Nx.made {w0 w : World} {n g0 g1 b0 b1 b10 b11 : Nat} {I P T10 T11 : Nat → Nat} {v0 v1 v10 v11 : Value} (h : St w0 n g0 g1 I P v0 v1 b0 b1 w) (t : To w0 n g0 g1 T10 T11 v10 v11 b0 b1 b10 b11 w) : Nx w0 n b0 b1 b10 b11 w.heap.size :=
  ⟨fun hn => by have := h.lt hn; have := t.lt hn; omega, h.kept.size⟩

/-- A store into a row of numbers, the number in whatever spelling. -/
theorem row_put {w : World} {g : Nat} {e : TypeId} {n : Nat} {k : IntKind} {z z' : Nat → Nat} (h : w.rowIs g e n (cs k z)) (i x : Nat) {v : Value} (hv : v = .int k (x : Int)) (hz : ∀ j, j < n → (if j = i then x else z j) = z' j) :
    (w.setCell ⟨g, i, none⟩ v).rowIs g e n (cs k z') := by
  subst hv
  exact (row_set h i x).congr fun j hj => congrArg (fun t : Nat => Value.int k (t : Int)) (hz j hj)
theorem cnt_set {D : Nat → Nat} {x dd c : Nat} (hd : dd = D x) (hc : c = cnt D dd x) (j : Nat) : (if j = dd then c + 1 else cnt D j x) = cnt D j (x + 1) := by
  subst hd hc
  simp only [cnt]
  by_cases h : j = D x
  · subst h; simp
  · rw [if_neg h, if_neg (fun e => h e.symm)]; rfl
/-- The counts, the first d of them turned into places. -/
def half (D : Nat → Nat) (n d : Nat) : Nat → Nat := fun j => if j < d then Plain.start D n j else cnt D j n
theorem half_set (D : Nat → Nat) (n d j : Nat) : (if j = d then Plain.start D n d else half D n d j) = half D n (d + 1) j := by
  unfold half
  by_cases h : j = d
  · subst h; simp
  · by_cases h1 : j < d
    · have h2 : j < d + 1 := by omega
      simp [h, h1, h2]
    · have h2 : ¬ j < d + 1 := by omega
      simp [h, h1, h2]
/-- The places when x numbers have been laid. -/
def nexts (D : Nat → Nat) (n x : Nat) : Nat → Nat := fun d => Plain.start D n d + cnt D d x
theorem nexts_zero (D : Nat → Nat) (n j : Nat) : half D n 256 j = nexts D n 0 j ∨ 256 ≤ j := by
  unfold half nexts
  by_cases h : j < 256
  · left; simp [h, cnt]
  · right; omega
theorem nexts_set {D : Nat → Nat} {n x dd q : Nat} (hd : dd = D x) (hq : q = nexts D n x dd) (j : Nat) : (if j = dd then q + 1 else nexts D n x j) = nexts D n (x + 1) j := by
  subst hd hq
  simp only [nexts, cnt]
  by_cases h : j = D x
  · subst h; simp; omega
  · rw [if_neg h, if_neg (fun e => h e.symm)]; rfl

/-- What a pass writes: the counts, and (where there is a number) the two rows to which it lays. -/
def Wr (n g b10 b11 : Nat) : Nat → Prop := fun b => b = g ∨ (0 < n ∧ (b = b10 ∨ b = b11))

/-- The pass is over: the rows have changed places. -/
theorem St.next {w0 w w' : World} {n g0 g1 b0 b1 b10 b11 g : Nat} {I P I' P' T10 T11 : Nat → Nat} {v0 v1 v10 v11 : Value} (h : St w0 n g0 g1 I P v0 v1 b0 b1 w) (t : To w0 n g0 g1 T10 T11 v10 v11 b0 b1 b10 b11 w)
    (x : Nx w0 n b0 b1 b10 b11 g) (hk : Kept (Wr n g b10 b11) w w') (o10 : Own w' .u64 29 n I' v10 b10) (o11 : Own w' .u32 30 n P' v11 b11) :
    St w0 n g0 g1 I' P' v10 v11 b10 b11 w' ∧ To w0 n g0 g1 I P v0 v1 b10 b11 b0 b1 w' := by
  refine ⟨⟨o10, o11, fun hn => (t.ne hn).2.2.2.2, t.f10, t.f11, ?_⟩, ⟨hk.own h.o0 ?_, hk.own h.o1 ?_, ?_, h.f0, h.f1⟩⟩
  · have h1 := h.kept
    refine ⟨hk.os.trans h1.os, hk.tape.trans h1.tape, hk.output.trans h1.output, Nat.le_trans h1.size hk.size, fun i hi hs => ?_⟩
    refine (hk.block i (Nat.lt_of_lt_of_le hi h1.size) ?_).trans (h1.block i hi hs)
    have hg := x.hi
    rintro (e | ⟨hn, e | e⟩)
    · omega
    · rcases t.f10 hn with f | f | f
      · exact hs (.inl (e.trans f))
      · exact hs (.inr (e.trans f))
      · omega
    · rcases t.f11 hn with f | f | f
      · exact hs (.inl (e.trans f))
      · exact hs (.inr (e.trans f))
      · omega
  · intro hn
    have h1 := x.ne hn
    have h2 := t.ne hn
    rintro (e | ⟨_, e | e⟩)
    · exact h1.1 e.symm
    · exact h2.1 e.symm
    · exact h2.2.2.1 e.symm
  · intro hn
    have h1 := x.ne hn
    have h2 := t.ne hn
    rintro (e | ⟨_, e | e⟩)
    · exact h1.2.1 e.symm
    · exact h2.2.1 e.symm
    · exact h2.2.2.2.1 e.symm
  · intro hn
    have h1 := h.ne hn
    have h2 := t.ne hn
    omega

end Go.Proofs.Qxb6602419a
