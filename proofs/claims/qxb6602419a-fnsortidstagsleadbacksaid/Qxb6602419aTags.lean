/-
  THE WALK of FnSortIDsTagsLeadBack.
-/
import Derived.Test.Qxb6602419aSort
namespace Go.Proofs.Qxb6602419a
open Go.RowKit
open Plain

theorem zz15_yes (a : Option Addr) (n cap : Nat) (w : World) (hn : n ≤ 1048576) : Calls Try.prog 15 #[.slice a n cap] w fun e w' => e = .returned (.bool true) ∧ w' = w := by
  go_enter Try.func15, Try.ntmps15
  go_wp2
  go_ret
  exact ⟨rfl, rfl⟩
theorem zz15_no (a : Option Addr) (n cap : Nat) (w : World) (hn : 1048576 < n) : Calls Try.prog 15 #[.slice a n cap] w fun e w' => e = .returned (.bool false) ∧ w' = w := by
  go_enter Try.func15, Try.ntmps15
  go_wp2
  go_ret
  exact ⟨rfl, rfl⟩

/-- Which places have been met among the first k. -/
def met (s : Nat → Nat) : Nat → Nat → Bool
  | 0 => fun _ => false
  | k + 1 => fun j => if j = s k then true else met s k j
theorem met_new {s : Nat → Nat} {j : Nat} : ∀ k, (∀ i, i < k → s i ≠ j) → met s k j = false
  | 0, _ => rfl
  | k + 1, h => by
    show (if j = s k then true else met s k j) = false
    rw [if_neg (fun e => h k (by omega) e.symm)]
    exact met_new k (fun i hi => h i (by omega))

set_option maxRecDepth 20000 in
set_option maxHeartbeats 2000000 in
theorem tags_main (a : Option Addr) (n cap : Nat) (z : Nat → Nat) (w : World) (hn : n ≤ 65536) (h0 : a = none → n = 0 ∧ cap = 0) (hz : ∀ j, z j < U64) (hs : Seen w .u64 n z a) :
    Calls Try.prog 4 #[.slice a n cap] w fun e w' => e = .returned (.bool true) ∧ Below w.heap.size w w' := by
  go_enter Try.func4, Try.ntmps4
  go_wp2_with fail
  refine (zz15_yes a n cap w (by omega)).mono ?_
  rintro e w' ⟨rfl, rfl⟩
  go_wp2_with fail
  refine (clone64 a n cap z w' (by omega) h0 hs).mono ?_
  rintro e w1 ⟨v, rfl, ho1, hb1, hz1⟩
  obtain ⟨x, rfl, hs1⟩ := ho1.seen
  go_wp2_with fail
  refine (clone64 x n n z w1 (by omega) ho1.nil0 hs1).mono ?_
  rintro e w2 ⟨v, rfl, ho2, hb2, hz2⟩
  obtain ⟨y, rfl, hs2⟩ := ho2.seen
  have hmk := run_make_row' (P := Try.prog) 23 30 (.int .u32 0) 4 Try.underlying23 Try.info30 rfl .i64 .i64 n (by omega) (by omega)
  go_wp2
  go_loopw [6] (fun i wr => ∃ k : Nat, k ≤ n ∧ i = .int .i64 k ∧ wr.rowIs w2.heap.size 30 n (cs .u32 (upTo k fun j => j)) ∧ Kept (fun _ => False) w2 wr) (fun i _ => n - (intOf i).toNat)
  case atStart => exact ⟨0, Nat.zero_le _, rfl, row_made _ _ _ _, (Kept.refl _ _).alloc _⟩
  case round =>
    obtain ⟨k, hk, rfl, hr, hkp⟩ := hrel
    clear hmk
    by_cases hlt : k < n
    · have hfz := hr.frozen k
      obtain ⟨ov, hold⟩ : ∃ ov, wr.cell? ⟨w2.heap.size, k, none⟩ = some (.int .u32 ov) := ⟨_, hr.cell hlt⟩
      clear hs hs1 hs2
      go_wp2
      go_roundw
      case rel => exact ⟨k + 1, by omega, by go_num, row_put hr k k rfl (fun j _ => upTo_set k _ j), hkp.setCell (fun h => absurd h (Nat.lt_irrefl _)) _⟩
      case measure => simp [intOf]; omega
    · obtain rfl : k = n := by omega
      have hP : wr.rowIs w2.heap.size 30 k (cs .u32 fun j => j) := hr.congr (fun j hj => by unfold cs; rw [upTo, if_pos hj])
      have hO1 : Own wr .u64 29 k z (.slice x k k) w'.heap.size := hkp.own (Kept.own (Kept.of_below hb2) ho1 (fun hp h => by have := (ho1.pos hp).2.lt; omega)) (fun _ h => h)
      have hO2 : Own wr .u64 29 k z (.slice y k k) w1.heap.size := hkp.own ho2 (fun _ h => h)
      have hbel : Below w'.heap.size w' wr := hb1.trans ((hb2.mono hb1.size).trans (hkp.below (Nat.le_trans hb1.size hb2.size) (fun _ _ h => h)))
      have hne : 0 < k → w'.heap.size ≠ w2.heap.size := fun hp => by have := (ho1.pos hp).2.lt; have := hb2.size; omega
      have hne2 : 0 < k → w1.heap.size ≠ w2.heap.size ∧ w1.heap.size ≠ w'.heap.size := fun hp => by have := (ho1.pos hp).2.lt; have := (ho2.pos hp).2.lt; omega
      have hle : w'.heap.size ≤ w2.heap.size := Nat.le_trans hb1.size hb2.size
      clear hs hs1 hs2 hr hkp hb1 hb2 hz1 hz2 ho1 ho2
      go_wp2_with fail
      refine (zzsort_walk x (some ⟨w2.heap.size, 0, none⟩) k k k z (fun j => j) wr hn hz w'.heap.size w2.heap.size hO1 (.inr ⟨rfl, hP⟩) hne).mono ?_
      rintro e w3 ⟨v0, v1, I, P, b0, b1, σ, rfl, hst, hd, hI, hPσ⟩
      obtain ⟨x0, rfl, -⟩ := hst.o0.seen
      obtain ⟨x1, rfl, -⟩ := hst.o1.seen
      have hO3 : Own w3 .u64 29 k z (.slice y k k) w1.heap.size := hst.kept.own hO2 (fun hp h => by have := hne2 hp; omega)
      have hbel3 : Below w'.heap.size w' w3 := hbel.trans (hst.kept.below hbel.size (fun b hb h => by omega))
      have hmk := run_make_row' (P := Try.prog) 32 4 (.bool false) 1 Try.underlying32 Try.info4 rfl .i64 .i64 k (by omega) (by omega)
      have hst' : St wr k w'.heap.size w2.heap.size (fun j => z (σ j)) σ (.slice x0 k k) (.slice x1 k k) b0 b1 w3 := ⟨hst.o0.congr hI, hst.o1.congr hPσ, hst.ne, hst.f0, hst.f1, hst.kept⟩
      have hlt0 := hst'.lt
      obtain ⟨o0, o1⟩ : Own w3 .u64 29 k (fun j => z (σ j)) (.slice x0 k k) b0 ∧ Own w3 .u32 30 k σ (.slice x1 k k) b1 := ⟨hst'.o0, hst'.o1⟩
      clear hI hPσ hst hst' hO1 hO2 hP hne hne2 hbel
      go_wp2
      go_loopw [10] (fun i wq => ∃ m : Nat, m ≤ k ∧ i = .int .i64 m ∧ wq.rowIs w3.heap.size 4 k (fun j => .bool (met σ m j)) ∧ Kept (fun _ => False) w3 wq) (fun i _ => k - (intOf i).toNat)
      case atStart => exact ⟨0, Nat.zero_le _, rfl, World.rowIs_made _ _ _ _, (Kept.refl _ _).alloc _⟩
      case round =>
        obtain ⟨m, hm, rfl, hr, hkp⟩ := hrel
        clear hmk
        by_cases hltm : m < k
        · have hpos : 0 < k := by omega
          have p0 := hkp.own o0 (fun _ h => h)
          have p1 := hkp.own o1 (fun _ h => h)
          have p3 := hkp.own hO3 (fun _ h => h)
          obtain ⟨e0, r0⟩ := p0.pos hpos
          obtain ⟨e1, r1⟩ := p1.pos hpos
          obtain ⟨e3, r3⟩ := p3.pos hpos
          simp only [Value.slice.injEq, and_true] at e0 e1 e3
          subst e0 e1 e3
          obtain ⟨q, hq⟩ : ∃ q, q = σ m := ⟨_, rfl⟩
          have hqk : q < k := hq ▸ hd.lt m hltm
          obtain ⟨B, hB⟩ : ∃ B, B = z q := ⟨_, rfl⟩
          have c0 : wr.cell? ⟨b0, m, none⟩ = some (.int .u64 (B : Int)) := by rw [hB, hq]; exact r0.cell hltm
          have c1 : wr.cell? ⟨b1, m, none⟩ = some (.int .u32 (q : Int)) := by rw [hq]; exact r1.cell hltm
          have c3 : wr.cell? ⟨w1.heap.size, q, none⟩ = some (.int .u64 (B : Int)) := by rw [hB]; exact r3.cell hqk
          have cS : wr.cell? ⟨w3.heap.size, q, none⟩ = some (.bool false) := by rw [hr.cell hqk, met_new m (fun i hi e => by have := hd.inj i m (by omega) hltm (by rw [e, hq]); omega)]
          have fS := hr.frozen q
          have hl0 := hlt0 hpos
          have n0 : ¬ b0 = w3.heap.size := by omega
          have n1 : ¬ b1 = w3.heap.size := by omega
          have n3 : ¬ w1.heap.size = w3.heap.size := by have := (hO3.pos hpos).2.lt; omega
          have HQ : Hid (q = σ m) := hq
          have hrel : ∀ nq, ((wr.setCell ⟨w3.heap.size, q, none⟩ (.bool true)).drewN nq).rowIs w3.heap.size 4 k (fun j => .bool (met σ (m + 1) j)) ∧ Kept (fun _ => False) w3 ((wr.setCell ⟨w3.heap.size, q, none⟩ (.bool true)).drewN nq) := by
            intro nq
            refine ⟨World.rowIs.of_block (w := wr.setCell ⟨w3.heap.size, q, none⟩ (.bool true)) ((hr.set q _).congr (fun j _ => ?_)) rfl, (hkp.setCell (fun h => absurd h (Nat.lt_irrefl _)) _).drewN nq⟩
            show (if j = q then Value.bool true else .bool (met σ m j)) = .bool (if j = σ m then true else met σ m j)
            rw [hq]
            split <;> rfl
          have HR : Hid (∀ nq, ((wr.setCell ⟨w3.heap.size, q, none⟩ (.bool true)).drewN nq).rowIs w3.heap.size 4 k (fun j => .bool (met σ (m + 1) j)) ∧ Kept (fun _ => False) w3 ((wr.setCell ⟨w3.heap.size, q, none⟩ (.bool true)).drewN nq)) := hrel
          by_cases hm0 : m = 0
          · subst hm0
            clear hq hB p0 p1 p3 r0 r1 r3 hO3 hrel hr hkp
            go_wp2
            go_quiet (fail)
            go_wp2
            go_roundw
            case rel => exact ⟨1, by omega, by go_num, (HR.out _).1, (HR.out _).2⟩
            case measure => simp [intOf]; omega
          · have a1 := hd.asc (m - 1) m (by omega) hltm
            obtain ⟨p, hp⟩ : ∃ p, p = σ (m - 1) := ⟨_, rfl⟩
            obtain ⟨A, hA⟩ : ∃ A, A = z p := ⟨_, rfl⟩
            rw [← hp, ← hq, ← hA, ← hB] at a1
            have c0' : wr.cell? ⟨b0, m - 1, none⟩ = some (.int .u64 (A : Int)) := by rw [hA, hp]; exact r0.cell (by omega)
            have c1' : wr.cell? ⟨b1, m - 1, none⟩ = some (.int .u32 (p : Int)) := by rw [hp]; exact r1.cell (by omega)
            clear hq hB p0 p1 p3 r0 r1 r3 hO3 hrel hr hkp hp hA
            rcases a1 with hlt | ⟨rfl, hlt⟩
            · have t1 : ((A : Int) == (B : Int)) = false := by simp; omega
              go_wp2
              go_quiet (fail)
              go_wp2
              go_quiet (fail)
              go_wp2
              go_quiet (fail)
              go_wp2
              go_roundw
              case rel => exact ⟨m + 1, by omega, by go_num, (HR.out _).1, (HR.out _).2⟩
              case measure => simp [intOf]; omega
            · go_wp2
              go_quiet (fail)
              go_wp2
              go_quiet (fail)
              go_wp2
              go_quiet (fail)
              go_wp2
              go_roundw
              case rel => exact ⟨m + 1, by omega, by go_num, (HR.out _).1, (HR.out _).2⟩
              case measure => simp [intOf]; omega
        · clear hr
          go_wp2
          go_ret
          exact ⟨rfl, hbel3.trans (hkp.below hbel3.size (fun _ _ h => h))⟩

theorem tags_walk (a : Option Addr) (n cap : Nat) (z : Nat → Nat) (w : World) (hm : n ≤ maxLen) (h0 : a = none → n = 0 ∧ cap = 0) (hz : ∀ j, z j < U64) (hs : Seen w .u64 n z a) :
    Calls Try.prog 4 #[.slice a n cap] w fun e w' => e = .returned (.bool true) ∧ Below w.heap.size w w' := by
  unfold maxLen at hm
  by_cases h1 : n ≤ 65536
  · exact tags_main a n cap z w h1 h0 hz hs
  by_cases h2 : n ≤ 1048576
  · go_enter Try.func4, Try.ntmps4
    go_wp2_with fail
    refine (zz15_yes a n cap w h2).mono ?_
    rintro e w' ⟨rfl, rfl⟩
    go_wp2_with fail
    go_ret
    exact ⟨rfl, Below.refl _ _⟩
  · go_enter Try.func4, Try.ntmps4
    go_wp2_with fail
    refine (zz15_no a n cap w (by omega)).mono ?_
    rintro e w' ⟨rfl, rfl⟩
    go_wp2_with fail
    go_ret
    exact ⟨rfl, Below.refl _ _⟩

end Go.Proofs.Qxb6602419a
