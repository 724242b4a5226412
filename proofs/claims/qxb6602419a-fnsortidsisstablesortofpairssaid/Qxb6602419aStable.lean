/-
  THE WALK of FnSortIDsIsStableSortOfPairs.
-/
import Derived.Test.Qxb6602419aSort
import Derived.Test.Qxb6602419aPairs
namespace Go.Proofs.Qxb6602419a
open Go.RowKit
open Plain

theorem zz10_yes (a b : Option Addr) (n m c d : Nat) (w : World) (hn : n + m ≤ 1048576) : Calls Try.prog 10 #[.slice a n c, .slice b m d] w fun e w' => e = .returned (.bool true) ∧ w' = w := by
  go_enter Try.func10, Try.ntmps10
  go_wp2
  go_ret
  exact ⟨rfl, rfl⟩
theorem zz10_no (a b : Option Addr) (n m c d : Nat) (w : World) (hn : 1048576 < n + m) : Calls Try.prog 10 #[.slice a n c, .slice b m d] w fun e w' => e = .returned (.bool false) ∧ w' = w := by
  by_cases h1 : 1048576 < n
  · go_enter Try.func10, Try.ntmps10
    go_wp2
    go_ret
    exact ⟨rfl, rfl⟩
  by_cases h2 : 1048576 < m
  · go_enter Try.func10, Try.ntmps10
    go_wp2
    go_ret
    exact ⟨rfl, rfl⟩
  go_enter Try.func10, Try.ntmps10
  go_wp2
  go_ret
  exact ⟨rfl, rfl⟩

set_option maxRecDepth 20000 in
set_option maxHeartbeats 2000000 in
theorem stable_main (a0 a1 : Option Addr) (n c0 c1 : Nat) (z p : Nat → Nat) (w : World) (hn : n ≤ 65536) (h0 : a0 = none → n = 0 ∧ c0 = 0) (h1 : a1 = none → n = 0 ∧ c1 = 0) (hz : ∀ j, z j < U64) (s0 : Seen w .u64 n z a0) (s1 : Seen w .u32 n p a1) :
    Calls Try.prog 3 #[.slice a0 n c0, .slice a1 n c1] w fun e w' => e = .returned (.bool true) ∧ Below w.heap.size w w' := by
  go_enter Try.func3, Try.ntmps3
  go_wp2_with fail
  refine (zz10_yes a0 a1 n n c0 c1 w (by omega)).mono ?_
  rintro e w' ⟨rfl, rfl⟩
  go_wp2_with fail
  refine (clone64 a0 n c0 z w' (by omega) h0 s0).mono ?_
  rintro e w1 ⟨v, rfl, ho1, hb1, hz1⟩
  obtain ⟨x, rfl, hs1⟩ := ho1.seen
  have s1' : Seen w1 .u32 n p a1 := fun j hj => by
    obtain ⟨b, off, e, hb, hc⟩ := s1 j hj
    exact ⟨b, off, e, Nat.lt_of_lt_of_le hb hb1.size, (hb1.cell hb).trans hc⟩
  go_wp2_with fail
  refine (clone32 a1 n c1 p w1 (by omega) h1 s1').mono ?_
  rintro e w2 ⟨v, rfl, ho2, hb2, hz2⟩
  obtain ⟨y, rfl, hs2⟩ := ho2.seen
  have ho1' : Own w2 .u64 29 n z (.slice x n n) w'.heap.size := Kept.own (Kept.of_below hb2) ho1 (fun hp h => by have := (ho1.pos hp).2.lt; omega)
  obtain ⟨x', ex, hs1'⟩ := ho1'.seen
  cases ex
  go_wp2_with fail
  refine (pairs_walk x y n n n z p w2 hn hs1' hs2).mono ?_
  rintro e w3 ⟨a, b, τ, rfl, ra, rb, la, lb, hτ, hb3⟩
  have q1 : Own w3 .u64 29 n z (.slice x n n) w'.heap.size := Kept.own (Kept.of_below hb3) ho1' (fun hp h => by have := (ho1'.pos hp).2.lt; omega)
  have q2 : Own w3 .u32 30 n p (.slice y n n) w1.heap.size := Kept.own (Kept.of_below hb3) ho2 (fun hp h => by have := (ho2.pos hp).2.lt; omega)
  have hne : 0 < n → w'.heap.size ≠ w1.heap.size := fun hp => by have := (ho1.pos hp).2.lt; omega
  have hlt : 0 < n → w'.heap.size < w2.heap.size ∧ w1.heap.size < w2.heap.size := fun hp => ⟨(ho1'.pos hp).2.lt, (ho2.pos hp).2.lt⟩
  have hbel : Below w'.heap.size w' w3 := hb1.trans ((hb2.mono hb1.size).trans (hb3.mono (Nat.le_trans hb1.size hb2.size)))
  have hle1 := hb1.size
  clear s0 s1 s1' hs1 hs2 hs1' ho1 ho1' ho2 hb1 hb2 hb3 hz1 hz2
  go_wp2_with fail
  refine (zzsort_walk x y n n n z p w3 hn hz w'.heap.size w1.heap.size q1 q2 hne).mono ?_
  rintro e w4 ⟨v0, v1, I, P, b0, b1, σ, rfl, hst, hd, hI, hP⟩
  obtain ⟨x0, rfl, -⟩ := hst.o0.seen
  obtain ⟨x1, rfl, -⟩ := hst.o1.seen
  have hsame := Done.same hd hτ
  have o0 : Own w4 .u64 29 n (fun j => z (τ j)) (.slice x0 n n) b0 := hst.o0.congr (fun j hj => by rw [hI j hj, hsame j hj])
  have o1 : Own w4 .u32 30 n (fun j => p (τ j)) (.slice x1 n n) b1 := hst.o1.congr (fun j hj => by rw [hP j hj, hsame j hj])
  have oa : Own w4 .u64 29 n (fun j => z (τ j)) (.slice (some ⟨a, 0, none⟩) n n) a := hst.kept.own (.inr ⟨rfl, ra⟩) (fun hp h => by have := hlt hp; omega)
  have ob : Own w4 .u32 30 n (fun j => p (τ j)) (.slice (some ⟨b, 0, none⟩) n n) b := hst.kept.own (.inr ⟨rfl, rb⟩) (fun hp h => by have := hlt hp; omega)
  have hbel4 : Below w'.heap.size w' w4 := hbel.trans (hst.kept.below hbel.size (fun k hk h => by omega))
  clear hI hP hd hτ hsame hst ra rb q1 q2 hne hlt hbel la lb hle1
  go_wp2
  go_loopw [9] (fun i wr => ∃ k : Nat, k ≤ n ∧ i = .int .i64 k ∧ Kept (fun _ => False) w4 wr) (fun i _ => n - (intOf i).toNat)
  case atStart => exact ⟨0, Nat.zero_le _, rfl, Kept.refl _ _⟩
  case round =>
    obtain ⟨k, hk, rfl, hkp⟩ := hrel
    by_cases hlt : k < n
    · have hpos : 0 < n := by omega
      obtain ⟨e0, r0⟩ := (hkp.own o0 (fun _ h => h)).pos hpos
      obtain ⟨e1, r1⟩ := (hkp.own o1 (fun _ h => h)).pos hpos
      obtain ⟨-, ra⟩ := (hkp.own oa (fun _ h => h)).pos hpos
      obtain ⟨-, rb⟩ := (hkp.own ob (fun _ h => h)).pos hpos
      simp only [Value.slice.injEq, and_true] at e0 e1
      subst e0 e1
      obtain ⟨A, hA⟩ : ∃ A, A = z (τ k) := ⟨_, rfl⟩
      obtain ⟨B, hB⟩ : ∃ B, B = p (τ k) := ⟨_, rfl⟩
      have c0 : wr.cell? ⟨b0, k, none⟩ = some (.int .u64 (A : Int)) := by rw [hA]; exact r0.cell hlt
      have c1 : wr.cell? ⟨b1, k, none⟩ = some (.int .u32 (B : Int)) := by rw [hB]; exact r1.cell hlt
      have ca : wr.cell? ⟨a, k, none⟩ = some (.int .u64 (A : Int)) := by rw [hA]; exact ra.cell hlt
      have cb : wr.cell? ⟨b, k, none⟩ = some (.int .u32 (B : Int)) := by rw [hB]; exact rb.cell hlt
      have i1 : (k : Int) < (n : Int) := by omega
      clear hA hB r0 r1 ra rb o0 o1 oa ob
      go_wp2
      go_quiet (fail)
      go_wp2
      go_roundw
      case rel => exact ⟨k + 1, by omega, by go_num, hkp.drewN _⟩
      case measure => simp [intOf]; omega
    · go_wp2
      go_ret
      exact ⟨rfl, hbel4.trans (hkp.below hbel4.size (fun _ _ h => h))⟩

theorem stable_walk (a0 a1 : Option Addr) (n m c0 c1 : Nat) (z p : Nat → Nat) (w : World) (hm0 : n ≤ maxLen) (hm1 : m ≤ maxLen) (h0 : a0 = none → n = 0 ∧ c0 = 0) (h1 : a1 = none → m = 0 ∧ c1 = 0) (hz : ∀ j, z j < U64) (s0 : Seen w .u64 n z a0) (s1 : Seen w .u32 m p a1) :
    Calls Try.prog 3 #[.slice a0 n c0, .slice a1 m c1] w fun e w' => e = .returned (.bool true) ∧ Below w.heap.size w w' := by
  unfold maxLen at hm0 hm1
  by_cases hs : n + m ≤ 1048576
  · by_cases hn : n ≤ 65536
    · by_cases hm : m ≤ 65536
      · by_cases hnm : m = n
        · subst hnm
          exact stable_main a0 a1 m c0 c1 z p w hn h0 h1 hz s0 s1
        · have d : ((m : Int) != (n : Int)) = true := by rw [bne_iff_ne]; omega
          go_enter Try.func3, Try.ntmps3
          go_wp2_with fail
          refine (zz10_yes a0 a1 n m c0 c1 w hs).mono ?_
          rintro e w' ⟨rfl, rfl⟩
          go_wp2_with fail
          go_ret
          exact ⟨rfl, Below.refl _ _⟩
      · go_enter Try.func3, Try.ntmps3
        go_wp2_with fail
        refine (zz10_yes a0 a1 n m c0 c1 w hs).mono ?_
        rintro e w' ⟨rfl, rfl⟩
        go_wp2_with fail
        go_ret
        exact ⟨rfl, Below.refl _ _⟩
    · go_enter Try.func3, Try.ntmps3
      go_wp2_with fail
      refine (zz10_yes a0 a1 n m c0 c1 w hs).mono ?_
      rintro e w' ⟨rfl, rfl⟩
      go_wp2_with fail
      go_ret
      exact ⟨rfl, Below.refl _ _⟩
  · go_enter Try.func3, Try.ntmps3
    go_wp2_with fail
    refine (zz10_no a0 a1 n m c0 c1 w (by omega)).mono ?_
    rintro e w' ⟨rfl, rfl⟩
    go_wp2_with fail
    go_ret
    exact ⟨rfl, Below.refl _ _⟩

end Go.Proofs.Qxb6602419a
