/-
  THE WALK of FnMergeTwoIdempotentWithEmptyAsUnit.
-/
import Derived.Test.Qxb6602419aMergeUse
namespace Go.Proofs.Qxb6602419a
open Go.RowKit
open Plain

set_option maxHeartbeats 400000 in
/-- Two slices that read alike are the same. -/
theorem same_walk (x y : Option Addr) (A : List Nat) (n c d : Nat) (w : World) (en : A.length = n) (hn : n ≤ 1048576) (sx : SeenL w A x) (sy : SeenL w A y) :
    Calls Try.prog 21 #[.slice x n c, .slice y n d] w fun e w' => e = .returned (.bool true) ∧ Below w.heap.size w w' := by
  go_enter Try.func21, Try.ntmps21
  go_wp2
  go_loopw [5] (fun i wr => ∃ k : Nat, k ≤ n ∧ i = .int .i64 k ∧ Below w.heap.size w wr) (fun i _ => n - (intOf i).toNat)
  case atStart => exact ⟨0, Nat.zero_le _, rfl, Below.refl _ _⟩
  case round =>
    obtain ⟨k, hk, rfl, hb⟩ := hrel
    by_cases hlt : k < n
    · obtain ⟨b, off, rfl, hbl, hc⟩ := sx k (by omega)
      obtain ⟨b', off', rfl, hbl', hc'⟩ := sy k (by omega)
      obtain ⟨v, hv⟩ : ∃ v, v = A.getD k 0 := ⟨_, rfl⟩
      have c1 : wr.cell? ⟨b, off + k, none⟩ = some (.int .u64 (v : Int)) := by rw [hv]; exact (hb.cell hbl).trans hc
      have c2 : wr.cell? ⟨b', off' + k, none⟩ = some (.int .u64 (v : Int)) := by rw [hv]; exact (hb.cell hbl').trans hc'
      have i1 : (k : Int) < (n : Int) := by omega
      clear hv hc hc' sx sy en
      go_wp2
      go_quiet (fail)
      go_wp2
      go_roundw
      case rel => exact ⟨k + 1, by omega, by go_num, ⟨hb.os, hb.tape, hb.output, hb.size, hb.block⟩⟩
      case measure => simp [intOf]; omega
    · clear en
      go_wp2
      go_ret
      exact ⟨rfl, hb⟩

theorem zz22_yes (a : Option Addr) (n cap : Nat) (w : World) (hn : n ≤ 1048576) : Calls Try.prog 22 #[.slice a n cap] w fun e w' => e = .returned (.bool true) ∧ w' = w := by
  go_enter Try.func22, Try.ntmps22
  go_wp2
  go_ret
  exact ⟨rfl, rfl⟩
theorem zz22_no (a : Option Addr) (n cap : Nat) (w : World) (hn : 1048576 < n) : Calls Try.prog 22 #[.slice a n cap] w fun e w' => e = .returned (.bool false) ∧ w' = w := by
  go_enter Try.func22, Try.ntmps22
  go_wp2
  go_ret
  exact ⟨rfl, rfl⟩

set_option maxHeartbeats 1000000 in
theorem idem_main (a : Option Addr) (n cap : Nat) (z : Nat → Nat) (w : World) (hn : n ≤ 65536) (h0 : a = none → n = 0 ∧ cap = 0) (hs : Seen w .u64 n z a) :
    Calls Try.prog 7 #[.slice a n cap] w fun e w' => e = .returned (.bool true) ∧ Below w.heap.size w w' := by
  go_enter Try.func7, Try.ntmps7
  go_wp2_with fail
  refine (zz22_yes a n cap w (by omega)).mono ?_
  rintro e w' ⟨rfl, rfl⟩
  go_wp2_with fail
  refine (clone64 a n cap z w' (by omega) h0 hs).mono ?_
  rintro e w1 ⟨v, rfl, ho1, hb1, hz1⟩
  obtain ⟨x, rfl, hs1⟩ := ho1.seen
  obtain ⟨A, hA⟩ : ∃ A, A = listOf n z := ⟨_, rfl⟩
  have hl : A.length = n := by rw [hA, listOf_length]
  have sA : SeenL w1 A x := hA ▸ hs1.list
  have hx := ho1.nil0'
  clear hA hs1 ho1 hz1 hs h0
  have HL : Hid (A.length = n) := hl
  clear hl
  -- with itself
  go_wp2_with fail
  refine (zzmerge_walk x x A A n n n n w1 HL.out HL.out hn hn hx hx (Nat.le_refl _) (Nat.le_refl _) sA sA).mono ?_
  rintro e w2 ⟨g, rfl, sR, hg, hb2⟩
  rw [mergeU_self] at sR
  rw [mergeU_self, HL.out]
  go_wp2_with fail
  refine (same_walk (some ⟨g, 0, none⟩) x A n n n w2 HL.out (by omega) sR (sA.later hb2)).mono ?_
  rintro e w3 ⟨rfl, hb3⟩
  have b3 : Below w1.heap.size w1 w3 := hb2.trans (hb3.mono hb2.size)
  clear sR hg
  -- with nil on the right
  go_wp2_with fail
  refine (zzmerge_walk x none A [] n 0 n 0 w3 HL.out rfl hn (by omega) hx (fun _ => ⟨rfl, rfl⟩) (Nat.le_refl _) (Nat.le_refl _) (sA.later b3) (SeenL.nil _ _)).mono ?_
  rintro e w4 ⟨g, rfl, sR, hg, hb4⟩
  rw [mergeU_nil'] at sR
  rw [mergeU_nil', HL.out]
  have b4 : Below w1.heap.size w1 w4 := b3.trans (hb4.mono b3.size)
  go_wp2_with fail
  refine (same_walk (some ⟨g, 0, none⟩) x A n n n w4 HL.out (by omega) sR (sA.later b4)).mono ?_
  rintro e w5 ⟨rfl, hb5⟩
  have b5 : Below w1.heap.size w1 w5 := b4.trans (hb5.mono b4.size)
  clear sR hg
  -- with nil on the left
  go_wp2_with fail
  refine (zzmerge_walk none x [] A 0 n 0 n w5 rfl HL.out (by omega) hn (fun _ => ⟨rfl, rfl⟩) hx (Nat.le_refl _) (Nat.le_refl _) (SeenL.nil _ _) (sA.later b5)).mono ?_
  rintro e w6 ⟨g, rfl, sR, hg, hb6⟩
  rw [mergeU_nil] at sR
  rw [mergeU_nil, HL.out]
  have b6 : Below w1.heap.size w1 w6 := b5.trans (hb6.mono b5.size)
  go_wp2_with fail
  refine (same_walk (some ⟨g, 0, none⟩) x A n n n w6 HL.out (by omega) sR (sA.later b6)).mono ?_
  rintro e w7 ⟨rfl, hb7⟩
  have b7 : Below w1.heap.size w1 w7 := b6.trans (hb7.mono b6.size)
  go_wp2_with fail
  go_ret
  exact ⟨rfl, hb1.trans (b7.mono hb1.size)⟩

theorem idem_walk (a : Option Addr) (n cap : Nat) (z : Nat → Nat) (w : World) (hm : n ≤ maxLen) (h0 : a = none → n = 0 ∧ cap = 0) (hs : Seen w .u64 n z a) :
    Calls Try.prog 7 #[.slice a n cap] w fun e w' => e = .returned (.bool true) ∧ Below w.heap.size w w' := by
  unfold maxLen at hm
  by_cases h1 : n ≤ 65536
  · exact idem_main a n cap z w h1 h0 hs
  by_cases h2 : n ≤ 1048576
  · go_enter Try.func7, Try.ntmps7
    go_wp2_with fail
    refine (zz22_yes a n cap w h2).mono ?_
    rintro e w' ⟨rfl, rfl⟩
    go_wp2_with fail
    go_ret
    exact ⟨rfl, Below.refl _ _⟩
  · go_enter Try.func7, Try.ntmps7
    go_wp2_with fail
    refine (zz22_no a n cap w (by omega)).mono ?_
    rintro e w' ⟨rfl, rfl⟩
    go_wp2_with fail
    go_ret
    exact ⟨rfl, Below.refl _ _⟩

end Go.Proofs.Qxb6602419a
