/-
  THE WALKS of b1Nondecreasing, b1LowerBound, b1UpperBound, b1Count.
-/
import Derived.Test.Qxb6602419aMergeUse
import Derived.Test.Qxb6602419aUnionLaw
namespace Go.Proofs.Qxb6602419a
open Go.RowKit
open Plain

set_option maxHeartbeats 400000 in
/-- Does the slice ascend? -/
theorem nondec_walk (a : Option Addr) (A : List Nat) (n c : Nat) (w : World) (en : A.length = n) (hn : n ≤ 1048576) (sa : SeenL w A a) :
    Calls Try.prog 17 #[.slice a n c] w fun e w' => ∃ r : Bool, e = .returned (.bool r) ∧ (r = true ↔ Asc A) ∧ Below w.heap.size w w' := by
  have HE : Hid (A.length = n) := en
  clear en
  go_enter Try.func17, Try.ntmps17
  go_wp2
  go_loopw [3] (fun i wr => ∃ k : Nat, 1 ≤ k ∧ (k ≤ n ∨ k = 1) ∧ i = .int .i64 k ∧ (∀ j, 0 < j → j < k → A.getD (j - 1) 0 ≤ A.getD j 0) ∧ Below w.heap.size w wr) (fun i _ => n - (intOf i).toNat)
  case atStart => exact ⟨1, by omega, .inr rfl, rfl, fun j h1 h2 => by omega, Below.refl _ _⟩
  case round =>
    obtain ⟨k, hk1, hk2, rfl, hasc, hb⟩ := hrel
    have HA : Hid (∀ j, 0 < j → j < k → A.getD (j - 1) 0 ≤ A.getD j 0) := hasc
    clear hasc
    by_cases hlt : k < n
    · obtain ⟨b, off, rfl, hbl, hc⟩ := sa k (by rw [HE.out]; exact hlt)
      obtain ⟨b', off', e', hbl', hc'⟩ := sa (k - 1) (by rw [HE.out]; omega)
      cases e'
      obtain ⟨v, hv⟩ : ∃ v, v = A.getD k 0 := ⟨_, rfl⟩
      obtain ⟨u, hu⟩ : ∃ u, u = A.getD (k - 1) 0 := ⟨_, rfl⟩
      have c1 : wr.cell? ⟨b, off + k, none⟩ = some (.int .u64 (v : Int)) := by rw [hv]; exact (hb.cell hbl).trans hc
      have c2 : wr.cell? ⟨b, off + (k - 1), none⟩ = some (.int .u64 (u : Int)) := by rw [hu]; exact (hb.cell hbl').trans hc'
      have i1 : (k : Int) < (n : Int) := by omega
      have HV : Hid (v = A.getD k 0 ∧ u = A.getD (k - 1) 0) := ⟨hv, hu⟩
      clear hv hu hc hc' sa hbl'
      by_cases huv : u ≤ v
      · go_wp2
        go_quiet (fail)
        go_wp2
        go_roundw
        case rel =>
          refine ⟨k + 1, by omega, .inl (by omega), by go_num, fun j h1 h2 => ?_, ⟨hb.os, hb.tape, hb.output, hb.size, hb.block⟩⟩
          by_cases e : j = k
          · subst e; rw [← HV.out.1, ← HV.out.2]; exact huv
          · exact HA.out j h1 (by omega)
        case measure => simp [intOf]; omega
      · go_wp2
        go_quiet (fail)
        go_wp2
        go_ret
        refine ⟨false, rfl, ⟨fun h => absurd h (by decide), fun h => ?_⟩, ⟨hb.os, hb.tape, hb.output, hb.size, hb.block⟩⟩
        have := Asc.le h (show k - 1 ≤ k by omega) (by rw [HE.out]; exact hlt)
        rw [← HV.out.1, ← HV.out.2] at this
        omega
    · go_wp2
      go_ret
      exact ⟨true, rfl, ⟨fun _ => asc_of (fun j h1 h2 => HA.out j h1 (by rw [HE.out] at h2; omega)), fun _ => rfl⟩, hb⟩

set_option maxHeartbeats 400000 in
theorem lower_walk (a : Option Addr) (A : List Nat) (n c v : Nat) (w : World) (en : A.length = n) (hn : n ≤ 1048576) (hA : Asc A) (sa : SeenL w A a) :
    Calls Try.prog 29 #[.slice a n c, .int .u64 (v : Int)] w fun e w' => ∃ l : Nat, e = .returned (.int .i64 (l : Int)) ∧ l ≤ n ∧ (∀ i, i < l → A.getD i 0 < v) ∧ (∀ i, l ≤ i → i < n → v ≤ A.getD i 0) ∧ w' = w := by
  have HE : Hid (A.length = n) := en
  clear en
  go_enter Try.func29, Try.ntmps29
  go_wp2
  go_loop [5, 6] (fun x y => ∃ l h : Nat, l ≤ h ∧ h ≤ n ∧ x = .int .i64 l ∧ y = .int .i64 h ∧ (∀ i, i < l → A.getD i 0 < v) ∧ (∀ i, h ≤ i → i < n → v ≤ A.getD i 0)) (fun x y => (intOf y).toNat - (intOf x).toNat)
  case atStart => exact ⟨0, n, by omega, by omega, rfl, rfl, fun i h => by omega, fun i h1 h2 => by omega⟩
  case round =>
    obtain ⟨l, h, hlh, hhn, rfl, rfl, p1, p2⟩ := hrel
    have HP : Hid ((∀ i, i < l → A.getD i 0 < v) ∧ (∀ i, h ≤ i → i < n → v ≤ A.getD i 0)) := ⟨p1, p2⟩
    clear p1 p2
    by_cases hlt : l < h
    · obtain ⟨b, off, rfl, hbl, hc⟩ := sa (l + (h - l) / 2) (by rw [HE.out]; omega)
      obtain ⟨u, hu⟩ : ∃ u, u = A.getD (l + (h - l) / 2) 0 := ⟨_, rfl⟩
      have c1 : w.cell? ⟨b, off + (l + (h - l) / 2), none⟩ = some (.int .u64 (u : Int)) := by rw [hu]; exact hc
      have HU : Hid (u = A.getD (l + (h - l) / 2) 0) := hu
      clear hu hc sa
      by_cases huv : u < v
      · go_wp2
        go_round
        case rel =>
          refine ⟨l + (h - l) / 2 + 1, h, by omega, hhn, by go_num, rfl, fun i hi => ?_, HP.out.2⟩
          have := Asc.le hA (show i ≤ l + (h - l) / 2 by omega) (by rw [HE.out]; omega)
          rw [← HU.out] at this
          omega
        case measure => simp [intOf]; omega
      · go_wp2
        go_round
        case rel =>
          refine ⟨l, l + (h - l) / 2, by omega, by omega, rfl, by go_num, HP.out.1, fun i h1 h2 => ?_⟩
          have := Asc.le hA h1 (by rw [HE.out]; exact h2)
          rw [← HU.out] at this
          omega
        case measure => simp [intOf]; omega
    · go_wp2
      go_ret
      obtain rfl : l = h := by omega
      exact ⟨l, rfl, hhn, HP.out.1, HP.out.2, rfl⟩

set_option maxHeartbeats 400000 in
theorem upper_walk (a : Option Addr) (A : List Nat) (n c v : Nat) (w : World) (en : A.length = n) (hn : n ≤ 1048576) (hA : Asc A) (sa : SeenL w A a) :
    Calls Try.prog 28 #[.slice a n c, .int .u64 (v : Int)] w fun e w' => ∃ l : Nat, e = .returned (.int .i64 (l : Int)) ∧ l ≤ n ∧ (∀ i, i < l → A.getD i 0 ≤ v) ∧ (∀ i, l ≤ i → i < n → v < A.getD i 0) ∧ w' = w := by
  have HE : Hid (A.length = n) := en
  clear en
  go_enter Try.func28, Try.ntmps28
  go_wp2
  go_loop [5, 6] (fun x y => ∃ l h : Nat, l ≤ h ∧ h ≤ n ∧ x = .int .i64 l ∧ y = .int .i64 h ∧ (∀ i, i < l → A.getD i 0 ≤ v) ∧ (∀ i, h ≤ i → i < n → v < A.getD i 0)) (fun x y => (intOf y).toNat - (intOf x).toNat)
  case atStart => exact ⟨0, n, by omega, by omega, rfl, rfl, fun i h => by omega, fun i h1 h2 => by omega⟩
  case round =>
    obtain ⟨l, h, hlh, hhn, rfl, rfl, p1, p2⟩ := hrel
    have HP : Hid ((∀ i, i < l → A.getD i 0 ≤ v) ∧ (∀ i, h ≤ i → i < n → v < A.getD i 0)) := ⟨p1, p2⟩
    clear p1 p2
    by_cases hlt : l < h
    · obtain ⟨b, off, rfl, hbl, hc⟩ := sa (l + (h - l) / 2) (by rw [HE.out]; omega)
      obtain ⟨u, hu⟩ : ∃ u, u = A.getD (l + (h - l) / 2) 0 := ⟨_, rfl⟩
      have c1 : w.cell? ⟨b, off + (l + (h - l) / 2), none⟩ = some (.int .u64 (u : Int)) := by rw [hu]; exact hc
      have HU : Hid (u = A.getD (l + (h - l) / 2) 0) := hu
      clear hu hc sa
      by_cases huv : u ≤ v
      · go_wp2
        go_round
        case rel =>
          refine ⟨l + (h - l) / 2 + 1, h, by omega, hhn, by go_num, rfl, fun i hi => ?_, HP.out.2⟩
          have := Asc.le hA (show i ≤ l + (h - l) / 2 by omega) (by rw [HE.out]; omega)
          rw [← HU.out] at this
          omega
        case measure => simp [intOf]; omega
      · go_wp2
        go_round
        case rel =>
          refine ⟨l, l + (h - l) / 2, by omega, by omega, rfl, by go_num, HP.out.1, fun i h1 h2 => ?_⟩
          have := Asc.le hA h1 (by rw [HE.out]; exact h2)
          rw [← HU.out] at this
          omega
        case measure => simp [intOf]; omega
    · go_wp2
      go_ret
      obtain rfl : l = h := by omega
      exact ⟨l, rfl, hhn, HP.out.1, HP.out.2, rfl⟩

theorem count_walk (a : Option Addr) (A : List Nat) (n c v : Nat) (w : World) (en : A.length = n) (hn : n ≤ 1048576) (hA : Asc A) (sa : SeenL w A a) :
    Calls Try.prog 19 #[.slice a n c, .int .u64 (v : Int)] w fun e w' => e = .returned (.int .i64 ((A.count v : Nat) : Int)) ∧ w' = w := by
  have HE : Hid (A.length = n) := en
  clear en
  go_enter Try.func19, Try.ntmps19
  go_wp2_with fail
  refine (upper_walk a A n c v w HE.out hn hA sa).mono ?_
  rintro e w1 ⟨hi, rfl, hin, u1, u2, rfl⟩
  have HU : Hid ((∀ i, i < hi → A.getD i 0 ≤ v) ∧ (∀ i, hi ≤ i → i < n → v < A.getD i 0)) := ⟨u1, u2⟩
  clear u1 u2
  go_wp2_with fail
  refine (lower_walk a A n c v w1 HE.out hn hA sa).mono ?_
  rintro e w2 ⟨lo, rfl, lon, l1, l2, rfl⟩
  have hle : lo ≤ hi := by
    rcases Nat.lt_or_ge hi lo with h | h
    · have a1 := l1 hi h
      have a2 := HU.out.2 hi (Nat.le_refl _) (by omega)
      omega
    · exact h
  have hcnt : A.count v = hi - lo := count_bounds hle (by rw [HE.out]; exact hin) (fun i h e => by have := l1 i h; omega) (fun i h1 h2 => by have := HU.out.1 i h2; have := l2 i h1 (by omega); omega) (fun i h1 h2 e => by have := HU.out.2 i h1 (by rw [HE.out] at h2; exact h2); omega)
  have HC : Hid (A.count v = hi - lo) := hcnt
  clear hcnt l1 l2
  go_wp2
  go_ret
  refine ⟨?_, rfl⟩
  rw [HC.out]
  have : ((hi - lo : Nat) : Int) = (hi : Int) - (lo : Int) := by omega
  rw [this]
  rfl

end Go.Proofs.Qxb6602419a
