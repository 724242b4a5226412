/-
  THE WALK of FnSeekIsFirstNotBelow.
-/
import Derived.Test.Qxb6602419aSeek
namespace Go.Proofs.Qxb6602419a
open Go.RowKit
open Plain

theorem seek_nil (v : Nat) (w : World) : Calls Try.prog 30 #[.slice none 0 0, .int .i64 0, .int .u64 (v : Int)] w fun e w' => e = .returned (.int .i64 0) ∧ w' = w := by
  go_enter Try.func30, Try.ntmps30
  go_wp2
  refine wp_loop_rounds 1 ?_
  rw [rounds_succ]
  go_wp2
  refine wp_loop_rounds 1 ?_
  rw [rounds_succ]
  go_wp2_with fail
  refine (bs_walk none 0 0 v (fun _ => 0) w (by omega) (fun a b ab bn => by omega) (fun j hj => by omega)).mono ?_
  rintro e w1 ⟨v0, v1, rfl, l, rfl, hl, -, -, rfl⟩
  obtain rfl : l = 0 := by omega
  go_wp2_with fail
  go_ret
  exact ⟨rfl, rfl⟩

theorem zz23_yes (a : Option Addr) (n cap : Nat) (i v : Int) (w : World) (hn : n ≤ 1048576) : Calls Try.prog 23 #[.slice a n cap, .int .i64 i, .int .u64 v] w fun e w' => e = .returned (.bool true) ∧ w' = w := by
  go_enter Try.func23, Try.ntmps23
  go_wp2
  go_ret
  exact ⟨rfl, rfl⟩
theorem zz23_no (a : Option Addr) (n cap : Nat) (i v : Int) (w : World) (hn : 1048576 < n) : Calls Try.prog 23 #[.slice a n cap, .int .i64 i, .int .u64 v] w fun e w' => e = .returned (.bool false) ∧ w' = w := by
  go_enter Try.func23, Try.ntmps23
  go_wp2
  go_ret
  exact ⟨rfl, rfl⟩

theorem zzseek_walk (x : Addr) (n i v : Nat) (z : Nat → Nat) (w : World) (hn : n ≤ 65536) (hi : i ≤ n) (hA : ∀ j k, i ≤ j → j ≤ k → k < n → z j ≤ z k) (sa : Seen w .u64 n z (some x)) :
    Calls Try.prog 24 #[.slice (some x) n n, .int .i64 (i : Int), .int .u64 (v : Int)] w fun e w' => ∃ r : Nat, e = .returned (.int .i64 (r : Int)) ∧ First z n i v r ∧ w' = w := by
  go_enter Try.func24, Try.ntmps24
  go_wp2_with fail
  refine (seek_walk x n i v z w hn hi hA sa).mono ?_
  rintro e w1 ⟨r, rfl, hF, rfl⟩
  go_wp2_with fail
  go_ret
  exact ⟨r, rfl, hF, rfl⟩
theorem zzseek_nil (v : Nat) (w : World) : Calls Try.prog 24 #[.slice none 0 0, .int .i64 0, .int .u64 (v : Int)] w fun e w' => e = .returned (.int .i64 0) ∧ w' = w := by
  go_enter Try.func24, Try.ntmps24
  go_wp2_with fail
  refine (seek_nil v w).mono ?_
  rintro e w1 ⟨rfl, rfl⟩
  go_wp2_with fail
  go_ret
  exact ⟨rfl, rfl⟩

theorem asc_from {n i : Nat} {z : Nat → Nat} (h : Asc (listOf (n - i) fun j => z (i + j))) : ∀ j k, i ≤ j → j ≤ k → k < n → z j ≤ z k := by
  intro j k h1 h2 h3
  have := Asc.le h (show j - i ≤ k - i by omega) (by rw [listOf_length]; omega)
  rw [listOf_at (by omega), listOf_at (by omega)] at this
  rwa [show i + (j - i) = j from by omega, show i + (k - i) = k from by omega] at this

set_option maxHeartbeats 1000000 in
theorem first_nil (v : Nat) (w : World) : Calls Try.prog 8 #[.slice none 0 0, .int .i64 0, .int .u64 (v : Int)] w fun e w' => e = .returned (.bool true) ∧ Below w.heap.size w w' := by
  go_enter Try.func8, Try.ntmps8
  go_wp2_with fail
  refine (zz23_yes none 0 0 0 v w (by omega)).mono ?_
  rintro e w' ⟨rfl, rfl⟩
  go_wp2_with fail
  refine (nondec_walk none [] 0 0 w' rfl (by omega) (SeenL.nil _ _)).mono ?_
  rintro e w1 ⟨r, rfl, hr, hb1⟩
  obtain rfl : r = true := hr.2 List.Pairwise.nil
  clear hr
  go_wp2_with fail
  refine (clone64_nil w1).mono ?_
  rintro e w2 ⟨rfl, rfl⟩
  go_wp2_with fail
  go_loop [7] (fun y => y = .int .i64 0) (fun _ => 0)
  case atStart => rfl
  case round =>
    obtain rfl := hrel
    go_wp2_with fail
    refine (zzseek_nil v w2).mono ?_
    rintro e w3 ⟨rfl, rfl⟩
    go_wp2_with fail
    go_ret
    exact ⟨rfl, hb1⟩

set_option maxHeartbeats 2000000 in
theorem first_some (x : Addr) (n cap i v : Nat) (z : Nat → Nat) (w : World) (hn : n ≤ 65536) (hi : i ≤ n) (hcap : n ≤ cap) (hs : Seen w .u64 n z (some x)) :
    Calls Try.prog 8 #[.slice (some x) n cap, .int .i64 (i : Int), .int .u64 (v : Int)] w fun e w' => e = .returned (.bool true) ∧ Below w.heap.size w w' := by
  have d0 : decide ((65536 : Int) < (n : Int)) = false := decide_eq_false (by omega)
  have d1 : decide ((i : Int) < 0) = false := decide_eq_false (by omega)
  go_enter Try.func8, Try.ntmps8
  go_wp2_with fail
  refine (zz23_yes (some x) n cap i v w (by omega)).mono ?_
  rintro e w' ⟨rfl, rfl⟩
  by_cases hin : i < n
  · obtain ⟨b, off, ex, hbl, hc⟩ := hs i hin
    cases ex
    clear hc
    have hci : ¬ cap = i := by omega
    go_wp2_with fail
    refine (nondec_walk _ (listOf (n - i) fun j => z (i + j)) (n - i) _ w' (listOf_length _ _) (by omega) (hs.sub i (by omega)).list).mono ?_
    rintro e w1 ⟨r, rfl, hr, hb1⟩
    cases r with
    | false =>
      clear hr
      go_wp2_with fail
      go_ret
      exact ⟨rfl, hb1⟩
    | true =>
      have HS : Hid (∀ j k, i ≤ j → j ≤ k → k < n → z j ≤ z k) := asc_from (hr.1 rfl)
      clear hr
      go_wp2_with fail
      refine (clone64_some ⟨b, off, none⟩ n cap z w1 (by omega) (hs.later hb1)).mono ?_
      rintro e w2 ⟨rfl, hr2, hb2, hz2⟩
      have b2 : Below w'.heap.size w' w2 := hb1.trans (hb2.mono hb1.size)
      have s2 : Seen w2 .u64 n z (some ⟨w1.heap.size, 0, none⟩) := fun j hj => ⟨w1.heap.size, 0, rfl, hr2.lt, by rw [Nat.zero_add]; exact hr2.cell hj⟩
      clear hb1 hb2 hz2
      go_wp2_with fail
      go_loop [7] (fun y => ∃ t : Nat, i ≤ t ∧ t ≤ n ∧ y = .int .i64 t ∧ ∀ j, i ≤ j → j < t → z j < v) (fun y => n - (intOf y).toNat)
      case atStart => exact ⟨i, Nat.le_refl _, hi, rfl, fun j j1 j2 => by omega⟩
      case round =>
        obtain ⟨t, ht1, ht2, rfl, hb⟩ := hrel
        have HB : Hid (∀ j, i ≤ j → j < t → z j < v) := hb
        clear hb
        by_cases hlt : t < n
        · have hc : w2.cell? ⟨w1.heap.size, t, none⟩ = some (.int .u64 (z t)) := hr2.cell hlt
          obtain ⟨u, hu⟩ : ∃ u, u = z t := ⟨_, rfl⟩
          rw [← hu] at hc
          have HU : Hid (u = z t) := hu
          clear hu
          by_cases huv : u < v
          · go_wp2_with fail
            go_round
            case rel =>
              refine ⟨t + 1, by omega, by omega, by go_num, fun j j1 j2 => ?_⟩
              by_cases ej : j = t
              · subst ej; rw [← HU.out]; exact huv
              · exact HB.out j j1 (by omega)
            case measure => simp [intOf]; omega
          · have HF : Hid (First z n i v t) := ⟨ht1, ht2, HB.out, fun _ => by rw [← HU.out]; omega⟩
            go_wp2_with fail
            refine (zzseek_walk ⟨w1.heap.size, 0, none⟩ n i v z w2 hn hi HS.out s2).mono ?_
            rintro e w3 ⟨r, rfl, hF, rfl⟩
            obtain rfl : r = t := hF.same HF.out
            go_wp2_with fail
            go_ret
            exact ⟨rfl, b2⟩
        · have HF : Hid (First z n i v t) := ⟨ht1, ht2, HB.out, fun h => absurd h hlt⟩
          go_wp2_with fail
          refine (zzseek_walk ⟨w1.heap.size, 0, none⟩ n i v z w2 hn hi HS.out s2).mono ?_
          rintro e w3 ⟨r, rfl, hF, rfl⟩
          obtain rfl : r = t := hF.same HF.out
          go_wp2_with fail
          go_ret
          exact ⟨rfl, b2⟩
  · obtain rfl : i = n := by omega
    have HS : Hid (∀ j k, i ≤ j → j ≤ k → k < i → z j ≤ z k) := fun j k h1 h2 h3 => by omega
    by_cases hci : cap = i
    · subst hci
      go_wp2_with fail
      refine (nondec_walk _ [] 0 _ w' rfl (by omega) (SeenL.nil _ _)).mono ?_
      rintro e w1 ⟨r, rfl, hr, hb1⟩
      obtain rfl : r = true := hr.2 List.Pairwise.nil
      clear hr
      go_wp2_with fail
      refine (clone64_some x cap cap z w1 (by omega) (hs.later hb1)).mono ?_
      rintro e w2 ⟨rfl, hr2, hb2, hz2⟩
      have b2 : Below w'.heap.size w' w2 := hb1.trans (hb2.mono hb1.size)
      have s2 : Seen w2 .u64 cap z (some ⟨w1.heap.size, 0, none⟩) := fun j hj => ⟨w1.heap.size, 0, rfl, hr2.lt, by rw [Nat.zero_add]; exact hr2.cell hj⟩
      clear hb1 hb2 hz2
      go_wp2_with fail
      go_loop [7] (fun y => ∃ t : Nat, cap ≤ t ∧ t ≤ cap ∧ y = .int .i64 t ∧ ∀ j, cap ≤ j → j < t → z j < v) (fun y => cap - (intOf y).toNat)
      case atStart => exact ⟨cap, Nat.le_refl _, hi, rfl, fun j j1 j2 => by omega⟩
      case round =>
        obtain ⟨t, ht1, ht2, rfl, hb⟩ := hrel
        have HB : Hid (∀ j, cap ≤ j → j < t → z j < v) := hb
        clear hb
        by_cases hlt : t < cap
        · have hc : w2.cell? ⟨w1.heap.size, t, none⟩ = some (.int .u64 (z t)) := hr2.cell hlt
          obtain ⟨u, hu⟩ : ∃ u, u = z t := ⟨_, rfl⟩
          rw [← hu] at hc
          have HU : Hid (u = z t) := hu
          clear hu
          by_cases huv : u < v
          · go_wp2_with fail
            go_round
            case rel =>
              refine ⟨t + 1, by omega, by omega, by go_num, fun j j1 j2 => ?_⟩
              by_cases ej : j = t
              · subst ej; rw [← HU.out]; exact huv
              · exact HB.out j j1 (by omega)
            case measure => simp [intOf]; omega
          · have HF : Hid (First z cap cap v t) := ⟨ht1, ht2, HB.out, fun _ => by rw [← HU.out]; omega⟩
            go_wp2_with fail
            refine (zzseek_walk ⟨w1.heap.size, 0, none⟩ cap cap v z w2 hn hi HS.out s2).mono ?_
            rintro e w3 ⟨r, rfl, hF, rfl⟩
            obtain rfl : r = t := hF.same HF.out
            go_wp2_with fail
            go_ret
            exact ⟨rfl, b2⟩
        · have HF : Hid (First z cap cap v t) := ⟨ht1, ht2, HB.out, fun h => absurd h hlt⟩
          go_wp2_with fail
          refine (zzseek_walk ⟨w1.heap.size, 0, none⟩ cap cap v z w2 hn hi HS.out s2).mono ?_
          rintro e w3 ⟨r, rfl, hF, rfl⟩
          obtain rfl : r = t := hF.same HF.out
          go_wp2_with fail
          go_ret
          exact ⟨rfl, b2⟩
    · go_wp2_with fail
      refine (nondec_walk _ [] 0 _ w' rfl (by omega) (SeenL.nil _ _)).mono ?_
      rintro e w1 ⟨r, rfl, hr, hb1⟩
      obtain rfl : r = true := hr.2 List.Pairwise.nil
      clear hr
      go_wp2_with fail
      refine (clone64_some x i cap z w1 (by omega) (hs.later hb1)).mono ?_
      rintro e w2 ⟨rfl, hr2, hb2, hz2⟩
      have b2 : Below w'.heap.size w' w2 := hb1.trans (hb2.mono hb1.size)
      have s2 : Seen w2 .u64 i z (some ⟨w1.heap.size, 0, none⟩) := fun j hj => ⟨w1.heap.size, 0, rfl, hr2.lt, by rw [Nat.zero_add]; exact hr2.cell hj⟩
      clear hb1 hb2 hz2
      go_wp2_with fail
      go_loop [7] (fun y => ∃ t : Nat, i ≤ t ∧ t ≤ i ∧ y = .int .i64 t ∧ ∀ j, i ≤ j → j < t → z j < v) (fun y => i - (intOf y).toNat)
      case atStart => exact ⟨i, Nat.le_refl _, hi, rfl, fun j j1 j2 => by omega⟩
      case round =>
        obtain ⟨t, ht1, ht2, rfl, hb⟩ := hrel
        have HB : Hid (∀ j, i ≤ j → j < t → z j < v) := hb
        clear hb
        by_cases hlt : t < i
        · have hc : w2.cell? ⟨w1.heap.size, t, none⟩ = some (.int .u64 (z t)) := hr2.cell hlt
          obtain ⟨u, hu⟩ : ∃ u, u = z t := ⟨_, rfl⟩
          rw [← hu] at hc
          have HU : Hid (u = z t) := hu
          clear hu
          by_cases huv : u < v
          · go_wp2_with fail
            go_round
            case rel =>
              refine ⟨t + 1, by omega, by omega, by go_num, fun j j1 j2 => ?_⟩
              by_cases ej : j = t
              · subst ej; rw [← HU.out]; exact huv
              · exact HB.out j j1 (by omega)
            case measure => simp [intOf]; omega
          · have HF : Hid (First z i i v t) := ⟨ht1, ht2, HB.out, fun _ => by rw [← HU.out]; omega⟩
            go_wp2_with fail
            refine (zzseek_walk ⟨w1.heap.size, 0, none⟩ i i v z w2 hn hi HS.out s2).mono ?_
            rintro e w3 ⟨r, rfl, hF, rfl⟩
            obtain rfl : r = t := hF.same HF.out
            go_wp2_with fail
            go_ret
            exact ⟨rfl, b2⟩
        · have HF : Hid (First z i i v t) := ⟨ht1, ht2, HB.out, fun h => absurd h hlt⟩
          go_wp2_with fail
          refine (zzseek_walk ⟨w1.heap.size, 0, none⟩ i i v z w2 hn hi HS.out s2).mono ?_
          rintro e w3 ⟨r, rfl, hF, rfl⟩
          obtain rfl : r = t := hF.same HF.out
          go_wp2_with fail
          go_ret
          exact ⟨rfl, b2⟩

theorem first_walk (a : Option Addr) (n cap : Nat) (z : Nat → Nat) (i v : Int) (w : World) (hm : n ≤ maxLen) (h0 : a = none → n = 0 ∧ cap = 0) (hcap : n ≤ cap) (hv : 0 ≤ v) (hs : Seen w .u64 n z a) :
    Calls Try.prog 8 #[.slice a n cap, .int .i64 i, .int .u64 v] w fun e w' => e = .returned (.bool true) ∧ Below w.heap.size w w' := by
  unfold maxLen at hm
  by_cases h1 : n ≤ 65536
  · by_cases hi0 : i < 0
    · have d1 : decide (i < 0) = true := decide_eq_true hi0
      go_enter Try.func8, Try.ntmps8
      go_wp2_with fail
      refine (zz23_yes a n cap i v w (by omega)).mono ?_
      rintro e w' ⟨rfl, rfl⟩
      go_wp2_with fail
      go_ret
      exact ⟨rfl, Below.refl _ _⟩
    · by_cases hin : (n : Int) < i
      · have d1 : decide (i < 0) = false := decide_eq_false hi0
        go_enter Try.func8, Try.ntmps8
        go_wp2_with fail
        refine (zz23_yes a n cap i v w (by omega)).mono ?_
        rintro e w' ⟨rfl, rfl⟩
        go_wp2_with fail
        go_ret
        exact ⟨rfl, Below.refl _ _⟩
      · obtain ⟨k, rfl⟩ := Int.eq_ofNat_of_zero_le (show 0 ≤ i by omega)
        obtain ⟨u, rfl⟩ := Int.eq_ofNat_of_zero_le hv
        cases a with
        | none =>
          obtain ⟨rfl, rfl⟩ := h0 rfl
          obtain rfl : k = 0 := by omega
          exact first_nil u w
        | some x => exact first_some x n cap k u z w h1 (by omega) hcap hs
  by_cases h2 : n ≤ 1048576
  · go_enter Try.func8, Try.ntmps8
    go_wp2_with fail
    refine (zz23_yes a n cap i v w h2).mono ?_
    rintro e w' ⟨rfl, rfl⟩
    go_wp2_with fail
    go_ret
    exact ⟨rfl, Below.refl _ _⟩
  · go_enter Try.func8, Try.ntmps8
    go_wp2_with fail
    refine (zz23_no a n cap i v w (by omega)).mono ?_
    rintro e w' ⟨rfl, rfl⟩
    go_wp2_with fail
    go_ret
    exact ⟨rfl, Below.refl _ _⟩

end Go.Proofs.Qxb6602419a
