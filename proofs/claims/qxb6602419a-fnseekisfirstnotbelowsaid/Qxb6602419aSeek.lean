/-
  THE WALKS of cmp.Less, slices.BinarySearch and seek.
-/
import Derived.Test.Qxb6602419aCount
namespace Go.Proofs.Qxb6602419a
open Go.RowKit
open Plain

theorem less_walk (x y : Nat) (w : World) : Calls Try.prog 33 #[.int .u64 (x : Int), .int .u64 (y : Int)] w fun e w' => e = .returned (.bool (decide (x < y))) ∧ w' = w := by
  go_enter Try.func33, Try.ntmps33
  go_wp2
  go_ret
  exact ⟨rfl, rfl⟩

set_option maxHeartbeats 1000000 in
theorem bs_walk (a : Option Addr) (n c v : Nat) (z : Nat → Nat) (w : World) (hn : n ≤ 1048576) (hA : ∀ i j, i ≤ j → j < n → z i ≤ z j) (sa : Seen w .u64 n z a) :
    Calls Try.prog 32 #[.slice a n c, .int .u64 (v : Int)] w fun e w' => ∃ v0 v1, e = .returned (.tuple #[v0, v1]) ∧ ∃ l : Nat, v0 = .int .i64 (l : Int) ∧ l ≤ n ∧ (∀ i, i < l → z i < v) ∧ (∀ i, l ≤ i → i < n → v ≤ z i) ∧ w' = w := by
  have HA : Hid (∀ i j, i ≤ j → j < n → z i ≤ z j) := hA
  clear hA
  go_enter Try.func32, Try.ntmps32
  go_wp2
  go_loop [7, 8] (fun x y => ∃ l h : Nat, l ≤ h ∧ h ≤ n ∧ x = .int .i64 l ∧ y = .int .i64 h ∧ (∀ i, i < l → z i < v) ∧ (∀ i, h ≤ i → i < n → v ≤ z i)) (fun x y => (intOf y).toNat - (intOf x).toNat)
  case atStart => exact ⟨0, n, by omega, by omega, rfl, rfl, fun i h => by omega, fun i h1 h2 => by omega⟩
  case round =>
    obtain ⟨l, h, hlh, hhn, rfl, rfl, p1, p2⟩ := hrel
    have HP : Hid ((∀ i, i < l → z i < v) ∧ (∀ i, h ≤ i → i < n → v ≤ z i)) := ⟨p1, p2⟩
    clear p1 p2
    by_cases hlt : l < h
    · obtain ⟨b, off, rfl, hbl, hc⟩ := sa ((l + h) / 2) (by omega)
      obtain ⟨u, hu⟩ : ∃ u, u = z ((l + h) / 2) := ⟨_, rfl⟩
      rw [← hu] at hc
      have HU : Hid (u = z ((l + h) / 2)) := hu
      clear hu sa
      by_cases huv : u < v
      · have t1 : decide (u < v) = true := decide_eq_true huv
        go_wp2_with fail
        refine (less_walk u v w).mono ?_
        rintro e w' ⟨rfl, rfl⟩
        go_wp2_with fail
        go_round
        case rel =>
          refine ⟨(l + h) / 2 + 1, h, by omega, hhn, by go_num, rfl, fun i hi => ?_, HP.out.2⟩
          have := HA.out i ((l + h) / 2) (by omega) (by omega)
          rw [← HU.out] at this
          omega
        case measure => simp [intOf]; omega
      · have t1 : decide (u < v) = false := decide_eq_false huv
        go_wp2_with fail
        refine (less_walk u v w).mono ?_
        rintro e w' ⟨rfl, rfl⟩
        go_wp2_with fail
        go_round
        case rel =>
          refine ⟨l, (l + h) / 2, by omega, by omega, rfl, by go_num, HP.out.1, fun i h1 h2 => ?_⟩
          have := HA.out ((l + h) / 2) i h1 h2
          rw [← HU.out] at this
          omega
        case measure => simp [intOf]; omega
    · obtain rfl : l = h := by omega
      by_cases hln : l < n
      · obtain ⟨b, off, rfl, hbl, hc⟩ := sa l hln
        obtain ⟨u, hu⟩ : ∃ u, u = z l := ⟨_, rfl⟩
        rw [← hu] at hc
        clear hu sa
        by_cases huv : u = v
        · subst huv
          go_wp2
          go_ret2
          exact ⟨_, ⟨_, rfl⟩, l, rfl, hhn, HP.out.1, HP.out.2, rfl⟩
        · have t3 : ((u : Int) == (v : Int)) = false := by simp; omega
          have t3' : (u == v) = false := by simp; omega
          go_wp2
          go_ret2
          exact ⟨_, ⟨_, rfl⟩, l, rfl, hhn, HP.out.1, HP.out.2, rfl⟩
      · go_wp2
        go_ret2
        exact ⟨_, ⟨_, rfl⟩, l, rfl, hhn, HP.out.1, HP.out.2, rfl⟩

theorem Seen.sub {w : World} {k : IntKind} {n : Nat} {z : Nat → Nat} {b off : Nat} (h : Seen w k n z (some ⟨b, off, none⟩)) (t : Nat) {m : Nat} (hm : t + m ≤ n) : Seen w k m (fun j => z (t + j)) (some ⟨b, off + t, none⟩) := by
  intro j hj
  obtain ⟨b', off', e, hb, hc⟩ := h (t + j) (by omega)
  cases e
  exact ⟨b, off + t, rfl, hb, by rw [Nat.add_assoc]; exact hc⟩
theorem ret_int {k : IntKind} {a b : Int} (h : a = b) : Ending.returned (.int k a) = .returned (.int k b) := by rw [h]

/-- The first index from i on whose number is not below v; or n. -/
structure First (z : Nat → Nat) (n i v r : Nat) : Prop where
  lo : i ≤ r
  hi : r ≤ n
  below : ∀ j, i ≤ j → j < r → z j < v
  at_ : r < n → v ≤ z r
theorem First.same {z : Nat → Nat} {n i v r r' : Nat} (h : First z n i v r) (h' : First z n i v r') : r = r' := by
  rcases Nat.lt_trichotomy r r' with e | e | e
  · have h1 := h.at_ (by have := h'.hi; omega)
    have h2 := h'.below r h.lo e
    omega
  · exact e
  · have h1 := h'.at_ (by have := h.hi; omega)
    have h2 := h.below r' h'.lo e
    omega

set_option maxHeartbeats 2000000 in
theorem seek_walk (x : Addr) (n i v : Nat) (z : Nat → Nat) (w : World) (hn : n ≤ 65536) (hi : i ≤ n) (hA : ∀ j k, i ≤ j → j ≤ k → k < n → z j ≤ z k) (sa : Seen w .u64 n z (some x)) :
    Calls Try.prog 30 #[.slice (some x) n n, .int .i64 (i : Int), .int .u64 (v : Int)] w fun e w' => ∃ r : Nat, e = .returned (.int .i64 (r : Int)) ∧ First z n i v r ∧ w' = w := by
  have HA : Hid (∀ j k, i ≤ j → j ≤ k → k < n → z j ≤ z k) := hA
  clear hA
  obtain ⟨en, hen⟩ : ∃ en, en = min (i + 4) n := ⟨_, rfl⟩
  have e1 : i ≤ en := by omega
  have e2 : en ≤ n := by omega
  have HM : Hid (en = min (i + 4) n) := hen
  clear hen
  go_enter Try.func30, Try.ntmps30
  go_upto_region 1 with fail
  go_cut [7] (fun v7 w' => v7 = .int .i64 (en : Int) ∧ w' = w)
  case first =>
    by_cases hc : i + 4 ≤ n
    · have e : en = i + 4 := by have := HM.out; omega
      subst e
      go_wp2
      go_meet
      exact ⟨by go_num, rfl⟩
    · have e : en = n := by have := HM.out; omega
      subst e
      go_wp2
      go_meet
      exact ⟨rfl, rfl⟩
  case rest =>
    obtain ⟨rfl, rfl⟩ := hcut
    go_wp2
    go_loop [1] (fun y => ∃ t : Nat, i ≤ t ∧ t ≤ en ∧ y = .int .i64 t ∧ ∀ j, i ≤ j → j < t → z j < v) (fun y => en - (intOf y).toNat)
    case atStart => exact ⟨i, Nat.le_refl _, e1, rfl, fun j j1 j2 => by omega⟩
    case round =>
      obtain ⟨t, ht1, ht2, rfl, hb⟩ := hrel
      have HB : Hid (∀ j, i ≤ j → j < t → z j < v) := hb
      clear hb
      by_cases hlt : t < en
      · obtain ⟨b, off, ex, hbl, hc⟩ := sa t (by omega)
        cases ex
        obtain ⟨u, hu⟩ : ∃ u, u = z t := ⟨_, rfl⟩
        rw [← hu] at hc
        have HU : Hid (u = z t) := hu
        clear hu
        by_cases huv : v ≤ u
        · go_wp2
          go_ret
          exact ⟨t, rfl, ⟨ht1, by omega, HB.out, fun _ => HU.out ▸ huv⟩, rfl⟩
        · go_wp2
          go_round
          case rel =>
            refine ⟨t + 1, by omega, by omega, by go_num, fun j j1 j2 => ?_⟩
            by_cases ej : j = t
            · subst ej; rw [← HU.out]; omega
            · exact HB.out j j1 (by omega)
          case measure => simp [intOf]; omega
      · go_wp2
        go_loop [1, 8] (fun y q => ∃ t st : Nat, i ≤ t ∧ t ≤ n ∧ 1 ≤ st ∧ st ≤ 131072 ∧ y = .int .i64 t ∧ q = .int .i64 st ∧ ∀ j, i ≤ j → j < t → z j < v) (fun y _ => n - (intOf y).toNat)
        case atStart => exact ⟨t, 1, ht1, by omega, by omega, by omega, rfl, rfl, HB.out⟩
        case round =>
          clear HB ht1 ht2 hlt
          obtain ⟨t, st, ht1, ht2, hst1, hst2, rfl, rfl, hb⟩ := hrel
          have HB : Hid (∀ j, i ≤ j → j < t → z j < v) := hb
          clear hb
          by_cases hlt : t + st < n
          · obtain ⟨b, off, ex, hbl, hc⟩ := sa (t + st) hlt
            cases ex
            obtain ⟨u, hu⟩ : ∃ u, u = z (t + st) := ⟨_, rfl⟩
            rw [← hu] at hc
            have HU : Hid (u = z (t + st)) := hu
            clear hu
            by_cases huv : u < v
            · go_wp2
              go_round
              case rel =>
                refine ⟨t + st, 2 * st, by omega, by omega, by omega, by omega, by go_num, by go_num, fun j j1 j2 => ?_⟩
                have := HA.out j (t + st) j1 (by omega) hlt
                rw [← HU.out] at this
                omega
              case measure => simp [intOf]; omega
            · go_wp2_with fail
              rw [show t + st + 1 - t = st + 1 from by omega]
              refine (bs_walk _ (st + 1) _ v (fun j => z (t + j)) wc (by omega) (fun a b ab bn => HA.out _ _ (by omega) (by omega) (by omega)) (sa.sub t (by omega))).mono ?_
              rintro e w1 ⟨v0, v1, rfl, l, rfl, hl, p1, p2, rfl⟩
              have HF : Hid (First z n i v (t + l)) := by
                have hz := HU.out
                refine ⟨by omega, by omega, fun j j1 j2 => ?_, fun hr => ?_⟩
                · by_cases hj : j < t
                  · exact HB.out j j1 hj
                  · have := p1 (j - t) (by omega)
                    rwa [show t + (j - t) = j from by omega] at this
                · by_cases hls : l < st + 1
                  · exact p2 l (Nat.le_refl _) hls
                  · have := p1 st (by omega)
                    omega
              have hl' : l ≤ 131072 := by omega
              clear p1 p2
              go_wp2_with fail
              go_ret
              exact ⟨t + l, ret_int (by omega), HF.out, rfl⟩
          · by_cases htn : t < n
            · obtain ⟨b, off, ex, hbl, hc⟩ := sa t htn
              cases ex
              clear hc
              go_wp2_with fail
              refine (bs_walk _ (n - t) _ v (fun j => z (t + j)) wc (by omega) (fun a b ab bn => HA.out _ _ (by omega) (by omega) (by omega)) (sa.sub t (by omega))).mono ?_
              rintro e w1 ⟨v0, v1, rfl, l, rfl, hl, p1, p2, rfl⟩
              have HF : Hid (First z n i v (t + l)) := by
                refine ⟨by omega, by omega, fun j j1 j2 => ?_, fun hr => ?_⟩
                · by_cases hj : j < t
                  · exact HB.out j j1 hj
                  · have := p1 (j - t) (by omega)
                    rwa [show t + (j - t) = j from by omega] at this
                · exact p2 l (Nat.le_refl _) (by omega)
              have hl' : l ≤ 131072 := by omega
              clear p1 p2
              go_wp2_with fail
              go_ret
              exact ⟨t + l, ret_int (by omega), HF.out, rfl⟩
            · obtain rfl : t = n := by omega
              go_wp2_with fail
              refine (bs_walk _ 0 _ v (fun j => z (t + j)) wc (by omega) (fun a b ab bn => by omega) (fun j hj => by omega)).mono ?_
              rintro e w1 ⟨v0, v1, rfl, l, rfl, hl, p1, p2, rfl⟩
              have HF : Hid (First z t i v (t + l)) := by
                obtain rfl : l = 0 := by omega
                refine ⟨by omega, by omega, fun j j1 j2 => HB.out j j1 (by omega), fun hr => absurd hr (by omega)⟩
              have hl' : l ≤ 131072 := by omega
              clear p1 p2
              go_wp2_with fail
              go_ret
              exact ⟨t + l, ret_int (by omega), HF.out, rfl⟩

end Go.Proofs.Qxb6602419a
