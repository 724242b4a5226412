/-
  THE WALK of FnMergeTwoIsUnionWithGreaterCount.
-/
import Derived.Test.Qxb6602419aCount
namespace Go.Proofs.Qxb6602419a
open Go.RowKit
open Plain

theorem zz16_yes (a b : Option Addr) (n m c d : Nat) (w : World) (hn : n + m ≤ 1048576) : Calls Try.prog 16 #[.slice a n c, .slice b m d] w fun e w' => e = .returned (.bool true) ∧ w' = w := by
  go_enter Try.func16, Try.ntmps16
  go_wp2
  go_ret
  exact ⟨rfl, rfl⟩
theorem zz16_no (a b : Option Addr) (n m c d : Nat) (w : World) (hn : 1048576 < n + m) : Calls Try.prog 16 #[.slice a n c, .slice b m d] w fun e w' => e = .returned (.bool false) ∧ w' = w := by
  by_cases h1 : 1048576 < n
  · go_enter Try.func16, Try.ntmps16
    go_wp2
    go_ret
    exact ⟨rfl, rfl⟩
  by_cases h2 : 1048576 < m
  · go_enter Try.func16, Try.ntmps16
    go_wp2
    go_ret
    exact ⟨rfl, rfl⟩
  go_enter Try.func16, Try.ntmps16
  go_wp2
  go_ret
  exact ⟨rfl, rfl⟩

set_option maxRecDepth 20000 in
set_option maxHeartbeats 2000000 in
theorem union_main (a0 a1 : Option Addr) (n m c0 c1 : Nat) (z p : Nat → Nat) (w : World) (hn : n ≤ 65536) (hm : m ≤ 65536) (h0 : a0 = none → n = 0 ∧ c0 = 0) (h1 : a1 = none → m = 0 ∧ c1 = 0) (s0 : Seen w .u64 n z a0) (s1 : Seen w .u64 m p a1) :
    Calls Try.prog 5 #[.slice a0 n c0, .slice a1 m c1] w fun e w' => e = .returned (.bool true) ∧ Below w.heap.size w w' := by
  obtain ⟨A, hA⟩ : ∃ A, A = listOf n z := ⟨_, rfl⟩
  obtain ⟨B, hB⟩ : ∃ B, B = listOf m p := ⟨_, rfl⟩
  have HA : Hid (A = listOf n z) := hA
  have HB : Hid (B = listOf m p) := hB
  have HlA : Hid (A.length = n) := by show A.length = n; rw [hA, listOf_length]
  have HlB : Hid (B.length = m) := by show B.length = m; rw [hB, listOf_length]
  clear hA hB
  have d0 : decide ((65536 : Int) < (n : Int)) = false := decide_eq_false (by omega)
  have d1 : decide ((65536 : Int) < (m : Int)) = false := decide_eq_false (by omega)
  go_enter Try.func5, Try.ntmps5
  go_wp2_with fail
  refine (zz16_yes a0 a1 n m c0 c1 w (by omega)).mono ?_
  rintro e w' ⟨rfl, rfl⟩
  go_wp2_with fail
  refine (nondec_walk a0 A n c0 w' HlA.out (by omega) (by rw [HA.out]; exact s0.list)).mono ?_
  rintro e w1 ⟨r, rfl, hr, hb1⟩
  cases r with
  | false =>
    clear hr
    go_wp2_with fail
    go_ret
    exact ⟨rfl, hb1⟩
  | true =>
    have ascA : Hid (Asc A) := hr.1 rfl
    clear hr
    go_wp2_with fail
    refine (nondec_walk a1 B m c1 w1 HlB.out (by omega) (by rw [HB.out]; exact (s1.later hb1).list)).mono ?_
    rintro e w2 ⟨r, rfl, hr, hb2⟩
    have b2 : Below w'.heap.size w' w2 := hb1.trans (hb2.mono hb1.size)
    cases r with
    | false =>
      clear hr
      go_wp2_with fail
      go_ret
      exact ⟨rfl, b2⟩
    | true =>
      have ascB : Hid (Asc B) := hr.1 rfl
      clear hr
      go_wp2_with fail
      refine (clone64 a0 n c0 z w2 (by omega) h0 (s0.later b2)).mono ?_
      rintro e w3 ⟨v, rfl, ho3, hb3, hz3⟩
      obtain ⟨x, rfl, hs3⟩ := ho3.seen
      have b3 : Below w'.heap.size w' w3 := b2.trans (hb3.mono b2.size)
      go_wp2_with fail
      refine (clone64 a1 m c1 p w3 (by omega) h1 (s1.later b3)).mono ?_
      rintro e w4 ⟨v, rfl, ho4, hb4, hz4⟩
      obtain ⟨y, rfl, hs4⟩ := ho4.seen
      have b4 : Below w'.heap.size w' w4 := b3.trans (hb4.mono b3.size)
      have sA : SeenL w4 A x := by rw [HA.out]; exact (hs3.later hb4).list
      have sB : SeenL w4 B y := by rw [HB.out]; exact hs4.list
      have hx := ho3.nil0'
      have hy := ho4.nil0'
      clear ho3 ho4 hs3 hs4 hb1 hb2 hb3 hb4 hz3 hz4 b2 b3 s0 s1 h0 h1
      go_wp2_with fail
      refine (zzmerge_walk x y A B n m n m w4 HlA.out HlB.out hn hm hx hy (Nat.le_refl _) (Nat.le_refl _) sA sB).mono ?_
      rintro e w5 ⟨g, rfl, sR, hg, hb5⟩
      have tA := sA.later hb5
      have tB := sB.later hb5
      have b5 : Below w'.heap.size w' w5 := b4.trans (hb5.mono b4.size)
      obtain ⟨R, hR⟩ : ∃ R, R = mergeU A B := ⟨_, rfl⟩
      have HCn : Hid (∀ v, R.count v = max (A.count v) (B.count v)) := fun v => by rw [hR]; exact mergeU_count ascA.out ascB.out v
      have ascR : Hid (Asc R) := by show Asc R; rw [hR]; exact mergeU_asc ascA.out ascB.out
      have hlR : R.length ≤ n + m := by rw [hR, ← HlA.out, ← HlB.out]; exact mg_length _ A B
      rw [← hR] at sR
      rw [← hR]
      obtain ⟨N, hN⟩ : ∃ N, R.length = N := ⟨_, rfl⟩
      rw [hN] at hlR
      rw [hN]
      have HN : Hid (R.length = N) := hN
      clear hN hR sA sB hb5 b4 hg hx hy HA HB
      go_wp2_with fail
      refine (nondec_walk (some ⟨g, 0, none⟩) R N N w5 HN.out (by omega) sR).mono ?_
      rintro e w6 ⟨r, rfl, hr, hb6⟩
      obtain rfl : r = true := hr.2 ascR.out
      have b6 : Below w'.heap.size w' w6 := b5.trans (hb6.mono b5.size)
      have uA := tA.later hb6
      have uB := tB.later hb6
      have uR := sR.later hb6
      clear hr tA tB sR hb6 b5
      go_wp2_with fail
      go_loopw [6] (fun i wr => ∃ s : Nat, s ≤ N ∧ i = .int .i64 s ∧ (∀ j, j < s → s < N → R.getD j 0 < R.getD s 0) ∧ Below w6.heap.size w6 wr) (fun i _ => N - (intOf i).toNat)
      case atStart => exact ⟨0, Nat.zero_le _, rfl, fun j h => by omega, Below.refl _ _⟩
      case round =>
        obtain ⟨s, hs, rfl, hsj, hbk⟩ := hrel
        have HS : Hid (∀ j, j < s → s < N → R.getD j 0 < R.getD s 0) := hsj
        clear hsj
        by_cases hlt : s < N
        · obtain ⟨v, hv⟩ : ∃ v, v = R.getD s 0 := ⟨_, rfl⟩
          have HV : Hid (v = R.getD s 0) := hv
          clear hv
          go_wp2_with fail
          go_loopw [7] (fun i wr => ∃ e : Nat, s < e ∧ e ≤ N ∧ i = .int .i64 e ∧ (∀ j, s ≤ j → j < e → R.getD j 0 = R.getD s 0) ∧ Below w6.heap.size w6 wr) (fun i _ => N - (intOf i).toNat)
          case atStart => exact ⟨s + 1, by omega, by omega, by go_num, fun j j1 j2 => by rw [show j = s from by omega], hbk⟩
          case round =>
            clear hbk
            obtain ⟨e, hse, heN, rfl, hej, hbk⟩ := hrel
            have HI : Hid (∀ j, s ≤ j → j < e → R.getD j 0 = R.getD s 0) := hej
            clear hej
            obtain ⟨b, off, eb, hbl, hcs⟩ := uR s (by rw [HN.out]; exact hlt)
            cases eb
            have cs' : wr.cell? ⟨g, 0 + s, none⟩ = some (.int .u64 (v : Int)) := by rw [HV.out]; exact (hbk.cell hbl).trans hcs
            rw [Nat.zero_add] at cs'
            have iS : (s : Int) < (N : Int) := by omega
            clear hcs
            by_cases heN' : e < N
            · obtain ⟨b', off', eb', hbl', hce⟩ := uR e (by rw [HN.out]; exact heN')
              cases eb'
              obtain ⟨u, hu⟩ : ∃ u, u = R.getD e 0 := ⟨_, rfl⟩
              have ce' : wr.cell? ⟨g, 0 + e, none⟩ = some (.int .u64 (u : Int)) := by rw [hu]; exact (hbk.cell hbl').trans hce
              rw [Nat.zero_add] at ce'
              have iE : (e : Int) < (N : Int) := by omega
              have HUU : Hid (u = R.getD e 0) := hu
              clear hu hce
              have t1 : decide ((e : Int) < (N : Int)) = true := decide_eq_true (by omega)
              have t1' : decide (e < N) = true := decide_eq_true heN'
              by_cases huv : u = v
              · subst huv
                go_wp2
                go_quiet (fail)
                go_wp2
                go_roundw
                case rel =>
                  refine ⟨e + 1, by omega, by omega, by go_num, fun j j1 j2 => ?_, ⟨hbk.os, hbk.tape, hbk.output, hbk.size, hbk.block⟩⟩
                  by_cases ej : j = e
                  · subst ej; rw [← HUU.out]; exact HV.out
                  · exact HI.out j j1 (by omega)
                case measure => simp [intOf]; omega
              · have t3 : ((u : Int) == (v : Int)) = false := by simp; omega
                have t3' : (u == v) = false := by simp; omega
                have HX : Hid (e < N → R.getD e 0 ≠ R.getD s 0) := fun _ h => huv (by rw [HUU.out, HV.out]; exact h)
                obtain ⟨cA, hcA⟩ : ∃ q, q = A.count v := ⟨_, rfl⟩
                obtain ⟨cB, hcB⟩ : ∃ q, q = B.count v := ⟨_, rfl⟩
                have HRn : Hid (e - s = max cA cB) := by
                  show e - s = max cA cB
                  rw [hcA, hcB, ← HCn.out v]
                  have ev := HV.out
                  refine (count_bounds (lo := s) (hi := e) (by omega) (by rw [HN.out]; omega) (fun i hi => ?_) (fun i i1 i2 => ?_) (fun i i1 i2 => ?_)).symm
                  · have := HS.out i hi (by omega); omega
                  · rw [HI.out i i1 i2]; exact ev.symm
                  · have h1 := HX.out (by rw [HN.out] at i2; omega)
                    have h2 := Asc.le ascR.out (show s ≤ e by omega) (by omega)
                    have h3 := Asc.le ascR.out i1 i2
                    omega
                have lA : cA ≤ 131072 := by have := List.count_le_length (a := v) (l := A); rw [HlA.out] at this; omega
                have lB : cB ≤ 131072 := by have := List.count_le_length (a := v) (l := B); rw [HlB.out] at this; omega
                have HC : Hid (cA = A.count v ∧ cB = B.count v) := ⟨hcA, hcB⟩
                have HS' : Hid (∀ i, i < e → e < N → R.getD i 0 < R.getD e 0) := fun i hi he => by
                  have h1 := HX.out he
                  have h3 := Asc.le ascR.out (show i ≤ e - 1 by omega) (by rw [HN.out]; omega)
                  have h4 := HI.out (e - 1) (by omega) (by omega)
                  have h5 := Asc.le ascR.out (show s ≤ e by omega) (by rw [HN.out]; omega)
                  omega
                have hbn : ∀ nq, Below w6.heap.size w6 (wr.drewN nq) := fun nq => ⟨hbk.os, hbk.tape, hbk.output, hbk.size, hbk.block⟩
                have vA : ∀ nq, SeenL (wr.drewN nq) A x := fun nq => uA.later (hbn nq)
                have vB : ∀ nq, SeenL (wr.drewN nq) B y := fun nq => uB.later (hbn nq)
                clear hcA hcB HI
                go_wp2
                go_quiet (fail)
                by_cases hAB : cA < cB
                · have t2 : (((e : Int) - (s : Int)) != (cB : Int)) = false := by have := HRn.out; rw [bne_eq_false_iff_eq]; omega
                  go_wp2_with fail
                  refine (count_walk x A n n v _ HlA.out (by omega) ascA.out (vA _)).mono ?_
                  rw [← HC.out.1]
                  rintro e1 w7 ⟨rfl, rfl⟩
                  go_wp2_with fail
                  refine (count_walk y B m m v _ HlB.out (by omega) ascB.out (vB _)).mono ?_
                  rw [← HC.out.2]
                  rintro e1 w8 ⟨rfl, rfl⟩
                  go_wp2_with fail
                  go_roundw
                  case rel => exact ⟨e, heN, rfl, HS'.out, hbn _⟩
                  case measure => simp [intOf]; omega
                · have t2 : (((e : Int) - (s : Int)) != (cA : Int)) = false := by have := HRn.out; rw [bne_eq_false_iff_eq]; omega
                  go_wp2_with fail
                  refine (count_walk x A n n v _ HlA.out (by omega) ascA.out (vA _)).mono ?_
                  rw [← HC.out.1]
                  rintro e1 w7 ⟨rfl, rfl⟩
                  go_wp2_with fail
                  refine (count_walk y B m m v _ HlB.out (by omega) ascB.out (vB _)).mono ?_
                  rw [← HC.out.2]
                  rintro e1 w8 ⟨rfl, rfl⟩
                  go_wp2_with fail
                  go_roundw
                  case rel => exact ⟨e, heN, rfl, HS'.out, hbn _⟩
                  case measure => simp [intOf]; omega
            · obtain rfl : e = N := by omega
              have HX : Hid (e < e → R.getD e 0 ≠ R.getD s 0) := fun h => absurd h (Nat.lt_irrefl _)
              have t1 : decide ((e : Int) < (e : Int)) = false := decide_eq_false (by omega)
              have t1' : decide (e < e) = false := decide_eq_false (by omega)
              obtain ⟨cA, hcA⟩ : ∃ q, q = A.count v := ⟨_, rfl⟩
              obtain ⟨cB, hcB⟩ : ∃ q, q = B.count v := ⟨_, rfl⟩
              have HRn : Hid (e - s = max cA cB) := by
                show e - s = max cA cB
                rw [hcA, hcB, ← HCn.out v]
                have ev := HV.out
                refine (count_bounds (lo := s) (hi := e) (by omega) (by rw [HN.out]; omega) (fun i hi => ?_) (fun i i1 i2 => ?_) (fun i i1 i2 => ?_)).symm
                · have := HS.out i hi (by omega); omega
                · rw [HI.out i i1 i2]; exact ev.symm
                · have h1 := HX.out (by rw [HN.out] at i2; omega)
                  have h2 := Asc.le ascR.out (show s ≤ e by omega) (by omega)
                  have h3 := Asc.le ascR.out i1 i2
                  omega
              have lA : cA ≤ 131072 := by have := List.count_le_length (a := v) (l := A); rw [HlA.out] at this; omega
              have lB : cB ≤ 131072 := by have := List.count_le_length (a := v) (l := B); rw [HlB.out] at this; omega
              have HC : Hid (cA = A.count v ∧ cB = B.count v) := ⟨hcA, hcB⟩
              have HS' : Hid (∀ i, i < e → e < e → R.getD i 0 < R.getD e 0) := fun i hi he => by
                have h1 := HX.out he
                have h3 := Asc.le ascR.out (show i ≤ e - 1 by omega) (by rw [HN.out]; omega)
                have h4 := HI.out (e - 1) (by omega) (by omega)
                have h5 := Asc.le ascR.out (show s ≤ e by omega) (by rw [HN.out]; omega)
                omega
              have hbn : ∀ nq, Below w6.heap.size w6 (wr.drewN nq) := fun nq => ⟨hbk.os, hbk.tape, hbk.output, hbk.size, hbk.block⟩
              have vA : ∀ nq, SeenL (wr.drewN nq) A x := fun nq => uA.later (hbn nq)
              have vB : ∀ nq, SeenL (wr.drewN nq) B y := fun nq => uB.later (hbn nq)
              clear hcA hcB HI
              go_wp2
              go_quiet (fail)
              by_cases hAB : cA < cB
              · have t2 : (((e : Int) - (s : Int)) != (cB : Int)) = false := by have := HRn.out; rw [bne_eq_false_iff_eq]; omega
                go_wp2_with fail
                refine (count_walk x A n n v _ HlA.out (by omega) ascA.out (vA _)).mono ?_
                rw [← HC.out.1]
                rintro e1 w7 ⟨rfl, rfl⟩
                go_wp2_with fail
                refine (count_walk y B m m v _ HlB.out (by omega) ascB.out (vB _)).mono ?_
                rw [← HC.out.2]
                rintro e1 w8 ⟨rfl, rfl⟩
                go_wp2_with fail
                go_roundw
                case rel => exact ⟨e, heN, rfl, HS'.out, hbn _⟩
                case measure => simp [intOf]; omega
              · have t2 : (((e : Int) - (s : Int)) != (cA : Int)) = false := by have := HRn.out; rw [bne_eq_false_iff_eq]; omega
                go_wp2_with fail
                refine (count_walk x A n n v _ HlA.out (by omega) ascA.out (vA _)).mono ?_
                rw [← HC.out.1]
                rintro e1 w7 ⟨rfl, rfl⟩
                go_wp2_with fail
                refine (count_walk y B m m v _ HlB.out (by omega) ascB.out (vB _)).mono ?_
                rw [← HC.out.2]
                rintro e1 w8 ⟨rfl, rfl⟩
                go_wp2_with fail
                go_roundw
                case rel => exact ⟨e, heN, rfl, HS'.out, hbn _⟩
                case measure => simp [intOf]; omega
        · have vA : SeenL wr A x := uA.later hbk
          have vB : SeenL wr B y := uB.later hbk
          have vR : SeenL wr R (some ⟨g, 0, none⟩) := uR.later hbk
          clear uA uB uR HS
          go_wp2_with fail
          go_loop [11] (fun i => ∃ k : Nat, k ≤ n ∧ i = .int .i64 k) (fun i => n - (intOf i).toNat)
          case atStart => exact ⟨0, Nat.zero_le _, rfl⟩
          case round =>
            obtain ⟨k, hk, rfl⟩ := hrel
            by_cases hltk : k < n
            · obtain ⟨b, off, rfl, hbl, hc⟩ := vA k (by rw [HlA.out]; exact hltk)
              obtain ⟨v, hv⟩ : ∃ v, v = A.getD k 0 := ⟨_, rfl⟩
              have c1 : wr.cell? ⟨b, off + k, none⟩ = some (.int .u64 (v : Int)) := by rw [hv]; exact hc
              obtain ⟨cR, hcR⟩ : ∃ q, q = R.count v := ⟨_, rfl⟩
              have hpos : 0 < cR := by
                have h1 := count_pos_at (show k < A.length by rw [HlA.out]; exact hltk)
                rw [hcR, HCn.out v, hv]
                omega
              have lR : cR ≤ 131072 := by rw [hcR]; have := List.count_le_length (a := v) (l := R); rw [HN.out] at this; omega
              have HC : Hid (cR = R.count v) := hcR
              have t1 : ((cR : Int) == 0) = false := by simp; omega
              clear hv hc hcR
              go_wp2_with fail
              refine (count_walk (some ⟨g, 0, none⟩) R N N v _ HN.out (by omega) ascR.out vR).mono ?_
              rw [← HC.out]
              rintro e1 w7 ⟨rfl, rfl⟩
              go_wp2_with fail
              go_round
              case rel => exact ⟨k + 1, by omega, by go_num⟩
              case measure => simp [intOf]; omega
            · go_wp2_with fail
              go_loop [12] (fun i => ∃ k : Nat, k ≤ m ∧ i = .int .i64 k) (fun i => m - (intOf i).toNat)
              case atStart => exact ⟨0, Nat.zero_le _, rfl⟩
              case round =>
                obtain ⟨k, hk, rfl⟩ := hrel
                by_cases hltk : k < m
                · obtain ⟨b, off, rfl, hbl, hc⟩ := vB k (by rw [HlB.out]; exact hltk)
                  obtain ⟨v, hv⟩ : ∃ v, v = B.getD k 0 := ⟨_, rfl⟩
                  have c1 : wr.cell? ⟨b, off + k, none⟩ = some (.int .u64 (v : Int)) := by rw [hv]; exact hc
                  obtain ⟨cR, hcR⟩ : ∃ q, q = R.count v := ⟨_, rfl⟩
                  have hpos : 0 < cR := by
                    have h1 := count_pos_at (show k < B.length by rw [HlB.out]; exact hltk)
                    rw [hcR, HCn.out v, hv]
                    omega
                  have lR : cR ≤ 131072 := by rw [hcR]; have := List.count_le_length (a := v) (l := R); rw [HN.out] at this; omega
                  have HC : Hid (cR = R.count v) := hcR
                  have t1 : ((cR : Int) == 0) = false := by simp; omega
                  clear hv hc hcR
                  go_wp2_with fail
                  refine (count_walk (some ⟨g, 0, none⟩) R N N v _ HN.out (by omega) ascR.out vR).mono ?_
                  rw [← HC.out]
                  rintro e1 w7 ⟨rfl, rfl⟩
                  go_wp2_with fail
                  go_round
                  case rel => exact ⟨k + 1, by omega, by go_num⟩
                  case measure => simp [intOf]; omega
                · go_wp2_with fail
                  go_ret
                  exact ⟨rfl, b6.trans (hbk.mono b6.size)⟩

theorem union_walk (a0 a1 : Option Addr) (n m c0 c1 : Nat) (z p : Nat → Nat) (w : World) (hm0 : n ≤ maxLen) (hm1 : m ≤ maxLen) (h0 : a0 = none → n = 0 ∧ c0 = 0) (h1 : a1 = none → m = 0 ∧ c1 = 0) (s0 : Seen w .u64 n z a0) (s1 : Seen w .u64 m p a1) :
    Calls Try.prog 5 #[.slice a0 n c0, .slice a1 m c1] w fun e w' => e = .returned (.bool true) ∧ Below w.heap.size w w' := by
  unfold maxLen at hm0 hm1
  by_cases hs : n + m ≤ 1048576
  · by_cases hn : n ≤ 65536
    · by_cases hm : m ≤ 65536
      · exact union_main a0 a1 n m c0 c1 z p w hn hm h0 h1 s0 s1
      · go_enter Try.func5, Try.ntmps5
        go_wp2_with fail
        refine (zz16_yes a0 a1 n m c0 c1 w hs).mono ?_
        rintro e w' ⟨rfl, rfl⟩
        go_wp2_with fail
        go_ret
        exact ⟨rfl, Below.refl _ _⟩
    · go_enter Try.func5, Try.ntmps5
      go_wp2_with fail
      refine (zz16_yes a0 a1 n m c0 c1 w hs).mono ?_
      rintro e w' ⟨rfl, rfl⟩
      go_wp2_with fail
      go_ret
      exact ⟨rfl, Below.refl _ _⟩
  · go_enter Try.func5, Try.ntmps5
    go_wp2_with fail
    refine (zz16_no a0 a1 n m c0 c1 w (by omega)).mono ?_
    rintro e w' ⟨rfl, rfl⟩
    go_wp2_with fail
    go_ret
    exact ⟨rfl, Below.refl _ _⟩

end Go.Proofs.Qxb6602419a
