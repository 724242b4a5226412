/-
  THE WALK of b1StableSortPairs.
-/
import Derived.Test.Qxb6602419aPairsKit
namespace Go.Proofs.Qxb6602419a
open Go.RowKit
open Plain

theorem Four.made {w wr : World} {n : Nat} {z p : Nat → Nat} (hb : Below w.heap.size w wr) (r0 : wr.rowIs w.heap.size 29 n (cs .u64 z)) (r1 : wr.rowIs (w.heap.size + 1) 30 n (cs .u32 p)) :
    Four w n z p (fun _ => 0) (fun _ => 0) w.heap.size (w.heap.size + 1) wr.heap.size (wr.heap.size + 1) ((wr.alloc (.cells (madeCells #[.int .u64 0] n) 29)).alloc (.cells (madeCells #[.int .u32 0] n) 30)) := by
  have l0 := r0.lt
  have l1 := r1.lt
  refine ⟨(r0.alloc _).alloc _, (r1.alloc _).alloc _, (row_made wr .u64 n 29).alloc _, ?_, by omega, by omega, (hb.alloc hb.size _).alloc (by have := hb.size; simp; omega) _⟩
  have h := row_made (wr.alloc (.cells (madeCells #[.int .u64 0] n) 29)) .u32 n 30
  rw [show (wr.alloc (.cells (madeCells #[.int .u64 0] n) 29)).heap.size = wr.heap.size + 1 from by simp] at h
  exact h

set_option maxRecDepth 20000 in
set_option maxHeartbeats 2000000 in
theorem pairs_walk (x0 x1 : Option Addr) (n c0 c1 : Nat) (z p : Nat → Nat) (w : World) (hn : n ≤ 65536) (h0 : Seen w .u64 n z x0) (h1 : Seen w .u32 n p x1) :
    Calls Try.prog 13 #[.slice x0 n c0, .slice x1 n c1] w fun e w' => ∃ a b τ, e = .returned (.tuple #[.slice (some ⟨a, 0, none⟩) n n, .slice (some ⟨b, 0, none⟩) n n]) ∧
      w'.rowIs a 29 n (cs .u64 fun j => z (τ j)) ∧ w'.rowIs b 30 n (cs .u32 fun j => p (τ j)) ∧ w.heap.size ≤ a ∧ w.heap.size ≤ b ∧ Done n z τ ∧ Below w.heap.size w w' := by
  have hmk := run_make_row' (P := Try.prog) 22 29 (.int .u64 0) 8 Try.underlying22 Try.info29 rfl .i64 .i64 n (by omega) (by omega)
  have hmk2 := run_make_row' (P := Try.prog) 23 30 (.int .u32 0) 4 Try.underlying23 Try.info30 rfl .i64 .i64 n (by omega) (by omega)
  go_enter Try.func13, Try.ntmps13
  go_wp2
  go_loopw [9] (fun i wr => ∃ k : Nat, k ≤ n ∧ i = .int .i64 k ∧ wr.rowIs w.heap.size 29 n (cs .u64 (upTo k z)) ∧ wr.rowIs (w.heap.size + 1) 30 n (cs .u32 (upTo k p)) ∧ Below w.heap.size w wr) (fun i _ => n - (intOf i).toNat)
  case atStart => 
    refine ⟨0, Nat.zero_le _, rfl, (row_made w .u64 n 29).alloc _, ?_, ((Below.refl _ _).alloc (Nat.le_refl _) _).alloc (by simp) _⟩
    have h := row_made (w.alloc (.cells (madeCells #[.int .u64 0] n) 29)) .u32 n 30
    rw [show (w.alloc (.cells (madeCells #[.int .u64 0] n) 29)).heap.size = w.heap.size + 1 from by simp] at h
    exact h
  case round =>
    obtain ⟨k, hk, rfl, hr0, hr1, hb⟩ := hrel
    by_cases hlt : k < n
    · obtain ⟨b0, o0, rfl, hb0, hc0⟩ := h0 k hlt
      obtain ⟨b1, o1, rfl, hb1, hc1⟩ := h1 k hlt
      have d0 : wr.cell? ⟨b0, o0 + k, none⟩ = some (.int .u64 (z k)) := (hb.cell hb0).trans hc0
      have d1 : wr.cell? ⟨b1, o1 + k, none⟩ = some (.int .u32 (p k)) := (hb.cell hb1).trans hc1
      have f0 := hr0.frozen k
      have f1 := hr1.frozen k
      obtain ⟨v0, e0⟩ : ∃ ov, wr.cell? ⟨w.heap.size, k, none⟩ = some (.int .u64 ov) := ⟨_, hr0.cell hlt⟩
      obtain ⟨v1, e1⟩ : ∃ ov, wr.cell? ⟨w.heap.size + 1, k, none⟩ = some (.int .u32 ov) := ⟨_, hr1.cell hlt⟩
      have n1 : ¬ b1 = w.heap.size := by omega
      clear hc0 hc1 h0 h1 hmk hmk2
      go_wp2
      go_roundw
      case rel =>
        refine ⟨k + 1, by omega, by go_num, ?_, ?_, (hb.setCell (Nat.le_refl _) _).setCell (Nat.le_succ _) _⟩
        · exact (row_put hr0 k (z k) rfl (fun j _ => upTo_set k z j)).setOther (a := ⟨w.heap.size + 1, k, none⟩) (Nat.ne_of_lt (Nat.lt_succ_self _)) _
        · exact row_put (hr1.setOther (a := ⟨w.heap.size, k, none⟩) (Nat.ne_of_gt (Nat.lt_succ_self _)) _) k (p k) rfl (fun j _ => upTo_set k p j)
      case measure => simp [intOf]; omega
    · obtain rfl : k = n := by omega
      have q0 : wr.rowIs w.heap.size 29 k (cs .u64 z) := hr0.congr (fun j hj => by unfold cs; rw [upTo, if_pos hj])
      have q1 : wr.rowIs (w.heap.size + 1) 30 k (cs .u32 p) := hr1.congr (fun j hj => by unfold cs; rw [upTo, if_pos hj])
      have F0 := Four.made hb q0 q1
      clear hr0 hr1 q0 q1 h0 h1
      go_wp2
      clear hmk hmk2
      go_loopg [7, 8, 10, 11, 12] (k - 1) (fun gk v7 v8 v10 v11 v12 wr => ∃ (W : Nat) (τ B Q : Nat → Nat) (a p' b q : Nat), gk = k - W ∧ 1 ≤ W ∧ W ≤ 131072 ∧ v12 = .int .i64 W ∧
        v7 = .slice (some ⟨a, 0, none⟩) k k ∧ v8 = .slice (some ⟨p', 0, none⟩) k k ∧ v10 = .slice (some ⟨b, 0, none⟩) k k ∧ v11 = .slice (some ⟨q, 0, none⟩) k k ∧
        Run k k W z τ ∧ Four w k (fun j => z (τ j)) (fun j => p (τ j)) B Q a p' b q wr)
      case atStart => exact ⟨1, fun j => j, _, _, _, _, _, _, rfl, by omega, by omega, rfl, rfl, rfl, rfl, rfl, Run.one k z, F0⟩
      case round =>
        clear F0 hb hk hlt
        obtain ⟨W, τ, B, Q, a, p', b, q, rfl, hW1, hW2, rfl, rfl, rfl, rfl, rfl, hrun, hF⟩ := hrel
        have HR : Hid (Run k k W z τ) := hrun
        clear hrun
        by_cases hW : W < k
        · go_wp2
          go_loopw [13] (fun i wr => ∃ (t lo : Nat) (τ' B Q : Nat → Nat), lo = 2 * W * t ∧ lo ≤ k + 2 * W ∧ i = .int .i64 lo ∧ Run k (min lo k) (2 * W) z τ' ∧ (∀ j, j < min lo k → B j = z (τ' j)) ∧ (∀ j, j < min lo k → Q j = p (τ' j)) ∧ Four w k (fun j => z (τ j)) (fun j => p (τ j)) B Q a p' b q wr) (fun i _ => k - (intOf i).toNat)
          case atStart => exact ⟨0, 0, fun j => j, B, Q, rfl, by omega, rfl, by rw [Nat.zero_min]; exact Run.none _ _ _ _, fun j hj => absurd hj (by simp), fun j hj => absurd hj (by simp), hF⟩
          case round =>
            clear hF B Q
            obtain ⟨t, lo, τ', B, Q, hlo, hlok, rfl, hrun', hB, hQ, hF⟩ := hrel
            have HL : Hid (lo = 2 * W * t) := hlo
            have HR' : Hid (Run k (min lo k) (2 * W) z τ' ∧ (∀ j, j < min lo k → B j = z (τ' j)) ∧ (∀ j, j < min lo k → Q j = p (τ' j))) := ⟨hrun', hB, hQ⟩
            clear hlo hrun' hB hQ
            by_cases hlt : lo < k
            · obtain ⟨mid, hmid⟩ : ∃ mid, mid = min (lo + W) k := ⟨_, rfl⟩
              obtain ⟨hi, hhi⟩ : ∃ hi, hi = min (lo + 2 * W) k := ⟨_, rfl⟩
              have HM : Hid (mid = min (lo + W) k ∧ hi = min (lo + 2 * W) k) := ⟨hmid, hhi⟩
              clear hmid hhi
              go_upto_if 65 with fail
              go_cut [14] (fun v14 wc => v14 = .int .i64 mid ∧ Four w k (fun j => z (τ j)) (fun j => p (τ j)) B Q a p' b q wc)
              case first =>
                obtain ⟨hmid, hhi⟩ := HM.out
                by_cases hc : k < lo + W
                · have e : mid = k := by omega
                  subst e
                  clear hmid hhi
                  go_wp2
                  go_meet
                  exact ⟨rfl, hF⟩
                · have e : mid = lo + W := by omega
                  subst e
                  clear hmid hhi
                  go_wp2
                  go_meet
                  exact ⟨by go_num, hF⟩
              case rest =>
                clear hF
                obtain ⟨rfl, hF⟩ := hcut
                go_upto_if 73 with fail
                go_cut [15] (fun v15 wc => v15 = .int .i64 hi ∧ Four w k (fun j => z (τ j)) (fun j => p (τ j)) B Q a p' b q wc)
                case first =>
                  obtain ⟨hmid, hhi⟩ := HM.out
                  by_cases hc : k < lo + 2 * W
                  · have e : hi = k := by omega
                    subst e
                    clear hmid hhi
                    go_wp2
                    go_meet
                    exact ⟨rfl, hF⟩
                  · have e : hi = lo + 2 * W := by omega
                    subst e
                    clear hmid hhi
                    go_wp2
                    go_meet
                    exact ⟨by go_num, hF⟩
                case rest =>
                  clear hF
                  obtain ⟨rfl, hF⟩ := hcut
                  obtain ⟨hmid, hhi⟩ := HM.out
                  have b1 : lo ≤ mid := by omega
                  have b2 : mid ≤ hi := by omega
                  have b3 : hi ≤ k := by omega
                  have b4 : hi ≤ lo + 2 * W := by omega
                  have b5 : lo < hi := by omega
                  have hE : Plain.Ends k W t mid hi := by
                    have e := HL.out
                    refine ⟨?_, ?_, ?_, ?_, ?_, ?_⟩ <;> omega
                  have HE : Hid (Plain.Ends k W t mid hi) := hE
                  clear hmid hhi hE
                  go_wp2
                  go_loopw [16, 17, 18] (fun v16 v17 v18 wq => ∃ (x y m : Nat) (τ' B Q : Nat → Nat), v16 = .int .i64 x ∧ v17 = .int .i64 y ∧ v18 = .int .i64 m ∧ Mg k W t mid hi x y m z τ τ' ∧ (∀ j, j < m → B j = z (τ' j)) ∧ (∀ j, j < m → Q j = p (τ' j)) ∧ Four w k (fun j => z (τ j)) (fun j => p (τ j)) B Q a p' b q wq) (fun _ _ v18 _ => hi - (intOf v18).toNat)
                  case atStart =>
                    obtain ⟨e1, e2, e3⟩ := HR'.out
                    rw [show min lo k = lo from by omega] at e1 e2 e3
                    exact ⟨lo, mid, lo, τ', B, Q, rfl, rfl, rfl, by have := HL.out; subst this; exact Mg.start HE.out e1, e2, e3, hF⟩
                  case round =>
                    clear hF HR' B Q τ'
                    obtain ⟨x, y, m, τ', B, Q, rfl, rfl, rfl, hMg, hB, hQ, hF⟩ := hrel
                    have g1 : x ≤ mid := hMg.x2
                    have g2 : mid ≤ y := hMg.y1
                    have g3 : y ≤ hi := hMg.y2
                    have g4 : m + mid = x + y := hMg.hk
                    have HG : Hid (Mg k W t mid hi x y m z τ τ' ∧ (∀ j, j < m → B j = z (τ' j)) ∧ (∀ j, j < m → Q j = p (τ' j)) ∧ m + mid = x + y) := ⟨hMg, hB, hQ, g4⟩
                    clear hMg hB hQ
                    by_cases hmh : m < hi
                    · have hmk' : m < k := by omega
                      have fb := hF.rb.frozen m
                      have fq := hF.rq.frozen m
                      obtain ⟨ob, hob⟩ : ∃ ov, wr.cell? ⟨b, m, none⟩ = some (.int .u64 ov) := ⟨_, hF.rb.cell hmk'⟩
                      obtain ⟨oq, hoq⟩ : ∃ ov, wr.cell? ⟨q, m, none⟩ = some (.int .u32 ov) := ⟨_, hF.rq.cell hmk'⟩
                      obtain ⟨n1, n2, n3, n4, n5, n6⟩ := hF.ne
                      by_cases hyh : y < hi
                      · have cy : wr.cell? ⟨a, y, none⟩ = some (.int .u64 (z (τ y))) := hF.ra.cell (by omega)
                        have py : wr.cell? ⟨p', y, none⟩ = some (.int .u32 (p (τ y))) := hF.rp.cell (by omega)
                        have d1 : decide ((hi : Int) ≤ (y : Int)) = false := decide_eq_false (by omega)
                        have d1' : decide (hi ≤ y) = false := decide_eq_false (by omega)
                        by_cases hxm : x < mid
                        · have cx : wr.cell? ⟨a, x, none⟩ = some (.int .u64 (z (τ x))) := hF.ra.cell (by omega)
                          have px : wr.cell? ⟨p', x, none⟩ = some (.int .u32 (p (τ x))) := hF.rp.cell (by omega)
                          have i1 : (x : Int) < (k : Int) := by omega
                          have i2 : (y : Int) < (k : Int) := by omega
                          have d2 : decide ((x : Int) < (mid : Int)) = true := decide_eq_true (by omega)
                          have d2' : decide (x < mid) = true := decide_eq_true (by omega)
                          by_cases hle : z (τ x) ≤ z (τ y)
                          · have d3 : decide ((z (τ x) : Int) ≤ (z (τ y) : Int)) = true := decide_eq_true (by omega)
                            have d3' : decide (z (τ x) ≤ z (τ y)) = true := decide_eq_true (by omega)
                            go_wp2
                            go_quiet (fail)
                            go_wp2
                            go_roundw
                            case rel =>
                              obtain ⟨hMg, hB, hQ, h4⟩ := HG.out
                              exact ⟨x + 1, y, m + 1, _, _, _, by go_num, by go_num, by go_num, hMg.left HE.out HR.out (by omega) (fun _ => by omega), put_val hB rfl, put_val hQ rfl, hF.lay m _ _ _⟩
                            case measure => simp [intOf]; omega
                          · have d3 : decide ((z (τ x) : Int) ≤ (z (τ y) : Int)) = false := decide_eq_false (by omega)
                            have d3' : decide (z (τ x) ≤ z (τ y)) = false := decide_eq_false (by omega)
                            go_wp2
                            go_quiet (fail)
                            go_wp2
                            go_roundw
                            case rel =>
                              obtain ⟨hMg, hB, hQ, h4⟩ := HG.out
                              exact ⟨x, y + 1, m + 1, _, _, _, by go_num, by go_num, by go_num, hMg.right HE.out HR.out (by omega) (fun _ => by omega), put_val hB rfl, put_val hQ rfl, hF.lay m _ _ _⟩
                            case measure => simp [intOf]; omega
                        · have d2 : decide ((x : Int) < (mid : Int)) = false := decide_eq_false (by omega)
                          have d2' : decide (x < mid) = false := decide_eq_false (by omega)
                          go_wp2
                          go_quiet (fail)
                          go_wp2
                          go_roundw
                          case rel =>
                            obtain ⟨hMg, hB, hQ, h4⟩ := HG.out
                            exact ⟨x, y + 1, m + 1, _, _, _, by go_num, by go_num, by go_num, hMg.right HE.out HR.out (by omega) (fun _ => by omega), put_val hB rfl, put_val hQ rfl, hF.lay m _ _ _⟩
                          case measure => simp [intOf]; omega
                      · have cx : wr.cell? ⟨a, x, none⟩ = some (.int .u64 (z (τ x))) := hF.ra.cell (by omega)
                        have px : wr.cell? ⟨p', x, none⟩ = some (.int .u32 (p (τ x))) := hF.rp.cell (by omega)
                        have d1 : decide ((hi : Int) ≤ (y : Int)) = true := decide_eq_true (by omega)
                        have d1' : decide (hi ≤ y) = true := decide_eq_true (by omega)
                        go_wp2
                        go_quiet (fail)
                        go_wp2
                        go_roundw
                        case rel =>
                          obtain ⟨hMg, hB, hQ, h4⟩ := HG.out
                          exact ⟨x + 1, y, m + 1, _, _, _, by go_num, by go_num, by go_num, hMg.left HE.out HR.out (by omega) (fun _ => by omega), put_val hB rfl, put_val hQ rfl, hF.lay m _ _ _⟩
                        case measure => simp [intOf]; omega
                    · obtain rfl : m = hi := by omega
                      obtain ⟨hMg, hB, hQ, h4⟩ := HG.out
                      have HG2 : Hid (Run k m (2 * W) z τ' ∧ (∀ j, j < m → B j = z (τ' j)) ∧ (∀ j, j < m → Q j = p (τ' j))) := ⟨hMg.run, hB, hQ⟩
                      clear hMg hB hQ h4 HG
                      go_wp2
                      go_roundw
                      case rel =>
                        obtain ⟨e1, e2, e3⟩ := HG2.out
                        have e0 := HL.out
                        have e4 := HM.out.2
                        exact ⟨t + 1, lo + 2 * W, τ', B, Q, by rw [e0, Nat.mul_add, Nat.mul_one], by omega, by go_num, e4 ▸ e1, e4 ▸ e2, e4 ▸ e3, hF⟩
                      case measure => simp [intOf]; omega
            · obtain ⟨e1, e2, e3⟩ := HR'.out
              rw [show min lo k = k from by omega] at e1 e2 e3
              have HG2 : Hid (Run k k (2 * W) z τ' ∧ (∀ j, j < k → B j = z (τ' j)) ∧ (∀ j, j < k → Q j = p (τ' j))) := ⟨e1, e2, e3⟩
              clear e1 e2 e3 HR'
              go_wp2
              go_roundg (k - 2 * W)
              case measure => omega
              case rel =>
                obtain ⟨e1, e2, e3⟩ := HG2.out
                exact ⟨2 * W, τ', _, _, b, q, a, p', rfl, by omega, by omega, by go_num, rfl, rfl, rfl, rfl, e1, hF.swap.congr e2 e3⟩
        · go_wp2
          go_ret2
          exact ⟨a, p', τ, rfl, hF.ra, hF.rp, hF.hi.1, hF.hi.2.1, HR.out.done (by omega), hF.bel⟩

end Go.Proofs.Qxb6602419a
