/-
  THE WALK of sortIDs.
-/
import Derived.Test.Qxb6602419aSortKit
namespace Go.Proofs.Qxb6602419a
open Go.RowKit
open Plain

/-- One number and its place are laid, and the next place of its digit is one further. -/
theorem lay_step {wc wr : World} {n gN b10 b11 : Nat} {nx F G : Nat → Nat} (hpos : 0 < n) (n3 : gN ≠ b10) (n4 : gN ≠ b11) (m5 : b10 ≠ b11) (hk : Kept (Wr n gN b10 b11) wc wr) (hr : wr.rowIs gN 39 256 (cs .i64 nx))
    (r10 : wr.rowIs b10 29 n (cs .u64 F)) (r11 : wr.rowIs b11 30 n (cs .u32 G)) (q dd a b x : Nat) {v : Value} (hv : v = .int .i64 (x : Int)) :
    Kept (Wr n gN b10 b11) wc (((wr.setCell ⟨b10, q, none⟩ (.int .u64 (a : Int))).setCell ⟨b11, q, none⟩ (.int .u32 (b : Int))).setCell ⟨gN, dd, none⟩ v).drew ∧
    (((wr.setCell ⟨b10, q, none⟩ (.int .u64 (a : Int))).setCell ⟨b11, q, none⟩ (.int .u32 (b : Int))).setCell ⟨gN, dd, none⟩ v).drew.rowIs gN 39 256 (cs .i64 fun j => if j = dd then x else nx j) ∧
    Own (((wr.setCell ⟨b10, q, none⟩ (.int .u64 (a : Int))).setCell ⟨b11, q, none⟩ (.int .u32 (b : Int))).setCell ⟨gN, dd, none⟩ v).drew .u64 29 n (fun j => if j = q then a else F j) (.slice (some ⟨b10, 0, none⟩) n n) b10 ∧
    Own (((wr.setCell ⟨b10, q, none⟩ (.int .u64 (a : Int))).setCell ⟨b11, q, none⟩ (.int .u32 (b : Int))).setCell ⟨gN, dd, none⟩ v).drew .u32 30 n (fun j => if j = q then b else G j) (.slice (some ⟨b11, 0, none⟩) n n) b11 := by
  refine ⟨(((hk.setCell ?_ _).setCell ?_ _).setCell ?_ _).drew, ?_, .inr ⟨rfl, ?_⟩, .inr ⟨rfl, ?_⟩⟩
  · exact fun _ => .inr ⟨hpos, .inl rfl⟩
  · exact fun _ => .inr ⟨hpos, .inr rfl⟩
  · exact fun _ => .inl rfl
  · exact (row_put ((hr.setOther (a := ⟨b10, q, none⟩) n3 _).setOther (a := ⟨b11, q, none⟩) n4 _) dd x hv (fun _ _ => rfl)).drew
  · exact (((row_set r10 q a).setOther (a := ⟨b11, q, none⟩) m5 _).setOther (a := ⟨gN, dd, none⟩) (Ne.symm n3) _).drew
  · exact ((row_set (r11.setOther (a := ⟨b10, q, none⟩) (Ne.symm m5) _) q b).setOther (a := ⟨gN, dd, none⟩) (Ne.symm n4) _).drew

theorem pow_next (s : Nat) : 2 ^ (8 * s) * 256 = 2 ^ (8 * (s + 1)) := by
  rw [Nat.mul_add, Nat.pow_add]

set_option maxRecDepth 20000 in
set_option maxHeartbeats 2000000 in
theorem sortIDs_walk (a0 a1 : Option Addr) (n c0 c1 : Nat) (z p : Nat → Nat) (w : World) (hn : n ≤ 65536) (hz : ∀ j, z j < U64) (g0 g1 : Nat)
    (h0 : Own w .u64 29 n z (.slice a0 n c0) g0) (h1 : Own w .u32 30 n p (.slice a1 n c1) g1) (hg : 0 < n → g0 ≠ g1) :
    Calls Try.prog 26 #[.slice a0 n c0, .slice a1 n c1] w fun e w' => ∃ v0 v1 I P b0 b1 σ, e = .returned (.tuple #[v0, v1]) ∧ St w n g0 g1 I P v0 v1 b0 b1 w' ∧
      Done n z σ ∧ (∀ j, j < n → I j = z (σ j)) ∧ (∀ j, j < n → P j = p (σ j)) := by
  have hmk := run_make_row' (P := Try.prog) 22 29 (.int .u64 0) 8 Try.underlying22 Try.info29 rfl .i64 .i64 n (by omega) (by omega)
  have hmk2 := run_make_row' (P := Try.prog) 23 30 (.int .u32 0) 4 Try.underlying23 Try.info30 rfl .i64 .i64 n (by omega) (by omega)
  have hnil := fun w a n c => Lib.run_eql_slice_nil (P := Try.prog) w 22 29 a n c 0 0 Try.underlying22
  go_enter Try.func26, Try.ntmps26
  go_wp2
  go_loop [6, 7, 24] (fun x y i => ∃ k : Nat, k ≤ n ∧ i = .int .i64 k ∧ x = .int .u64 (andU z k : Int) ∧ y = .int .u64 (orU z k : Int)) (fun _ _ i => n - (intOf i).toNat)
  case atStart => exact ⟨0, Nat.zero_le _, rfl, rfl, rfl⟩
  case round =>
    obtain ⟨k, hk, rfl, rfl, rfl⟩ := hrel
    by_cases hlt : k < n
    · obtain ⟨e0, r0⟩ := h0.pos (by omega)
      simp only [Value.slice.injEq, true_and] at e0
      obtain ⟨rfl, rfl⟩ := e0
      have hc : w.cell? ⟨g0, k, none⟩ = some (.int .u64 (z k)) := r0.cell hlt
      have hA := bits_and (andU_lt z k) (hz k)
      have hO := bits_or (orU_lt z hz k) (hz k)
      clear r0 hmk hmk2 hnil h0 h1
      go_wp2
      go_round
      case rel => exact ⟨k + 1, by omega, by go_num, rfl, rfl⟩
      case measure => simp [intOf]; omega
    · obtain rfl : k = n := by omega
      obtain ⟨A, hA⟩ : ∃ A, A = andU z k := ⟨_, rfl⟩
      obtain ⟨O, hO⟩ : ∃ A, A = orU z k := ⟨_, rfl⟩
      rw [← hA, ← hO]
      have HA : Hid (A = andU z k) := hA
      have HO : Hid (O = orU z k) := hO
      clear hA hO
      go_wp2
      go_loopg [0, 1, 10, 11, 12] 8 (fun gk v0 v1 v10 v11 v12 wr => ∃ (s : Nat) (I P : Nat → Nat) (b0 b1 : Nat) (a10 : Option Addr) (n10 c10 : Nat), gk = 8 - s ∧ s ≤ 8 ∧ v12 = .int .i64 (8 * s : Nat) ∧ v10 = .slice a10 n10 c10 ∧
        St w k g0 g1 I P v0 v1 b0 b1 wr ∧ (a10 ≠ none → ∃ T10 T11 b10 b11, To w k g0 g1 T10 T11 v10 v11 b0 b1 b10 b11 wr) ∧ ∃ σ, Srt k z (2 ^ (8 * s)) σ ∧ (∀ j, j < k → I j = z (σ j)) ∧ (∀ j, j < k → P j = p (σ j)))
      case atStart => exact ⟨0, z, p, g0, g1, none, 0, 0, rfl, by omega, rfl, rfl, ⟨h0, h1, hg, fun _ => .inl rfl, fun _ => .inr (.inl rfl), Kept.refl _ _⟩, fun h => absurd rfl h, fun j => j, Srt.first k z, fun _ _ => rfl, fun _ _ => rfl⟩
      case round =>
        obtain ⟨s, I, P, b0, b1, a10, n10, c10, rfl, hs, rfl, rfl, hst, hto, σ, hσ⟩ := hrel
        have HS : Hid (Srt k z (2 ^ (8 * s)) σ ∧ (∀ j, j < k → I j = z (σ j)) ∧ (∀ j, j < k → P j = p (σ j))) := hσ
        clear hσ
        obtain ⟨x0, rfl, -⟩ := hst.o0.seen
        obtain ⟨x1, rfl, -⟩ := hst.o1.seen
        by_cases hs8 : s < 8
        · by_cases hd : (bits BinOp.and IntKind.u64 (bits BinOp.xor IntKind.u64 (A : Int) (O : Int) / 2 ^ (8 * s)) 255 == 0) = true
          · go_wp2
            go_roundg (8 - (s + 1))
            case measure => omega
            case rel =>
              obtain ⟨q1, q2, q3⟩ := HS.out
              have e1 : dgt s (andU z k ^^^ orU z k) = 0 := by
                rw [HA.out, HO.out, test_dgt (andU_lt z k) (orU_lt z hz k)] at hd
                exact of_decide_eq_true hd
              exact ⟨s + 1, I, P, b0, b1, a10, n10, c10, rfl, by omega, by go_num, rfl, hst, hto, σ, pow_next s ▸ q1.skip (agree e1), q2, q3⟩
          · have hd' : (bits BinOp.and IntKind.u64 (bits BinOp.xor IntKind.u64 (A : Int) (O : Int) / 2 ^ (8 * s)) 255 == 0) = false := by simpa using hd
            clear hd
            go_upto_if 47 with fail
            go_cut [10, 11] (fun v10 v11 wc => ∃ T10 T11 b10 b11, St w k g0 g1 I P (.slice x0 k k) (.slice x1 k k) b0 b1 wc ∧ To w k g0 g1 T10 T11 v10 v11 b0 b1 b10 b11 wc)
            case first =>
              cases a10 with
              | some x =>
                obtain ⟨T10, T11, b10, b11, hto⟩ := hto (by simp)
                go_wp2
                go_meet
                exact ⟨_, _, _, _, hst, hto⟩
              | none =>
                go_wp2
                go_region
                all_goals go_wp2
                all_goals go_meet
                · exact ⟨_, _, _, _, hst.later (kept2 _ _ _ _), To.made hst (by omega) (Nat.le_refl _) (by omega) (made_a _ _).1 (made_a _ _).2⟩
                · exact ⟨_, _, _, _, hst.later (kept2 _ _ _ _), To.made hst (by omega) (by omega) (Nat.le_refl _) (made_b _ _).1 (made_b _ _).2⟩
            case rest =>
              clear hto hst hmk hmk2 hnil hd'
              obtain ⟨T10, T11, b10, b11, hst, hto⟩ := hcut
              have hza := run_zero39
              go_upto_region 15 with fail
              go_cut [13] (fun v13 w' => ∃ gN, v13 = .pointer (some ⟨gN, 0, none⟩) ∧ w'.rowIs gN 39 256 (cs .i64 fun _ => 0) ∧ Nx w k b0 b1 b10 b11 gN ∧ St w k g0 g1 I P (.slice x0 k k) (.slice x1 k k) b0 b1 w' ∧ To w k g0 g1 T10 T11 u10 u11 b0 b1 b10 b11 w')
              case first =>
                go_wp2
                go_meet
                exact ⟨_, rfl, row_zero39 _, Nx.made hst hto, hst.later ((Kept.refl _ _).alloc _), hto.later ((Kept.refl _ _).alloc _)⟩
              case rest =>
                clear hza hst hto
                obtain ⟨gN, rfl, hn0, hnx, hst, hto⟩ := hcut
                have hI : ∀ x, x < k → I x < U64 := fun x hx => by rw [HS.out.2.1 x hx]; exact hz _
                obtain ⟨D, hD⟩ : ∃ D : Nat → Nat, D = fun y => dgt s (I y) := ⟨_, rfl⟩
                have HD : Hid (D = fun y => dgt s (I y)) := hD
                have hD256 : ∀ y, y < k → D y < 256 := fun y _ => by rw [hD]; exact dgt_lt _ _
                clear hD
                go_wp2
                go_loopw [56] (fun i wr => ∃ x : Nat, x ≤ k ∧ i = .int .i64 x ∧ Kept (fun b => b = gN) wc wr ∧ wr.rowIs gN 39 256 (cs .i64 fun d => cnt D d x)) (fun i _ => k - (intOf i).toNat)
                case atStart => exact ⟨0, Nat.zero_le _, rfl, Kept.refl _ _, hn0⟩
                case round =>
                  obtain ⟨x, hx, rfl, hkx, hrx⟩ := hrel
                  clear hn0
                  by_cases hlt : x < k
                  · have hpos : 0 < k := by omega
                    obtain ⟨e0, r0⟩ := hst.o0.pos hpos
                    simp only [Value.slice.injEq, and_true] at e0
                    subst e0
                    have hnw : ¬ b0 = gN := fun e => (hnx.ne hpos).1 e.symm
                    have hc : wr.cell? ⟨b0, x, none⟩ = some (.int .u64 (I x)) := (hkx.row r0 hnw).cell hlt
                    have hdig := bits_dgt (hI x hlt) s
                    obtain ⟨dd, hdd⟩ : ∃ dd, dd = D x := ⟨_, rfl⟩
                    have hd256 : dd < 256 := hdd ▸ hD256 x hlt
                    rw [show dgt s (I x) = dd from by rw [hdd, HD.out]] at hdig
                    obtain ⟨c, hcc⟩ : ∃ c, c = cnt D dd x := ⟨_, rfl⟩
                    have hcN : wr.cell? ⟨gN, dd, none⟩ = some (.int .i64 (c : Int)) := by rw [hcc]; exact hrx.cell hd256
                    have hfN := hrx.frozen dd
                    have hcl : c ≤ x := hcc ▸ cnt_le D dd x
                    have HH : Hid (dd = D x ∧ c = cnt D dd x) := ⟨hdd, hcc⟩
                    clear hdd hcc r0 hnw
                    go_wp2
                    go_roundw
                    case rel => exact ⟨x + 1, by omega, by go_num, hkx.setCell (fun _ => rfl) _, row_put hrx dd (c + 1) (by go_num) (fun j _ => cnt_set HH.out.1 HH.out.2 j)⟩
                    case measure => simp [intOf]; omega
                  · obtain rfl : x = k := by omega
                    obtain ⟨cA, hgA, hszA, hatA⟩ := hrx
                    have hrA : wr.rowIs gN 39 256 (cs .i64 fun d => cnt D d x) := ⟨cA, hgA, hszA, hatA⟩
                    have hszA' : (Try.prog.info? 39).map (·.size) = some cA.size := by rw [hszA]; kernel_rfl
                    go_wp2_with (refine wpList_load_row rfl 39 _ rfl gN rfl 39 _ _ _ hgA Try.underlying39 rfl hszA' ?_)
                    clear hszA'
                    go_loopw [16, 70] (fun t i wq => ∃ d : Nat, d ≤ 256 ∧ i = .int .i64 d ∧ t = .int .i64 (Plain.start D x d) ∧ Kept (fun b => b = gN) wc wq ∧ wq.rowIs gN 39 256 (cs .i64 (half D x d))) (fun _ i _ => 256 - (intOf i).toNat)
                    case atStart => exact ⟨0, by omega, rfl, rfl, hkx, hrA.congr (fun j _ => by unfold cs half; simp)⟩
                    case round =>
                      obtain ⟨d, hd, rfl, rfl, hkq, hrq⟩ := hrel
                      clear hgA hszA hrA hkx
                      by_cases hltd : d < 256
                      · have hidx := fun w => run_index39 cA d (cnt D d x) hltd (hatA d hltd) w
                        obtain ⟨ov, hov⟩ : ∃ ov, wr.cell? ⟨gN, d, none⟩ = some (.int .i64 ov) := ⟨_, hrq.cell hltd⟩
                        have hfz := hrq.frozen d
                        have hsl := start_le D x 256 (d + 1) hD256 (by omega)
                        have hse : Plain.start D x (d + 1) = Plain.start D x d + cnt D d x := rfl
                        rw [hse] at hsl
                        clear hse
                        obtain ⟨S, hS⟩ : ∃ S, S = Plain.start D x d := ⟨_, rfl⟩
                        obtain ⟨C, hC⟩ : ∃ C, C = cnt D d x := ⟨_, rfl⟩
                        rw [← hC] at hidx
                        rw [← hS, ← hC] at hsl
                        rw [← hS]
                        have HH : Hid (S = Plain.start D x d ∧ C = cnt D d x) := ⟨hS, hC⟩
                        clear hS hC
                        go_wp2
                        go_roundw
                        case rel =>
                          refine ⟨d + 1, by omega, by go_num, ?_, hkq.setCell (fun _ => rfl) _, row_put hrq d S rfl (fun j _ => by rw [HH.out.1]; exact half_set D x d j)⟩
                          show Value.int _ _ = Value.int _ ((Plain.start D x d + cnt D d x : Nat) : Int)
                          rw [← HH.out.1, ← HH.out.2]
                          go_num
                        case measure => simp [intOf]; omega
                      · obtain rfl : d = 256 := by omega
                        clear hatA
                        have hrN : wr.rowIs gN 39 256 (cs .i64 (nexts D x 0)) := hrq.congr (fun j hj => by unfold cs; rw [(nexts_zero D x j).resolve_right (by omega)])
                        have hk5 : Kept (Wr x gN b10 b11) wc wr := hkq.mono (fun _ _ e => .inl e)
                        have q10 : Own wr .u64 29 x T10 u10 b10 := hkq.own hto.o10 (fun hp e => (hnx.ne hp).2.2.1 e.symm)
                        have q11 : Own wr .u32 30 x T11 u11 b11 := hkq.own hto.o11 (fun hp e => (hnx.ne hp).2.2.2 e.symm)
                        clear hrq hkq
                        go_wp2
                        go_loopw [83] (fun i wq => ∃ y : Nat, y ≤ x ∧ i = .int .i64 y ∧ Kept (Wr x gN b10 b11) wc wq ∧ wq.rowIs gN 39 256 (cs .i64 (nexts D x y)) ∧ Own wq .u64 29 x (scat (pos D x) I T10 y) u10 b10 ∧ Own wq .u32 30 x (scat (pos D x) P T11 y) u11 b11) (fun i _ => x - (intOf i).toNat)
                        case atStart => exact ⟨0, by omega, rfl, hk5, hrN, q10, q11⟩
                        case round =>
                          clear hk5 hrN q10 q11
                          obtain ⟨y, hy, rfl, hkq, hrq, q10, q11⟩ := hrel
                          by_cases hlty : y < x
                          · have hpos : 0 < x := by omega
                            obtain ⟨e0, r0⟩ := hst.o0.pos hpos
                            obtain ⟨e1, r1⟩ := hst.o1.pos hpos
                            obtain ⟨e10, r10⟩ := q10.pos hpos
                            obtain ⟨e11, r11⟩ := q11.pos hpos
                            simp only [Value.slice.injEq, and_true] at e0 e1
                            subst e0 e1 e10 e11
                            obtain ⟨n1, n2, n3, n4⟩ := hnx.ne hpos
                            obtain ⟨m1, m2, m3, m4, m5⟩ := hto.ne hpos
                            have w0 : ¬ Wr x gN b10 b11 b0 := by unfold Wr; omega
                            have w1 : ¬ Wr x gN b10 b11 b1 := by unfold Wr; omega
                            have hc0 : wr.cell? ⟨b0, y, none⟩ = some (.int .u64 (I y)) := (hkq.row r0 w0).cell hlty
                            have hc1 : wr.cell? ⟨b1, y, none⟩ = some (.int .u32 (P y)) := (hkq.row r1 w1).cell hlty
                            have hdig := bits_dgt (hI y hlty) s
                            obtain ⟨dd, hdd⟩ : ∃ dd, dd = D y := ⟨_, rfl⟩
                            have hd256 : dd < 256 := hdd ▸ hD256 y hlty
                            rw [show dgt s (I y) = dd from by rw [hdd, HD.out]] at hdig
                            obtain ⟨q, hqq⟩ : ∃ q, q = nexts D x y dd := ⟨_, rfl⟩
                            have hqp : q = pos D x y := by rw [hqq, hdd]; rfl
                            have hqx : q < x := hqp ▸ pos_lt D hD256 hlty
                            have hcN : wr.cell? ⟨gN, dd, none⟩ = some (.int .i64 (q : Int)) := by rw [hqq]; exact hrq.cell hd256
                            have hfN := hrq.frozen dd
                            have hf10 := r10.frozen q
                            have hf11 := r11.frozen q
                            obtain ⟨o10, ho10⟩ : ∃ ov, wr.cell? ⟨b10, q, none⟩ = some (.int .u64 ov) := ⟨_, r10.cell hqx⟩
                            obtain ⟨o11, ho11⟩ : ∃ ov, wr.cell? ⟨b11, q, none⟩ = some (.int .u32 ov) := ⟨_, r11.cell hqx⟩
                            have HH : Hid (dd = D y ∧ q = nexts D x y dd ∧ q = pos D x y) := ⟨hdd, hqq, hqp⟩
                            clear hdd hqq hqp r0 r1 w0 w1
                            go_wp2
                            go_region
                            all_goals go_wp2
                            go_roundw
                            case rel =>
                              obtain ⟨L1, L2, L3, L4⟩ := lay_step hpos n3 n4 m5 hkq hrq r10 r11 q dd (I y) (P y) (q + 1) (v := .int .i64 ((q : Int) + 1)) (by go_num)
                              obtain ⟨H1, H2, H3⟩ := HH.out
                              refine ⟨y + 1, by omega, by go_num, L1, L2.congr (fun j _ => congrArg (fun t : Nat => Value.int .i64 (t : Int)) (nexts_set H1 H2 j)), L3.congr (fun j _ => ?_), L4.congr (fun j _ => ?_)⟩
                              · rw [H3]; rfl
                              · rw [H3]; rfl
                            case measure => simp [intOf]; omega
                          · obtain rfl : y = x := by omega
                            obtain ⟨N1, N2⟩ := hst.next hto hnx hkq q10 q11
                            clear hrq q10 q11 hkq
                            obtain ⟨x10, rfl, -⟩ := N1.o0.seen
                            go_wp2
                            go_roundg (8 - (s + 1))
                            case measure => omega
                            case rel =>
                              obtain ⟨q1, q2, q3⟩ := HS.out
                              refine ⟨s + 1, _, _, b10, b11, x0, y, y, rfl, by omega, by go_num, rfl, N1, fun _ => ⟨_, _, _, _, N2⟩, scat (pos D y) σ σ y, pow_next s ▸ q1.pass (Nat.two_pow_pos _) (fun j hj => ?_), pass_at hD256 q2, pass_at hD256 q3⟩
                              rw [HD.out, ← q2 j hj]
                              rfl
        · clear hmk hmk2 hnil hto
          go_wp2
          go_ret2
          obtain ⟨q1, q2, q3⟩ := HS.out
          obtain rfl : s = 8 := by omega
          exact ⟨_, _, I, P, b0, b1, σ, rfl, hst, q1.done hz, q2, q3⟩

/-- The exported alias. -/
theorem zzsort_walk (a0 a1 : Option Addr) (n c0 c1 : Nat) (z p : Nat → Nat) (w : World) (hn : n ≤ 65536) (hz : ∀ j, z j < U64) (g0 g1 : Nat)
    (h0 : Own w .u64 29 n z (.slice a0 n c0) g0) (h1 : Own w .u32 30 n p (.slice a1 n c1) g1) (hg : 0 < n → g0 ≠ g1) :
    Calls Try.prog 14 #[.slice a0 n c0, .slice a1 n c1] w fun e w' => ∃ v0 v1 I P b0 b1 σ, e = .returned (.tuple #[v0, v1]) ∧ St w n g0 g1 I P v0 v1 b0 b1 w' ∧
      Done n z σ ∧ (∀ j, j < n → I j = z (σ j)) ∧ (∀ j, j < n → P j = p (σ j)) := by
  go_enter Try.func14, Try.ntmps14
  go_wp2_with fail
  refine (sortIDs_walk a0 a1 n c0 c1 z p w hn hz g0 g1 h0 h1 hg).mono ?_
  rintro e w1 ⟨v0, v1, I, P, b0, b1, σ, rfl, hst, hd, hI, hP⟩
  go_wp2
  go_ret2
  exact ⟨v0, v1, I, P, b0, b1, σ, rfl, hst, hd, hI, hP⟩

theorem Own.nil0 {w : World} {k : IntKind} {e : TypeId} {n g c : Nat} {z : Nat → Nat} {a : Option Addr} (h : Own w k e n z (.slice a n c) g) : a = none → n = 0 ∧ c = 0 := by
  rintro rfl
  rcases h with ⟨h0, b, hb⟩ | ⟨hv, _⟩
  · cases hb; exact ⟨rfl, rfl⟩
  · cases hv

end Go.Proofs.Qxb6602419a
