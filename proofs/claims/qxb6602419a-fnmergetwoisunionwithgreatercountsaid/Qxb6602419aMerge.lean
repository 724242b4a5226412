/-
  THE WALK of mergeTwo.
-/
import Derived.Test.Qxb6602419aMergeKit
namespace Go.Proofs.Qxb6602419a
open Go.RowKit
open Plain
set_option linter.unusedSimpArgs false
set_option linter.unusedVariables false

theorem Hid.mk' {p : Prop} (h : p) : Hid p := h

/-- The state of the merge: what is left of both lists, what has been laid. -/
structure MS (w : World) (T : List Nat) (cap g : Nat) (A B R : List Nat) (ax bx : Option Addr) (c1 c2 : Nat) (wr : World) : Prop where
  sa : SeenL w A ax
  sb : SeenL w B bx
  ca : A.length ≤ c1
  cb : B.length ≤ c2
  na : ax = none → A.length = 0 ∧ c1 = 0
  nb : bx = none → B.length = 0 ∧ c2 = 0
  own : wr.ownsRow w.heap.size 29 1 (.slice (some ⟨g, 0, none⟩) R.length cap) R.length (vals R)
  room : R.length + A.length + B.length ≤ cap
  all : ∃ f, A.length + B.length ≤ f ∧ R ++ mg f A B = T
  bel : Below w.heap.size w wr

theorem MS.grow {w wr w2 : World} {T : List Nat} {cap g : Nat} {A B R : List Nat} {ax bx : Option Addr} {c1 c2 : Nat} (hM : MS w T cap g A B R ax bx c1 c2 wr) (hg : w.heap.size ≤ g) {nq : Nat} {o : Obj} (hgr : ((wr.drewN nq).alloc o).grownBy w2 (some g)) : Below w.heap.size w w2 := by
  have h1 : Below w.heap.size w ((wr.drewN nq).alloc o) := Below.alloc (w := wr.drewN nq) ⟨hM.bel.os, hM.bel.tape, hM.bel.output, hM.bel.size, hM.bel.block⟩ hM.bel.size o
  exact h1.grown hgr h1.size (fun k h => by cases h; exact hg)
theorem MS.left {w wr w2 : World} {T : List Nat} {cap g : Nat} {A B R : List Nat} {x y b off : Nat} {ax' bx : Option Addr} {d1 d2 : Nat} (hM : MS w T cap g (x :: A) (y :: B) R (some ⟨b, off, none⟩) bx d1 d2 wr) (hg : w.heap.size ≤ g) (hxy : x < y)
    (hax : (if d1 = 1 then some (⟨b, off, none⟩ : Addr) else some ⟨b, off + 1, none⟩) = ax') {m nq : Nat} (hm : m = R.length) {o : Obj}
    (hown : w2.ownsRow w.heap.size 29 1 (.slice (some ⟨g, 0, none⟩) (m + 1) cap) (m + 1) (vals R ++ [.int .u64 (x : Int)])) (hgr : ((wr.drewN nq).alloc o).grownBy w2 (some g)) :
    MS w T cap g A (y :: B) (R ++ [x]) ax' bx (d1 - 1) d2 w2 := by
  subst hm
  have hca := hM.ca
  have hr := hM.room
  simp only [List.length_cons] at hca hr
  obtain ⟨f, hf, he⟩ := hM.all
  simp only [List.length_cons] at hf
  refine ⟨hM.sa.tail hca ax' (fun h => by rw [← hax, if_neg h]), hM.sb, by omega, hM.cb, ?_, hM.nb, ?_, ?_, ?_, hM.grow hg hgr⟩
  · intro h
    rw [← hax] at h
    split at h <;> simp at h
  · rw [vals_append]
    simpa [vals] using hown
  · simp only [List.length_append, List.length_cons, List.length_nil]; omega
  · cases f with
    | zero => omega
    | succ f =>
      rw [mg_lt hxy] at he
      exact ⟨f, by simp only [List.length_cons]; omega, by simpa using he⟩
theorem MS.right {w wr w2 : World} {T : List Nat} {cap g : Nat} {A B R : List Nat} {x y b off : Nat} {ax bx' : Option Addr} {d1 d2 : Nat} (hM : MS w T cap g (x :: A) (y :: B) R ax (some ⟨b, off, none⟩) d1 d2 wr) (hg : w.heap.size ≤ g) (hxy : y < x)
    (hbx : (if d2 = 1 then some (⟨b, off, none⟩ : Addr) else some ⟨b, off + 1, none⟩) = bx') {m nq : Nat} (hm : m = R.length) {o : Obj}
    (hown : w2.ownsRow w.heap.size 29 1 (.slice (some ⟨g, 0, none⟩) (m + 1) cap) (m + 1) (vals R ++ [.int .u64 (y : Int)])) (hgr : ((wr.drewN nq).alloc o).grownBy w2 (some g)) :
    MS w T cap g (x :: A) B (R ++ [y]) ax bx' d1 (d2 - 1) w2 := by
  subst hm
  have hcb := hM.cb
  have hr := hM.room
  simp only [List.length_cons] at hcb hr
  obtain ⟨f, hf, he⟩ := hM.all
  simp only [List.length_cons] at hf
  refine ⟨hM.sa, hM.sb.tail hcb bx' (fun h => by rw [← hbx, if_neg h]), hM.ca, by omega, hM.na, ?_, ?_, ?_, ?_, hM.grow hg hgr⟩
  · intro h
    rw [← hbx] at h
    split at h <;> simp at h
  · rw [vals_append]
    simpa [vals] using hown
  · simp only [List.length_append, List.length_cons, List.length_nil]; omega
  · cases f with
    | zero => omega
    | succ f =>
      rw [mg_gt hxy] at he
      exact ⟨f, by simp only [List.length_cons]; omega, by simpa using he⟩
theorem MS.both {w wr w2 : World} {T : List Nat} {cap g : Nat} {A B R : List Nat} {x b off b' off' : Nat} {ax' bx' : Option Addr} {d1 d2 : Nat} (hM : MS w T cap g (x :: A) (x :: B) R (some ⟨b, off, none⟩) (some ⟨b', off', none⟩) d1 d2 wr) (hg : w.heap.size ≤ g)
    (hax : (if d1 = 1 then some (⟨b, off, none⟩ : Addr) else some ⟨b, off + 1, none⟩) = ax') (hbx : (if d2 = 1 then some (⟨b', off', none⟩ : Addr) else some ⟨b', off' + 1, none⟩) = bx') {m nq : Nat} (hm : m = R.length) {o : Obj}
    (hown : w2.ownsRow w.heap.size 29 1 (.slice (some ⟨g, 0, none⟩) (m + 1) cap) (m + 1) (vals R ++ [.int .u64 (x : Int)])) (hgr : ((wr.drewN nq).alloc o).grownBy w2 (some g)) :
    MS w T cap g A B (R ++ [x]) ax' bx' (d1 - 1) (d2 - 1) w2 := by
  subst hm
  have hca := hM.ca
  have hcb := hM.cb
  have hr := hM.room
  simp only [List.length_cons] at hca hcb hr
  obtain ⟨f, hf, he⟩ := hM.all
  simp only [List.length_cons] at hf
  refine ⟨hM.sa.tail hca ax' (fun h => by rw [← hax, if_neg h]), hM.sb.tail hcb bx' (fun h => by rw [← hbx, if_neg h]), by omega, by omega, ?_, ?_, ?_, ?_, ?_, hM.grow hg hgr⟩
  · intro h
    rw [← hax] at h
    split at h <;> simp at h
  · intro h
    rw [← hbx] at h
    split at h <;> simp at h
  · rw [vals_append]
    simpa [vals] using hown
  · simp only [List.length_append, List.length_cons, List.length_nil]; omega
  · cases f with
    | zero => omega
    | succ f =>
      rw [mg_eq] at he
      exact ⟨f, by omega, by simpa using he⟩

theorem ownsRow_seenL {w : World} {base g cap : Nat} {R : List Nat} (h : w.ownsRow base 29 1 (.slice (some ⟨g, 0, none⟩) R.length cap) R.length (vals R)) : SeenL w R (some ⟨g, 0, none⟩) := by
  intro j hj
  have h1 := h.cellAt j (by omega)
  refine ⟨g, 0, rfl, (h.lt g rfl).2, ?_⟩
  rw [Nat.zero_add, h1]
  simp [vals, hj]

theorem ret_slice {g n m : Nat} (h : n = m) : Ending.returned (.slice (some ⟨g, 0, none⟩) n n) = .returned (.slice (some ⟨g, 0, none⟩) m m) := by rw [h]

theorem clip_walk (g n cap : Nat) (w : World) (h : n ≤ cap) (hc : cap ≤ 1048576) : Calls Try.prog 31 #[.slice (some ⟨g, 0, none⟩) n cap] w fun e w' => e = .returned (.slice (some ⟨g, 0, none⟩) n n) ∧ w' = w := by
  go_enter Try.func31, Try.ntmps31
  go_wp2
  go_ret
  exact ⟨rfl, rfl⟩

set_option maxRecDepth 20000 in
set_option maxHeartbeats 2000000 in
theorem mergeTwo_walk (a0 a1 : Option Addr) (A B : List Nat) (c0 c1 : Nat) (w : World) (hA : A.length ≤ 65536) (hB : B.length ≤ 65536) (h0 : a0 = none → A.length = 0 ∧ c0 = 0) (h1 : a1 = none → B.length = 0 ∧ c1 = 0) (hc0 : A.length ≤ c0) (hc1 : B.length ≤ c1) (s0 : SeenL w A a0) (s1 : SeenL w B a1) :
    Calls Try.prog 27 #[.slice a0 A.length c0, .slice a1 B.length c1] w fun e w' => ∃ g, e = .returned (.slice (some ⟨g, 0, none⟩) (mergeU A B).length (mergeU A B).length) ∧ SeenL w' (mergeU A B) (some ⟨g, 0, none⟩) ∧ w.heap.size ≤ g ∧ Below w.heap.size w w' := by
  obtain ⟨i0, hi, hz0, hz1, hz2⟩ := info_parts Try.info29
  obtain ⟨na, hna⟩ : ∃ n, n = A.length := ⟨_, rfl⟩
  obtain ⟨nb, hnb⟩ : ∃ n, n = B.length := ⟨_, rfl⟩
  rw [← hna, ← hnb]
  rw [← hna] at hA
  rw [← hnb] at hB
  have HN : Hid (na = A.length ∧ nb = B.length) := ⟨hna, hnb⟩
  clear hna hnb
  go_enter Try.func27, Try.ntmps27
  go_wp2_with (at_make; refine wpList_make_own _ rfl _ _ 22 rfl w.heap.size 29 i0 (.int .u64 0) 1 Try.underlying22 hi hz0 hz1 .i64 .i64 _ (na + nb) rfl rfl (by omega) (by rw [hz2]; omega) (by unfold maxLen; omega) (Nat.le_refl _) ?_; intro w1 hown1 hgr1)
  have hb1 : Below w.heap.size w w1 := (Below.refl _ _).grown hgr1 (Nat.le_refl _) (fun k h => by cases h)
  go_loopg [0, 1, 5] (na + nb) (fun gk v0 v1 v5 wr => ∃ (A' B' R : List Nat) (ax bx : Option Addr) (d1 d2 : Nat), gk = A'.length + B'.length ∧ v0 = .slice ax A'.length d1 ∧ v1 = .slice bx B'.length d2 ∧ v5 = .slice (some ⟨w.heap.size, 0, none⟩) R.length (na + nb) ∧
    MS w (mergeU A B) (na + nb) w.heap.size A' B' R ax bx d1 d2 wr)
  case atStart =>
    obtain ⟨e1, e2⟩ := HN.out
    subst e1 e2
    exact ⟨A, B, [], a0, a1, c0, c1, rfl, rfl, rfl, rfl, ⟨s0, s1, hc0, hc1, h0, h1, hown1, by simp, ⟨_, Nat.le_refl _, rfl⟩, hb1⟩⟩
  case round =>
    clear hown1 hgr1 hb1 s0 s1 h0 h1 hc0 hc1
    obtain ⟨A', B', R, ax, bx, d1, d2, rfl, rfl, rfl, rfl, hM⟩ := hrel
    cases A' with
    | nil =>
      obtain ⟨lb, hlb⟩ : ∃ n, n = B'.length := ⟨_, rfl⟩
      obtain ⟨m, hm⟩ : ∃ n, n = R.length := ⟨_, rfl⟩
      simp only [List.length_nil]
      rw [← hlb, ← hm]
      have HL : Hid (0 = ([] : List Nat).length ∧ lb = B'.length ∧ m = R.length) := ⟨rfl, hlb, hm⟩
      have hlB : lb ≤ 131072 := by have := hM.room; rw [← hlb] at this; omega
      clear hlb hm
      have hown0 : wr.ownsRow w.heap.size 29 1 (.slice (some ⟨w.heap.size, 0, none⟩) m (na + nb)) m (vals R) := by rw [HL.out.2.2]; exact hM.own
      have hroom : m + 0 + lb ≤ na + nb := by have := hM.room; have := HL.out; simp only [List.length_cons, List.length_nil] at *; omega
      have l1 : (vals ([] : List Nat)).length = 0 * 1 := by rw [vals_length, Nat.mul_one]; have := HL.out; simp only [List.length_cons, List.length_nil] at * <;> omega
      have l2 : (vals B').length = lb * 1 := by rw [vals_length, Nat.mul_one]; have := HL.out; simp only [List.length_cons, List.length_nil] at * <;> omega
      have n1 : ax = none → 0 = 0 ∧ d1 = 0 := fun h => by have := hM.na h; have := HL.out; simp only [List.length_cons, List.length_nil] at *; omega
      have n2 : bx = none → lb = 0 ∧ d2 = 0 := fun h => by have := hM.nb h; have := HL.out; simp only [List.length_cons, List.length_nil] at *; omega
      have hall : R ++ ([] : List Nat) ++ B' = mergeU A B := by obtain ⟨f, _, he⟩ := hM.all; rw [← he]; simp [mg_nil, mg_nil']
      have HALL := Hid.mk' hall
      clear hall
      have HC1 := Hid.mk' (hM.sa.cells hM.bel)
      have HC2 := Hid.mk' hM.sb
      have HB := Hid.mk' hM.bel
      have HX := Hid.mk' (And.intro n1 n2)
      clear hM n1 n2
      go_wp2_with (first | (at_builtin; refine wpList_append_fits_any _ rfl (.tmp 62) (.tmp 63) 22 rfl w.heap.size 29 i0 1 Try.underlying22 hi hz1 w.heap.size m (na + nb) (vals R) rfl hown0 ax 0 d1 (vals ([] : List Nat)) rfl l1 HX.out.1 HC1.out (vals_one _) (by omega) ?_; intro w1 hown1 hgr1) | (at_builtin; refine wpList_append_fits_any _ rfl (.tmp 64) (.tmp 65) 22 rfl w.heap.size 29 i0 1 Try.underlying22 hi hz1 w.heap.size (m + 0) (na + nb) (vals R ++ vals ([] : List Nat)) rfl hown1 bx lb d2 (vals B') rfl l2 HX.out.2 (HC2.out.cells (HB.out.grown hgr1 HB.out.size (fun k h => by cases h; exact Nat.le_refl _))) (vals_one _) (by omega) ?_; intro w2 hown2 hgr2))
      refine (clip_walk w.heap.size (m + 0 + lb) (na + nb) w2 (by omega) (by omega)).mono ?_
      rintro e w3 ⟨rfl, rfl⟩
      go_wp2
      go_ret
      have hb1 : Below w.heap.size w w1 := HB.out.grown hgr1 HB.out.size (fun k h => by cases h; exact Nat.le_refl _)
      have hb2 : Below w.heap.size w w3 := hb1.grown hgr2 hb1.size (fun k h => by cases h; exact Nat.le_refl _)
      rw [← vals_append, ← vals_append, HALL.out] at hown2
      have hl : m + 0 + lb = (mergeU A B).length := by
        rw [← HALL.out]; have := HL.out; simp only [List.length_cons, List.length_nil, List.length_append] at *; omega
      rw [hl] at hown2
      exact ⟨_, ret_slice (by rw [← hl]; omega), ownsRow_seenL hown2, Nat.le_refl _, hb2⟩
    | cons x A' =>
      cases B' with
      | nil =>
        obtain ⟨la, hla⟩ : ∃ n, n = A'.length := ⟨_, rfl⟩
        obtain ⟨m, hm⟩ : ∃ n, n = R.length := ⟨_, rfl⟩
        simp only [List.length_nil, List.length_cons]
        rw [← hla, ← hm]
        have HL : Hid (la = A'.length ∧ 0 = ([] : List Nat).length ∧ m = R.length) := ⟨hla, rfl, hm⟩
        have hlA : la ≤ 131072 := by have := hM.room; simp only [List.length_cons] at this; rw [← hla] at this; omega
        clear hla hm
        have hown0 : wr.ownsRow w.heap.size 29 1 (.slice (some ⟨w.heap.size, 0, none⟩) m (na + nb)) m (vals R) := by rw [HL.out.2.2]; exact hM.own
        have hroom : m + (la + 1) + 0 ≤ na + nb := by have := hM.room; have := HL.out; simp only [List.length_cons, List.length_nil] at *; omega
        have l1 : (vals (x :: A')).length = (la + 1) * 1 := by rw [vals_length, Nat.mul_one]; have := HL.out; simp only [List.length_cons, List.length_nil] at * <;> omega
        have l2 : (vals ([] : List Nat)).length = 0 * 1 := by rw [vals_length, Nat.mul_one]; have := HL.out; simp only [List.length_cons, List.length_nil] at * <;> omega
        have n1 : ax = none → (la + 1) = 0 ∧ d1 = 0 := fun h => by have := hM.na h; have := HL.out; simp only [List.length_cons, List.length_nil] at *; omega
        have n2 : bx = none → 0 = 0 ∧ d2 = 0 := fun h => by have := hM.nb h; have := HL.out; simp only [List.length_cons, List.length_nil] at *; omega
        have hall : R ++ (x :: A') ++ ([] : List Nat) = mergeU A B := by obtain ⟨f, _, he⟩ := hM.all; rw [← he]; simp [mg_nil, mg_nil']
        have HALL := Hid.mk' hall
        clear hall
        have HC1 := Hid.mk' (hM.sa.cells hM.bel)
        have HC2 := Hid.mk' hM.sb
        have HB := Hid.mk' hM.bel
        have HX := Hid.mk' (And.intro n1 n2)
        clear hM n1 n2
        go_wp2_with (first | (at_builtin; refine wpList_append_fits_any _ rfl (.tmp 62) (.tmp 63) 22 rfl w.heap.size 29 i0 1 Try.underlying22 hi hz1 w.heap.size m (na + nb) (vals R) rfl hown0 ax (la + 1) d1 (vals (x :: A')) rfl l1 HX.out.1 HC1.out (vals_one _) (by omega) ?_; intro w1 hown1 hgr1) | (at_builtin; refine wpList_append_fits_any _ rfl (.tmp 64) (.tmp 65) 22 rfl w.heap.size 29 i0 1 Try.underlying22 hi hz1 w.heap.size (m + (la + 1)) (na + nb) (vals R ++ vals (x :: A')) rfl hown1 bx 0 d2 (vals ([] : List Nat)) rfl l2 HX.out.2 (HC2.out.cells (HB.out.grown hgr1 HB.out.size (fun k h => by cases h; exact Nat.le_refl _))) (vals_one _) (by omega) ?_; intro w2 hown2 hgr2))
        refine (clip_walk w.heap.size (m + (la + 1) + 0) (na + nb) w2 (by omega) (by omega)).mono ?_
        rintro e w3 ⟨rfl, rfl⟩
        go_wp2
        go_ret
        have hb1 : Below w.heap.size w w1 := HB.out.grown hgr1 HB.out.size (fun k h => by cases h; exact Nat.le_refl _)
        have hb2 : Below w.heap.size w w3 := hb1.grown hgr2 hb1.size (fun k h => by cases h; exact Nat.le_refl _)
        rw [← vals_append, ← vals_append, HALL.out] at hown2
        have hl : m + (la + 1) + 0 = (mergeU A B).length := by
          rw [← HALL.out]; have := HL.out; simp only [List.length_cons, List.length_nil, List.length_append] at *; omega
        rw [hl] at hown2
        exact ⟨_, ret_slice (by rw [← hl]; omega), ownsRow_seenL hown2, Nat.le_refl _, hb2⟩
      | cons y B' =>
        obtain ⟨b, off, rfl, hbl, hcx⟩ := hM.sa.head
        obtain ⟨b', off', rfl, hbl', hcy⟩ := hM.sb.head
        have dx : wr.cell? ⟨b, off, none⟩ = some (.int .u64 (x : Int)) := (hM.bel.cell hbl).trans hcx
        have dy : wr.cell? ⟨b', off', none⟩ = some (.int .u64 (y : Int)) := (hM.bel.cell hbl').trans hcy
        have hca : A'.length + 1 ≤ d1 := hM.ca
        have hcb : B'.length + 1 ≤ d2 := hM.cb
        have hroom : R.length + 1 ≤ na + nb := by have := hM.room; simp at this; omega
        obtain ⟨la, hla⟩ : ∃ n, n = A'.length := ⟨_, rfl⟩
        obtain ⟨lb, hlb⟩ : ∃ n, n = B'.length := ⟨_, rfl⟩
        obtain ⟨m, hm⟩ : ∃ n, n = R.length := ⟨_, rfl⟩
        simp only [List.length_cons]
        rw [← hla, ← hlb, ← hm]
        rw [← hla] at hca
        rw [← hlb] at hcb
        rw [← hm] at hroom
        have HL : Hid (la = A'.length ∧ lb = B'.length ∧ m = R.length) := ⟨hla, hlb, hm⟩
        clear hla hlb hm hcx hcy
        have hp1 : (1 : Int) ≤ (la : Int) + 1 := by omega
        have hp2 : (1 : Int) ≤ (lb : Int) + 1 := by omega
        obtain ⟨ax', hax⟩ : ∃ q : Option Addr, (if d1 = 1 then some (⟨b, off, none⟩ : Addr) else some ⟨b, off + 1, none⟩) = q := ⟨_, rfl⟩
        obtain ⟨bx', hbx⟩ : ∃ q : Option Addr, (if d2 = 1 then some (⟨b', off', none⟩ : Addr) else some ⟨b', off' + 1, none⟩) = q := ⟨_, rfl⟩
        have hd1 : 0 < d1 := by omega
        have hd2 : 0 < d2 := by omega
        rcases Nat.lt_trichotomy x y with hxy | hxy | hxy
        · go_wp2
          go_quiet (fail)
          have hown : (wr.alloc (.cells #[.int .u64 (x : Int)] 29)).ownsRow w.heap.size 29 1 (.slice (some ⟨w.heap.size, 0, none⟩) m (na + nb)) m (vals R) := by
            rw [HL.out.2.2]; exact hM.own.alloc _
          have HO := Hid.mk' hown
          have HNW := Hid.mk' (cell_one_new wr (.int .u64 (x : Int)) 29)
          clear hown
          go_wp2
          go_region_law (refine step_append_fits rfl (.tmp 38) (.tmp 42) 22 rfl w.heap.size 29 i0 1 Try.underlying22 hi hz1 w.heap.size m (na + nb) (vals R) (by simp [Act.eval, Act.put]) (by exact HO.out) ⟨wr.heap.size, 0, none⟩ 1 1 [.int .u64 (x : Int)] (by simp [Act.eval, Act.put]) rfl (by exact HNW.out) (by simp [Value.oneCell']) hroom ?_; intro w2 hown2 hgr2)
          all_goals go_wp2
          all_goals (go_roundg (la + (lb + 1)))
          case measure => simp; have := HL.out; omega
          case rel =>
            obtain ⟨e1, e2, e3⟩ := HL.out
            exact ⟨A', y :: B', R ++ [x], ax', _, d1 - 1, d2, by simp; omega, by rw [e1], by simp [e2], by simp [e3], hM.left (Nat.le_refl _) hxy hax e3 hown2 hgr2⟩
        · subst hxy
          go_wp2
          go_quiet (fail)
          go_wp2
          go_quiet (fail)
          have hown : (wr.alloc (.cells #[.int .u64 (x : Int)] 29)).ownsRow w.heap.size 29 1 (.slice (some ⟨w.heap.size, 0, none⟩) m (na + nb)) m (vals R) := by
            rw [HL.out.2.2]; exact hM.own.alloc _
          have HO := Hid.mk' hown
          have HNW := Hid.mk' (cell_one_new wr (.int .u64 (x : Int)) 29)
          clear hown
          go_wp2
          go_region_law (refine step_append_fits rfl (.tmp 20) (.tmp 24) 22 rfl w.heap.size 29 i0 1 Try.underlying22 hi hz1 w.heap.size m (na + nb) (vals R) (by simp [Act.eval, Act.put]) (by exact HO.out) ⟨wr.heap.size, 0, none⟩ 1 1 [.int .u64 (x : Int)] (by simp [Act.eval, Act.put]) rfl (by exact HNW.out) (by simp [Value.oneCell']) hroom ?_; intro w2 hown2 hgr2)
          all_goals go_wp2
          all_goals (go_roundg (la + lb))
          case measure => simp; have := HL.out; omega
          case rel =>
            obtain ⟨e1, e2, e3⟩ := HL.out
            exact ⟨A', B', R ++ [x], ax', bx', d1 - 1, d2 - 1, by omega, by rw [e1], by rw [e2], by simp [e3], hM.both (Nat.le_refl _) hax hbx e3 hown2 hgr2⟩
        · go_wp2
          go_quiet (fail)
          go_wp2
          go_quiet (fail)
          have hown : (wr.alloc (.cells #[.int .u64 (y : Int)] 29)).ownsRow w.heap.size 29 1 (.slice (some ⟨w.heap.size, 0, none⟩) m (na + nb)) m (vals R) := by
            rw [HL.out.2.2]; exact hM.own.alloc _
          have HO := Hid.mk' hown
          have HNW := Hid.mk' (cell_one_new wr (.int .u64 (y : Int)) 29)
          clear hown
          go_wp2
          go_region_law (refine step_append_fits rfl (.tmp 54) (.tmp 58) 22 rfl w.heap.size 29 i0 1 Try.underlying22 hi hz1 w.heap.size m (na + nb) (vals R) (by simp [Act.eval, Act.put]) (by exact HO.out) ⟨wr.heap.size, 0, none⟩ 1 1 [.int .u64 (y : Int)] (by simp [Act.eval, Act.put]) rfl (by exact HNW.out) (by simp [Value.oneCell']) hroom ?_; intro w2 hown2 hgr2)
          all_goals go_wp2
          all_goals (go_roundg ((la + 1) + lb))
          case measure => simp; have := HL.out; omega
          case rel =>
            obtain ⟨e1, e2, e3⟩ := HL.out
            exact ⟨x :: A', B', R ++ [y], _, bx', d1, d2 - 1, by simp; omega, by simp [e1], by rw [e2], by simp [e3], hM.right (Nat.le_refl _) hxy hbx e3 hown2 hgr2⟩

end Go.Proofs.Qxb6602419a
