/- The law FnCombineAddsEvidenceOrderFree. -/
import Derived.Test.Qxb6629173aEmpty
namespace Go.Proofs.Qxb6629173a.Fl
open Ieee Go.RowKit
attribute [local go_sem] run_store_float

theorem ge_b {x y : Nat} (hx : N x) (hy : N y) (h : V y ≤ V x) : (FloatKind.f64.format.order x y == some .gt || FloatKind.f64.format.order x y == some .eq) = true := by
  rw [fmt64, order_n hx hy]
  simp only [Bool.or_eq_true, beq_iff_eq, Option.some.injEq, Int.compare_eq_gt, Int.compare_eq_eq]
  omega
theorem le_b {x y : Nat} (hx : N x) (hy : N y) (h : V x ≤ V y) : (FloatKind.f64.format.order x y == some .lt || FloatKind.f64.format.order x y == some .eq) = true := by
  rw [fmt64, order_n hx hy]
  simp only [Bool.or_eq_true, beq_iff_eq, Option.some.injEq, Int.compare_eq_lt, Int.compare_eq_eq]
  omega
theorem lt_b {x y : Nat} (hx : N x) (hy : N y) (h : V x < V y) : (FloatKind.f64.format.order x y == some .lt) = true := by
  rw [fmt64, order_n hx hy, Int.compare_eq_lt.2 h]; rfl
theorem nlt_b {x y : Nat} (hx : N x) (hy : N y) (h : ¬ V x < V y) : (FloatKind.f64.format.order x y == some .lt) = false := by
  rw [fmt64, order_n hx hy]
  simp only [beq_eq_false_iff_ne, ne_eq, Option.some.injEq, Int.compare_eq_lt]
  exact h

/-- A model within the law's bounds. -/
structure In (mu nu al be : Nat) : Prop where
  fm : Fi mu
  fn : Fi nu
  fa : Fi al
  fb : Fi be
  m : -pp 1407 ≤ V mu ∧ V mu ≤ pp 1407
  n : 0 ≤ V nu ∧ V nu ≤ pp 1407
  a : 0 ≤ V al ∧ V al ≤ pp 1407
  b : 0 ≤ V be ∧ V be ≤ pp 1407

theorem comb_b {pMu pNu pA pB qMu qNu qA qB cNu cA cB : Nat} (hp : In pMu pNu pA pB) (hq : In qMu qNu qA qB) (e1 : double.add pNu qNu = some cNu) (e2 : double.add pA qA = some cA) (e3 : double.add pB qB = some cB) :
    ∃ m b2, (∀ w : World, Calls Try.prog 6 #[.agg #[.float .f64 pMu, .float .f64 pNu, .float .f64 pA, .float .f64 pB], .agg #[.float .f64 qMu, .float .f64 qNu, .float .f64 qA, .float .f64 qB]] w
      fun e w' => e = .returned (.agg #[.float .f64 m, .float .f64 cNu, .float .f64 cA, .float .f64 b2]) ∧ Below w.heap.size w w') ∧
      (N m ∧ min (V pMu) (V qMu) ≤ V m ∧ V m ≤ max (V pMu) (V qMu)) ∧ (N b2 ∧ V cB ≤ V b2) ∧
      (V pNu = 0 → V m = V qMu ∧ V b2 = V cB) ∧ (V pNu ≠ 0 → V qNu = 0 ∨ V pMu = V qMu → V m = V pMu ∧ V b2 = V cB) := by
  obtain ⟨z1, z2⟩ := zero_word
  by_cases h0 : V pNu = 0
  · obtain ⟨c, e, r⟩ := add_r hp.fb hq.fb
    rw [e3] at e; cases e
    exact ⟨qMu, cB, fun w => zz_any _ _ _ ⟨_, _, _, _, rfl⟩ ⟨_, _, _, _, rfl⟩ ⟨_, _, _, _, rfl⟩ w (fun w => comb_zero _ _ _ _ _ _ _ _ _ _ _ w e1 e2 e3 (eq_b hp.fn.n z1.n (by rw [h0, z2]))), ⟨hq.fm.n, by omega, by omega⟩, ⟨r.nn, Int.le_refl _⟩, fun _ => ⟨rfl, rfl⟩, fun h => absurd h0 h⟩
  · obtain ⟨dNu, dA, dB, ww, d, wd, mu', m2, x1, x2, x3, t, b2, hc, hm, _, _, _, hb, hz⟩ := chain_bounded hp.fm hp.fn hp.fa hp.fb hq.fm hq.fn hq.fa hq.fb hp.m hp.n hp.b hq.m hq.n hq.b h0
    have g1 := hc.eNu
    have g2 := hc.eA
    have g3 := hc.eB
    rw [e1] at g1; cases g1
    rw [e2] at g2; cases g2
    rw [e3] at g3; cases g3
    exact ⟨m2, b2, fun w => zz_any _ _ _ ⟨_, _, _, _, rfl⟩ ⟨_, _, _, _, rfl⟩ ⟨_, _, _, _, rfl⟩ w (fun w => comb_nz w hc (ne_b hp.fn.n z1.n (by rw [z2]; exact h0))), hm, hb, fun h => absurd h h0, fun _ => hz⟩

theorem new44 {W w2 : World} {a b c d a' b' c' d' : Value} (hb : Below ((W.alloc (.cells #[a, b, c, d] 25)).alloc (.cells #[a', b', c', d'] 25)).heap.size ((W.alloc (.cells #[a, b, c, d] 25)).alloc (.cells #[a', b', c', d'] 25)) w2) :
    (w2.cell? ⟨W.heap.size, 0, none⟩ = some a ∧ w2.cell? ⟨W.heap.size, 1, none⟩ = some b ∧ w2.cell? ⟨W.heap.size, 2, none⟩ = some c ∧ w2.cell? ⟨W.heap.size, 3, none⟩ = some d) ∧
    (w2.cell? ⟨W.heap.size + 1, 0, none⟩ = some a' ∧ w2.cell? ⟨W.heap.size + 1, 1, none⟩ = some b' ∧ w2.cell? ⟨W.heap.size + 1, 2, none⟩ = some c' ∧ w2.cell? ⟨W.heap.size + 1, 3, none⟩ = some d') ∧ W.heap.size + 1 < w2.heap.size := by
  have h : ∀ j, w2.cell? ⟨W.heap.size, j, none⟩ = #[a, b, c, d][j]? := by
    intro j
    rw [hb.cell (p := ⟨W.heap.size, j, none⟩) (by simp; omega), World.cell?_alloc_lt _ _ _ (by simp), World.cell?_alloc_new]
  have e : (W.alloc (.cells #[a, b, c, d] 25)).heap.size = W.heap.size + 1 := by simp
  have h' : ∀ j, w2.cell? ⟨W.heap.size + 1, j, none⟩ = #[a', b', c', d'][j]? := by
    intro j
    rw [hb.cell (p := ⟨W.heap.size + 1, j, none⟩) (by simp), ← e, World.cell?_alloc_new]
  refine ⟨⟨h 0, h 1, h 2, h 3⟩, ⟨h' 0, h' 1, h' 2, h' 3⟩, ?_⟩
  have := hb.size
  simp at this
  omega

set_option maxRecDepth 100000 in
set_option maxHeartbeats 8000000 in
theorem adds_core (pMu pNu pA pB qMu qNu qA qB : Nat) (w : World) : Calls Try.prog 4 #[.float .f64 pMu, .float .f64 pNu, .float .f64 pA, .float .f64 pB, .float .f64 qMu, .float .f64 qNu, .float .f64 qA, .float .f64 qB] w
    fun e w' => e = .returned (.bool true) ∧ Below w.heap.size w w' := by
  go_enter Try.func4, Try.ntmps4
  go_wp2_with fail
  refine (mean_any pMu _).mono ?_
  rintro e w1 ⟨⟨b, rfl, f1⟩, rfl⟩
  cases b with
  | false => go_wp2; go_ret; exact ⟨rfl, Below.refl _ _⟩
  | true =>
  have H0 : Hid _ := f1 rfl
  clear f1
  go_wp2_with fail
  refine (count_any pNu _).mono ?_
  rintro e w1 ⟨⟨b, rfl, f1⟩, rfl⟩
  cases b with
  | false => go_wp2; go_ret; exact ⟨rfl, Below.refl _ _⟩
  | true =>
  have H1 : Hid _ := f1 rfl
  clear f1
  go_wp2_with fail
  refine (count_any pA _).mono ?_
  rintro e w1 ⟨⟨b, rfl, f1⟩, rfl⟩
  cases b with
  | false => go_wp2; go_ret; exact ⟨rfl, Below.refl _ _⟩
  | true =>
  have H2 : Hid _ := f1 rfl
  clear f1
  go_wp2_with fail
  refine (count_any pB _).mono ?_
  rintro e w1 ⟨⟨b, rfl, f1⟩, rfl⟩
  cases b with
  | false => go_wp2; go_ret; exact ⟨rfl, Below.refl _ _⟩
  | true =>
  have H3 : Hid _ := f1 rfl
  clear f1
  go_wp2_with fail
  refine (mean_any qMu _).mono ?_
  rintro e w1 ⟨⟨b, rfl, f1⟩, rfl⟩
  cases b with
  | false => go_wp2; go_ret; exact ⟨rfl, Below.refl _ _⟩
  | true =>
  have H4 : Hid _ := f1 rfl
  clear f1
  go_wp2_with fail
  refine (count_any qNu _).mono ?_
  rintro e w1 ⟨⟨b, rfl, f1⟩, rfl⟩
  cases b with
  | false => go_wp2; go_ret; exact ⟨rfl, Below.refl _ _⟩
  | true =>
  have H5 : Hid _ := f1 rfl
  clear f1
  go_wp2_with fail
  refine (count_any qA _).mono ?_
  rintro e w1 ⟨⟨b, rfl, f1⟩, rfl⟩
  cases b with
  | false => go_wp2; go_ret; exact ⟨rfl, Below.refl _ _⟩
  | true =>
  have H6 : Hid _ := f1 rfl
  clear f1
  go_wp2_with fail
  refine (count_any qB _).mono ?_
  rintro e w1 ⟨⟨b, rfl, f1⟩, rfl⟩
  cases b with
  | false => go_wp2; go_ret; exact ⟨rfl, Below.refl _ _⟩
  | true =>
  have H7 : Hid _ := f1 rfl
  clear f1
  have hp : In pMu pNu pA pB := ⟨H0.out.1, H1.out.1, H2.out.1, H3.out.1, H0.out.2, H1.out.2, H2.out.2, H3.out.2⟩
  have hq : In qMu qNu qA qB := ⟨H4.out.1, H5.out.1, H6.out.1, H7.out.1, H4.out.2, H5.out.2, H6.out.2, H7.out.2⟩
  clear H0 H1 H2 H3 H4 H5 H6 H7
  obtain ⟨cNu, e1, rNu⟩ := add_r hp.fn hq.fn
  obtain ⟨cA, e2, rA⟩ := add_r hp.fa hq.fa
  obtain ⟨cB, e3, rB⟩ := add_r hp.fb hq.fb
  obtain ⟨ma, ba, hca, ⟨nma, a1, a2⟩, ⟨nba, a3⟩, a4, a5⟩ := comb_b hp hq e1 e2 e3
  obtain ⟨mb, bb, hcb, ⟨nmb, b1, b2⟩, ⟨nbb, b3⟩, b4, b5⟩ := comb_b hq hp ((add_comm' qNu pNu).trans e1) ((add_comm' qA pA).trans e2) ((add_comm' qB pB).trans e3)
  have HA : Hid _ := hca
  have HB : Hid _ := hcb
  have HP : Hid _ := hp
  have HQ : Hid _ := hq
  clear hca hcb hp hq
  have r1 := run_add e1
  have r2 := run_add e2
  have r3 := run_add e3
  have t1 := eq_b rNu.nn rNu.nn rfl
  have t2 := eq_b rA.nn rA.nn rfl
  have u1 := ge_b nba rB.nn a3
  have u2 := ge_b nbb rB.nn b3
  have HcB : Hid (N cB) := rB.nn
  have HN : Hid (N ma ∧ N mb ∧ N ba ∧ N bb) := ⟨nma, nmb, nba, nbb⟩
  have HV : Hid ((min (V pMu) (V qMu) ≤ V ma ∧ V ma ≤ max (V pMu) (V qMu)) ∧ (min (V qMu) (V pMu) ≤ V mb ∧ V mb ≤ max (V qMu) (V pMu))) := ⟨⟨a1, a2⟩, b1, b2⟩
  have HE : Hid ((V pNu = 0 → V ma = V qMu ∧ V ba = V cB) ∧ (V pNu ≠ 0 → V qNu = 0 ∨ V pMu = V qMu → V ma = V pMu ∧ V ba = V cB) ∧ (V qNu = 0 → V mb = V pMu ∧ V bb = V cB) ∧ (V qNu ≠ 0 → V pNu = 0 ∨ V qMu = V pMu → V mb = V qMu ∧ V bb = V cB)) := ⟨a4, a5, b4, b5⟩
  clear e1 e2 e3 rNu rA rB nma a1 a2 nba a3 a4 a5 nmb b1 b2 nbb b3 b4 b5
  go_wp2_with fail
  refine (HA.out _).mono ?_
  rintro e w5 ⟨rfl, k5⟩
  obtain ⟨⟨c0, c1, c2, c3⟩, ⟨d0, d1, d2, d3⟩, q1⟩ := new44 k5
  have q0 : w.heap.size < w5.heap.size := by omega
  have k5' : Below w.heap.size w w5 := Below.next ((Below.refl _ _).alloc (Nat.le_refl _) _) (Below.next ((Below.refl _ _).alloc (Nat.le_refl _) _) k5)
  clear k5 HA
  go_wp2_with fail
  refine (HB.out _).mono ?_
  rintro e w6 ⟨rfl, k6⟩
  obtain ⟨⟨g0, g1, g2, g3⟩, q2⟩ := new4 k6
  have k6' : Below w.heap.size w w6 := Below.next k5' (Below.next ((Below.refl _ _).alloc (Nat.le_refl _) _) k6)
  have hbs := k6'.size
  clear k6 k5' HB c0 c1 c2 c3 d0 d1 d2 d3
  obtain ⟨z1, z2⟩ := zero_word
  by_cases hlt : V qMu < V pMu
  · have heq : V pMu ≠ V qMu := by omega
    by_cases hp0 : V pNu = 0
    · by_cases hq0 : V qNu = 0
      · have y0 := lt_b HQ.out.fm.n HP.out.fm.n hlt
        have y1 := ge_b HN.out.1 HQ.out.fm.n (by have := HV.out; omega)
        have y2 := le_b HN.out.1 HP.out.fm.n (by have := HV.out; omega)
        have y3 := ge_b HN.out.2.1 HQ.out.fm.n (by have := HV.out; omega)
        have y4 := le_b HN.out.2.1 HP.out.fm.n (by have := HV.out; omega)
        have x1 := eq_b HP.out.fn.n z1.n (by rw [z2]; exact hp0)
        have x2 := eq_b HQ.out.fn.n z1.n (by rw [z2]; exact hq0)
        have x3 := ne_b HP.out.fm.n HQ.out.fm.n heq
        have f1 := HE.out.1 hp0
        have f2 := HE.out.2.2.1 hq0
        have j1 := eq_b HN.out.2.2.1 HcB.out f1.2
        have j2 := eq_b HN.out.2.2.2 HcB.out f2.2
        have j3 := eq_b HN.out.1 HQ.out.fm.n f1.1
        have j4 := eq_b HN.out.2.1 HP.out.fm.n f2.1
        clear f1 f2
        clear hlt heq hp0 hq0 z1 z2
        go_wp2
        go_ret
        exact ⟨rfl, k6'.alloc hbs _⟩
      · have y0 := lt_b HQ.out.fm.n HP.out.fm.n hlt
        have y1 := ge_b HN.out.1 HQ.out.fm.n (by have := HV.out; omega)
        have y2 := le_b HN.out.1 HP.out.fm.n (by have := HV.out; omega)
        have y3 := ge_b HN.out.2.1 HQ.out.fm.n (by have := HV.out; omega)
        have y4 := le_b HN.out.2.1 HP.out.fm.n (by have := HV.out; omega)
        have x1 := eq_b HP.out.fn.n z1.n (by rw [z2]; exact hp0)
        have x2 := ne_b HQ.out.fn.n z1.n (by rw [z2]; exact hq0)
        have x3 := ne_b HP.out.fm.n HQ.out.fm.n heq
        have f1 := HE.out.1 hp0
        have f2 := HE.out.2.2.2 hq0 (.inl hp0)
        have j1 := eq_b HN.out.2.2.1 HcB.out f1.2
        have j2 := eq_b HN.out.2.2.2 HcB.out f2.2
        have j3 := eq_b HN.out.1 HQ.out.fm.n f1.1
        have j4 := eq_b HN.out.2.1 HQ.out.fm.n f2.1
        clear f1 f2
        clear hlt heq hp0 hq0 z1 z2
        go_wp2
        go_ret
        exact ⟨rfl, k6'.alloc hbs _⟩
    · by_cases hq0 : V qNu = 0
      · have y0 := lt_b HQ.out.fm.n HP.out.fm.n hlt
        have y1 := ge_b HN.out.1 HQ.out.fm.n (by have := HV.out; omega)
        have y2 := le_b HN.out.1 HP.out.fm.n (by have := HV.out; omega)
        have y3 := ge_b HN.out.2.1 HQ.out.fm.n (by have := HV.out; omega)
        have y4 := le_b HN.out.2.1 HP.out.fm.n (by have := HV.out; omega)
        have x1 := ne_b HP.out.fn.n z1.n (by rw [z2]; exact hp0)
        have x2 := eq_b HQ.out.fn.n z1.n (by rw [z2]; exact hq0)
        have x3 := ne_b HP.out.fm.n HQ.out.fm.n heq
        have f1 := HE.out.2.1 hp0 (.inl hq0)
        have f2 := HE.out.2.2.1 hq0
        have j1 := eq_b HN.out.2.2.1 HcB.out f1.2
        have j2 := eq_b HN.out.2.2.2 HcB.out f2.2
        have j3 := eq_b HN.out.1 HP.out.fm.n f1.1
        have j4 := eq_b HN.out.2.1 HP.out.fm.n f2.1
        clear f1 f2
        clear hlt heq hp0 hq0 z1 z2
        go_wp2
        go_ret
        exact ⟨rfl, k6'.alloc hbs _⟩
      · have y0 := lt_b HQ.out.fm.n HP.out.fm.n hlt
        have y1 := ge_b HN.out.1 HQ.out.fm.n (by have := HV.out; omega)
        have y2 := le_b HN.out.1 HP.out.fm.n (by have := HV.out; omega)
        have y3 := ge_b HN.out.2.1 HQ.out.fm.n (by have := HV.out; omega)
        have y4 := le_b HN.out.2.1 HP.out.fm.n (by have := HV.out; omega)
        have x1 := ne_b HP.out.fn.n z1.n (by rw [z2]; exact hp0)
        have x2 := ne_b HQ.out.fn.n z1.n (by rw [z2]; exact hq0)
        have x3 := ne_b HP.out.fm.n HQ.out.fm.n heq
        clear hlt heq hp0 hq0 z1 z2
        go_wp2
        go_ret
        exact ⟨rfl, k6'.alloc hbs _⟩
  · by_cases heq : V pMu = V qMu
    · by_cases hp0 : V pNu = 0
      · by_cases hq0 : V qNu = 0
        · have y0 := nlt_b HQ.out.fm.n HP.out.fm.n hlt
          have y1 := ge_b HN.out.1 HP.out.fm.n (by have := HV.out; omega)
          have y2 := le_b HN.out.1 HQ.out.fm.n (by have := HV.out; omega)
          have y3 := ge_b HN.out.2.1 HP.out.fm.n (by have := HV.out; omega)
          have y4 := le_b HN.out.2.1 HQ.out.fm.n (by have := HV.out; omega)
          have x1 := eq_b HP.out.fn.n z1.n (by rw [z2]; exact hp0)
          have x2 := eq_b HQ.out.fn.n z1.n (by rw [z2]; exact hq0)
          have x3 := eq_b HP.out.fm.n HQ.out.fm.n heq
          have f1 := HE.out.1 hp0
          have f2 := HE.out.2.2.1 hq0
          have j1 := eq_b HN.out.2.2.1 HcB.out f1.2
          have j2 := eq_b HN.out.2.2.2 HcB.out f2.2
          have j3 := eq_b HN.out.1 HQ.out.fm.n f1.1
          have j4 := eq_b HN.out.2.1 HP.out.fm.n f2.1
          have j5 := eq_b HN.out.1 HP.out.fm.n (by have := f1.1; omega)
          have j6 := eq_b HN.out.2.1 HP.out.fm.n (by have := f2.1; omega)
          clear f1 f2
          clear hlt heq hp0 hq0 z1 z2
          go_wp2
          go_ret
          exact ⟨rfl, k6'.alloc hbs _⟩
        · have y0 := nlt_b HQ.out.fm.n HP.out.fm.n hlt
          have y1 := ge_b HN.out.1 HP.out.fm.n (by have := HV.out; omega)
          have y2 := le_b HN.out.1 HQ.out.fm.n (by have := HV.out; omega)
          have y3 := ge_b HN.out.2.1 HP.out.fm.n (by have := HV.out; omega)
          have y4 := le_b HN.out.2.1 HQ.out.fm.n (by have := HV.out; omega)
          have x1 := eq_b HP.out.fn.n z1.n (by rw [z2]; exact hp0)
          have x2 := ne_b HQ.out.fn.n z1.n (by rw [z2]; exact hq0)
          have x3 := eq_b HP.out.fm.n HQ.out.fm.n heq
          have f1 := HE.out.1 hp0
          have f2 := HE.out.2.2.2 hq0 (.inl hp0)
          have j1 := eq_b HN.out.2.2.1 HcB.out f1.2
          have j2 := eq_b HN.out.2.2.2 HcB.out f2.2
          have j3 := eq_b HN.out.1 HQ.out.fm.n f1.1
          have j4 := eq_b HN.out.2.1 HQ.out.fm.n f2.1
          have j5 := eq_b HN.out.1 HP.out.fm.n (by have := f1.1; omega)
          have j6 := eq_b HN.out.2.1 HP.out.fm.n (by have := f2.1; omega)
          clear f1 f2
          clear hlt heq hp0 hq0 z1 z2
          go_wp2
          go_ret
          exact ⟨rfl, k6'.alloc hbs _⟩
      · by_cases hq0 : V qNu = 0
        · have y0 := nlt_b HQ.out.fm.n HP.out.fm.n hlt
          have y1 := ge_b HN.out.1 HP.out.fm.n (by have := HV.out; omega)
          have y2 := le_b HN.out.1 HQ.out.fm.n (by have := HV.out; omega)
          have y3 := ge_b HN.out.2.1 HP.out.fm.n (by have := HV.out; omega)
          have y4 := le_b HN.out.2.1 HQ.out.fm.n (by have := HV.out; omega)
          have x1 := ne_b HP.out.fn.n z1.n (by rw [z2]; exact hp0)
          have x2 := eq_b HQ.out.fn.n z1.n (by rw [z2]; exact hq0)
          have x3 := eq_b HP.out.fm.n HQ.out.fm.n heq
          have f1 := HE.out.2.1 hp0 (.inl hq0)
          have f2 := HE.out.2.2.1 hq0
          have j1 := eq_b HN.out.2.2.1 HcB.out f1.2
          have j2 := eq_b HN.out.2.2.2 HcB.out f2.2
          have j3 := eq_b HN.out.1 HP.out.fm.n f1.1
          have j4 := eq_b HN.out.2.1 HP.out.fm.n f2.1
          have j5 := eq_b HN.out.1 HP.out.fm.n (by have := f1.1; omega)
          have j6 := eq_b HN.out.2.1 HP.out.fm.n (by have := f2.1; omega)
          clear f1 f2
          clear hlt heq hp0 hq0 z1 z2
          go_wp2
          go_ret
          exact ⟨rfl, k6'.alloc hbs _⟩
        · have y0 := nlt_b HQ.out.fm.n HP.out.fm.n hlt
          have y1 := ge_b HN.out.1 HP.out.fm.n (by have := HV.out; omega)
          have y2 := le_b HN.out.1 HQ.out.fm.n (by have := HV.out; omega)
          have y3 := ge_b HN.out.2.1 HP.out.fm.n (by have := HV.out; omega)
          have y4 := le_b HN.out.2.1 HQ.out.fm.n (by have := HV.out; omega)
          have x1 := ne_b HP.out.fn.n z1.n (by rw [z2]; exact hp0)
          have x2 := ne_b HQ.out.fn.n z1.n (by rw [z2]; exact hq0)
          have x3 := eq_b HP.out.fm.n HQ.out.fm.n heq
          have f1 := HE.out.2.1 hp0 (.inr heq)
          have f2 := HE.out.2.2.2 hq0 (.inr heq.symm)
          have j1 := eq_b HN.out.2.2.1 HcB.out f1.2
          have j2 := eq_b HN.out.2.2.2 HcB.out f2.2
          have j3 := eq_b HN.out.1 HP.out.fm.n f1.1
          have j4 := eq_b HN.out.2.1 HQ.out.fm.n f2.1
          have j5 := eq_b HN.out.1 HP.out.fm.n (by have := f1.1; omega)
          have j6 := eq_b HN.out.2.1 HP.out.fm.n (by have := f2.1; omega)
          clear f1 f2
          clear hlt heq hp0 hq0 z1 z2
          go_wp2
          go_ret
          exact ⟨rfl, k6'.alloc hbs _⟩
    · by_cases hp0 : V pNu = 0
      · by_cases hq0 : V qNu = 0
        · have y0 := nlt_b HQ.out.fm.n HP.out.fm.n hlt
          have y1 := ge_b HN.out.1 HP.out.fm.n (by have := HV.out; omega)
          have y2 := le_b HN.out.1 HQ.out.fm.n (by have := HV.out; omega)
          have y3 := ge_b HN.out.2.1 HP.out.fm.n (by have := HV.out; omega)
          have y4 := le_b HN.out.2.1 HQ.out.fm.n (by have := HV.out; omega)
          have x1 := eq_b HP.out.fn.n z1.n (by rw [z2]; exact hp0)
          have x2 := eq_b HQ.out.fn.n z1.n (by rw [z2]; exact hq0)
          have x3 := ne_b HP.out.fm.n HQ.out.fm.n heq
          have f1 := HE.out.1 hp0
          have f2 := HE.out.2.2.1 hq0
          have j1 := eq_b HN.out.2.2.1 HcB.out f1.2
          have j2 := eq_b HN.out.2.2.2 HcB.out f2.2
          have j3 := eq_b HN.out.1 HQ.out.fm.n f1.1
          have j4 := eq_b HN.out.2.1 HP.out.fm.n f2.1
          clear f1 f2
          clear hlt heq hp0 hq0 z1 z2
          go_wp2
          go_ret
          exact ⟨rfl, k6'.alloc hbs _⟩
        · have y0 := nlt_b HQ.out.fm.n HP.out.fm.n hlt
          have y1 := ge_b HN.out.1 HP.out.fm.n (by have := HV.out; omega)
          have y2 := le_b HN.out.1 HQ.out.fm.n (by have := HV.out; omega)
          have y3 := ge_b HN.out.2.1 HP.out.fm.n (by have := HV.out; omega)
          have y4 := le_b HN.out.2.1 HQ.out.fm.n (by have := HV.out; omega)
          have x1 := eq_b HP.out.fn.n z1.n (by rw [z2]; exact hp0)
          have x2 := ne_b HQ.out.fn.n z1.n (by rw [z2]; exact hq0)
          have x3 := ne_b HP.out.fm.n HQ.out.fm.n heq
          have f1 := HE.out.1 hp0
          have f2 := HE.out.2.2.2 hq0 (.inl hp0)
          have j1 := eq_b HN.out.2.2.1 HcB.out f1.2
          have j2 := eq_b HN.out.2.2.2 HcB.out f2.2
          have j3 := eq_b HN.out.1 HQ.out.fm.n f1.1
          have j4 := eq_b HN.out.2.1 HQ.out.fm.n f2.1
          clear f1 f2
          clear hlt heq hp0 hq0 z1 z2
          go_wp2
          go_ret
          exact ⟨rfl, k6'.alloc hbs _⟩
      · by_cases hq0 : V qNu = 0
        · have y0 := nlt_b HQ.out.fm.n HP.out.fm.n hlt
          have y1 := ge_b HN.out.1 HP.out.fm.n (by have := HV.out; omega)
          have y2 := le_b HN.out.1 HQ.out.fm.n (by have := HV.out; omega)
          have y3 := ge_b HN.out.2.1 HP.out.fm.n (by have := HV.out; omega)
          have y4 := le_b HN.out.2.1 HQ.out.fm.n (by have := HV.out; omega)
          have x1 := ne_b HP.out.fn.n z1.n (by rw [z2]; exact hp0)
          have x2 := eq_b HQ.out.fn.n z1.n (by rw [z2]; exact hq0)
          have x3 := ne_b HP.out.fm.n HQ.out.fm.n heq
          have f1 := HE.out.2.1 hp0 (.inl hq0)
          have f2 := HE.out.2.2.1 hq0
          have j1 := eq_b HN.out.2.2.1 HcB.out f1.2
          have j2 := eq_b HN.out.2.2.2 HcB.out f2.2
          have j3 := eq_b HN.out.1 HP.out.fm.n f1.1
          have j4 := eq_b HN.out.2.1 HP.out.fm.n f2.1
          clear f1 f2
          clear hlt heq hp0 hq0 z1 z2
          go_wp2
          go_ret
          exact ⟨rfl, k6'.alloc hbs _⟩
        · have y0 := nlt_b HQ.out.fm.n HP.out.fm.n hlt
          have y1 := ge_b HN.out.1 HP.out.fm.n (by have := HV.out; omega)
          have y2 := le_b HN.out.1 HQ.out.fm.n (by have := HV.out; omega)
          have y3 := ge_b HN.out.2.1 HP.out.fm.n (by have := HV.out; omega)
          have y4 := le_b HN.out.2.1 HQ.out.fm.n (by have := HV.out; omega)
          have x1 := ne_b HP.out.fn.n z1.n (by rw [z2]; exact hp0)
          have x2 := ne_b HQ.out.fn.n z1.n (by rw [z2]; exact hq0)
          have x3 := ne_b HP.out.fm.n HQ.out.fm.n heq
          clear hlt heq hp0 hq0 z1 z2
          go_wp2
          go_ret
          exact ⟨rfl, k6'.alloc hbs _⟩
end Go.Proofs.Qxb6629173a.Fl
