/- The law FnCombineEmptyModelIsNeutral. -/
import Derived.Test.Qxb6629173aWalk
namespace Go.Proofs.Qxb6629173a.Fl
open Ieee Go.RowKit
attribute [local go_sem] run_store_float

theorem new4 {W w2 : World} {a b c d : Value} (hb : Below (W.alloc (.cells #[a, b, c, d] 25)).heap.size (W.alloc (.cells #[a, b, c, d] 25)) w2) :
    (w2.cell? ⟨W.heap.size, 0, none⟩ = some a ∧ w2.cell? ⟨W.heap.size, 1, none⟩ = some b ∧ w2.cell? ⟨W.heap.size, 2, none⟩ = some c ∧ w2.cell? ⟨W.heap.size, 3, none⟩ = some d) ∧ W.heap.size < w2.heap.size := by
  have h : ∀ j, w2.cell? ⟨W.heap.size, j, none⟩ = #[a, b, c, d][j]? := by
    intro j
    rw [hb.cell (p := ⟨W.heap.size, j, none⟩) (by simp), World.cell?_alloc_new]
  refine ⟨⟨h 0, h 1, h 2, h 3⟩, ?_⟩
  have := hb.size
  simp at this
  omega

theorem eq_b {x y : Nat} (hx : N x) (hy : N y) (h : V x = V y) : (FloatKind.f64.format.order x y == some .eq) = true := by
  rw [fmt64, order_n hx hy, h]; simp
theorem ne_b {x y : Nat} (hx : N x) (hy : N y) (h : V x ≠ V y) : (FloatKind.f64.format.order x y == some .eq) = false := by
  rw [fmt64, order_n hx hy]
  simp only [beq_eq_false_iff_ne, ne_eq, Option.some.injEq, Int.compare_eq_eq]
  exact h

/-- combine(the empty model, q). -/
theorem left_any {mu nu al be : Nat} (h2 : Fi nu) (h3 : Fi al) (h4 : Fi be) : ∃ cNu cA cB, (∀ w : World, Calls Try.prog 6 #[.agg #[.float .f64 0, .float .f64 0, .float .f64 0, .float .f64 0], .agg #[.float .f64 mu, .float .f64 nu, .float .f64 al, .float .f64 be]] w
      fun e w' => e = .returned (.agg #[.float .f64 mu, .float .f64 cNu, .float .f64 cA, .float .f64 cB]) ∧ Below w.heap.size w w') ∧ (N cNu ∧ V cNu = V nu) ∧ (N cA ∧ V cA = V al) ∧ (N cB ∧ V cB = V be) := by
  obtain ⟨z1, z2⟩ := zero_word
  obtain ⟨cNu, eNu, fNu, vNu⟩ := zero_add_r z1 h2 z2
  obtain ⟨cA, eA, fA, vA⟩ := zero_add_r z1 h3 z2
  obtain ⟨cB, eB, fB, vB⟩ := zero_add_r z1 h4 z2
  refine ⟨cNu, cA, cB, fun w => zz_any _ _ _ ⟨_, _, _, _, rfl⟩ ⟨_, _, _, _, rfl⟩ ⟨_, _, _, _, rfl⟩ w (fun w => comb_zero _ _ _ _ _ _ _ _ _ _ _ w eNu eA eB (eq_b z1.n z1.n rfl)), ⟨fNu.n, vNu⟩, ⟨fA.n, vA⟩, ⟨fB.n, vB⟩⟩

/-- combine(q, the empty model). -/
theorem right_any {mu nu al be : Nat} (h1 : Fi mu) (h2 : Fi nu) (h3 : Fi al) (h4 : Fi be) : ∃ m cNu cA cB, (∀ w : World, Calls Try.prog 6 #[.agg #[.float .f64 mu, .float .f64 nu, .float .f64 al, .float .f64 be], .agg #[.float .f64 0, .float .f64 0, .float .f64 0, .float .f64 0]] w
      fun e w' => e = .returned (.agg #[.float .f64 m, .float .f64 cNu, .float .f64 cA, .float .f64 cB]) ∧ Below w.heap.size w w') ∧
      (N m ∧ (V nu = 0 → V m = 0) ∧ (V nu ≠ 0 → V m = V mu)) ∧ (N cNu ∧ V cNu = V nu) ∧ (N cA ∧ V cA = V al) ∧ (N cB ∧ V cB = V be) := by
  obtain ⟨z1, z2⟩ := zero_word
  by_cases h0 : V nu = 0
  · obtain ⟨cNu, eNu, fNu, vNu⟩ := add_zero_r h2 z1 z2
    obtain ⟨cA, eA, fA, vA⟩ := add_zero_r h3 z1 z2
    obtain ⟨cB, eB, fB, vB⟩ := add_zero_r h4 z1 z2
    refine ⟨0, cNu, cA, cB, fun w => zz_any _ _ _ ⟨_, _, _, _, rfl⟩ ⟨_, _, _, _, rfl⟩ ⟨_, _, _, _, rfl⟩ w (fun w => comb_zero _ _ _ _ _ _ _ _ _ _ _ w eNu eA eB (eq_b h2.n z1.n (by rw [h0, z2]))), ⟨z1.n, fun _ => z2, fun h => absurd h0 h⟩, ⟨fNu.n, vNu⟩, ⟨fA.n, vA⟩, ⟨fB.n, vB⟩⟩
  · obtain ⟨cNu, cA, cB, ww, d, wd, mu', m2, x1, x2, x3, t, b2, hc, hm, hNu, hA, hB⟩ := chain_empty h1 h2 h3 h4 h0
    refine ⟨m2, cNu, cA, b2, fun w => zz_any _ _ _ ⟨_, _, _, _, rfl⟩ ⟨_, _, _, _, rfl⟩ ⟨_, _, _, _, rfl⟩ w (fun w => comb_nz w hc (ne_b h2.n z1.n (by rw [z2]; exact h0))), ⟨hm.1, fun h => absurd h h0, fun _ => hm.2⟩, hNu, hA, hB⟩

theorem finite_b (x : Nat) (w : World) : Calls Try.prog 5 #[.float .f64 x] w fun e w' => (∃ b, e = .returned (.bool b) ∧ (b = true → Fi x)) ∧ Below w.heap.size w w' := by
  refine (finite_any x w).mono ?_
  rintro e w' ⟨h, n, rfl⟩
  exact ⟨h, below_drewN (Below.refl _ _) _⟩

theorem Below.next {a b c : World} (h : Below a.heap.size a b) (k : Below b.heap.size b c) : Below a.heap.size a c := h.trans (k.mono h.size)

set_option maxRecDepth 100000 in
set_option maxHeartbeats 2000000 in
theorem empty_core (mu nu al be : Nat) (w : World) : Calls Try.prog 3 #[.float .f64 mu, .float .f64 nu, .float .f64 al, .float .f64 be] w fun e w' => e = .returned (.bool true) ∧ Below w.heap.size w w' := by
  go_enter Try.func3, Try.ntmps3
  go_wp2_with fail
  refine (finite_b mu _).mono ?_
  rintro e w1 ⟨⟨b, rfl, f1⟩, k1⟩
  cases b with
  | false => go_wp2; go_ret; exact ⟨rfl, k1⟩
  | true =>
  have H1 : Hid (Fi mu) := f1 rfl
  clear f1
  go_wp2_with fail
  refine (finite_b nu _).mono ?_
  rintro e w2 ⟨⟨b, rfl, f1⟩, k2⟩
  have k2 := Below.next k1 k2
  clear k1
  cases b with
  | false => go_wp2; go_ret; exact ⟨rfl, k2⟩
  | true =>
  have H2 : Hid (Fi nu) := f1 rfl
  clear f1
  go_wp2_with fail
  refine (finite_b al _).mono ?_
  rintro e w3 ⟨⟨b, rfl, f1⟩, k3⟩
  have k3 := Below.next k2 k3
  clear k2
  cases b with
  | false => go_wp2; go_ret; exact ⟨rfl, k3⟩
  | true =>
  have H3 : Hid (Fi al) := f1 rfl
  clear f1
  go_wp2_with fail
  refine (finite_b be _).mono ?_
  rintro e w4 ⟨⟨b, rfl, f1⟩, k4⟩
  have k4 := Below.next k3 k4
  clear k3
  cases b with
  | false => go_wp2; go_ret; exact ⟨rfl, k4⟩
  | true =>
  have H4 : Hid (Fi be) := f1 rfl
  clear f1
  obtain ⟨cNu, cA, cB, hcl, ⟨n1, v1⟩, ⟨n2, v2⟩, ⟨n3, v3⟩⟩ := left_any (mu := mu) H2.out H3.out H4.out
  have HL : Hid _ := hcl
  obtain ⟨m, dNu, dA, dB, hcr, ⟨m0, m1, m2⟩, ⟨l1, u1⟩, ⟨l2, u2⟩, ⟨l3, u3⟩⟩ := right_any H1.out H2.out H3.out H4.out
  have HR : Hid _ := hcr
  have t1 := eq_b H1.out.n H1.out.n rfl
  have t2 := eq_b n1 H2.out.n v1
  have t3 := eq_b n2 H3.out.n v2
  have t4 := eq_b n3 H4.out.n v3
  have s2 := eq_b l1 H2.out.n u1
  have s3 := eq_b l2 H3.out.n u2
  have s4 := eq_b l3 H4.out.n u3
  obtain ⟨z1, z2⟩ := zero_word
  have HZ : Hid ((V nu = 0 → (FloatKind.f64.format.order nu 0 == some .eq) = true ∧ (FloatKind.f64.format.order m 0 == some .eq) = true ∧ (FloatKind.f64.format.order dNu 0 == some .eq) = true) ∧
      (V nu ≠ 0 → (FloatKind.f64.format.order nu 0 == some .eq) = false ∧ (FloatKind.f64.format.order m mu == some .eq) = true)) :=
    ⟨fun h => ⟨eq_b H2.out.n z1.n (by rw [h, z2]), eq_b m0 z1.n (by rw [m1 h, z2]), eq_b l1 z1.n (by rw [u1, h, z2])⟩, fun h => ⟨ne_b H2.out.n z1.n (by rw [z2]; exact h), eq_b m0 H1.out.n (m2 h)⟩⟩
  clear hcl hcr n1 v1 n2 v2 n3 v3 m0 m1 m2 l1 u1 l2 u2 l3 u3 z1 z2
  have q0 := k4.size
  go_wp2_with fail
  refine (HL.out _).mono ?_
  rintro e w5 ⟨rfl, k5⟩
  obtain ⟨⟨c0, c1, c2, c3⟩, q1⟩ := new4 k5
  have k5' : Below w.heap.size w w5 := Below.next k4 (Below.next ((Below.refl _ _).alloc (Nat.le_refl _) _) k5)
  clear k5
  go_wp2_with fail
  refine (HR.out _).mono ?_
  rintro e w6 ⟨rfl, k6⟩
  obtain ⟨⟨d0, d1, d2, d3⟩, q2⟩ := new4 k6
  have k6' : Below w.heap.size w w6 := Below.next k5' (Below.next ((Below.refl _ _).alloc (Nat.le_refl _) _) k6)
  have hbs := k6'.size
  clear k6 k5' k4
  by_cases hz : V nu = 0
  · obtain ⟨y1, y2, y3⟩ := HZ.out.1 hz
    clear hz
    go_wp2
    go_ret
    exact ⟨rfl, k6'.alloc hbs _⟩
  · obtain ⟨y1, y2⟩ := HZ.out.2 hz
    clear hz
    go_wp2
    go_ret
    exact ⟨rfl, k6'.alloc hbs _⟩
end Go.Proofs.Qxb6629173a.Fl
