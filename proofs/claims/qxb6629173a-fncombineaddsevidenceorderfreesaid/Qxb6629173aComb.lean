/- 'combine', plainly: the chain of its operations and what comes of it. -/
import Derived.Test.Qxb6629173aDbl
namespace Go.Proofs.Qxb6629173a.Fl
open Ieee

theorem mul_bound {a b A B : Int} (h1 : -A ≤ a) (h2 : a ≤ A) (h3 : -B ≤ b) (h4 : b ≤ B) : -(A * B) ≤ a * b ∧ a * b ≤ A * B := by
  have e1 : a.natAbs ≤ A.toNat := by omega
  have e2 : b.natAbs ≤ B.toNat := by omega
  have h := Nat.mul_le_mul e1 e2
  rw [← Int.natAbs_mul] at h
  have hA : (A.toNat : Int) = A := by omega
  have hB : (B.toNat : Int) = B := by omega
  have hm : ((A.toNat * B.toNat : Nat) : Int) = A * B := by rw [Int.natCast_mul, hA, hB]
  have h' : ((a * b).natAbs : Int) ≤ A * B := by rw [← hm]; exact Int.ofNat_le.2 h
  omega

theorem fi_eq {r z : Nat} (hr : N r) (hz : Fi z) (e : V r = V z) : Fi r := by
  have hb := xv_lt_inf (f := double) hz
  rcases Nat.lt_or_eq_of_le hr with c | c
  · exact c
  · exfalso
    have e' : xv double r = xv double z := e
    have er : xv double r = if sgn double r then -(rv double double.infRung : Int) else (rv double double.infRung : Int) := by unfold xv; rw [c]
    rw [← e', er] at hb
    split at hb <;> omega

theorem neg_word {x : Nat} (h : Fi x) : ∃ z, Fi z ∧ V z = -V x := by
  obtain ⟨g1, g2⟩ := sgn_word (f := double) (!sgn double x) (Nat.lt_trans h double.infRung_lt)
  refine ⟨double.word (!sgn double x) (rg double x), by unfold Fi Fin; rw [g2]; exact h, ?_⟩
  show xv double _ = -xv double x
  unfold xv
  rw [g1, g2]
  cases sgn double x <;> simp

/-- '+' where the second may be an infinity. -/
theorem add_n {x y : Nat} (hx : Fi x) (hy : N y) : ∃ r, double.add x y = some r ∧ N r ∧ (0 ≤ V y → V x ≤ V r) ∧ (V y = 0 → V r = V x) := by
  rcases Nat.lt_or_eq_of_le hy with c | c
  · obtain ⟨r, h1, h2⟩ := add_r hx c
    refine ⟨r, h1, h2.nn, fun h => h2.ge hx.n (by omega), fun h => ?_⟩
    have := h2.exact (z := x) hx.n (by omega)
    omega
  · obtain ⟨m, i, r1, _, _⟩ := read_fin hx
    refine ⟨double.word (sgn double y) double.infRung, ?_, ?_⟩
    · unfold Format.add
      rw [r1, read_inf hf c]; rfl
    · obtain ⟨g1, g2⟩ := sgn_word (f := double) (sgn double y) double.infRung_lt
      have hr : N (double.word (sgn double y) double.infRung) := by unfold N NN; rw [g2]; exact Nat.le_refl _
      have ey : V y = V (double.word (sgn double y) double.infRung) := by
        show xv double y = xv double _
        unfold xv; rw [g1, g2, c]
      have hv := V_le hx.n
      have hp := pp_pos 2098
      have ev : V (double.word (sgn double y) double.infRung) = if sgn double y then -pp 2098 else pp 2098 := by
        show xv double _ = _
        unfold xv; rw [g1, g2, V_inf]
      refine ⟨hr, fun h => ?_, fun h => ?_⟩
      · rw [ey, ev] at h; rw [ev]
        split at h
        · omega
        · rename_i hs; rw [if_neg hs]; omega
      · rw [ey, ev] at h
        split at h <;> omega

/-- The operations of combine where p's Nu is not 0. -/
structure Chain (pMu pNu pA pB qMu qNu qA qB cNu cA cB w d wd mu m2 x1 x2 x3 t b2 : Nat) : Prop where
  eNu : double.add pNu qNu = some cNu
  eA : double.add pA qA = some cA
  eB : double.add pB qB = some cB
  ew : double.div qNu cNu = some w
  ed : double.sub qMu pMu = some d
  ewd : double.mul w d = some wd
  emu : double.add pMu wd = some mu
  em2 : m2 = pickW true .lt (pickW false .gt mu (pickW true .lt pMu qMu)) (pickW false .gt pMu qMu)
  ex1 : double.mul pNu w = some x1
  ex2 : double.mul x1 d = some x2
  ex3 : double.mul x2 d = some x3
  et : double.div x3 4611686018427387904 = some t
  eb2 : double.add cB t = some b2

/-- The clamp. -/
theorem clamp {mu p q : Nat} (hm : N mu) (hp : N p) (hq : N q) : N (pickW true .lt (pickW false .gt mu (pickW true .lt p q)) (pickW false .gt p q)) ∧
    V (pickW true .lt (pickW false .gt mu (pickW true .lt p q)) (pickW false .gt p q)) = min (max (V mu) (min (V p) (V q))) (max (V p) (V q)) := by
  obtain ⟨a1, a2⟩ := min_w hp hq
  obtain ⟨b1, b2⟩ := max_w hm a1
  obtain ⟨c1, c2⟩ := max_w hp hq
  obtain ⟨d1, d2⟩ := min_w b1 c1
  exact ⟨d1, by rw [d2, b2, a2, c2]⟩

theorem chain_empty {mu nu al be : Nat} (h1 : Fi mu) (h2 : Fi nu) (h3 : Fi al) (h4 : Fi be) (h0 : V nu ≠ 0) :
    ∃ cNu cA cB w d wd mu' m2 x1 x2 x3 t b2, Chain mu nu al be 0 0 0 0 cNu cA cB w d wd mu' m2 x1 x2 x3 t b2 ∧
      (N m2 ∧ V m2 = V mu) ∧ (N cNu ∧ V cNu = V nu) ∧ (N cA ∧ V cA = V al) ∧ (N b2 ∧ V b2 = V be) := by
  obtain ⟨z1, z2⟩ := zero_word
  obtain ⟨cNu, eNu, fNu, vNu⟩ := add_zero_r h2 z1 z2
  obtain ⟨cA, eA, fA, vA⟩ := add_zero_r h3 z1 z2
  obtain ⟨cB, eB, fB, vB⟩ := add_zero_r h4 z1 z2
  obtain ⟨w, ew, nw, w0, _, _⟩ := div_r z1 fNu (by rw [vNu]; exact h0)
  have vw := w0 z2
  have fw : Fi w := fi_eq nw z1 (by rw [vw, z2])
  obtain ⟨d, ed, rd⟩ := sub_r z1 h1
  obtain ⟨zn, fzn, vzn⟩ := neg_word h1
  have vd := rd.exact (z := zn) fzn.n (by rw [vzn, z2]; omega)
  have fd : Fi d := fi_eq rd.nn fzn (by rw [vd, vzn, z2]; omega)
  obtain ⟨wd, ewd, rwd⟩ := mul_r fw fd
  obtain ⟨vwd, fwd⟩ := rwd.zero (by rw [vw, Int.zero_mul])
  obtain ⟨mu', emu, fmu, vmu⟩ := add_zero_r h1 fwd vwd
  obtain ⟨x1, ex1, rx1⟩ := mul_r h2 fw
  obtain ⟨vx1, fx1⟩ := rx1.zero (by rw [vw, Int.mul_zero])
  obtain ⟨x2, ex2, rx2⟩ := mul_r fx1 fd
  obtain ⟨vx2, fx2⟩ := rx2.zero (by rw [vx1, Int.zero_mul])
  obtain ⟨x3, ex3, rx3⟩ := mul_r fx2 fd
  obtain ⟨vx3, fx3⟩ := rx3.zero (by rw [vx2, Int.zero_mul])
  obtain ⟨t, et, nt, t0, _, _⟩ := div_r fx3 two_word.1 (by rw [two_word.2]; have := pp_pos 1075; omega)
  obtain ⟨b2, eb2, nb2, _, vb2⟩ := add_n fB nt
  obtain ⟨nm, vm⟩ := clamp fmu.n h1.n z1.n
  refine ⟨cNu, cA, cB, w, d, wd, mu', _, x1, x2, x3, t, b2, ⟨eNu, eA, eB, ew, ed, ewd, emu, rfl, ex1, ex2, ex3, et, eb2⟩, ⟨nm, ?_⟩, ⟨fNu.n, vNu⟩, ⟨fA.n, vA⟩, ⟨nb2, ?_⟩⟩
  · rw [vm, vmu]; omega
  · rw [vb2 (t0 vx3), vB]

theorem chain_bounded {pMu pNu pA pB qMu qNu qA qB : Nat} (h1 : Fi pMu) (h2 : Fi pNu) (h3 : Fi pA) (h4 : Fi pB) (k1 : Fi qMu) (k2 : Fi qNu) (k3 : Fi qA) (k4 : Fi qB)
    (a1 : -pp 1407 ≤ V pMu ∧ V pMu ≤ pp 1407) (a2 : 0 ≤ V pNu ∧ V pNu ≤ pp 1407) (a4 : 0 ≤ V pB ∧ V pB ≤ pp 1407)
    (b1 : -pp 1407 ≤ V qMu ∧ V qMu ≤ pp 1407) (b2 : 0 ≤ V qNu ∧ V qNu ≤ pp 1407) (b4 : 0 ≤ V qB ∧ V qB ≤ pp 1407) (h0 : V pNu ≠ 0) :
    ∃ cNu cA cB w d wd mu m2 x1 x2 x3 t b2, Chain pMu pNu pA pB qMu qNu qA qB cNu cA cB w d wd mu m2 x1 x2 x3 t b2 ∧
      (N m2 ∧ min (V pMu) (V qMu) ≤ V m2 ∧ V m2 ≤ max (V pMu) (V qMu)) ∧ N cNu ∧ N cA ∧ N cB ∧ (N b2 ∧ V cB ≤ V b2) ∧ (V qNu = 0 ∨ V pMu = V qMu → V m2 = V pMu ∧ V b2 = V cB) := by
  have p7 := pp_pos 1407
  have p8 : pp 1408 = 2 * pp 1407 := pp_succ 1407
  have p9 : pp 1409 = 2 * pp 1408 := pp_succ 1408
  obtain ⟨cNu, eNu, rNu⟩ := add_r h2 k2
  obtain ⟨fNu, _, _⟩ := rNu.within (k := 1408) (by decide) (by decide) (by rw [Nat.add_zero]; omega) (by rw [Nat.add_zero]; omega)
  have gNu1 := rNu.ge h2.n (by omega)
  have gNu2 := rNu.ge k2.n (by omega)
  obtain ⟨cA, eA, rA⟩ := add_r h3 k3
  obtain ⟨cB, eB, rB⟩ := add_r h4 k4
  obtain ⟨fB, _, _⟩ := rB.within (k := 1408) (by decide) (by decide) (by rw [Nat.add_zero]; omega) (by rw [Nat.add_zero]; omega)
  obtain ⟨w, ew, nw, w0, wpos, wle⟩ := div_r k2 fNu (by omega)
  have vw1 := wpos b2.1 (by omega)
  have vw2 := wle b2.1 gNu2
  have pL := pp_pos 1074
  have fw : Fi w := fi_of nw (k := 1074) (by omega) vw2 (by decide)
  obtain ⟨d, ed, rd⟩ := sub_r k1 h1
  obtain ⟨fd, d1, d2⟩ := rd.within (k := 1408) (by decide) (by decide) (by rw [Nat.add_zero]; omega) (by rw [Nat.add_zero]; omega)
  obtain ⟨wd, ewd, rwd⟩ := mul_r fw fd
  have bwd := mul_bound (A := pp 1074) (B := pp 1408) (by omega) vw2 d1 d2
  obtain ⟨fwd, wd1, wd2⟩ := rwd.within (k := 1408) (by decide) (by decide) (by rw [Nat.add_comm, ← pp_mul]; exact bwd.1) (by rw [Nat.add_comm, ← pp_mul]; exact bwd.2)
  obtain ⟨mu, emu, rmu⟩ := add_r h1 fwd
  obtain ⟨fmu, _, _⟩ := rmu.within (k := 1409) (by decide) (by decide) (by rw [Nat.add_zero]; omega) (by rw [Nat.add_zero]; omega)
  obtain ⟨x1, ex1, rx1⟩ := mul_r h2 fw
  have bx1 := mul_bound (a := V pNu) (b := V w) (A := pp 1407) (B := pp 1074) (by omega) a2.2 (by omega) vw2
  obtain ⟨fx1, x11, x12⟩ := rx1.within (k := 1407) (by decide) (by decide) (by rw [← pp_mul]; exact bx1.1) (by rw [← pp_mul]; exact bx1.2)
  have nx1 := rx1.nonneg (Int.mul_nonneg a2.1 vw1)
  obtain ⟨x2, ex2, rx2⟩ := mul_r fx1 fd
  have bx2 := mul_bound (A := pp 1407) (B := pp 1408) x11 x12 d1 d2
  obtain ⟨fx2, x21, x22⟩ := rx2.within (k := 1741) (by decide) (by decide) (by rw [show 1741 + 1074 = 1407 + 1408 from rfl, ← pp_mul]; exact bx2.1) (by rw [show 1741 + 1074 = 1407 + 1408 from rfl, ← pp_mul]; exact bx2.2)
  obtain ⟨x3, ex3, rx3⟩ := mul_r fx2 fd
  have bx3 := mul_bound (A := pp 1741) (B := pp 1408) x21 x22 d1 d2
  obtain ⟨fx3, x31, x32⟩ := rx3.within (k := 2075) (by decide) (by decide) (by rw [show 2075 + 1074 = 1741 + 1408 from rfl, ← pp_mul]; exact bx3.1) (by rw [show 2075 + 1074 = 1741 + 1408 from rfl, ← pp_mul]; exact bx3.2)
  have nx3 : 0 ≤ V x3 := by
    refine rx3.nonneg ?_
    rcases Int.le_total 0 (V d) with c | c
    · exact Int.mul_nonneg (rx2.nonneg (Int.mul_nonneg nx1 c)) c
    · have := rx2.nonpos (Int.mul_nonpos_of_nonneg_of_nonpos nx1 c)
      exact Int.mul_nonneg_of_nonpos_of_nonpos this c
  have p2 := pp_pos 1075
  obtain ⟨t, et, nt, t0, tpos, _⟩ := div_r fx3 two_word.1 (by rw [two_word.2]; omega)
  have vt := tpos nx3 (by rw [two_word.2]; omega)
  obtain ⟨bb, eb2, nb2, gb2, vb2⟩ := add_n fB nt
  obtain ⟨nm, vm⟩ := clamp fmu.n h1.n k1.n
  refine ⟨cNu, cA, cB, w, d, wd, mu, _, x1, x2, x3, t, bb, ⟨eNu, eA, eB, ew, ed, ewd, emu, rfl, ex1, ex2, ex3, et, eb2⟩, ⟨nm, by rw [vm]; omega, by rw [vm]; omega⟩, rNu.nn, rA.nn, rB.nn, ⟨nb2, gb2 vt⟩, ?_⟩
  intro h
  have hwd : V w * V d = 0 ∧ V x1 * V d = 0 := by
    rcases h with h | h
    · have e := w0 h
      have e1 := (rx1.zero (by rw [e, Int.mul_zero])).1
      exact ⟨by rw [e, Int.zero_mul], by rw [e1, Int.zero_mul]⟩
    · have e := (rd.zero (by omega)).1
      exact ⟨by rw [e, Int.mul_zero], by rw [e, Int.mul_zero]⟩
  have v1 := (rwd.zero hwd.1).1
  have v2 := (rx2.zero hwd.2).1
  have v3 := (rx3.zero (by rw [v2, Int.zero_mul])).1
  have vmu := rmu.exact (z := pMu) h1.n (by omega)
  refine ⟨?_, vb2 (t0 v3)⟩
  rw [vm, vmu, v1]; omega
end Go.Proofs.Qxb6629173a.Fl
