/- The same at float64, with powers of two for bounds; math.Max, math.Min as the model has them. -/
import Derived.Test.Qxb6629173aOps
import GoSem.Extern.MathDim
namespace Go.Proofs.Qxb6629173a.Fl
open Ieee

theorem hf : double.binade ≤ double.infRung := by decide
theorem hl : double.leastPlace ≤ 0 := by decide
theorem hL : (-double.leastPlace).toNat = 1074 := by decide

def V (x : Nat) : Int := xv double x
def N (x : Nat) : Prop := NN double x
def Fi (x : Nat) : Prop := Fin double x
theorem Fi.n {x : Nat} (h : Fi x) : N x := Fin.nn h

/-- 2 ^ k, kept whole. -/
def pp (k : Nat) : Int := ((2 ^ k : Nat) : Int)
theorem pp_pos (k : Nat) : 0 < pp k := by unfold pp; have := two_pos k; omega
theorem pp_mul (a b : Nat) : pp a * pp b = pp (a + b) := by unfold pp; rw [← Int.natCast_mul, ← Nat.pow_add]
theorem pp_le {a b : Nat} (h : a ≤ b) : pp a ≤ pp b := by unfold pp; exact Int.ofNat_le.2 (Nat.pow_le_pow_right (by decide) h)
theorem pp_lt {a b : Nat} (h : a < b) : pp a < pp b := by unfold pp; exact Int.ofNat_lt.2 (Nat.pow_lt_pow_right (by decide) h)
theorem pp_succ (a : Nat) : pp (a + 1) = 2 * pp a := by unfold pp; rw [Nat.pow_succ, Int.natCast_mul]; omega

theorem sw : double.signWeight = 2048 * double.binade := by decide
theorem ir : double.infRung = 2047 * double.binade := by decide

theorem rv_pw (e : Nat) (h : 1 ≤ e) : (rv double (e * double.binade) : Int) = pp (51 + e) := by
  have hb := binade_pos double
  unfold rv pp
  have h1 : ¬ e * double.binade < double.binade := by
    have : 1 * double.binade ≤ e * double.binade := Nat.mul_le_mul_right _ h
    omega
  rw [if_neg h1, Nat.mul_mod_left, Nat.mul_div_cancel _ hb, Nat.add_zero]
  have : double.binade = 2 ^ 52 := rfl
  rw [this, ← Nat.pow_add]
  congr 2; omega

/-- The word of 2 ^ (k - 1074), with a sign. -/
theorem pw (neg : Bool) (k : Nat) (h1 : 52 ≤ k) (h2 : k ≤ 2097) : ∃ z, Fi z ∧ V z = if neg then -pp k else pp k := by
  have hb := binade_pos double
  obtain ⟨e, rfl⟩ : ∃ e, k = 51 + e := ⟨k - 51, by omega⟩
  have hlt : e * double.binade < double.infRung := by rw [ir]; exact Nat.mul_lt_mul_of_pos_right (by omega) hb
  obtain ⟨g1, g2⟩ := sgn_word (f := double) neg (Nat.lt_trans hlt double.infRung_lt)
  refine ⟨double.word neg (e * double.binade), by unfold Fi Fin; rw [g2]; exact hlt, ?_⟩
  unfold V xv
  rw [g1, g2, rv_pw e (by omega)]

theorem V_inf : (rv double double.infRung : Int) = pp 2098 := by rw [ir]; exact rv_pw 2047 (by decide)

/-- Bounded: finite. -/
theorem fi_of {r k : Nat} (h : N r) (h1 : -pp k ≤ V r) (h2 : V r ≤ pp k) (hk : k ≤ 2097) : Fi r := by
  rcases Nat.lt_or_eq_of_le h with c | c
  · exact c
  · exfalso
    have := pp_lt (show k < 2098 by omega)
    have hp := pp_pos k
    unfold V xv at h1 h2
    rw [c, V_inf] at h1 h2
    cases hs : sgn double r
    · rw [hs] at h2; simp only [Bool.false_eq_true, if_false] at h2; omega
    · rw [hs] at h1; simp only [if_true] at h1; omega

theorem zero_word : Fi 0 ∧ V 0 = 0 := by
  have : rg double 0 = 0 := by decide
  refine ⟨by unfold Fi Fin; rw [this]; decide, ?_⟩
  unfold V xv; rw [this, rv_zero]; simp
theorem one_word : Fi 4607182418800017408 ∧ V 4607182418800017408 = pp 1074 := by
  have h1 : rg double 4607182418800017408 = 1023 * double.binade := by decide
  have h2 : sgn double 4607182418800017408 = false := by decide
  refine ⟨by unfold Fi Fin; rw [h1]; decide, ?_⟩
  unfold V xv; rw [h1, h2, rv_pw 1023 (by decide)]; simp
theorem two_word : Fi 4611686018427387904 ∧ V 4611686018427387904 = pp 1075 := by
  have h1 : rg double 4611686018427387904 = 1024 * double.binade := by decide
  have h2 : sgn double 4611686018427387904 = false := by decide
  refine ⟨by unfold Fi Fin; rw [h1]; decide, ?_⟩
  unfold V xv; rw [h1, h2, rv_pw 1024 (by decide)]; simp
/-- 1e100 and -1e100 lie within 2^333. -/
theorem big_word : Fi 6103021453049119613 ∧ 0 ≤ V 6103021453049119613 ∧ V 6103021453049119613 ≤ pp 1407 := by
  have h1 : rg double 6103021453049119613 = 6103021453049119613 := by decide
  have h2 : sgn double 6103021453049119613 = false := by decide
  have h3 := rv_le double (j := 6103021453049119613) (k := 1356 * double.binade) (by decide)
  refine ⟨by unfold Fi Fin; rw [h1]; decide, ?_, ?_⟩
  · unfold V xv; rw [h1, h2]; simp
  · unfold V xv; rw [h1, h2, ← rv_pw 1356 (by decide)]
    simp only [Bool.false_eq_true, if_false]
    exact Int.ofNat_le.2 h3
theorem negbig_word : Fi 15326393489903895421 ∧ -pp 1407 ≤ V 15326393489903895421 := by
  have h1 : rg double 15326393489903895421 = 6103021453049119613 := by decide
  have h2 : sgn double 15326393489903895421 = true := by decide
  have h3 := rv_le double (j := 6103021453049119613) (k := 1356 * double.binade) (by decide)
  refine ⟨by unfold Fi Fin; rw [h1]; decide, ?_⟩
  unfold V xv; rw [h1, h2, ← rv_pw 1356 (by decide)]
  simp only [if_true]
  exact Int.neg_le_neg (Int.ofNat_le.2 h3)

theorem order_n {x y : Nat} (hx : N x) (hy : N y) : double.order x y = some (compare (V x) (V y)) := order_nn hf hx hy
theorem order_not {x y : Nat} (h : ¬ N x ∨ ¬ N y) : double.order x y = none := order_nan hf h

/-! ### what a rounding gives -/
theorem Rd.exact {r : Nat} {v : Int} (h : Rd double r v 0) {z : Nat} (hz : N z) (e : V z = v) : V r = v := by
  have h1 := h.lo z hz (by rw [Nat.pow_zero]; simp; exact Int.le_of_eq e)
  have h2 := h.hi z hz (by rw [Nat.pow_zero]; simp; exact Int.le_of_eq e.symm)
  show xv double r = v
  have : xv double z = v := e
  omega
theorem Rd.ge {r : Nat} {v : Int} (h : Rd double r v 0) {z : Nat} (hz : N z) (e : V z ≤ v) : V z ≤ V r := h.lo z hz (by have e' : xv double z ≤ v := e; rw [Nat.pow_zero]; simpa using e')
theorem Rd.le {r : Nat} {v : Int} (h : Rd double r v 0) {z : Nat} (hz : N z) (e : v ≤ V z) : V r ≤ V z := h.hi z hz (by have e' : v ≤ xv double z := e; rw [Nat.pow_zero]; simpa using e')
theorem Rd.within {r : Nat} {v : Int} {d : Nat} (h : Rd double r v d) {k : Nat} (h1 : 52 ≤ k) (h2 : k ≤ 2097) (a : -pp (k + d) ≤ v) (b : v ≤ pp (k + d)) : Fi r ∧ -pp k ≤ V r ∧ V r ≤ pp k := by
  obtain ⟨z1, f1, v1⟩ := pw false k h1 h2
  obtain ⟨z2, f2, v2⟩ := pw true k h1 h2
  simp only [Bool.false_eq_true, if_false, if_true] at v1 v2
  have e1 := h.hi z1 f1.n (by show v ≤ V z1 * pp d; rw [v1, pp_mul]; exact b)
  have e2 := h.lo z2 f2.n (by show V z2 * pp d ≤ v; rw [v2, Int.neg_mul, pp_mul]; exact a)
  have e1' : V r ≤ pp k := by rw [← v1]; exact e1
  have e2' : -pp k ≤ V r := by rw [← v2]; exact e2
  exact ⟨fi_of h.nn e2' e1' h2, e2', e1'⟩
theorem Rd.nonneg {r : Nat} {v : Int} {d : Nat} (h : Rd double r v d) (a : 0 ≤ v) : 0 ≤ V r := by
  have := h.lo 0 zero_word.1.n (by show V 0 * _ ≤ v; rw [zero_word.2]; simpa using a)
  have e : xv double 0 = 0 := zero_word.2
  rw [e] at this; exact this
theorem Rd.nonpos {r : Nat} {v : Int} {d : Nat} (h : Rd double r v d) (a : v ≤ 0) : V r ≤ 0 := by
  have := h.hi 0 zero_word.1.n (by show v ≤ V 0 * _; rw [zero_word.2]; simpa using a)
  have e : xv double 0 = 0 := zero_word.2
  rw [e] at this; exact this
theorem Rd.zero {r : Nat} {v : Int} {d : Nat} (h : Rd double r v d) (a : v = 0) : V r = 0 ∧ Fi r := by
  have h1 := h.nonneg (Int.le_of_eq a.symm)
  have h2 := h.nonpos (Int.le_of_eq a)
  have h3 : V r = 0 := by omega
  have := pp_pos 60
  exact ⟨h3, fi_of h.nn (k := 60) (by omega) (by omega) (by decide)⟩

theorem add_r {x y : Nat} (hx : Fi x) (hy : Fi y) : ∃ r, double.add x y = some r ∧ Rd double r (V x + V y) 0 := add_rd hx hy
theorem sub_r {x y : Nat} (hx : Fi x) (hy : Fi y) : ∃ r, double.sub x y = some r ∧ Rd double r (V x - V y) 0 := sub_rd hx hy
theorem mul_r {x y : Nat} (hx : Fi x) (hy : Fi y) : ∃ r, double.mul x y = some r ∧ Rd double r (V x * V y) 1074 := by
  have := mul_rd (f := double) hl hx hy; rw [hL] at this; exact this
theorem div_r {x y : Nat} (hx : Fi x) (hy : Fi y) (hy0 : V y ≠ 0) : ∃ r, double.div x y = some r ∧ N r ∧ (V x = 0 → V r = 0) ∧ (0 ≤ V x → 0 ≤ V y → 0 ≤ V r) ∧ (0 ≤ V x → V x ≤ V y → V r ≤ pp 1074) := by
  obtain ⟨r, h1, h2, h3, h4, h5⟩ := div_rd (f := double) hl hx hy hy0
  refine ⟨r, h1, h2, h3, h4, fun a b => ?_⟩
  have := h5 a b 4607182418800017408 one_word.1.n (by rw [hL]; exact one_word.2)
  have e : xv double 4607182418800017408 = pp 1074 := one_word.2
  rw [e] at this
  exact this

/-- A number is a number again when a zero is added. -/
theorem add_zero_r {x y : Nat} (hx : Fi x) (hy : Fi y) (h0 : V y = 0) : ∃ r, double.add x y = some r ∧ Fi r ∧ V r = V x := by
  obtain ⟨r, h1, h2⟩ := add_r hx hy
  have e := h2.exact (z := x) hx.n (by rw [h0]; omega)
  rw [h0, Int.add_zero] at e
  refine ⟨r, h1, ?_, e⟩
  have hb := xv_lt_inf (f := double) hx
  rcases Nat.lt_or_eq_of_le h2.nn with c | c
  · exact c
  · exfalso
    unfold V at e
    have e' : xv double r = xv double x := e
    unfold xv at e'
    rw [c] at e'
    have hb' : -(rv double double.infRung : Int) < xv double x ∧ xv double x < (rv double double.infRung : Int) := hb
    unfold xv at hb'
    split at e' <;> omega
theorem zero_add_r {x y : Nat} (hx : Fi x) (hy : Fi y) (h0 : V x = 0) : ∃ r, double.add x y = some r ∧ Fi r ∧ V r = V y := by
  rw [add_comm']; exact add_zero_r hy hx h0

/-! ### math.Max, math.Min -/
def pickD (neg : Bool) (win : Ordering) (a b : Datum) (x y : Nat) : Nat :=
  if a == .infinity neg || b == .infinity neg then FloatKind.f64.encode (.infinity neg)
  else if a.isNaN || b.isNaN then 0x7FF8000000000001
  else if a.isZero && b.isZero then (if a.neg == neg then x else y)
  else if a.order b == some win then x else y
def pickW (neg : Bool) (win : Ordering) (x y : Nat) : Nat := pickD neg win (double.read x) (double.read y) x y

theorem dec_order (x y : Nat) : (double.read x).order (double.read y) = double.order x y := rfl

theorem inf_is {x : Nat} {neg : Bool} (h : N x) (e : double.read x = .infinity neg) : V x = if neg then -pp 2098 else pp 2098 := by
  rcases Nat.lt_or_eq_of_le h with c | c
  · obtain ⟨m, i, r, _⟩ := read_fin c
    rw [r] at e; cases e
  · have r := read_inf hf c
    rw [r] at e
    cases e
    show xv double x = _
    unfold xv; rw [c, V_inf]
theorem not_nan {x : Nat} (h : N x) : (double.read x).isNaN = false := by
  rcases Nat.lt_or_eq_of_le h with c | c
  · obtain ⟨m, i, r, _⟩ := read_fin c
    rw [r]; rfl
  · rw [read_inf hf c]; rfl
theorem zero_is {x : Nat} (h : N x) (e : (double.read x).isZero = true) : V x = 0 := by
  rcases Nat.lt_or_eq_of_le h with c | c
  · obtain ⟨m, i, r, _, v⟩ := read_fin c
    rw [r] at e
    have hm : m = 0 := by
      cases m with
      | zero => rfl
      | succ k => simp [Datum.isZero] at e
    show xv double x = 0
    rw [xv_signed v, hm, signed_eq]; simp
  · rw [read_inf hf c] at e; cases e
theorem V_le {x : Nat} (h : N x) : -pp 2098 ≤ V x ∧ V x ≤ pp 2098 := by
  rw [← V_inf]
  have := rv_le double h
  show -(rv double double.infRung : Int) ≤ xv double x ∧ xv double x ≤ (rv double double.infRung : Int)
  unfold xv
  split <;> omega
theorem enc_inf (neg : Bool) : N (FloatKind.f64.encode (.infinity neg)) ∧ V (FloatKind.f64.encode (.infinity neg)) = if neg then -pp 2098 else pp 2098 := by
  obtain ⟨g1, g2⟩ := sgn_word (f := double) neg double.infRung_lt
  have e : FloatKind.f64.encode (.infinity neg) = double.word neg double.infRung := rfl
  rw [e]
  refine ⟨by unfold N NN; rw [g2]; exact Nat.le_refl _, ?_⟩
  show xv double _ = _
  unfold xv; rw [g1, g2, V_inf]

theorem max_w {x y : Nat} (hx : N x) (hy : N y) : N (pickW false .gt x y) ∧ V (pickW false .gt x y) = max (V x) (V y) := by
  have bx := V_le hx
  have by' := V_le hy
  unfold pickW pickD
  simp only [not_nan hx, not_nan hy, dec_order, order_n hx hy]
  split
  · rename_i h
    refine ⟨(enc_inf false).1, ?_⟩
    rw [(enc_inf false).2]
    simp only [Bool.or_eq_true, beq_iff_eq] at h
    rcases h with h | h
    · have := inf_is hx h; simp at this ⊢; omega
    · have := inf_is hy h; simp at this ⊢; omega
  · simp only [Bool.or_self, Bool.false_eq_true, if_false]
    split
    · rename_i _ h
      simp only [Bool.and_eq_true] at h
      have h1 := zero_is hx h.1
      have h2 := zero_is hy h.2
      split
      · exact ⟨hx, by omega⟩
      · exact ⟨hy, by omega⟩
    · split
      · rename_i h
        simp only [beq_iff_eq, Option.some.injEq, Int.compare_eq_gt] at h
        exact ⟨hx, by omega⟩
      · rename_i h
        simp only [beq_iff_eq, Option.some.injEq, Int.compare_eq_gt] at h
        exact ⟨hy, by omega⟩

theorem min_w {x y : Nat} (hx : N x) (hy : N y) : N (pickW true .lt x y) ∧ V (pickW true .lt x y) = min (V x) (V y) := by
  have bx := V_le hx
  have by' := V_le hy
  unfold pickW pickD
  simp only [not_nan hx, not_nan hy, dec_order, order_n hx hy]
  split
  · rename_i h
    refine ⟨(enc_inf true).1, ?_⟩
    rw [(enc_inf true).2]
    simp only [Bool.or_eq_true, beq_iff_eq] at h
    rcases h with h | h
    · have := inf_is hx h; simp at this ⊢; omega
    · have := inf_is hy h; simp at this ⊢; omega
  · simp only [Bool.or_self, Bool.false_eq_true, if_false]
    split
    · rename_i _ h
      simp only [Bool.and_eq_true] at h
      have h1 := zero_is hx h.1
      have h2 := zero_is hy h.2
      split
      · exact ⟨hx, by omega⟩
      · exact ⟨hy, by omega⟩
    · split
      · rename_i h
        simp only [beq_iff_eq, Option.some.injEq, Int.compare_eq_lt] at h
        exact ⟨hx, by omega⟩
      · rename_i h
        simp only [beq_iff_eq, Option.some.injEq, Int.compare_eq_lt] at h
        exact ⟨hy, by omega⟩
end Go.Proofs.Qxb6629173a.Fl
