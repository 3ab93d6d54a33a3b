/- What the words of a format stand for; the order; '+', '-', '*', '/' up to one rounding that crosses no number. -/
import Derived.Test.Qxb6629173aFloat
namespace Go.Proofs.Qxb6629173a.Fl
open Ieee
variable (f : Format)

def sgn (x : Nat) : Bool := x / f.signWeight % 2 == 1
def rg (x : Nat) : Nat := x % f.signWeight
/-- What a word stands for, in units of the least place; an infinity: one binade beyond the last number. -/
def xv (x : Nat) : Int := if sgn f x then -(rv f (rg f x) : Int) else (rv f (rg f x) : Int)
def NN (x : Nat) : Prop := rg f x ≤ f.infRung
def Fin (x : Nat) : Prop := rg f x < f.infRung

variable {f}
theorem Fin.nn {x : Nat} (h : Fin f x) : NN f x := Nat.le_of_lt h

theorem signed_eq (neg : Bool) (m u : Nat) : signed neg m u = if neg then -((m * 2 ^ u : Nat) : Int) else ((m * 2 ^ u : Nat) : Int) := by
  unfold signed; rw [Nat.shiftLeft_eq]
theorem signed_add (neg : Bool) (m u v : Nat) : signed neg m (u + v) = signed neg m u * (2 ^ v : Nat) := by
  rw [signed_eq, signed_eq, Nat.pow_add, ← Nat.mul_assoc]
  cases neg <;> simp [Int.natCast_mul, Int.neg_mul]

theorem read_fin {x : Nat} (h : Fin f x) : ∃ m e, f.read x = .number (sgn f x) m e ∧ f.leastPlace ≤ e ∧ m * 2 ^ (e - f.leastPlace).toNat = rv f (rg f x) := by
  unfold Format.read rv
  simp only []
  change ∃ m e, (if rg f x < f.binade then Datum.number (sgn f x) (rg f x) f.leastPlace else _) = _ ∧ _
  by_cases c : rg f x < f.binade
  · rw [if_pos c, if_pos c]
    exact ⟨_, _, rfl, Int.le_refl _, by simp⟩
  · rw [if_neg c, if_neg c]
    have h' : x % f.signWeight < f.infRung := h
    rw [if_pos h']
    refine ⟨_, _, rfl, by omega, ?_⟩
    congr 2
    unfold rg
    omega

theorem xv_signed {x m : Nat} {e : Int} (hm : m * 2 ^ (e - f.leastPlace).toNat = rv f (rg f x)) : xv f x = signed (sgn f x) m (e - f.leastPlace).toNat := by
  rw [signed_eq, hm]; rfl

theorem read_inf {x : Nat} (hf : f.binade ≤ f.infRung) (h : rg f x = f.infRung) : f.read x = .infinity (sgn f x) := by
  unfold Format.read
  have h' : x % f.signWeight = f.infRung := h
  simp only [h']
  rw [if_neg (by omega), if_neg (by omega)]
  simp [sgn]
theorem read_nan {x : Nat} (hf : f.binade ≤ f.infRung) (h : ¬ NN f x) : ∃ t, f.read x = .nan (sgn f x) t := by
  unfold Format.read
  have h' : ¬ x % f.signWeight ≤ f.infRung := h
  simp only []
  rw [if_neg (by omega), if_neg (by omega), if_neg (by omega)]
  exact ⟨_, rfl⟩

theorem sgn_word (neg : Bool) {k : Nat} (h : k < f.signWeight) : sgn f (f.word neg k) = neg ∧ rg f (f.word neg k) = k := by
  have hp : 0 < f.signWeight := two_pos _
  unfold sgn rg Format.word
  cases neg
  · simp [Nat.div_eq_of_lt h, Nat.mod_eq_of_lt h]
  · simp only [if_true]
    rw [Nat.add_mod_left, Nat.mod_eq_of_lt h, Nat.add_div_left _ hp, Nat.div_eq_of_lt h]
    simp

theorem near_facts (neg : Bool) (mag : Nat) (place : Int) : sgn f (f.nearest neg mag place) = neg ∧ rg f (f.nearest neg mag place) = nr f mag place ∧ NN f (f.nearest neg mag place) := by
  rw [nearest_eq]
  have h := nr_le_inf f mag place
  obtain ⟨h1, h2⟩ := sgn_word (f := f) neg (Nat.lt_of_le_of_lt h f.infRung_lt)
  exact ⟨h1, h2, by unfold NN; rw [h2]; exact h⟩

theorem near_lo (neg : Bool) (mag : Nat) (place : Int) {z : Nat} (hz : NN f z) (h : xv f z * (2 ^ (f.leastPlace - place).toNat : Nat) ≤ signed neg mag (place - f.leastPlace).toNat) : xv f z ≤ xv f (f.nearest neg mag place) := by
  obtain ⟨e1, e2, _⟩ := near_facts (f := f) neg mag place
  have hp := two_pos (f.leastPlace - place).toNat
  rw [signed_eq] at h
  unfold xv at h ⊢
  rw [e1, e2]
  cases neg
  · simp only [Bool.false_eq_true, if_false] at h ⊢
    by_cases c : sgn f z
    · rw [if_pos c]; omega
    · rw [if_neg c] at h ⊢
      have := nr_ge f mag place (rg f z) hz (by exact_mod_cast h)
      exact_mod_cast rv_le f this
  · simp only [if_true] at h ⊢
    by_cases c : sgn f z
    · rw [if_pos c] at h ⊢
      rw [Int.neg_mul] at h
      have := nr_le f mag place (rg f z) (by exact_mod_cast Int.le_of_neg_le_neg h)
      have := rv_le f this
      omega
    · rw [if_neg c] at h ⊢
      have h1 : (rv f (rg f z) * 2 ^ (f.leastPlace - place).toNat : Nat) = 0 ∧ (mag * 2 ^ (place - f.leastPlace).toNat : Nat) = 0 := by
        rw [← Int.natCast_mul] at h
        omega
      have h2 := nr_le f mag place 0 (by rw [h1.2]; exact Nat.zero_le _)
      have h3 : nr f mag place = 0 := by omega
      have h4 : rv f (rg f z) = 0 := by
        rcases Nat.mul_eq_zero.1 h1.1 with h' | h'
        · exact h'
        · omega
      rw [h3, h4, rv_zero]; simp

theorem near_hi (neg : Bool) (mag : Nat) (place : Int) {z : Nat} (hz : NN f z) (h : signed neg mag (place - f.leastPlace).toNat ≤ xv f z * (2 ^ (f.leastPlace - place).toNat : Nat)) : xv f (f.nearest neg mag place) ≤ xv f z := by
  obtain ⟨e1, e2, _⟩ := near_facts (f := f) neg mag place
  have hp := two_pos (f.leastPlace - place).toNat
  rw [signed_eq] at h
  unfold xv at h ⊢
  rw [e1, e2]
  cases neg
  · simp only [Bool.false_eq_true, if_false] at h ⊢
    by_cases c : sgn f z
    · rw [if_pos c] at h ⊢
      have h1 : (rv f (rg f z) * 2 ^ (f.leastPlace - place).toNat : Nat) = 0 ∧ (mag * 2 ^ (place - f.leastPlace).toNat : Nat) = 0 := by
        rw [Int.neg_mul, ← Int.natCast_mul] at h
        omega
      have h2 := nr_le f mag place 0 (by rw [h1.2]; exact Nat.zero_le _)
      have h3 : nr f mag place = 0 := by omega
      have h4 : rv f (rg f z) = 0 := by
        rcases Nat.mul_eq_zero.1 h1.1 with h' | h'
        · exact h'
        · omega
      rw [h3, h4, rv_zero]; simp
    · rw [if_neg c] at h ⊢
      have := nr_le f mag place (rg f z) (by exact_mod_cast h)
      exact_mod_cast rv_le f this
  · simp only [if_true] at h ⊢
    by_cases c : sgn f z
    · rw [if_pos c] at h ⊢
      rw [Int.neg_mul] at h
      have := nr_ge f mag place (rg f z) hz (by exact_mod_cast Int.le_of_neg_le_neg h)
      have := rv_le f this
      omega
    · rw [if_neg c]; omega

/-! ### the order -/
theorem compare_scale (a b : Int) {p : Nat} (hp : 0 < p) : compare (a * (p : Int)) (b * (p : Int)) = compare a b := by
  have hp' : (0 : Int) < p := by omega
  rcases Int.lt_trichotomy a b with h | h | h
  · rw [Int.compare_eq_lt.2 h, Int.compare_eq_lt.2 (Int.mul_lt_mul_of_pos_right h hp')]
  · rw [h]; simp
  · rw [Int.compare_eq_gt.2 h, Int.compare_eq_gt.2 (Int.mul_lt_mul_of_pos_right h hp')]

theorem toNat_split {i base lp : Int} (h1 : lp ≤ base) (h2 : base ≤ i) : (i - lp).toNat = (i - base).toNat + (base - lp).toNat := by omega

theorem order_fin {x y : Nat} (hx : Fin f x) (hy : Fin f y) : f.order x y = some (compare (xv f x) (xv f y)) := by
  obtain ⟨m, i, r1, l1, v1⟩ := read_fin hx
  obtain ⟨n, j, r2, l2, v2⟩ := read_fin hy
  unfold Format.order
  rw [r1, r2, xv_signed v1, xv_signed v2]
  simp only [Datum.order]
  rw [toNat_split (i := i) (base := min i j) (lp := f.leastPlace) (by omega) (by omega), toNat_split (i := j) (base := min i j) (lp := f.leastPlace) (by omega) (by omega), signed_add, signed_add, compare_scale _ _ (two_pos _)]

theorem xv_lt_inf {x : Nat} (hx : Fin f x) : -(rv f f.infRung : Int) < xv f x ∧ xv f x < (rv f f.infRung : Int) := by
  have := rv_lt f hx
  unfold xv
  split <;> omega

theorem order_nn (hf : f.binade ≤ f.infRung) {x y : Nat} (hx : NN f x) (hy : NN f y) : f.order x y = some (compare (xv f x) (xv f y)) := by
  have hpos : 0 < rv f f.infRung := by
    have := rv_lt f (j := 0) (k := f.infRung) (by have := binade_pos f; omega)
    rw [rv_zero] at this; exact this
  rcases Nat.lt_or_eq_of_le hx with hx' | hx'
  · rcases Nat.lt_or_eq_of_le hy with hy' | hy'
    · exact order_fin hx' hy'
    · obtain ⟨m, i, r1, _, _⟩ := read_fin hx'
      have hb := xv_lt_inf hx'
      unfold Format.order
      rw [r1, read_inf hf hy']
      have e : xv f y = if sgn f y then -(rv f f.infRung : Int) else (rv f f.infRung : Int) := by unfold xv; rw [hy']
      rw [e]
      simp only [Datum.order]
      cases sgn f y
      · simp only [Bool.false_eq_true, if_false]; rw [Int.compare_eq_lt.2 hb.2]
      · simp only [if_true]; rw [Int.compare_eq_gt.2 hb.1]
  · rcases Nat.lt_or_eq_of_le hy with hy' | hy'
    · obtain ⟨m, i, r1, _, _⟩ := read_fin hy'
      have hb := xv_lt_inf hy'
      unfold Format.order
      rw [r1, read_inf hf hx']
      have e : xv f x = if sgn f x then -(rv f f.infRung : Int) else (rv f f.infRung : Int) := by unfold xv; rw [hx']
      rw [e]
      simp only [Datum.order]
      cases sgn f x
      · simp only [Bool.false_eq_true, if_false]; rw [Int.compare_eq_gt.2 hb.2]
      · simp only [if_true]; rw [Int.compare_eq_lt.2 hb.1]
    · unfold Format.order
      rw [read_inf hf hx', read_inf hf hy']
      have e1 : xv f x = if sgn f x then -(rv f f.infRung : Int) else (rv f f.infRung : Int) := by unfold xv; rw [hx']
      have e2 : xv f y = if sgn f y then -(rv f f.infRung : Int) else (rv f f.infRung : Int) := by unfold xv; rw [hy']
      rw [e1, e2]
      simp only [Datum.order]
      cases sgn f x <;> cases sgn f y <;> simp only [Bool.false_eq_true, if_false, if_true]
      · simp
      · rw [Int.compare_eq_gt.2 (by omega)]; rfl
      · rw [Int.compare_eq_lt.2 (by omega)]; rfl
      · simp

theorem order_nan (hf : f.binade ≤ f.infRung) {x y : Nat} (h : ¬ NN f x ∨ ¬ NN f y) : f.order x y = none := by
  unfold Format.order
  rcases h with h | h
  · obtain ⟨t, e⟩ := read_nan hf h
    rw [e]; rfl
  · obtain ⟨t, e⟩ := read_nan hf h
    rw [e]
    cases f.read x <;> rfl

/-! ### one rounding -/
/-- r is the number v * 2^-d of units, rounded: it crosses no number. -/
structure Rd (f : Format) (r : Nat) (v : Int) (d : Nat) : Prop where
  nn : NN f r
  lo : ∀ z, NN f z → xv f z * (2 ^ d : Nat) ≤ v → xv f z ≤ xv f r
  hi : ∀ z, NN f z → v ≤ xv f z * (2 ^ d : Nat) → xv f r ≤ xv f z

theorem near_rd (neg : Bool) (mag : Nat) (place : Int) (a d : Nat) (h : (place - f.leastPlace).toNat + d = a + (f.leastPlace - place).toNat) : Rd f (f.nearest neg mag place) (signed neg mag a) d := by
  have e : signed neg mag a * (2 ^ (f.leastPlace - place).toNat : Nat) = signed neg mag (place - f.leastPlace).toNat * (2 ^ d : Nat) := by
    rw [← signed_add, ← signed_add, h]
  have hp : (0 : Int) < (2 ^ d : Nat) := by have := two_pos d; omega
  have hq : (0 : Int) ≤ (2 ^ (f.leastPlace - place).toNat : Nat) := Int.natCast_nonneg _
  refine ⟨(near_facts neg mag place).2.2, fun z hz hzv => near_lo neg mag place hz ?_, fun z hz hzv => near_hi neg mag place hz ?_⟩
  · refine Int.le_of_mul_le_mul_right ?_ hp
    rw [← e]
    refine Int.le_trans (Int.le_of_eq ?_) (Int.mul_le_mul_of_nonneg_right hzv hq)
    rw [Int.mul_assoc, Int.mul_assoc, Int.mul_comm ((2 ^ d : Nat) : Int)]
  · refine Int.le_of_mul_le_mul_right ?_ hp
    rw [← e]
    refine Int.le_trans (Int.mul_le_mul_of_nonneg_right hzv hq) (Int.le_of_eq ?_)
    rw [Int.mul_assoc, Int.mul_assoc, Int.mul_comm ((2 ^ d : Nat) : Int)]

theorem sum_rd {s t : Bool} {m n : Nat} {i j : Int} (hi : f.leastPlace ≤ i) (hj : f.leastPlace ≤ j) :
    ∃ r, ((Datum.number s m i).sum (.number t n j)).map f.write = some r ∧ Rd f r (signed s m (i - f.leastPlace).toNat + signed t n (j - f.leastPlace).toNat) 0 := by
  refine ⟨_, rfl, ?_⟩
  simp only [Format.write]
  generalize hb : min i j = base
  have hbl : f.leastPlace ≤ base := by omega
  rw [toNat_split (i := i) hbl (by omega), toNat_split (i := j) hbl (by omega), signed_add, signed_add, ← Int.add_mul]
  generalize hT : signed s m (i - base).toNat + signed t n (j - base).toNat = T
  have e : T * (2 ^ (base - f.leastPlace).toNat : Nat) = signed (if T = 0 then s && t else decide (T < 0)) T.natAbs (base - f.leastPlace).toNat := by
    rw [signed_eq]
    by_cases h0 : T = 0
    · subst h0; simp
    · rw [if_neg h0, Int.natCast_mul]
      by_cases hn : T < 0
      · rw [if_pos (by simpa using hn), ← Int.neg_mul]; congr 1; omega
      · rw [if_neg (by simpa using hn)]; congr 1; omega
  rw [e]
  exact near_rd _ _ _ _ _ (by omega)

theorem add_rd {x y : Nat} (hx : Fin f x) (hy : Fin f y) : ∃ r, f.add x y = some r ∧ Rd f r (xv f x + xv f y) 0 := by
  obtain ⟨m, i, r1, l1, v1⟩ := read_fin hx
  obtain ⟨n, j, r2, l2, v2⟩ := read_fin hy
  unfold Format.add
  rw [r1, r2, xv_signed v1, xv_signed v2]
  exact sum_rd l1 l2

theorem sub_rd {x y : Nat} (hx : Fin f x) (hy : Fin f y) : ∃ r, f.sub x y = some r ∧ Rd f r (xv f x - xv f y) 0 := by
  obtain ⟨m, i, r1, l1, v1⟩ := read_fin hx
  obtain ⟨n, j, r2, l2, v2⟩ := read_fin hy
  unfold Format.sub
  rw [r1, r2, xv_signed v1, xv_signed v2]
  have := sum_rd (s := sgn f x) (t := !sgn f y) (m := m) (n := n) l1 l2
  have e : signed (!sgn f y) n (j - f.leastPlace).toNat = - signed (sgn f y) n (j - f.leastPlace).toNat := by
    rw [signed_eq, signed_eq]; cases sgn f y <;> simp
  rw [e] at this
  exact this

theorem add_comm' (x y : Nat) : f.add x y = f.add y x := by
  unfold Format.add
  congr 1
  cases f.read x with
  | number s m i =>
    cases f.read y with
    | number t n j =>
      simp only [Datum.sum, Int.min_comm i j, Int.add_comm (signed s m _), Bool.and_comm s t]
    | infinity _ => rfl
    | nan _ _ => rfl
  | infinity s =>
    cases f.read y with
    | number t n j => rfl
    | infinity t => simp only [Datum.sum]; cases s <;> cases t <;> rfl
    | nan _ _ => rfl
  | nan _ _ =>
    cases f.read y <;> rfl

theorem mul_rd (hl : f.leastPlace ≤ 0) {x y : Nat} (hx : Fin f x) (hy : Fin f y) : ∃ r, f.mul x y = some r ∧ Rd f r (xv f x * xv f y) (-f.leastPlace).toNat := by
  obtain ⟨m, i, r1, l1, v1⟩ := read_fin hx
  obtain ⟨n, j, r2, l2, v2⟩ := read_fin hy
  unfold Format.mul
  rw [r1, r2, xv_signed v1, xv_signed v2]
  refine ⟨_, rfl, ?_⟩
  simp only [Format.write]
  have e : signed (sgn f x) m (i - f.leastPlace).toNat * signed (sgn f y) n (j - f.leastPlace).toNat = signed (sgn f x ^^ sgn f y) (m * n) ((i - f.leastPlace).toNat + (j - f.leastPlace).toNat) := by
    rw [signed_eq, signed_eq, signed_eq]
    have : m * n * 2 ^ ((i - f.leastPlace).toNat + (j - f.leastPlace).toNat) = m * 2 ^ (i - f.leastPlace).toNat * (n * 2 ^ (j - f.leastPlace).toNat) := by
      rw [Nat.pow_add]; simp only [Nat.mul_assoc, Nat.mul_left_comm]
    rw [this, Int.natCast_mul]
    cases sgn f x <;> cases sgn f y <;> simp [Int.neg_mul, Int.mul_neg]
  rw [e]
  exact near_rd _ _ _ _ _ (by omega)

/-- A quotient: of a zero a zero; of equal signs not negative; of no more than the divisor no more than one. -/
theorem div_rd (hl : f.leastPlace ≤ 0) {x y : Nat} (hx : Fin f x) (hy : Fin f y) (hy0 : xv f y ≠ 0) : ∃ r, f.div x y = some r ∧ NN f r ∧ (xv f x = 0 → xv f r = 0) ∧ (0 ≤ xv f x → 0 ≤ xv f y → 0 ≤ xv f r) ∧
    (0 ≤ xv f x → xv f x ≤ xv f y → ∀ z, NN f z → xv f z = (2 ^ (-f.leastPlace).toNat : Nat) → xv f r ≤ xv f z) := by
  obtain ⟨m, i, r1, l1, v1⟩ := read_fin hx
  obtain ⟨n, j, r2, l2, v2⟩ := read_fin hy
  have hn : n ≠ 0 := by
    intro e; subst e
    apply hy0
    rw [xv_signed v2, signed_eq]; simp
  have ex := xv_signed v1
  have ey := xv_signed v2
  unfold Format.div
  rw [r1, r2]
  simp only [Datum.quotient]
  rw [if_neg hn]
  refine ⟨_, rfl, ?_⟩
  simp only [Format.write, Nat.shiftLeft_eq]
  generalize hmo : f.fractionBits + 2 + n.log2 - m.log2 = more
  generalize hmg : 2 * (m * 2 ^ more / n) + (m * 2 ^ more % n != 0).toNat = mag
  obtain ⟨g1, g2, g3⟩ := near_facts (f := f) (sgn f x ^^ sgn f y) mag (i - j - more - 1)
  have hz : xv f x = 0 → m = 0 := by
    intro h
    rw [ex, signed_eq] at h
    have : m * 2 ^ (i - f.leastPlace).toNat = 0 := by split at h <;> omega
    rcases Nat.mul_eq_zero.1 this with h' | h'
    · exact h'
    · have := two_pos (i - f.leastPlace).toNat; omega
  have h0 : m = 0 → nr f mag (i - j - more - 1) = 0 := by
    intro e; subst e
    have : mag = 0 := by rw [← hmg]; simp
    rw [this]; unfold nr; simp
  refine ⟨g3, ?_, ?_, ?_⟩
  · intro h
    have := h0 (hz h)
    unfold xv
    rw [g1, g2, this, rv_zero]; simp
  · intro hx0 hy0'
    by_cases hm : m = 0
    · unfold xv; rw [g1, g2, h0 hm, rv_zero]; simp
    · have s1 : sgn f x = false := by
        cases c : sgn f x
        · rfl
        · exfalso
          rw [ex, signed_eq, c] at hx0
          have : 0 < m * 2 ^ (i - f.leastPlace).toNat := Nat.mul_pos (Nat.pos_of_ne_zero hm) (two_pos _)
          simp only [if_true] at hx0; omega
      have s2 : sgn f y = false := by
        cases c : sgn f y
        · rfl
        · exfalso
          rw [ey, signed_eq, c] at hy0'
          have : 0 < n * 2 ^ (j - f.leastPlace).toNat := Nat.mul_pos (Nat.pos_of_ne_zero hn) (two_pos _)
          simp only [if_true] at hy0'; omega
      unfold xv; rw [g1, g2, s1, s2]; simp
  · intro hx0 hxy z hz' hzv
    by_cases hm : m = 0
    · have e : xv f (f.nearest (sgn f x ^^ sgn f y) mag (i - j - more - 1)) = 0 := by unfold xv; rw [g1, g2, h0 hm, rv_zero]; simp
      rw [e, hzv]; exact Int.natCast_nonneg _
    · have s1 : sgn f x = false := by
        cases c : sgn f x
        · rfl
        · exfalso
          rw [ex, signed_eq, c] at hx0
          have : 0 < m * 2 ^ (i - f.leastPlace).toNat := Nat.mul_pos (Nat.pos_of_ne_zero hm) (two_pos _)
          simp only [if_true] at hx0; omega
      have s2 : sgn f y = false := by
        cases c : sgn f y
        · rfl
        · exfalso
          have hyp : 0 ≤ xv f y := Int.le_trans hx0 hxy
          rw [ey, signed_eq, c] at hyp
          have : 0 < n * 2 ^ (j - f.leastPlace).toNat := Nat.mul_pos (Nat.pos_of_ne_zero hn) (two_pos _)
          simp only [if_true] at hyp; omega
      have hle : m * 2 ^ (i - f.leastPlace).toNat ≤ n * 2 ^ (j - f.leastPlace).toNat := by
        rw [ex, ey, s1, s2, signed_eq, signed_eq] at hxy
        simp only [Bool.false_eq_true, if_false] at hxy
        exact_mod_cast hxy
      have q1 : 2 ^ m.log2 ≤ m := Nat.log2_self_le hm
      have q2 : n < 2 ^ (n.log2 + 1) := Nat.lt_log2_self
      have hlog : m.log2 + (i - f.leastPlace).toNat < n.log2 + 1 + (j - f.leastPlace).toNat := by
        have a1 : 2 ^ (m.log2 + (i - f.leastPlace).toNat) ≤ m * 2 ^ (i - f.leastPlace).toNat := by rw [Nat.pow_add]; exact Nat.mul_le_mul_right _ q1
        have a2 : n * 2 ^ (j - f.leastPlace).toNat < 2 ^ (n.log2 + 1 + (j - f.leastPlace).toNat) := by rw [Nat.pow_add]; exact Nat.mul_lt_mul_of_pos_right q2 (two_pos _)
        exact (Nat.pow_lt_pow_iff_right (by decide)).1 (Nat.lt_of_le_of_lt a1 (Nat.lt_of_le_of_lt hle a2))
      obtain ⟨κ, hκ⟩ : ∃ κ : Nat, (κ : Int) = j - i + more := ⟨(j - i + more).toNat, by omega⟩
      have hD : m * 2 ^ more ≤ n * 2 ^ κ := by
        have : m * 2 ^ more * 2 ^ (i - f.leastPlace).toNat ≤ n * 2 ^ κ * 2 ^ (i - f.leastPlace).toNat := by
          have e1 : m * 2 ^ more * 2 ^ (i - f.leastPlace).toNat = m * 2 ^ (i - f.leastPlace).toNat * 2 ^ more := Nat.mul_right_comm _ _ _
          have e2 : n * 2 ^ κ * 2 ^ (i - f.leastPlace).toNat = n * 2 ^ (j - f.leastPlace).toNat * 2 ^ more := by
            rw [Nat.mul_assoc, Nat.mul_assoc, ← Nat.pow_add, ← Nat.pow_add]; congr 2; omega
          rw [e1, e2]
          exact Nat.mul_le_mul_right _ hle
        exact Nat.le_of_mul_le_mul_right this (two_pos _)
      have hmag : mag ≤ 2 ^ (κ + 1) := by
        rw [← hmg, Nat.pow_succ]
        have hnp : 0 < n := Nat.pos_of_ne_zero hn
        have hdm := Nat.div_add_mod (m * 2 ^ more) n
        have hml := Nat.mod_lt (m * 2 ^ more) hnp
        generalize m * 2 ^ more = DD at hD hdm hml ⊢
        generalize 2 ^ κ = KK at hD ⊢
        rcases Nat.lt_or_ge (DD / n) KK with c | c
        · have : (DD % n != 0).toNat ≤ 1 := Bool.toNat_le _
          omega
        · have h1 : n * KK ≤ n * (DD / n) := Nat.mul_le_mul_left _ c
          have h2 : DD % n = 0 := by omega
          have h3 : n * (DD / n) ≤ n * KK := by omega
          have h4 := Nat.le_of_mul_le_mul_left h3 hnp
          rw [h2]; simp; omega
      refine near_hi _ mag _ hz' ?_
      rw [s1, s2, signed_eq, hzv]
      simp only [Bool.xor_false, Bool.false_eq_true, if_false]
      rw [← Int.natCast_mul]
      refine Int.ofNat_le.2 ?_
      refine Nat.le_trans (Nat.mul_le_mul_right _ hmag) (Nat.le_of_eq ?_)
      rw [← Nat.pow_add, ← Nat.pow_add]
      congr 1; omega
end Go.Proofs.Qxb6629173a.Fl
