/- Rounding to nearest does not cross a number of the format: all that these laws need of IEEE 754. -/
import Derived.Laws.FloatBits
namespace Go.Proofs.Qxb6629173a.Fl
open Ieee

/-! ### powers and shifts -/
theorem two_pos (n : Nat) : 0 < 2 ^ n := Nat.two_pow_pos n

/-- The rounding: it does not cross a whole number. -/
theorem cut_ge (neg : Bool) (n drop N : Nat) (h : N * 2 ^ drop ≤ n) : N ≤ Toward.even.cut neg n drop := by
  unfold Toward.cut
  simp only [Nat.shiftLeft_eq, Nat.one_mul]
  refine Nat.le_trans ?_ (Nat.le_add_right _ _)
  rw [Nat.le_div_iff_mul_le (two_pos _)]
  exact Nat.le_trans (Nat.mul_le_mul_left _ (Nat.pow_le_pow_right (by decide) (Nat.min_le_left _ _))) h

theorem cut_le (neg : Bool) (n drop N : Nat) (h : n ≤ N * 2 ^ drop) : Toward.even.cut neg n drop ≤ N := by
  unfold Toward.cut
  simp only [Nat.shiftLeft_eq, Nat.one_mul]
  have hlog : n < 2 ^ (n.log2 + 1) := Nat.lt_log2_self
  by_cases hd : drop ≤ n.log2 + 2
  · rw [Nat.min_eq_left hd]
    have hp := two_pos drop
    generalize 2 ^ drop = g at h hp
    have hdm := Nat.div_add_mod n g
    have hml := Nat.mod_lt n hp
    generalize n / g = q at hdm ⊢
    generalize n % g = t at hdm hml ⊢
    rw [Nat.mul_comm] at hdm
    by_cases ht : t = 0
    · subst ht
      have e : (decide (g < 2 * 0) || g == 2 * 0 && q % 2 == 1) = false := by
        simp; omega
      rw [e]
      have : q * g ≤ N * g := by omega
      have := Nat.le_of_mul_le_mul_right this hp
      simpa using this
    · have h1 : q * g < N * g := by omega
      have h2 := Nat.lt_of_mul_lt_mul_right h1
      have h3 : (decide (g < 2 * t) || g == 2 * t && q % 2 == 1).toNat ≤ 1 := Bool.toNat_le _
      omega
  · rw [Nat.min_eq_right (by omega)]
    have h4 : 2 ^ (n.log2 + 2) = 2 * 2 ^ (n.log2 + 1) := by rw [Nat.pow_succ]; omega
    have hq : n / 2 ^ (n.log2 + 2) = 0 := Nat.div_eq_of_lt (by omega)
    have ht : n % 2 ^ (n.log2 + 2) = n := Nat.mod_eq_of_lt (by omega)
    rw [hq, ht]
    have e : (decide (2 ^ (n.log2 + 2) < 2 * n) || 2 ^ (n.log2 + 2) == 2 * n && 0 % 2 == 1) = false := by
      simp; omega
    rw [e]
    simp

variable (f : Format)

/-- What a rung stands for, in units of the least place. -/
def rv (k : Nat) : Nat := if k < f.binade then k else (f.binade + k % f.binade) * 2 ^ (k / f.binade - 1)

theorem binade_pos : 0 < f.binade := two_pos _

/-- A rung as a significand and a place. -/
theorem rung_parts (k : Nat) : ∃ n e, rv f k = n * 2 ^ e ∧ n < 2 * f.binade ∧ (e = 0 ∨ f.binade ≤ n) ∧ k = e * f.binade + n := by
  have hb := binade_pos f
  unfold rv
  by_cases h : k < f.binade
  · exact ⟨k, 0, by simp [h], by omega, .inl rfl, by simp⟩
  · have hm := Nat.mod_lt k hb
    have hd := Nat.div_add_mod k f.binade
    have hq : 1 ≤ k / f.binade := (Nat.le_div_iff_mul_le hb).2 (by omega)
    refine ⟨f.binade + k % f.binade, k / f.binade - 1, by simp [h], by omega, .inr (by omega), ?_⟩
    obtain ⟨q, hq'⟩ : ∃ q, k / f.binade = q + 1 := ⟨k / f.binade - 1, by omega⟩
    rw [hq'] at hd ⊢
    simp only [Nat.add_sub_cancel]
    rw [Nat.mul_succ, Nat.mul_comm] at hd
    omega

theorem pow_split {a b : Nat} (h : a ≤ b) : 2 ^ b = 2 ^ (b - a) * 2 ^ a := by
  rw [← Nat.pow_add]; congr 1; omega

/-- Significands and places in order. -/
theorem parts_le {B n e n' e' : Nat} (hn : n ≤ 2 * B) (he : e = 0 ∨ B ≤ n) (hn' : n' < 2 * B) (he' : e' = 0 ∨ B ≤ n') (h : n * 2 ^ e ≤ n' * 2 ^ e') : e * B + n ≤ e' * B + n' := by
  rcases Nat.lt_trichotomy e e' with c | c | c
  · have hB : B ≤ n' := he'.resolve_left (by omega)
    have : (e + 1) * B ≤ e' * B := Nat.mul_le_mul_right _ c
    rw [Nat.add_mul] at this
    omega
  · subst c
    have := Nat.le_of_mul_le_mul_right h (two_pos e)
    omega
  · exfalso
    have hB : B ≤ n := he.resolve_left (by omega)
    obtain ⟨d, rfl⟩ : ∃ d, e = e' + 1 + d := ⟨e - e' - 1, by omega⟩
    have e1 : 2 ^ (e' + 1 + d) = 2 ^ d * 2 * 2 ^ e' := by rw [Nat.pow_add, Nat.pow_succ]; rw [Nat.mul_comm (2 ^ e' * 2), Nat.mul_comm (2 ^ e') 2, ← Nat.mul_assoc]
    rw [e1, ← Nat.mul_assoc] at h
    have h2 := Nat.le_of_mul_le_mul_right h (two_pos e')
    have h3 : n * 1 ≤ n * 2 ^ d := Nat.mul_le_mul_left _ (two_pos d)
    rw [← Nat.mul_assoc] at h2
    omega

theorem rv_mono {j k : Nat} (h : rv f j ≤ rv f k) : j ≤ k := by
  obtain ⟨n, e, r1, r2, r3, r4⟩ := rung_parts f j
  obtain ⟨n', e', s1, s2, s3, s4⟩ := rung_parts f k
  rw [r1, s1] at h
  rw [r4, s4]
  exact parts_le (by omega) r3 s2 s3 h

theorem rv_lt {j k : Nat} (h : j < k) : rv f j < rv f k := by
  rcases Nat.lt_or_ge (rv f j) (rv f k) with c | c
  · exact c
  · have := rv_mono f c; omega

theorem rv_le {j k : Nat} (h : j ≤ k) : rv f j ≤ rv f k := by
  rcases Nat.lt_or_eq_of_le h with c | c
  · exact Nat.le_of_lt (rv_lt f c)
  · rw [c]; exact Nat.le_refl _

theorem rv_zero : rv f 0 = 0 := by unfold rv; simp [binade_pos]

/-- The rung to which 'mag * 2 ^ place' is rounded. -/
def nr (mag : Nat) (place : Int) : Nat :=
  if mag = 0 then 0 else
  let last := max (place + mag.log2 - f.fractionBits) f.leastPlace
  min ((last - f.leastPlace).toNat * f.binade + Toward.even.cut false (mag <<< (place - last).toNat) (last - place).toNat) f.infRung

theorem cut_neg (neg : Bool) (n d : Nat) : Toward.even.cut neg n d = Toward.even.cut false n d := rfl

theorem nearest_eq (neg : Bool) (mag : Nat) (place : Int) : f.nearest neg mag place = f.word neg (nr f mag place) := by
  unfold Format.nearest nr
  split
  · rfl
  · simp only [cut_neg neg]

theorem nr_le_inf (mag : Nat) (place : Int) : nr f mag place ≤ f.infRung := by
  unfold nr
  split
  · exact Nat.zero_le _
  · exact Nat.min_le_right _ _

/-- What is kept: between a half-binade's ends. -/
theorem kept_bounds {mag : Nat} (hm : mag ≠ 0) (place last : Int) (hl : last = max (place + mag.log2 - f.fractionBits) f.leastPlace) :
    mag * 2 ^ (place - last).toNat < 2 * f.binade * 2 ^ (last - place).toNat ∧ (f.leastPlace < last → f.binade * 2 ^ (last - place).toNat ≤ mag * 2 ^ (place - last).toNat) := by
  have h1 : mag < 2 ^ (mag.log2 + 1) := Nat.lt_log2_self
  have h2 : 2 ^ mag.log2 ≤ mag := Nat.log2_self_le hm
  have hb : f.binade = 2 ^ f.fractionBits := rfl
  generalize mag.log2 = lg at h1 h2 hl
  constructor
  · have e1 : 2 * f.binade * 2 ^ (last - place).toNat = 2 ^ (f.fractionBits + 1 + (last - place).toNat) := by rw [hb, Nat.pow_add, Nat.pow_succ, Nat.mul_comm 2]
    rw [e1]
    have h3 : mag * 2 ^ (place - last).toNat < 2 ^ (lg + 1) * 2 ^ (place - last).toNat := Nat.mul_lt_mul_of_pos_right h1 (two_pos _)
    rw [← Nat.pow_add] at h3
    refine Nat.lt_of_lt_of_le h3 (Nat.pow_le_pow_right (by decide) ?_)
    omega
  · intro hlt
    have e1 : f.binade * 2 ^ (last - place).toNat = 2 ^ (f.fractionBits + (last - place).toNat) := by rw [hb, Nat.pow_add]
    rw [e1]
    have h3 : 2 ^ lg * 2 ^ (place - last).toNat ≤ mag * 2 ^ (place - last).toNat := Nat.mul_le_mul_right _ h2
    rw [← Nat.pow_add] at h3
    refine Nat.le_trans (Nat.pow_le_pow_right (by decide) ?_) h3
    omega

/-- The same number seen from the last place kept and from the least place. -/
theorem shift_place (mag : Nat) (place last lp : Int) (h : lp ≤ last) :
    mag * 2 ^ (place - last).toNat * (2 ^ (last - lp).toNat * 2 ^ (lp - place).toNat) = mag * 2 ^ (place - lp).toNat * 2 ^ (last - place).toNat := by
  rw [Nat.mul_assoc, Nat.mul_assoc, ← Nat.pow_add, ← Nat.pow_add, ← Nat.pow_add]
  congr 2
  omega

theorem nr_ge (mag : Nat) (place : Int) (j : Nat) (hj : j ≤ f.infRung) (h : rv f j * 2 ^ (f.leastPlace - place).toNat ≤ mag * 2 ^ (place - f.leastPlace).toNat) : j ≤ nr f mag place := by
  obtain ⟨n, e, r1, r2, r3, r4⟩ := rung_parts f j
  unfold nr
  by_cases hm : mag = 0
  · rw [if_pos hm]
    rw [hm, Nat.zero_mul] at h
    have h1 : rv f j = 0 := by
      rcases Nat.mul_eq_zero.1 (Nat.le_zero.1 h) with h' | h'
      · exact h'
      · have := two_pos (f.leastPlace - place).toNat; omega
    exact rv_mono f (by rw [h1]; exact Nat.zero_le _)
  · rw [if_neg hm]
    simp only [Nat.shiftLeft_eq]
    generalize hl : max (place + mag.log2 - f.fractionBits) f.leastPlace = last
    obtain ⟨k1, k2⟩ := kept_bounds f hm place last hl.symm
    have hlp : f.leastPlace ≤ last := by omega
    have hsp := shift_place mag place last f.leastPlace hlp
    refine Nat.le_min.2 ⟨?_, hj⟩
    generalize hE : (last - f.leastPlace).toNat = E at hsp ⊢
    by_cases c : E ≤ e
    · have hge : n * 2 ^ (e - E) * 2 ^ (last - place).toNat ≤ mag * 2 ^ (place - last).toNat := by
        refine Nat.le_of_mul_le_mul_right ?_ (Nat.mul_pos (two_pos E) (two_pos (f.leastPlace - place).toNat))
        rw [hsp]
        rw [r1, pow_split c] at h
        have h2 := Nat.mul_le_mul_right (2 ^ (last - place).toNat) h
        refine Nat.le_trans (Nat.le_of_eq ?_) h2
        simp only [Nat.mul_assoc, Nat.mul_left_comm, Nat.mul_comm]
      have hk := cut_ge false _ _ _ hge
      have hkl := cut_le false (mag * 2 ^ (place - last).toNat) (last - place).toNat (2 * f.binade) (Nat.le_of_lt k1)
      generalize Toward.even.cut false (mag * 2 ^ (place - last).toNat) (last - place).toNat = kept at hk hkl ⊢
      rcases Nat.eq_or_lt_of_le c with c | c
      · subst c; simp at hk; omega
      · have hB : f.binade ≤ n := r3.resolve_left (by omega)
        obtain ⟨d, rfl⟩ : ∃ d, e = E + 1 + d := ⟨e - E - 1, by omega⟩
        have e1 : E + 1 + d - E = d + 1 := by omega
        rw [e1] at hk
        have hdl := two_pos d
        have hbp := binade_pos f
        rcases Nat.eq_zero_or_pos d with hd | hd
        · subst hd
          simp only [Nat.zero_add, Nat.pow_one] at hk
          rw [r4]
          have : (E + 1 + 0) * f.binade = E * f.binade + f.binade := by rw [Nat.add_zero, Nat.add_mul, Nat.one_mul]
          omega
        · exfalso
          have h4 : 4 ≤ 2 ^ (d + 1) := by
            have : 2 ^ 2 ≤ 2 ^ (d + 1) := Nat.pow_le_pow_right (by decide) (by omega)
            simpa using this
          have : n * 4 ≤ n * 2 ^ (d + 1) := Nat.mul_le_mul_left _ h4
          omega
    · have hb : f.binade * 2 ^ (last - place).toNat ≤ mag * 2 ^ (place - last).toNat := k2 (by omega)
      have hk := cut_ge false _ _ _ hb
      have : (e + 1) * f.binade ≤ E * f.binade := Nat.mul_le_mul_right _ (by omega)
      rw [Nat.add_mul, Nat.one_mul] at this
      rw [r4]
      omega

theorem nr_le (mag : Nat) (place : Int) (j : Nat) (h : mag * 2 ^ (place - f.leastPlace).toNat ≤ rv f j * 2 ^ (f.leastPlace - place).toNat) : nr f mag place ≤ j := by
  obtain ⟨n, e, r1, r2, r3, r4⟩ := rung_parts f j
  unfold nr
  by_cases hm : mag = 0
  · rw [if_pos hm]; exact Nat.zero_le _
  · rw [if_neg hm]
    simp only [Nat.shiftLeft_eq]
    generalize hl : max (place + mag.log2 - f.fractionBits) f.leastPlace = last
    obtain ⟨k1, k2⟩ := kept_bounds f hm place last hl.symm
    have hlp : f.leastPlace ≤ last := by omega
    have hsp := shift_place mag place last f.leastPlace hlp
    refine Nat.le_trans (Nat.min_le_left _ _) ?_
    generalize hE : (last - f.leastPlace).toNat = E at hsp ⊢
    rw [r1] at h
    by_cases c : E ≤ e
    · have hle : mag * 2 ^ (place - last).toNat ≤ n * 2 ^ (e - E) * 2 ^ (last - place).toNat := by
        refine Nat.le_of_mul_le_mul_right ?_ (Nat.mul_pos (two_pos E) (two_pos (f.leastPlace - place).toNat))
        rw [hsp]
        rw [pow_split c] at h
        have h2 := Nat.mul_le_mul_right (2 ^ (last - place).toNat) h
        refine Nat.le_trans h2 (Nat.le_of_eq ?_)
        simp only [Nat.mul_assoc, Nat.mul_left_comm, Nat.mul_comm]
      have hk := cut_le false _ _ _ hle
      have hkl := cut_le false (mag * 2 ^ (place - last).toNat) (last - place).toNat (2 * f.binade) (Nat.le_of_lt k1)
      generalize Toward.even.cut false (mag * 2 ^ (place - last).toNat) (last - place).toNat = kept at hk hkl ⊢
      rcases Nat.eq_or_lt_of_le c with c | c
      · subst c; simp at hk; omega
      · have hB : f.binade ≤ n := r3.resolve_left (by omega)
        have : (E + 1) * f.binade ≤ e * f.binade := Nat.mul_le_mul_right _ (by omega)
        rw [Nat.add_mul, Nat.one_mul] at this
        rw [r4]; omega
    · exfalso
      have hb : f.binade * 2 ^ (last - place).toNat ≤ mag * 2 ^ (place - last).toNat := k2 (by omega)
      have hb2 := Nat.mul_le_mul_right (2 ^ E * 2 ^ (f.leastPlace - place).toNat) hb
      rw [hsp] at hb2
      have h2 := Nat.mul_le_mul_right (2 ^ (last - place).toNat) h
      have h3 := Nat.le_trans hb2 h2
      have h4 : f.binade * 2 ^ E * (2 ^ (last - place).toNat * 2 ^ (f.leastPlace - place).toNat) ≤ n * 2 ^ e * (2 ^ (last - place).toNat * 2 ^ (f.leastPlace - place).toNat) := by
        refine Nat.le_trans (Nat.le_of_eq ?_) (Nat.le_trans h3 (Nat.le_of_eq ?_))
        · simp only [Nat.mul_assoc, Nat.mul_left_comm, Nat.mul_comm]
        · simp only [Nat.mul_assoc, Nat.mul_left_comm, Nat.mul_comm]
      have h5 := Nat.le_of_mul_le_mul_right h4 (Nat.mul_pos (two_pos _) (two_pos _))
      obtain ⟨d, rfl⟩ : ∃ d, E = e + 1 + d := ⟨E - e - 1, by omega⟩
      have e1 : f.binade * 2 ^ (e + 1 + d) = f.binade * 2 ^ d * 2 * 2 ^ e := by
        rw [Nat.pow_add, Nat.pow_succ]; simp only [Nat.mul_assoc, Nat.mul_left_comm, Nat.mul_comm]
      rw [e1] at h5
      have h6 := Nat.le_of_mul_le_mul_right h5 (two_pos e)
      have h7 : f.binade * 1 ≤ f.binade * 2 ^ d := Nat.mul_le_mul_left _ (two_pos d)
      omega
end Go.Proofs.Qxb6629173a.Fl
