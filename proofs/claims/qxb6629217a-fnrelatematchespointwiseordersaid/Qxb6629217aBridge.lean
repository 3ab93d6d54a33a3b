/- From the lists of cells to the plain law. -/
import Derived.Test.Qxb6629217aMost
namespace Go.Proofs.Qxb6629217a.Wk
open Go.RowKit Go.Proofs.Qxb6629217a.Pl
set_option linter.unusedVariables false

theorem ens_len (ns cs) : ∀ p i, (ens ns cs p i).length = p
  | 0, _ => rfl
  | p + 1, i => by simp [ens, ens_len ns cs p (i + 1)]

theorem ens_mem (ns cs) (e : E) : ∀ p i, e ∈ ens ns cs p i ↔ ∃ k, i ≤ k ∧ k < i + p ∧ e = ((nm ns k).data.toList, (ct cs k).toNat)
  | 0, i => by
    simp only [ens, List.not_mem_nil, false_iff]
    rintro ⟨k, h1, h2, _⟩; omega
  | p + 1, i => by
    simp only [ens, List.mem_cons]
    rw [ens_mem ns cs e p (i + 1)]
    constructor
    · rintro (h | ⟨k, h1, h2, h3⟩)
      · exact ⟨i, Nat.le_refl _, by omega, h⟩
      · exact ⟨k, by omega, by omega, h3⟩
    · rintro ⟨k, h1, h2, h3⟩
      rcases Nat.lt_or_eq_of_le h1 with c | c
      · exact .inr ⟨k, by omega, by omega, h3⟩
      · subst c; exact .inl h3

theorem ens_eq {n1 n2 : List ByteArray} {c1 c2 : List Int} (h1 : ∀ k, 0 ≤ ct c1 k) (h2 : ∀ k, 0 ≤ ct c2 k) : ∀ p i, ens n1 c1 p i = ens n2 c2 p i ↔ ∀ k, i ≤ k → k < i + p → nm n1 k = nm n2 k ∧ ct c1 k = ct c2 k
  | 0, i => by
    simp only [ens, true_iff]
    intro k a b; omega
  | p + 1, i => by
    simp only [ens, List.cons.injEq, Prod.mk.injEq]
    rw [ens_eq h1 h2 p (i + 1)]
    constructor
    · rintro ⟨⟨a, b⟩, h⟩ k k1 k2
      rcases Nat.lt_or_eq_of_le k1 with c | c
      · exact h k (by omega) (by omega)
      · subst c; exact ⟨ba_inj a, by have := h1 i; have := h2 i; omega⟩
    · intro h
      obtain ⟨a, b⟩ := h i (Nat.le_refl _) (by omega)
      exact ⟨⟨by rw [a], by rw [b]⟩, fun k k1 k2 => h k (by omega) (by omega)⟩

theorem alike_iff {n1 n2 : List ByteArray} {c1 c2 : List Int} (h1 : ∀ k, 0 ≤ ct c1 k) (h2 : ∀ k, 0 ≤ ct c2 k) : Alike n1 c1 n2 c2 ↔ ens n1 c1 n1.length 0 = ens n2 c2 n2.length 0 := by
  unfold Alike
  constructor
  · rintro ⟨hl, h⟩
    rw [← hl]
    exact (ens_eq h1 h2 _ _).2 (fun k _ hk => h k (by omega))
  · intro h
    have hl : n1.length = n2.length := by have := congrArg List.length h; rwa [ens_len, ens_len] at this
    rw [← hl] at h
    exact ⟨hl, fun k hk => (ens_eq h1 h2 _ _).1 h k (by omega) (by omega)⟩

theorem cnF_cnt {ns : List ByteArray} {cs : List Int} (s : ByteArray) (h : ∀ k, 0 ≤ ct cs k) : ∀ p i, 0 ≤ cnF ns cs s p i ∧ (cnF ns cs s p i).toNat = cnt (ens ns cs p i) s.data.toList
  | 0, _ => ⟨Int.le_refl _, rfl⟩
  | p + 1, i => by
    simp only [cnF, ens, cnt]
    by_cases c : nm ns i = s
    · rw [if_pos c, if_pos (by rw [c])]; exact ⟨h i, rfl⟩
    · rw [if_neg c, if_neg (fun e => c (ba_inj e))]; exact cnF_cnt s h p (i + 1)

theorem most_iff {n1 n2 : List ByteArray} {c1 c2 : List Int} (h1 : ∀ k, 0 ≤ ct c1 k) (h2 : ∀ k, 0 ≤ ct c2 k) : Most n1 c1 n2 c2 ↔ atMost (ens n1 c1 n1.length 0) (ens n2 c2 n2.length 0) := by
  unfold Most atMost
  constructor
  · intro h e he
    obtain ⟨k, _, hk, rfl⟩ := (ens_mem _ _ _ _ _).1 he
    obtain ⟨q1, q2⟩ := cnF_cnt (ns := n2) (cs := c2) (nm n1 k) h2 n2.length 0
    have := h k (by omega)
    simp only
    rw [← q2]
    omega
  · intro h k hk
    obtain ⟨q1, q2⟩ := cnF_cnt (ns := n2) (cs := c2) (nm n1 k) h2 n2.length 0
    have := h _ ((ens_mem n1 c1 _ n1.length 0).2 ⟨k, by omega, by omega, rfl⟩)
    simp only at this
    rw [← q2] at this
    have := h1 k
    omega

theorem good_lt {ns : List ByteArray} {cs : List Int} (h : Good ns cs) (i : Nat) : ∀ d, i + d + 1 < ns.length → cb (nm ns i) (nm ns (i + d + 1)) < 0
  | 0, hd => (h.2 (i + 1) hd).2 (by omega)
  | d + 1, hd => cb_trans _ _ _ (good_lt h i d (by omega)) ((h.2 (i + d + 1 + 1) hd).2 (by omega))

theorem good_wf {ns : List ByteArray} {cs : List Int} (h : Good ns cs) (h1 : ∀ k, 0 ≤ ct cs k) : ∀ p i, i + p ≤ ns.length → Wf (ens ns cs p i)
  | 0, _, _ => trivial
  | p + 1, i, hl => by
    simp only [ens, Wf]
    refine ⟨?_, ?_, good_wf h h1 p (i + 1) (by omega)⟩
    · have := (h.2 i (by omega)).1; have := h1 i; omega
    · intro e he
      obtain ⟨k, k1, k2, rfl⟩ := (ens_mem _ _ _ _ _).1 he
      obtain ⟨d, rfl⟩ : ∃ d, k = i + d + 1 := ⟨k - i - 1, by omega⟩
      exact good_lt h i d (by omega)

/-- Relate's number, of v and of w. -/
def rnum (n1 : List ByteArray) (c1 : List Int) (n2 : List ByteArray) (c2 : List Int) : Int := code (mg (n1.length + n2.length) (ens n1 c1 n1.length 0) (ens n2 c2 n2.length 0) false false)

/-- The plain law of 'same' and of the mirror. -/
theorem law_same {n1 n2 : List ByteArray} {c1 c2 : List Int} (h1 : ∀ k, 0 ≤ ct c1 k) (h2 : ∀ k, 0 ≤ ct c2 k) :
    (rnum n1 c1 n2 c2 = 0 ∧ rnum n2 c2 n1 c1 = 0 ∧ Alike n1 c1 n2 c2) ∨ (rnum n1 c1 n2 c2 = 1 ∧ rnum n2 c2 n1 c1 = 2 ∧ ¬ Alike n1 c1 n2 c2) ∨
    (rnum n1 c1 n2 c2 = 2 ∧ rnum n2 c2 n1 c1 = 1 ∧ ¬ Alike n1 c1 n2 c2) ∨ (rnum n1 c1 n2 c2 = 3 ∧ rnum n2 c2 n1 c1 = 3 ∧ ¬ Alike n1 c1 n2 c2) := by
  rw [alike_iff h1 h2]
  have hs := mg_same (n1.length + n2.length) (ens n1 c1 n1.length 0) (ens n2 c2 n2.length 0) false false (by rw [ens_len, ens_len]; exact Nat.le_refl _)
  have hw := mg_swap (n1.length + n2.length) (ens n1 c1 n1.length 0) (ens n2 c2 n2.length 0) false false
  unfold rnum
  rw [Nat.add_comm n2.length n1.length, hw]
  simp only [true_and] at hs
  rw [← hs]
  generalize mg (n1.length + n2.length) (ens n1 c1 n1.length 0) (ens n2 c2 n2.length 0) false false = r
  obtain ⟨x, y⟩ := r
  cases x <;> cases y <;> simp [code]

/-- The plain law of the pointwise order. -/
theorem law_order {n1 n2 : List ByteArray} {c1 c2 : List Int} (h1 : ∀ k, 0 ≤ ct c1 k) (h2 : ∀ k, 0 ≤ ct c2 k) (g1 : Good n1 c1) (g2 : Good n2 c2) :
    (rnum n1 c1 n2 c2 = 0 ∧ Most n1 c1 n2 c2 ∧ Most n2 c2 n1 c1) ∨ (rnum n1 c1 n2 c2 = 1 ∧ Most n1 c1 n2 c2 ∧ ¬ Most n2 c2 n1 c1) ∨
    (rnum n1 c1 n2 c2 = 2 ∧ ¬ Most n1 c1 n2 c2 ∧ Most n2 c2 n1 c1) ∨ (rnum n1 c1 n2 c2 = 3 ∧ ¬ Most n1 c1 n2 c2 ∧ ¬ Most n2 c2 n1 c1) := by
  rw [most_iff h1 h2, most_iff h2 h1]
  obtain ⟨i1, i2⟩ := mg_order (n1.length + n2.length) (ens n1 c1 n1.length 0) (ens n2 c2 n2.length 0) false false (by rw [ens_len, ens_len]; exact Nat.le_refl _) (good_wf g1 h1 _ _ (by omega)) (good_wf g2 h2 _ _ (by omega))
  unfold rnum
  revert i1 i2
  generalize mg (n1.length + n2.length) (ens n1 c1 n1.length 0) (ens n2 c2 n2.length 0) false false = r
  obtain ⟨x, y⟩ := r
  intro i1 i2
  by_cases a : atMost (ens n1 c1 n1.length 0) (ens n2 c2 n2.length 0) <;> by_cases b : atMost (ens n2 c2 n2.length 0) (ens n1 c1 n1.length 0) <;> simp [a, b] at i1 i2 <;> simp [a, b, i1, i2, code]
end Go.Proofs.Qxb6629217a.Wk
