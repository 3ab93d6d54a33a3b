/- The plain law: two lists of entries, merged by their names. -/
import Derived.Lib.Bytealg
namespace Go.Proofs.Qxb6629217a.Pl
open Go.Lib (compareBytes)

/-! ### the order of names -/
theorem cb_self : ∀ a : List UInt8, compareBytes a a = 0
  | [] => rfl
  | x :: a => by simp [compareBytes, UInt8.lt_irrefl, cb_self a]

theorem cb_cases : ∀ a b : List UInt8, (compareBytes a b = -1 ∧ compareBytes b a = 1) ∨ (compareBytes a b = 1 ∧ compareBytes b a = -1) ∨ (compareBytes a b = 0 ∧ a = b)
  | [], [] => by simp [compareBytes]
  | [], _ :: _ => by simp [compareBytes]
  | _ :: _, [] => by simp [compareBytes]
  | x :: a, y :: b => by
    have ih := cb_cases a b
    by_cases h1 : x < y
    · have h2 : ¬ y < x := fun h => by have := UInt8.lt_trans h1 h; exact UInt8.lt_irrefl x this
      left; simp [compareBytes, h1, h2]
    · by_cases h2 : y < x
      · right; left; simp [compareBytes, h1, h2]
      · have e : x = y := UInt8.le_antisymm (UInt8.not_lt.1 h2) (UInt8.not_lt.1 h1)
        subst e
        rcases ih with ⟨i1, i2⟩ | ⟨i1, i2⟩ | ⟨i1, i2⟩
        · left; simp [compareBytes, h1, i1, i2]
        · right; left; simp [compareBytes, h1, i1, i2]
        · right; right; subst i2; simp [compareBytes, h1, i1]

theorem cb_trans : ∀ a b c : List UInt8, compareBytes a b < 0 → compareBytes b c < 0 → compareBytes a c < 0
  | [], [], _, h, _ => by simp [compareBytes] at h
  | [], _ :: _, [], _, h => by simp [compareBytes] at h
  | [], _ :: _, _ :: _, _, _ => by simp [compareBytes]
  | _ :: _, [], _, h, _ => by simp [compareBytes] at h
  | _ :: _, _ :: _, [], _, h => by simp [compareBytes] at h
  | x :: a, y :: b, z :: c, h1, h2 => by
    have ih := cb_trans a b c
    simp only [compareBytes] at h1 h2 ⊢
    by_cases xy : x < y
    · by_cases yz : y < z
      · rw [if_pos (UInt8.lt_trans xy yz)]; decide
      · by_cases zy : z < y
        · rw [if_neg yz, if_pos zy] at h2; omega
        · have e : y = z := UInt8.le_antisymm (UInt8.not_lt.1 zy) (UInt8.not_lt.1 yz)
          subst e; rw [if_pos xy]; decide
    · by_cases yx : y < x
      · rw [if_neg xy, if_pos yx] at h1; omega
      · have e : x = y := UInt8.le_antisymm (UInt8.not_lt.1 yx) (UInt8.not_lt.1 xy)
        subst e
        rw [if_neg xy, if_neg xy] at h1
        by_cases yz : x < z
        · rw [if_pos yz]; decide
        · by_cases zy : z < x
          · rw [if_neg yz, if_pos zy] at h2; omega
          · rw [if_neg yz, if_neg zy] at h2 ⊢; exact ih h1 h2

/-- Where the first i bytes are the same. -/
theorem cb_take : ∀ (a b : List UInt8) (i : Nat), i ≤ a.length → i ≤ b.length → a.take i = b.take i → compareBytes a b = compareBytes (a.drop i) (b.drop i)
  | _, _, 0, _, _, _ => by simp
  | x :: a, y :: b, i + 1, h1, h2, h => by
    simp only [List.take_succ_cons, List.cons.injEq] at h
    obtain ⟨rfl, h⟩ := h
    simp only [List.drop_succ_cons, compareBytes, if_neg (UInt8.lt_irrefl x)]
    exact cb_take a b i (by simpa using h1) (by simpa using h2) h
  | [], _, _ + 1, h, _, _ => by simp at h
  | _ :: _, [], _ + 1, _, h, _ => by simp at h

theorem cb_at {a b : List UInt8} {i : Nat} (h1 : i < a.length) (h2 : i < b.length) (h : a.take i = b.take i) (hne : a.getD i 0 ≠ b.getD i 0) : compareBytes a b < 0 ↔ a.getD i 0 < b.getD i 0 := by
  rw [cb_take a b i (by omega) (by omega) h]
  rw [List.drop_eq_getElem_cons h1, List.drop_eq_getElem_cons h2]
  have e1 : a.getD i 0 = a[i] := by simp [List.getD_eq_getElem?_getD, List.getElem?_eq_getElem h1]
  have e2 : b.getD i 0 = b[i] := by simp [List.getD_eq_getElem?_getD, List.getElem?_eq_getElem h2]
  rw [e1, e2] at hne ⊢
  simp only [compareBytes]
  by_cases c : a[i] < b[i]
  · simp [c]
  · have : b[i] < a[i] := UInt8.lt_of_le_of_ne (UInt8.not_lt.1 c) (Ne.symm hne)
    simp [c, this]
theorem cb_end {a b : List UInt8} {i : Nat} (hi : i = min a.length b.length) (h : a.take i = b.take i) : compareBytes a b < 0 ↔ a.length < b.length := by
  rw [cb_take a b i (by omega) (by omega) h]
  rcases Nat.lt_trichotomy a.length b.length with c | c | c
  · have e : i = a.length := by omega
    subst e
    rw [List.drop_length]
    obtain ⟨y, r, hy⟩ : ∃ y r, b.drop a.length = y :: r := ⟨_, _, List.drop_eq_getElem_cons c⟩
    rw [hy]; simp [compareBytes, c]
  · have e : i = a.length := by omega
    subst e
    rw [List.drop_length, c, List.drop_length]; simp [compareBytes]
  · have e : i = b.length := by omega
    subst e
    rw [List.drop_length]
    obtain ⟨y, r, hy⟩ : ∃ y r, a.drop b.length = y :: r := ⟨_, _, List.drop_eq_getElem_cons c⟩
    rw [hy]; simp [compareBytes]; omega

/-! ### the merge -/
/-- An entry: a name and its count. -/
abbrev E : Type := List UInt8 × Nat

def mg : Nat → List E → List E → Bool → Bool → Bool × Bool
  | 0, a, b, x, y => (x || !a.isEmpty, y || !b.isEmpty)
  | _ + 1, [], b, x, y => (x, y || !b.isEmpty)
  | _ + 1, _ :: _, [], _, y => (true, y)
  | n + 1, (k, c) :: a, (l, d) :: b, x, y =>
    if compareBytes k l < 0 then mg n a ((l, d) :: b) true y
    else if 0 < compareBytes k l then mg n ((k, c) :: a) b x true
    else mg n a b (x || decide (d < c)) (y || decide (c < d))

theorem mg_true_l (n : Nat) : ∀ (a b : List E) (y : Bool), (mg n a b true y).1 = true := by
  induction n with
  | zero => intro a b y; simp [mg]
  | succ n ih =>
    intro a b y
    cases a with
    | nil => simp [mg]
    | cons p a =>
      cases b with
      | nil => simp [mg]
      | cons q b =>
        obtain ⟨k, c⟩ := p
        obtain ⟨l, d⟩ := q
        simp only [mg]
        split
        · exact ih _ _ _
        · split
          · exact ih _ _ _
          · simpa using ih a b _
theorem mg_true_r (n : Nat) : ∀ (a b : List E) (x : Bool), (mg n a b x true).2 = true := by
  induction n with
  | zero => intro a b x; simp [mg]
  | succ n ih =>
    intro a b x
    cases a with
    | nil => simp [mg]
    | cons p a =>
      cases b with
      | nil => simp [mg]
      | cons q b =>
        obtain ⟨k, c⟩ := p
        obtain ⟨l, d⟩ := q
        simp only [mg]
        split
        · exact ih _ _ _
        · split
          · exact ih _ _ _
          · simpa using ih a b _

/-- Mirrored. -/
theorem mg_swap (n : Nat) : ∀ (a b : List E) (x y : Bool), mg n b a y x = ((mg n a b x y).2, (mg n a b x y).1) := by
  induction n with
  | zero => intro a b x y; rfl
  | succ n ih =>
    intro a b x y
    cases a with
    | nil =>
      cases b with
      | nil => simp [mg]
      | cons q b => simp [mg]
    | cons p a =>
      cases b with
      | nil => simp [mg]
      | cons q b =>
        obtain ⟨k, c⟩ := p
        obtain ⟨l, d⟩ := q
        simp only [mg]
        rcases cb_cases k l with ⟨h1, h2⟩ | ⟨h1, h2⟩ | ⟨h1, h2⟩
        · rw [h1, h2, if_neg (by decide), if_pos (by decide), if_pos (by decide)]; exact ih _ _ _ _
        · rw [h1, h2, if_pos (by decide), if_neg (by decide), if_pos (by decide)]; exact ih _ _ _ _
        · subst h2
          rw [h1, if_neg (by decide), if_neg (by decide), if_neg (by decide), if_neg (by decide)]; exact ih _ _ _ _

/-- Nothing above on either side: the two are one. -/
theorem mg_same (n : Nat) : ∀ (a b : List E) (x y : Bool), a.length + b.length ≤ n → (mg n a b x y = (false, false) ↔ x = false ∧ y = false ∧ a = b) := by
  induction n with
  | zero =>
    intro a b x y h
    obtain rfl : a = [] := List.eq_nil_of_length_eq_zero (by omega)
    obtain rfl : b = [] := List.eq_nil_of_length_eq_zero (by omega)
    simp [mg]
  | succ n ih =>
    intro a b x y h
    cases a with
    | nil =>
      cases b with
      | nil => simp [mg]
      | cons q b => simp [mg]
    | cons p a =>
      cases b with
      | nil => simp [mg]
      | cons q b =>
        obtain ⟨k, c⟩ := p
        obtain ⟨l, d⟩ := q
        simp only [List.length_cons] at h
        simp only [mg]
        rcases cb_cases k l with ⟨h1, h2⟩ | ⟨h1, h2⟩ | ⟨h1, h2⟩
        · rw [h1, if_pos (by decide)]
          have hne : k ≠ l := by intro e; subst e; rw [cb_self] at h1; omega
          constructor
          · intro e; have := mg_true_l n a ((l, d) :: b) y; rw [e] at this; simp at this
          · rintro ⟨_, _, e⟩
            simp only [List.cons.injEq, Prod.mk.injEq] at e
            exact absurd e.1.1 hne
        · rw [h1, if_neg (by decide), if_pos (by decide)]
          have hne : k ≠ l := by intro e; subst e; rw [cb_self] at h1; omega
          constructor
          · intro e; have := mg_true_r n ((k, c) :: a) b x; rw [e] at this; simp at this
          · rintro ⟨_, _, e⟩
            simp only [List.cons.injEq, Prod.mk.injEq] at e
            exact absurd e.1.1 hne
        · subst h2
          rw [h1, if_neg (by decide), if_neg (by decide), ih a b _ _ (by omega)]
          simp only [Bool.or_eq_false_iff, decide_eq_false_iff_not, List.cons.injEq, Prod.mk.injEq]
          constructor
          · rintro ⟨⟨hx, hc⟩, ⟨hy, hd⟩, e⟩
            exact ⟨hx, hy, ⟨trivial, by omega⟩, e⟩
          · rintro ⟨hx, hy, ⟨_, hcd⟩, e⟩
            exact ⟨⟨hx, by omega⟩, ⟨hy, by omega⟩, e⟩

/-! ### the pointwise order -/
/-- What a vector counts for a name. -/
def cnt : List E → List UInt8 → Nat
  | [], _ => 0
  | (k, c) :: r, l => if k = l then c else cnt r l
def atMost (a b : List E) : Prop := ∀ p ∈ a, p.2 ≤ cnt b p.1
/-- Names strictly rising, counts above 0. -/
def Wf : List E → Prop
  | [] => True
  | (k, c) :: r => 0 < c ∧ (∀ p ∈ r, compareBytes k p.1 < 0) ∧ Wf r

theorem cnt_absent {k : List UInt8} : ∀ {b : List E}, (∀ p ∈ b, p.1 ≠ k) → cnt b k = 0
  | [], _ => rfl
  | (l, d) :: r, h => by
    simp only [cnt]
    rw [if_neg (h (l, d) (by simp))]
    exact cnt_absent (fun p hp => h p (by simp [hp]))

theorem lt_ne {k l : List UInt8} (h : compareBytes k l < 0) : l ≠ k := by
  intro e; subst e; rw [cb_self] at h; omega

theorem mg_order (n : Nat) : ∀ (a b : List E) (x y : Bool), a.length + b.length ≤ n → Wf a → Wf b →
    ((mg n a b x y).1 = true ↔ x = true ∨ ¬ atMost a b) ∧ ((mg n a b x y).2 = true ↔ y = true ∨ ¬ atMost b a) := by
  induction n with
  | zero =>
    intro a b x y h _ _
    obtain rfl : a = [] := List.eq_nil_of_length_eq_zero (by omega)
    obtain rfl : b = [] := List.eq_nil_of_length_eq_zero (by omega)
    simp [mg, atMost]
  | succ n ih =>
    intro a b x y h ha hb
    cases a with
    | nil =>
      cases b with
      | nil => simp [mg, atMost]
      | cons q b =>
        obtain ⟨l, d⟩ := q
        have hd : 0 < d := hb.1
        have e : ¬ atMost ((l, d) :: b) [] := by
          intro hm; have := hm (l, d) (by simp); simp [cnt] at this; omega
        simp only [mg]
        refine ⟨by simp [atMost], ?_⟩
        simp [e]
    | cons p a =>
      cases b with
      | nil =>
        obtain ⟨k, c⟩ := p
        have hc : 0 < c := ha.1
        have e : ¬ atMost ((k, c) :: a) [] := by
          intro hm; have := hm (k, c) (by simp); simp [cnt] at this; omega
        simp only [mg]
        refine ⟨by simp [e], by simp [atMost]⟩
      | cons q b =>
        obtain ⟨k, c⟩ := p
        obtain ⟨l, d⟩ := q
        simp only [List.length_cons] at h
        simp only [mg]
        rcases cb_cases k l with ⟨h1, h2⟩ | ⟨h1, h2⟩ | ⟨h1, h2⟩
        · rw [h1, if_pos (by decide)]
          obtain ⟨i1, i2⟩ := ih a ((l, d) :: b) true y (by simp; omega) ha.2.2 hb
          have hk : ∀ p ∈ (l, d) :: b, compareBytes k p.1 < 0 := by
            intro p hp
            rcases List.mem_cons.1 hp with rfl | hp
            · rw [h1]; decide
            · exact cb_trans k l p.1 (by rw [h1]; decide) (hb.2.1 p hp)
          have hz : cnt ((l, d) :: b) k = 0 := cnt_absent (fun p hp => lt_ne (hk p hp))
          have e1 : ¬ atMost ((k, c) :: a) ((l, d) :: b) := by
            intro hm; have := hm (k, c) (by simp); have h0 := ha.1; simp only [hz] at this; omega
          have e2 : atMost ((l, d) :: b) ((k, c) :: a) ↔ atMost ((l, d) :: b) a := by
            unfold atMost
            constructor
            · intro hm p hp
              have := hm p hp
              simp only [cnt] at this
              rwa [if_neg (fun e => lt_ne (hk p hp) e.symm)] at this
            · intro hm p hp
              simp only [cnt]
              rw [if_neg (fun e => lt_ne (hk p hp) e.symm)]
              exact hm p hp
          exact ⟨by rw [i1]; simp [e1], by rw [i2, e2]⟩
        · rw [h1, if_neg (by decide), if_pos (by decide)]
          obtain ⟨i1, i2⟩ := ih ((k, c) :: a) b x true (by simp; omega) ha hb.2.2
          have hk : ∀ p ∈ (k, c) :: a, compareBytes l p.1 < 0 := by
            intro p hp
            rcases List.mem_cons.1 hp with rfl | hp
            · show compareBytes l k < 0; rw [h2]; decide
            · exact cb_trans l k p.1 (by rw [h2]; decide) (ha.2.1 p hp)
          have hz : cnt ((k, c) :: a) l = 0 := cnt_absent (fun p hp => lt_ne (hk p hp))
          have e1 : ¬ atMost ((l, d) :: b) ((k, c) :: a) := by
            intro hm; have := hm (l, d) (by simp); have h0 := hb.1; simp only [hz] at this; omega
          have e2 : atMost ((k, c) :: a) ((l, d) :: b) ↔ atMost ((k, c) :: a) b := by
            unfold atMost
            constructor
            · intro hm p hp
              have := hm p hp
              simp only [cnt] at this
              rwa [if_neg (fun e => lt_ne (hk p hp) e.symm)] at this
            · intro hm p hp
              simp only [cnt]
              rw [if_neg (fun e => lt_ne (hk p hp) e.symm)]
              exact hm p hp
          exact ⟨by rw [i1, e2], by rw [i2]; simp [e1]⟩
        · subst h2
          rw [h1, if_neg (by decide), if_neg (by decide)]
          obtain ⟨i1, i2⟩ := ih a b (x || decide (d < c)) (y || decide (c < d)) (by omega) ha.2.2 hb.2.2
          have key : ∀ (u v : List E) (s t : Nat), (∀ p ∈ u, compareBytes k p.1 < 0) → (atMost ((k, s) :: u) ((k, t) :: v) ↔ s ≤ t ∧ atMost u v) := by
            intro u v s t hu
            unfold atMost
            constructor
            · intro hm
              have h0 := hm (k, s) (by simp)
              simp only [cnt, if_true] at h0
              refine ⟨h0, fun p hp => ?_⟩
              have := hm p (by simp [hp])
              simp only [cnt] at this
              rwa [if_neg (fun e => lt_ne (hu p hp) e.symm)] at this
            · rintro ⟨h0, hm⟩ p hp
              rcases List.mem_cons.1 hp with rfl | hp
              · simp only [cnt, if_true]; exact h0
              · simp only [cnt]
                rw [if_neg (fun e => lt_ne (hu p hp) e.symm)]
                exact hm p hp
          rw [i1, i2, key a b c d ha.2.1, key b a d c hb.2.1]
          simp only [Bool.or_eq_true, decide_eq_true_eq]
          constructor
          · constructor
            · rintro ((hx | hx) | hx)
              · exact .inl hx
              · exact .inr (fun hh => by omega)
              · exact .inr (fun hh => hx hh.2)
            · rintro (hx | hx)
              · exact .inl (.inl hx)
              · by_cases hdc : d < c
                · exact .inl (.inr hdc)
                · exact .inr (fun hm => hx ⟨by omega, hm⟩)
          · constructor
            · rintro ((hx | hx) | hx)
              · exact .inl hx
              · exact .inr (fun hh => by omega)
              · exact .inr (fun hh => hx hh.2)
            · rintro (hx | hx)
              · exact .inl (.inl hx)
              · by_cases hdc : c < d
                · exact .inl (.inr hdc)
                · exact .inr (fun hm => hx ⟨by omega, hm⟩)
end Go.Proofs.Qxb6629217a.Pl
