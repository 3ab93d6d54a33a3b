/- The plain law, with no Go in sight: 'dd' keeps the first of each, 'Lk' a doubly linked ring told by two functions. -/
namespace Go.Proofs.Qxb6629139a.Plain

/-- Each element once, at its first place. -/
def dd : List Int → List Int
  | [] => []
  | x :: xs => x :: (dd xs).filter (fun y => y != x)

theorem mem_dd (y : Int) : ∀ l : List Int, y ∈ dd l ↔ y ∈ l
  | [] => by simp [dd]
  | x :: xs => by
    have ih := mem_dd y xs
    by_cases h : y = x
    · simp [dd, h]
    · simp [dd, h, ih]

theorem nodup_dd : ∀ l : List Int, (dd l).Nodup
  | [] => by simp [dd]
  | x :: xs => by
    simp only [dd, List.nodup_cons]
    exact ⟨by simp, (nodup_dd xs).filter _⟩

theorem dd_append : ∀ a b : List Int, dd (a ++ b) = dd a ++ (dd b).filter (fun y => !a.contains y)
  | [], b => by
    have e : (dd b).filter (fun y => !([] : List Int).contains y) = dd b := List.filter_eq_self.2 fun y _ => by simp
    rw [e]; rfl
  | x :: a, b => by
    have ih := dd_append a b
    simp only [List.cons_append, dd, ih, List.filter_append, List.filter_filter]
    congr 2
    refine List.filter_congr fun y _ => ?_
    by_cases h : y = x <;> simp [h]

theorem dd_len : ∀ l : List Int, (dd l).length ≤ l.length
  | [] => by simp [dd]
  | x :: xs => by
    have ih := dd_len xs
    have := List.length_filter_le (fun y => y != x) (dd xs)
    simp only [dd, List.length_cons]
    omega

/-- Striking x and cutting: of the first k + 1 as of the whole. -/
theorem take_strike (x : Int) : ∀ (k : Nat) (D : List Int), D.Nodup → (((D.take (k + 1)).filter (fun y => y != x)).take k) = (D.filter (fun y => y != x)).take k
  | _, [], _ => by simp
  | k, y :: D, h => by
    obtain ⟨h1, h2⟩ := List.nodup_cons.1 h
    by_cases e : y = x
    · subst e
      have f : ∀ l : List Int, (∀ z ∈ l, z ∈ D) → l.filter (fun z => z != y) = l := fun l hl => List.filter_eq_self.2 fun z hz => by
        have := hl z hz
        simp only [bne_iff_ne]
        intro e
        exact h1 (e ▸ this)
      rw [List.take_succ_cons, List.filter_cons_of_neg (by simp), List.filter_cons_of_neg (by simp), f _ (fun z hz => List.mem_of_mem_take hz), f _ (fun z hz => hz), List.take_take]
      simp
    · rw [List.take_succ_cons, List.filter_cons_of_pos (by simp [e]), List.filter_cons_of_pos (by simp [e])]
      cases k with
      | zero => simp
      | succ k => simp only [List.take_succ_cons]; rw [take_strike x k D h2]

/-- THE LEAST-RECENTLY-USED STEP. -/
theorem use_dd (c : Nat) (u : List Int) (x : Int) : (x :: ((dd u).take c).filter (fun y => y != x)).take c = (dd (x :: u)).take c := by
  cases c with
  | zero => simp
  | succ k => simp only [dd, List.take_succ_cons]; rw [take_strike x k _ (nodup_dd u)]

theorem step_A {c : Nat} {r A : List Int} (hA : A = (dd r).take c) (hlt : A.length < c) : A = dd r := by
  rw [hA]
  rw [hA, List.length_take] at hlt
  exact List.take_of_length_le (by omega)

theorem step_B {c : Nat} {r ur A B : List Int} (hA : A = (dd r).take c) (hAB : A ++ B = (dd (r ++ ur)).take c) (hlt : A.length < c) : B = ((dd ur).filter (fun y => !r.contains y)).take (c - A.length) := by
  have e := step_A hA hlt
  rw [dd_append, ← e, List.take_append, List.take_of_length_le (by omega)] at hAB
  exact List.append_cancel_left hAB

theorem step_skip {c : Nat} {r ur A B : List Int} (hA : A = (dd r).take c) (hAB : A ++ B = (dd (r ++ ur)).take c) (hlt : A.length < c) {x : Int} (hx : x ∈ A) : A = (dd (r ++ [x])).take c ∧ A ++ B = (dd (r ++ [x] ++ ur)).take c := by
  have e := step_A hA hlt
  have hxr : x ∈ r := (mem_dd x r).1 (e ▸ hx)
  have e1 : dd (r ++ [x]) = dd r := by
    rw [dd_append]; simp [dd, hxr]
  refine ⟨by rw [e1, ← hA], ?_⟩
  rw [dd_append, e1, hAB, dd_append]
  congr 2
  refine List.filter_congr fun y _ => ?_
  by_cases h : y = x
  · simp [h, hxr]
  · simp [h]

theorem step_put {c : Nat} {r ur A B : List Int} (hA : A = (dd r).take c) (hAB : A ++ B = (dd (r ++ ur)).take c) (hlt : A.length < c) {x : Int} (hx : x ∉ A) {B' : List Int} (hB' : B' = (B.filter (fun y => y != x)).take (c - A.length - 1)) :
    A ++ [x] = (dd (r ++ [x])).take c ∧ A ++ x :: B' = (dd (r ++ [x] ++ ur)).take c := by
  have e := step_A hA hlt
  have eB := step_B hA hAB hlt
  have hxr : x ∉ r := fun h => hx (e ▸ (mem_dd x r).2 h)
  have e1 : dd (r ++ [x]) = A ++ [x] := by
    rw [dd_append, ← e]; simp [dd, hxr]
  refine ⟨by rw [e1, List.take_of_length_le (by simp; omega)], ?_⟩
  rw [dd_append, e1, List.append_assoc, List.take_append, List.take_of_length_le (by omega)]
  congr 1
  obtain ⟨k, hk⟩ : ∃ k, c - A.length = k + 1 := ⟨c - A.length - 1, by omega⟩
  have hk1 : c - A.length - 1 = k := by omega
  rw [hk, List.cons_append, List.nil_append, List.take_succ_cons]
  congr 1
  have e2 : (dd ur).filter (fun y => !(r ++ [x]).contains y) = ((dd ur).filter (fun y => !r.contains y)).filter (fun y => y != x) := by
    rw [List.filter_filter]
    refine List.filter_congr fun y _ => ?_
    by_cases h : y = x <;> simp [h]
  rw [e2, hB', hk1, eB, hk, take_strike x k _ ((nodup_dd ur).filter _)]

/-- Nothing that comes before matters once A is full. -/
theorem full_end {c : Nat} {r r' ur A B : List Int} (hA : A = (dd r).take c) (hAB : A ++ B = (dd (r ++ ur)).take c) (hge : c ≤ A.length) : A ++ B = (dd (r ++ r' ++ ur)).take c := by
  have hl : A.length ≤ c := by rw [hA, List.length_take]; omega
  have hr : c ≤ (dd r).length := by
    rw [hA, List.length_take] at hge; omega
  have e1 : (dd (r ++ ur)).take c = (dd r).take c := by rw [dd_append, List.take_append_of_le_length hr]
  rw [hAB, e1, List.append_assoc, dd_append, List.take_append_of_le_length hr]

/-! ### the ring -/
def upd (f : Nat → Nat) (i v : Nat) : Nat → Nat := fun j => if j = i then v else f j
theorem upd_same (f : Nat → Nat) (i v : Nat) : upd f i v i = v := by simp [upd]
theorem upd_other (f : Nat → Nat) {i j : Nat} (v : Nat) (h : j ≠ i) : upd f i v j = f j := by simp [upd, h]

/-- From x along o through the places of l to y, and back along nw. -/
def Lk (o nw : Nat → Nat) : Nat → List Nat → Nat → Prop
  | x, [], y => o x = y ∧ nw y = x
  | x, z :: r, y => o x = z ∧ nw z = x ∧ Lk o nw z r y

theorem Lk_split {o nw : Nat → Nat} {s y : Nat} {Y : List Nat} : ∀ (X : List Nat) (x : Nat), Lk o nw x (X ++ s :: Y) y ↔ Lk o nw x X s ∧ Lk o nw s Y y
  | [], x => by simp [Lk, and_assoc]
  | z :: X, x => by simp [Lk, Lk_split X z, and_assoc]

theorem Lk_frame {o nw o' nw' : Nat → Nat} {y : Nat} : ∀ (l : List Nat) (x : Nat), Lk o nw x l y → (∀ a, a ∈ x :: l → o' a = o a) → (∀ b, b ∈ l ++ [y] → nw' b = nw b) → Lk o' nw' x l y
  | [], x, h, h1, h2 => ⟨(h1 x (by simp)).trans h.1, (h2 y (by simp)).trans h.2⟩
  | z :: r, x, h, h1, h2 => ⟨(h1 x (by simp)).trans h.1, (h2 z (by simp)).trans h.2.1,
      Lk_frame r z h.2.2 (fun a ha => h1 a (List.mem_cons_of_mem _ ha)) (fun b hb => h2 b (by simp at hb ⊢; exact Or.inr hb))⟩

/-- The place from which l ends. -/
def lastOf (x : Nat) (l : List Nat) : Nat := (x :: l).getLast (by simp)
theorem lastOf_nil (x : Nat) : lastOf x [] = x := rfl
theorem lastOf_cons (x z : Nat) (l : List Nat) : lastOf x (z :: l) = lastOf z l := by simp [lastOf]
theorem lastOf_snoc (x s : Nat) (l : List Nat) : lastOf x (l ++ [s]) = s := by
  unfold lastOf
  simp only [← List.cons_append]
  exact List.getLast_concat
theorem lastOf_mem (x : Nat) (l : List Nat) : lastOf x l ∈ x :: l := List.getLast_mem _

theorem Lk_last {o nw : Nat → Nat} {y : Nat} : ∀ (l : List Nat) (x : Nat), Lk o nw x l y → o (lastOf x l) = y ∧ nw y = lastOf x l
  | [], _, h => h
  | z :: r, x, h => by rw [lastOf_cons]; exact Lk_last r z h.2.2

/-- Taking out s. -/
theorem Lk_unlink {o nw : Nat → Nat} {s y : Nat} {Y : List Nat} : ∀ (X : List Nat) (x : Nat), Lk o nw x X s → Lk o nw s Y y → (x :: (X ++ s :: Y)).Nodup → y ∉ X ++ s :: Y →
    Lk (upd o (nw s) (o s)) (upd nw (o s) (nw s)) x (X ++ Y) y
  | [], x, h, k, hd, hy => by
    have hx : nw s = x := h.2
    rw [hx]
    cases Y with
    | nil => exact ⟨by rw [upd_same]; exact k.1, by rw [k.1, upd_same]⟩
    | cons z r =>
      have hz : o s = z := k.1
      rw [hz]
      refine ⟨upd_same _ _ _, upd_same _ _ _, Lk_frame r z k.2.2 (fun a ha => upd_other _ _ ?_) (fun b hb => upd_other _ _ ?_)⟩
      · intro e; subst e
        simp only [List.nil_append, List.nodup_cons] at hd
        exact hd.1 (List.mem_cons_of_mem _ ha)
      · intro e; subst e
        simp only [List.nil_append, List.nodup_cons] at hd
        simp at hb
        rcases hb with hb | hb
        · exact hd.2.2.1 hb
        · exact hy (by simp [hb])
  | z :: X, x, h, k, hd, hy => by
    have ih := Lk_unlink X z h.2.2 k (List.nodup_cons.1 hd).2 (fun h => hy (List.mem_cons_of_mem _ h))
    have hl := Lk_last X z h.2.2
    have hm := lastOf_mem z X
    simp only [List.cons_append, List.nodup_cons] at hd
    refine ⟨?_, ?_, ih⟩
    · rw [hl.2, upd_other _ _ (fun e => hd.1 (by rw [e]; simp at hm ⊢; rcases hm with hm | hm <;> simp [hm]))]
      exact h.1
    · rw [upd_other _ _ (fun e => ?_)]
      · exact h.2.1
      · have ho : o s ∈ Y ++ [y] := by
          cases Y with
          | nil => simp [k.1]
          | cons a r => simp [k.1]
        rw [← e] at ho
        simp at ho
        rcases ho with ho | ho
        · exact hd.2.1 (by simp [ho])
        · exact hy (by simp [ho])

/-- Putting in s behind p, the end of X. -/
theorem Lk_link {o nw : Nat → Nat} {s y : Nat} {Y : List Nat} (X : List Nat) (x : Nat) (h : Lk o nw x (X ++ Y) y) (hd : (x :: (X ++ Y)).Nodup) (hs : s ∉ x :: (X ++ Y)) (hy : y ∉ X ++ Y) (hsy : s ≠ y) :
    Lk (upd (upd o s (o (lastOf x X))) (lastOf x X) s) (upd (upd nw s (lastOf x X)) (o (lastOf x X)) s) x (X ++ s :: Y) y := by
  rw [Lk_split]
  have hm := lastOf_mem x X
  generalize hp : lastOf x X = p at hm ⊢
  have hps : p ≠ s := fun e => hs (by rw [← e]; simp at hm ⊢; rcases hm with hm | hm <;> simp [hm])
  have hq : o p ∈ Y ++ [y] := by
    clear hd hs
    induction X generalizing x with
    | nil =>
      rw [lastOf_nil] at hp; subst hp
      cases Y with
      | nil => simp [show o x = y from h.1]
      | cons a r => simp [show o x = a from h.1]
    | cons z X ih =>
      rw [lastOf_cons] at hp
      exact ih z h.2.2 (fun h => hy (List.mem_cons_of_mem _ h)) hp (by rw [← hp]; exact lastOf_mem z X)
  have hqs : o p ≠ s := by
    intro e; rw [e] at hq; simp at hq
    rcases hq with hq | hq
    · exact hs (by simp [hq])
    · exact hsy hq
  refine ⟨?_, ?_⟩
  · -- x .. p, then s
    clear hm
    induction X generalizing x with
    | nil =>
      rw [lastOf_nil] at hp; subst hp
      exact ⟨upd_same _ _ _, by rw [upd_other _ _ hqs.symm, upd_same]⟩
    | cons z X ih =>
      rw [lastOf_cons] at hp
      have hm := lastOf_mem z X
      rw [hp] at hm
      have hd1 := List.nodup_cons.1 hd
      refine ⟨?_, ?_, ih z h.2.2 hd1.2 (fun h => hs (List.mem_cons_of_mem _ h)) (fun h => hy (List.mem_cons_of_mem _ h)) hp⟩
      · rw [upd_other _ _ (fun e => hd1.1 (by rw [e]; simp at hm ⊢; rcases hm with hm | hm <;> simp [hm])), upd_other _ _ (fun e => hs (by simp [e]))]
        exact h.1
      · rw [upd_other _ _ (fun e => ?_), upd_other _ _ (fun e => hs (by simp [e]))]
        · exact h.2.1
        · rw [← e] at hq; simp at hq
          have hd2 := List.nodup_cons.1 hd1.2
          rcases hq with hq | hq
          · exact hd2.1 (by simp [hq])
          · exact hy (by simp [hq])
  · have hfr : ∀ (Z : List Nat) (v : Nat), Lk o nw p Z v → Z = Y → v = y → Lk (upd (upd o s (o p)) p s) (upd (upd nw s p) (o p) s) s Y y := by
      intro Z v hk e1 e2
      subst e1 e2
      cases Z with
      | nil =>
        have e : o p = v := hk.1
        refine ⟨by rw [upd_other _ _ hps.symm, upd_same, e], by rw [e, upd_same]⟩
      | cons a r =>
        have e : o p = a := hk.1
        refine ⟨by rw [upd_other _ _ hps.symm, upd_same, e], by rw [e, upd_same], ?_⟩
        have hnd : ∀ b, b ∈ a :: r → b ≠ p := by
          intro b hb e
          subst e
          have hd3 : (x :: X ++ a :: r).Nodup := by simpa using hd
          have := (List.nodup_append.1 hd3).2.2
          exact this b (by simp at hm ⊢; exact hm) b hb rfl
        have hns : ∀ b, b ∈ a :: r → b ≠ s := fun b hb e => hs (by subst e; simp at hb ⊢; rcases hb with hb | hb <;> simp [hb])
        have hna : (a :: r).Nodup := by
          have hd3 : (x :: X ++ a :: r).Nodup := by simpa using hd
          exact (List.nodup_append.1 hd3).2.1
        refine Lk_frame r a hk.2.2 (fun b hb => ?_) (fun b hb => ?_)
        · rw [upd_other _ _ (hnd b hb), upd_other _ _ (hns b hb)]
        · rw [upd_other _ _ ?_, upd_other _ _ ?_]
          · intro e; simp at hb
            rcases hb with hb | hb
            · exact hns b (by simp [hb]) e
            · exact hsy (e ▸ hb ▸ rfl)
          · intro e'; rw [e] at e'; subst e'; simp at hb
            rcases hb with hb | hb
            · exact (List.nodup_cons.1 hna).1 hb
            · exact hy (by simp [hb])
    have hk : Lk o nw p Y y := by
      clear hfr hm hd hs
      induction X generalizing x with
      | nil => rw [lastOf_nil] at hp; subst hp; exact h
      | cons z X ih => rw [lastOf_cons] at hp; exact ih z h.2.2 (fun h => hy (List.mem_cons_of_mem _ h)) hp
    exact hfr Y y hk rfl rfl

end Go.Proofs.Qxb6629139a.Plain
