/- The cache's shape, plainly: the ring of places, the ids that they bear, the map from ids to places. What a round of Enter does to it. -/
import Derived.Test.Qxb6629139aSlots
namespace Go.Proofs.Qxb6629139a.Walks
open Go.Proofs.Qxb6629139a.Plain
attribute [local simp] len_setO len_setN len_setI len_setC len_unlinkS len_linkS

/-- The ring L (without the root, 0), the ids' map f. -/
structure Ok (S : List Ent) (L : List Nat) (f : Int → Option Nat) : Prop where
  ring : Lk (oldr S) (newr S) 0 L 0
  nd : (0 :: L).Nodup
  lt : ∀ p ∈ L, p < S.length
  len : S.length = L.length + 1
  fm : ∀ x p, f x = some p ↔ p ∈ L ∧ idOf S p = x
  wf : ∀ p ∈ L, (Lit.int .i64 (idOf S p)).wf = true

/-- The ring L, and s out of it. -/
structure Pre (S : List Ent) (L : List Nat) (s : Nat) : Prop where
  ring : Lk (oldr S) (newr S) 0 L 0
  nd : (0 :: L).Nodup
  out : s ∉ 0 :: L
  lt : ∀ p ∈ L, p < S.length
  slt : s < S.length

def updf (f : Int → Option Nat) (x : Int) (v : Option Nat) : Int → Option Nat := fun y => if y = x then v else f y

/-- Whatever a place's links lead to is the root or on the ring. -/
theorem Lk_older_mem {o nw : Nat → Nat} {y : Nat} : ∀ (l : List Nat) (x : Nat), Lk o nw x l y → ∀ a, a ∈ x :: l → o a ∈ l ++ [y]
  | [], x, h, a, ha => by simp at ha; subst ha; simp [h.1]
  | z :: r, x, h, a, ha => by
    rcases List.mem_cons.1 ha with rfl | ha
    · simp [h.1]
    · have := Lk_older_mem r z h.2.2 a ha
      simp at this ⊢; exact Or.inr this
theorem Lk_newer_mem {o nw : Nat → Nat} {y : Nat} : ∀ (l : List Nat) (x : Nat), Lk o nw x l y → ∀ a, a ∈ l ++ [y] → nw a ∈ x :: l
  | [], x, h, a, ha => by simp at ha; subst ha; simp [h.2]
  | z :: r, x, h, a, ha => by
    rw [List.cons_append] at ha
    rcases List.mem_cons.1 ha with rfl | ha
    · simp [h.2.1]
    · have := Lk_newer_mem r z h.2.2 a ha
      exact List.mem_cons_of_mem _ this

section
variable {S : List Ent} {L : List Nat} {f : Int → Option Nat}
theorem ring_lt (hr : Lk (oldr S) (newr S) 0 L 0) (hlt : ∀ p ∈ L, p < S.length) (h0 : 0 < S.length) {a : Nat} (ha : a ∈ 0 :: L) : oldr S a < S.length ∧ newr S a < S.length := by
  have h1 := Lk_older_mem L 0 hr a ha
  have h2 := Lk_newer_mem L 0 hr a (by simp at ha ⊢; rcases ha with ha | ha <;> simp [ha])
  constructor
  · simp at h1; rcases h1 with h1 | h1
    · exact hlt _ h1
    · omega
  · simp at h2; rcases h2 with h2 | h2
    · omega
    · exact hlt _ h2

theorem Ok.pos (h : Ok S L f) : 0 < S.length := by have := h.len; omega
theorem Ok.links (h : Ok S L f) {a : Nat} (ha : a ∈ 0 :: L) : oldr S a < S.length ∧ newr S a < S.length := ring_lt h.ring h.lt h.pos ha

theorem unlink_pre {X Y : List Nat} {s : Nat} (hr : Lk (oldr S) (newr S) 0 (X ++ s :: Y) 0) (hnd : (0 :: (X ++ s :: Y)).Nodup) (hlt : ∀ p ∈ X ++ s :: Y, p < S.length) (h0 : 0 < S.length) :
    Pre (unlinkS S s) (X ++ Y) s ∧ idOf (unlinkS S s) = idOf S ∧ callOf (unlinkS S s) = callOf S := by
  have hl := ring_lt hr hlt h0 (a := s) (by simp)
  obtain ⟨e1, e2, e3, e4⟩ := unlinkS_facts hl.2 hl.1
  obtain ⟨k1, k2⟩ := (Lk_split X 0).1 hr
  have hn := List.nodup_cons.1 hnd
  refine ⟨⟨?_, ?_, ?_, ?_, ?_⟩, e3, e4⟩
  · rw [e1, e2]; exact Lk_unlink X 0 k1 k2 hnd hn.1
  · refine List.nodup_cons.2 ⟨fun h => hn.1 (by simp at h ⊢; rcases h with h | h <;> simp [h]), ?_⟩
    have := hn.2
    rw [List.nodup_append] at this ⊢
    exact ⟨this.1, (List.nodup_cons.1 this.2.1).2, fun a ha b hb => this.2.2 a ha b (List.mem_cons_of_mem _ hb)⟩
  · intro h
    rcases List.mem_cons.1 h with h | h
    · exact hn.1 (by simp [← h])
    · have := List.nodup_append.1 hn.2
      rcases List.mem_append.1 h with h | h
      · exact this.2.2 s h s (by simp) rfl
      · exact (List.nodup_cons.1 this.2.1).1 h
  · intro p hp; rw [len_unlinkS]; exact hlt p (by simp at hp ⊢; rcases hp with hp | hp <;> simp [hp])
  · rw [len_unlinkS]; exact hlt s (by simp)

theorem Pre.setI {s : Nat} (h : Pre S L s) (x : Int) : Pre (setI S s x) L s :=
  ⟨by rw [oldr_setI h.slt, newr_setI h.slt]; exact h.ring, h.nd, h.out, fun p hp => by simpa using h.lt p hp, by simpa using h.slt⟩
theorem Pre.setC {s : Nat} (h : Pre S L s) (x : Int) : Pre (setC S s x) L s :=
  ⟨by rw [oldr_setC h.slt, newr_setC h.slt]; exact h.ring, h.nd, h.out, fun p hp => by simpa using h.lt p hp, by simpa using h.slt⟩

theorem lastOf_lt {P Q : List Nat} (hlt : ∀ p ∈ P ++ Q, p < S.length) (h0 : 0 < S.length) : lastOf 0 P < S.length := by
  have := lastOf_mem 0 P
  rcases List.mem_cons.1 this with h | h
  · omega
  · exact hlt _ (by simp [h])

theorem Pre.pos {s : Nat} (h : Pre S L s) : 0 < S.length := by have := h.slt; omega
theorem Pre.links {s : Nat} (h : Pre S L s) {a : Nat} (ha : a ∈ 0 :: L) : oldr S a < S.length ∧ newr S a < S.length := ring_lt h.ring h.lt h.pos ha

theorem link_post {P Q : List Nat} {s : Nat} (h : Pre S (P ++ Q) s) :
    Lk (oldr (linkS S s (lastOf 0 P))) (newr (linkS S s (lastOf 0 P))) 0 (P ++ s :: Q) 0 ∧ (0 :: (P ++ s :: Q)).Nodup ∧ idOf (linkS S s (lastOf 0 P)) = idOf S ∧ callOf (linkS S s (lastOf 0 P)) = callOf S := by
  have hm : lastOf 0 P ∈ 0 :: (P ++ Q) := by
    have := lastOf_mem 0 P
    simp at this ⊢; rcases this with h | h <;> simp [h]
  have hl := h.links hm
  obtain ⟨e1, e2, e3, e4⟩ := linkS_facts h.slt (lastOf_lt h.lt h.pos) hl.1
  have hn := List.nodup_cons.1 h.nd
  have hs0 : s ≠ 0 := fun e => h.out (by simp [e])
  refine ⟨by rw [e1, e2]; exact Lk_link P 0 h.ring h.nd h.out hn.1 hs0, ?_, e3, e4⟩
  refine List.nodup_cons.2 ⟨fun hh => ?_, ?_⟩
  · simp at hh
    rcases hh with hh | hh | hh
    · exact hn.1 (by simp [hh])
    · exact hs0 hh.symm
    · exact hn.1 (by simp [hh])
  · have hq := List.nodup_append.1 hn.2
    have hso : s ∉ P ∧ s ∉ Q := ⟨fun hh => h.out (by simp [hh]), fun hh => h.out (by simp [hh])⟩
    rw [List.nodup_append]
    refine ⟨hq.1, List.nodup_cons.2 ⟨hso.2, hq.2.1⟩, fun a ha b hb e => ?_⟩
    subst e
    rcases List.mem_cons.1 hb with rfl | hb
    · exact hso.1 ha
    · exact hq.2.2 a ha a hb rfl

/-- A ROUND THAT MOVES A HELD ID. -/
theorem Ok.move {P Q1 Q2 : List Nat} {s : Nat} (h : Ok S (P ++ (Q1 ++ s :: Q2)) f) (c : Int) :
    Pre (unlinkS S s) (P ++ (Q1 ++ Q2)) s ∧ (∀ S3, S3 = linkS (Go.Proofs.Qxb6629139a.Walks.setC (unlinkS S s) s c) s (lastOf 0 P) →
      Ok S3 (P ++ s :: (Q1 ++ Q2)) f ∧ idOf S3 = idOf S ∧ (∀ j, callOf S3 j = if j = s then c else callOf S j)) := by
  have hr := h.ring
  have hnd := h.nd
  have hlt := h.lt
  rw [← List.append_assoc] at hr hnd hlt
  obtain ⟨hp, e3, e4⟩ := unlink_pre hr hnd hlt h.pos
  rw [List.append_assoc] at hp
  refine ⟨hp, ?_⟩
  rintro S3 rfl
  obtain ⟨g1, g2, g3, g4⟩ := link_post (hp.setC c)
  have hid : idOf (linkS (Go.Proofs.Qxb6629139a.Walks.setC (unlinkS S s) s c) s (lastOf 0 P)) = idOf S := by rw [g3, idOf_setC hp.slt, e3]
  have hmem : ∀ p, p ∈ P ++ s :: (Q1 ++ Q2) ↔ p ∈ P ++ (Q1 ++ s :: Q2) := by
    intro p; simp only [List.mem_append, List.mem_cons]
    constructor
    · rintro (h | h | h | h) <;> simp [h]
    · rintro (h | h | h | h) <;> simp [h]
  refine ⟨⟨g1, g2, ?_, ?_, ?_, ?_⟩, hid, ?_⟩
  · intro p hq; rw [len_linkS, len_setC, len_unlinkS]; exact h.lt p ((hmem p).1 hq)
  · rw [len_linkS, len_setC, len_unlinkS, h.len]; simp; omega
  · intro x p; rw [hid, hmem]; exact h.fm x p
  · intro p hq; rw [hid]; exact h.wf p ((hmem p).1 hq)
  · intro j; rw [g4, callOf_setC hp.slt, e4]

/-- A ROUND THAT TAKES A NEW PLACE. -/
theorem Ok.grow {P Q : List Nat} {x : Int} (h : Ok S (P ++ Q) f) (hx : f x = none) (hw : (Lit.int .i64 x).wf = true) (c : Int) :
    Pre (S ++ [⟨x, 0, 0, 0⟩]) (P ++ Q) S.length ∧ (∀ S3, S3 = linkS (Go.Proofs.Qxb6629139a.Walks.setC (S ++ [⟨x, 0, 0, 0⟩]) S.length c) S.length (lastOf 0 P) →
      Ok S3 (P ++ S.length :: Q) (updf f x (some S.length)) ∧ (∀ j, idOf S3 j = if j = S.length then x else idOf S j) ∧ (∀ j, callOf S3 j = if j = S.length then c else callOf S j)) := by
  have eo : ∀ j, j ≠ S.length → oldr (S ++ [⟨x, 0, 0, 0⟩]) j = oldr S j := fun j hj => by unfold oldr; rw [getD_append, if_neg hj]
  have en : ∀ j, j ≠ S.length → newr (S ++ [⟨x, 0, 0, 0⟩]) j = newr S j := fun j hj => by unfold newr; rw [getD_append, if_neg hj]
  have hne : ∀ j, j ∈ 0 :: (P ++ Q) → j ≠ S.length := fun j hj e => by
    rcases List.mem_cons.1 hj with h' | h'
    · have := h.pos; omega
    · have := h.lt j h'; omega
  have hp : Pre (S ++ [⟨x, 0, 0, 0⟩]) (P ++ Q) S.length := by
    refine ⟨Lk_frame _ _ h.ring (fun a ha => eo a (hne a ha)) (fun b hb => en b (hne b ?_)), h.nd, fun hh => hne _ hh rfl, fun p hp => ?_, by simp⟩
    · simp at hb ⊢; rcases hb with hb | hb | hb <;> simp [hb]
    · have := h.lt p hp; simp; omega
  refine ⟨hp, ?_⟩
  rintro S3 rfl
  obtain ⟨g1, g2, g3, g4⟩ := link_post (hp.setC c)
  have hid : ∀ j, idOf (linkS (Go.Proofs.Qxb6629139a.Walks.setC (S ++ [⟨x, 0, 0, 0⟩]) S.length c) S.length (lastOf 0 P)) j = if j = S.length then x else idOf S j := by
    intro j; rw [g3, idOf_setC hp.slt]; unfold idOf; rw [getD_append]; split <;> rfl
  refine ⟨⟨g1, g2, ?_, ?_, ?_, ?_⟩, hid, ?_⟩
  · intro p hq
    rw [len_linkS, len_setC]; simp
    simp only [List.mem_append, List.mem_cons] at hq
    rcases hq with hq | hq | hq
    · have := h.lt p (by simp [hq]); omega
    · omega
    · have := h.lt p (by simp [hq]); omega
  · rw [len_linkS, len_setC]; have := h.len; simp at this ⊢; omega
  · intro y p
    rw [hid]
    unfold updf
    have hmem : p ∈ P ++ S.length :: Q ↔ p = S.length ∨ p ∈ P ++ Q := by simp; constructor <;> (rintro (h | h | h) <;> simp [h])
    rw [hmem]
    by_cases hy : y = x
    · subst hy
      simp only [if_true, Option.some.injEq]
      constructor
      · intro e; subst e; simp
      · rintro ⟨h1 | h1, h2⟩
        · exact h1.symm
        · rw [if_neg (hne p (by simp at h1 ⊢; exact Or.inr h1))] at h2
          have := (h.fm y p).2 ⟨h1, h2⟩
          rw [hx] at this; cases this
    · rw [if_neg hy, h.fm]
      constructor
      · rintro ⟨h1, h2⟩
        refine ⟨Or.inr h1, ?_⟩
        rw [if_neg (hne p (List.mem_cons_of_mem _ h1))]; exact h2
      · rintro ⟨h1 | h1, h2⟩
        · rw [if_pos h1] at h2; exact absurd h2.symm hy
        · rw [if_neg (hne p (List.mem_cons_of_mem _ h1))] at h2; exact ⟨h1, h2⟩
  · intro p hq
    rw [hid]
    split
    · exact hw
    · rename_i hps
      refine h.wf p ?_
      simp only [List.mem_append, List.mem_cons] at hq ⊢
      rcases hq with hq | hq | hq
      · exact Or.inl hq
      · exact absurd hq hps
      · exact Or.inr hq
  · intro j; rw [g4, callOf_setC hp.slt]; unfold callOf; rw [getD_append]; split <;> rfl

/-- A ROUND THAT TAKES THE LAST PLACE OF THE RING. -/
theorem Ok.full {P Q1 : List Nat} {t : Nat} {x : Int} (h : Ok S (P ++ (Q1 ++ [t])) f) (hx : f x = none) (hw : (Lit.int .i64 x).wf = true) (c : Int) :
    newr S 0 = t ∧ Pre (unlinkS S t) (P ++ Q1) t ∧ (∀ S3, S3 = linkS (Go.Proofs.Qxb6629139a.Walks.setC (Go.Proofs.Qxb6629139a.Walks.setI (unlinkS S t) t x) t c) t (lastOf 0 P) →
      Ok S3 (P ++ t :: Q1) (updf (updf f (idOf S t) none) x (some t)) ∧ (∀ j, idOf S3 j = if j = t then x else idOf S j) ∧ (∀ j, callOf S3 j = if j = t then c else callOf S j)) := by
  have hr := h.ring
  have hnd := h.nd
  have hlt := h.lt
  rw [← List.append_assoc] at hr hnd hlt
  have hlast := (Lk_last _ _ hr).2
  rw [lastOf_snoc] at hlast
  obtain ⟨hp, e3, e4⟩ := unlink_pre (Y := []) hr hnd hlt h.pos
  rw [List.append_nil] at hp
  refine ⟨hlast, hp, ?_⟩
  rintro S3 rfl
  have hpi := hp.setI x
  obtain ⟨g1, g2, g3, g4⟩ := link_post (hpi.setC c)
  have hid : ∀ j, idOf (linkS (Go.Proofs.Qxb6629139a.Walks.setC (Go.Proofs.Qxb6629139a.Walks.setI (unlinkS S t) t x) t c) t (lastOf 0 P)) j = if j = t then x else idOf S j := by
    intro j; rw [g3, idOf_setC hpi.slt, idOf_setI hp.slt, e3]
  have hmem : ∀ p, p ∈ P ++ t :: Q1 ↔ p ∈ P ++ (Q1 ++ [t]) := by
    intro p; simp only [List.mem_append, List.mem_cons, List.not_mem_nil, or_false]
    constructor
    · rintro (h | h | h) <;> simp [h]
    · rintro (h | h | h) <;> simp [h]
  have ht : t ∈ P ++ (Q1 ++ [t]) := by simp
  refine ⟨⟨g1, g2, ?_, ?_, ?_, ?_⟩, hid, ?_⟩
  · intro p hq; rw [len_linkS, len_setC, len_setI, len_unlinkS]; exact h.lt p ((hmem p).1 hq)
  · rw [len_linkS, len_setC, len_setI, len_unlinkS, h.len]; simp
  · intro y p
    rw [hid, hmem]
    unfold updf
    by_cases hy : y = x
    · subst hy
      simp only [if_true, Option.some.injEq]
      constructor
      · intro e; subst e; simp
      · rintro ⟨h1, h2⟩
        by_cases hpt : p = t
        · exact hpt.symm
        · rw [if_neg hpt] at h2
          have := (h.fm y p).2 ⟨h1, h2⟩
          rw [hx] at this; cases this
    · rw [if_neg hy]
      by_cases hyt : y = idOf S t
      · rw [if_pos hyt]
        constructor
        · intro e; cases e
        · rintro ⟨h1, h2⟩
          by_cases hpt : p = t
          · rw [if_pos hpt] at h2; exact absurd h2.symm hy
          · rw [if_neg hpt] at h2
            have k1 := (h.fm y p).2 ⟨h1, h2⟩
            have k2 := (h.fm y t).2 ⟨ht, hyt.symm⟩
            rw [k1] at k2; cases k2; exact absurd rfl hpt
      · rw [if_neg hyt, h.fm]
        constructor
        · rintro ⟨h1, h2⟩
          refine ⟨h1, ?_⟩
          rw [if_neg (fun e => hyt (by rw [← h2, e]))]; exact h2
        · rintro ⟨h1, h2⟩
          refine ⟨h1, ?_⟩
          by_cases hpt : p = t
          · rw [if_pos hpt] at h2; exact absurd h2.symm hy
          · rw [if_neg hpt] at h2; exact h2
  · intro p hq
    rw [hid]
    split
    · exact hw
    · exact h.wf p ((hmem p).1 hq)
  · intro j; rw [g4, callOf_setC hpi.slt, callOf_setI hp.slt, e4]
end
end Go.Proofs.Qxb6629139a.Walks
