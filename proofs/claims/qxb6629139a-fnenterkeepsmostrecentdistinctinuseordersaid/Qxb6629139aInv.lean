/- What holds between two rounds of Enter, and what each kind of round does to it. -/
import Derived.Test.Qxb6629139aNew
namespace Go.Proofs.Qxb6629139a.Walks
open Go.RowKit Go.Proofs.Qxb6629139a.Plain
attribute [local simp] len_setO len_setN len_setI len_setC len_unlinkS len_linkS
set_option linter.unusedVariables false

/-- The map reads as f. -/
def MapIs (D : DataW Unit) (f : Int → Option Nat) : Prop :=
  (∀ x, Maps.has D (.int .i64 x) = (f x).isSome) ∧ ∀ x p, f x = some p → D.atKey (.int .i64 x) (.lit (.int .i64 0)) = .lit (.int .i64 p)

theorem isKey (x : Int) : WideAt.IsKeyLit (.int .i64 x) := by simp [WideAt.IsKeyLit]

theorem MapIs.empty : MapIs (.map []) (fun _ => none) := ⟨fun _ => rfl, fun _ _ h => by cases h⟩

theorem MapIs.put {D : DataW Unit} {f : Int → Option Nat} (h : MapIs D f) (hm : Maps.IsMap D) (x : Int) (p : Nat) : MapIs (D.put (.int .i64 x) (.lit (.int .i64 p))) (updf f x (some p)) := by
  constructor
  · intro y
    unfold updf
    by_cases e : y = x
    · subst e; rw [Maps.has_put_same hm (isKey y)]; simp
    · rw [Maps.has_put_other (by simpa using e), if_neg e]; exact h.1 y
  · intro y q hq
    unfold updf at hq
    by_cases e : y = x
    · subst e; simp at hq; subst hq; rw [Maps.atKey_put_same hm (isKey y)]
    · rw [if_neg e] at hq; rw [Maps.atKey_put_other (by simpa using e)]; exact h.2 y q hq

theorem MapIs.del {D : DataW Unit} {f : Int → Option Nat} (h : MapIs D f) (x : Int) : MapIs (D.del (.int .i64 x)) (updf f x none) := by
  constructor
  · intro y
    unfold updf
    by_cases e : y = x
    · subst e; rw [Maps.has_del_same]; simp
    · rw [Maps.has_del_other (by simpa using e), if_neg e]; exact h.1 y
  · intro y q hq
    unfold updf at hq
    by_cases e : y = x
    · subst e; simp at hq
    · rw [if_neg e] at hq; rw [Maps.atKey_del_other (by simpa using e)]; exact h.2 y q hq

structure Inv (w0 wr : World) (base C bm : Nat) (cap calls : Int) (ur r : List Int) (g scap : Nat) (S : List Ent) (D : DataW Unit) (f : Int → Option Nat) (P Q : List Nat) : Prop where
  rep : Rep wr base C g scap bm cap calls S D
  mis : MapIs D f
  ok : Ok S (P ++ Q) f
  sz : Maps.size D = (P ++ Q).length
  hP : P.map (idOf S) = (dd r).take cap.toNat
  hPQ : (P ++ Q).map (idOf S) = (dd (r ++ ur)).take cap.toNat
  cP : ∀ p ∈ P, callOf S p = calls
  cQ : ∀ p ∈ Q, callOf S p < calls
  bel : Below base w0 wr

variable {w0 wr : World} {base C bm : Nat} {cap calls : Int} {ur r : List Int} {g scap : Nat} {S : List Ent} {D : DataW Unit} {f : Int → Option Nat} {P Q : List Nat}

theorem Inv.len (h : Inv w0 wr base C bm cap calls ur r g scap S D f P Q) : S.length = P.length + Q.length + 1 := by
  have := h.ok.len; simp at this; omega
theorem Inv.lenle (h : Inv w0 wr base C bm cap calls ur r g scap S D f P Q) : P.length + Q.length ≤ r.length + ur.length ∧ P.length + Q.length ≤ cap.toNat ∧ P.length ≤ cap.toNat := by
  have e := congrArg List.length h.hPQ
  have e2 := congrArg List.length h.hP
  have := dd_len (r ++ ur)
  simp [List.length_take] at e e2 this
  omega

theorem mem_ids {S : List Ent} {l : List Nat} {p : Nat} (h : p ∈ l) : idOf S p ∈ l.map (idOf S) := List.mem_map_of_mem h

/-- The place that the map names. -/
theorem Inv.found (h : Inv w0 wr base C bm cap calls ur r g scap S D f P Q) {x : Int} {p : Nat} (hx : f x = some p) : p ∈ P ++ Q ∧ idOf S p = x := (h.ok.fm x p).1 hx

/-- Two places of the ring do not bear one id. -/
theorem Inv.inj (h : Inv w0 wr base C bm cap calls ur r g scap S D f P Q) {p q : Nat} (hp : p ∈ P ++ Q) (hq : q ∈ P ++ Q) (e : idOf S p = idOf S q) : p = q := by
  have h1 := (h.ok.fm (idOf S p) p).2 ⟨hp, rfl⟩
  have h2 := (h.ok.fm (idOf S p) q).2 ⟨hq, e.symm⟩
  rw [h1] at h2; cases h2; rfl

theorem Inv.skip (h : Inv w0 wr base C bm cap calls ur r g scap S D f P Q) (hlt : P.length < cap.toNat) {x : Int} {p : Nat} (hp : p ∈ P) (hx : idOf S p = x) {w' : World} (hr : Rep w' base C g scap bm cap calls S D) (hb : Below base w0 w') :
    Inv w0 w' base C bm cap calls ur (r ++ [x]) g scap S D f P Q := by
  have e := h.hPQ
  rw [List.map_append] at e
  obtain ⟨e1, e2⟩ := Go.Proofs.Qxb6629139a.Plain.step_skip h.hP e (by simpa using hlt) (x := x) (hx ▸ mem_ids hp)
  exact ⟨hr, h.mis, h.ok, h.sz, e1, by rw [List.map_append]; exact e2, h.cP, h.cQ, hb⟩

theorem map_congr_ids {S S' : List Ent} {l : List Nat} (h : ∀ p ∈ l, idOf S' p = idOf S p) : l.map (idOf S') = l.map (idOf S) := List.map_congr_left h

theorem nd_parts {P Q : List Nat} (h : (0 :: (P ++ Q)).Nodup) : P.Nodup ∧ Q.Nodup ∧ ∀ p ∈ P, p ∉ Q := by
  have := List.nodup_append.1 (List.nodup_cons.1 h).2
  exact ⟨this.1, this.2.1, fun p hp hq => this.2.2 p hp p hq rfl⟩

theorem Inv.move {Q1 Q2 : List Nat} {s : Nat} (h : Inv w0 wr base C bm cap calls ur r g scap S D f P (Q1 ++ s :: Q2)) (hlt : P.length < cap.toNat) {x : Int} (hx : idOf S s = x) {w' : World} {S3 : List Ent}
    (hS : S3 = linkS (setC (unlinkS S s) s calls) s (lastOf 0 P)) (hr : Rep w' base C g scap bm cap calls S3 D) (hb : Below base w0 w') :
    Inv w0 w' base C bm cap calls ur (r ++ [x]) g scap S3 D f (P ++ [s]) (Q1 ++ Q2) := by
  obtain ⟨_, hk⟩ := h.ok.move calls
  obtain ⟨hok, hid, hcl⟩ := hk S3 hS
  have e := h.hPQ
  rw [List.map_append] at e
  have hs : s ∈ P ++ (Q1 ++ s :: Q2) := by simp
  obtain ⟨n1, n2, n3⟩ := nd_parts h.ok.nd
  have hxP : x ∉ P.map (idOf S) := by
    intro hm
    obtain ⟨p, hp, he⟩ := List.mem_map.1 hm
    have := h.inj (p := p) (by simp [hp]) hs (he.trans hx.symm)
    subst this
    exact n3 p hp (by simp)
  have hstrike : (((Q1 ++ s :: Q2).map (idOf S)).filter (fun y => y != x)) = (Q1 ++ Q2).map (idOf S) := by
    have hne : ∀ p ∈ Q1 ++ Q2, idOf S p != x := by
      intro p hp
      simp only [bne_iff_ne]
      intro he
      have hpm : p ∈ Q1 ++ s :: Q2 := by simp at hp ⊢; rcases hp with hp | hp <;> simp [hp]
      have := h.inj (p := p) (List.mem_append_right _ hpm) hs (he.trans hx.symm)
      subst this
      have := List.nodup_append.1 n2
      rcases List.mem_append.1 hp with hp | hp
      · exact this.2.2 p hp p (by simp) rfl
      · exact (List.nodup_cons.1 this.2.1).1 hp
    rw [List.map_append, List.map_cons, List.filter_append, List.filter_cons_of_neg (by simp [hx]), ← List.filter_append, ← List.map_append, List.filter_eq_self.2]
    intro y hy
    obtain ⟨p, hp, rfl⟩ := List.mem_map.1 hy
    exact hne p hp
  have hlen := h.lenle
  obtain ⟨e1, e2⟩ := step_put h.hP e (by simpa using hlt) hxP (B' := (Q1 ++ Q2).map (idOf S)) (by
    rw [hstrike, List.take_of_length_le]
    simp at hlen ⊢; omega)
  refine ⟨hr, h.mis, by simpa using hok, by have := h.sz; simp at this ⊢; omega, ?_, ?_, ?_, ?_, hb⟩
  · rw [hid, List.map_append]; simpa [hx] using e1
  · rw [hid, List.map_append, List.map_append]; simpa [hx] using e2
  · intro p hp
    rw [hcl]
    split
    · rfl
    · rename_i hps
      exact h.cP p (by simpa [hps] using hp)
  · intro p hp
    have hps : p ≠ s := by
      intro e; subst e
      have := List.nodup_append.1 n2
      rcases List.mem_append.1 hp with hp | hp
      · exact this.2.2 p hp p (by simp) rfl
      · exact (List.nodup_cons.1 this.2.1).1 hp
    rw [hcl, if_neg hps]
    exact h.cQ p (by simp at hp ⊢; rcases hp with hp | hp <;> simp [hp])

theorem Inv.fresh (h : Inv w0 wr base C bm cap calls ur r g scap S D f P Q) {x : Int} (hx : f x = none) : ∀ p ∈ P ++ Q, idOf S p ≠ x := by
  intro p hp e
  have := (h.ok.fm x p).2 ⟨hp, e⟩
  rw [hx] at this; cases this

theorem Inv.grow (h : Inv w0 wr base C bm cap calls ur r g scap S D f P Q) (hlt : P.length < cap.toNat) (hroom : P.length + Q.length < cap.toNat) {x : Int} (hx : f x = none) (hw : (Lit.int .i64 x).wf = true) {w' : World} {S3 : List Ent} {g' scap' : Nat}
    (hS : S3 = linkS (setC (S ++ [⟨x, 0, 0, 0⟩]) S.length calls) S.length (lastOf 0 P)) (hr : Rep w' base C g' scap' bm cap calls S3 (D.put (.int .i64 x) (.lit (.int .i64 S.length)))) (hb : Below base w0 w') :
    Inv w0 w' base C bm cap calls ur (r ++ [x]) g' scap' S3 (D.put (.int .i64 x) (.lit (.int .i64 S.length))) (updf f x (some S.length)) (P ++ [S.length]) Q := by
  obtain ⟨_, hk⟩ := h.ok.grow hx hw calls
  obtain ⟨hok, hid, hcl⟩ := hk S3 hS
  have e := h.hPQ
  rw [List.map_append] at e
  have hfr := h.fresh hx
  have hne : ∀ p ∈ P ++ Q, p ≠ S.length := fun p hp => by have := h.ok.lt p hp; omega
  have hxP : x ∉ P.map (idOf S) := by
    intro hm
    obtain ⟨p, hp, he⟩ := List.mem_map.1 hm
    exact hfr p (by simp [hp]) he
  obtain ⟨e1, e2⟩ := step_put h.hP e (by simpa using hlt) hxP (B' := Q.map (idOf S)) (by
    rw [List.filter_eq_self.2, List.take_of_length_le]
    · simp; omega
    · intro y hy
      obtain ⟨p, hp, rfl⟩ := List.mem_map.1 hy
      simpa using hfr p (by simp [hp]))
  have mP : P.map (idOf S3) = P.map (idOf S) := map_congr_ids fun p hp => by rw [hid, if_neg (hne p (by simp [hp]))]
  have mQ : Q.map (idOf S3) = Q.map (idOf S) := map_congr_ids fun p hp => by rw [hid, if_neg (hne p (by simp [hp]))]
  have mS : idOf S3 S.length = x := by rw [hid, if_pos rfl]
  refine ⟨hr, h.mis.put (h.rep.map.isMap) x _, by simpa using hok, ?_, ?_, ?_, ?_, ?_, hb⟩
  · rw [Maps.size_put (h.rep.map.tidy law2), h.mis.1 x, hx]
    have := h.sz
    simp at this ⊢; omega
  · rw [List.map_append, mP]; simpa [mS] using e1
  · rw [List.map_append, List.map_append, mP, mQ]; simpa [mS] using e2
  · intro p hp
    rw [hcl]
    split
    · rfl
    · rename_i hps
      exact h.cP p (by simpa [hps] using hp)
  · intro p hp
    rw [hcl, if_neg (hne p (by simp [hp]))]
    exact h.cQ p hp

theorem Inv.full {Q1 : List Nat} {t : Nat} (h : Inv w0 wr base C bm cap calls ur r g scap S D f P (Q1 ++ [t])) (hlt : P.length < cap.toNat) (hfull : cap.toNat ≤ P.length + (Q1 ++ [t]).length) {x : Int} (hx : f x = none) (hw : (Lit.int .i64 x).wf = true) {w' : World} {S3 : List Ent}
    (hS : S3 = linkS (setC (setI (unlinkS S t) t x) t calls) t (lastOf 0 P)) (hr : Rep w' base C g scap bm cap calls S3 ((D.del (.int .i64 (idOf S t))).put (.int .i64 x) (.lit (.int .i64 t)))) (hb : Below base w0 w') :
    Inv w0 w' base C bm cap calls ur (r ++ [x]) g scap S3 ((D.del (.int .i64 (idOf S t))).put (.int .i64 x) (.lit (.int .i64 t))) (updf (updf f (idOf S t) none) x (some t)) (P ++ [t]) Q1 := by
  obtain ⟨_, _, hk⟩ := h.ok.full hx hw calls
  obtain ⟨hok, hid, hcl⟩ := hk S3 hS
  have e := h.hPQ
  rw [List.map_append] at e
  have hfr := h.fresh hx
  obtain ⟨n1, n2, n3⟩ := nd_parts h.ok.nd
  have hne : ∀ p ∈ P ++ Q1, p ≠ t := by
    intro p hp e
    subst e
    rcases List.mem_append.1 hp with hp | hp
    · exact n3 p hp (by simp)
    · exact (List.nodup_append.1 n2).2.2 p hp p (by simp) rfl
  have ht : t ∈ P ++ (Q1 ++ [t]) := by simp
  have hxP : x ∉ P.map (idOf S) := by
    intro hm
    obtain ⟨p, hp, he⟩ := List.mem_map.1 hm
    exact hfr p (by simp [hp]) he
  have hlen := h.lenle
  obtain ⟨e1, e2⟩ := step_put h.hP e (by simpa using hlt) hxP (B' := Q1.map (idOf S)) (by
    rw [List.filter_eq_self.2]
    · rw [List.map_append, List.take_append_of_le_length (by simp at hlen hfull ⊢; omega), List.take_of_length_le (by simp at hlen hfull ⊢; omega)]
    · intro y hy
      obtain ⟨p, hp, rfl⟩ := List.mem_map.1 hy
      simpa using hfr p (by simp at hp ⊢; rcases hp with hp | hp <;> simp [hp]))
  have mP : P.map (idOf S3) = P.map (idOf S) := map_congr_ids fun p hp => by rw [hid, if_neg (hne p (by simp [hp]))]
  have mQ : Q1.map (idOf S3) = Q1.map (idOf S) := map_congr_ids fun p hp => by rw [hid, if_neg (hne p (by simp [hp]))]
  have mS : idOf S3 t = x := by rw [hid, if_pos rfl]
  have hd := h.mis.del (idOf S t)
  have htidy := h.rep.map.tidy law2
  refine ⟨hr, hd.put (h.rep.map.isMap.del _) x _, by simpa using hok, ?_, ?_, ?_, ?_, ?_, hb⟩
  · rw [Maps.size_put (htidy.del _), hd.1 x]
    have h1 := Maps.size_del htidy (k := .int .i64 (idOf S t))
    rw [h.mis.1, (h.ok.fm _ t).2 ⟨ht, rfl⟩] at h1
    have h2 : updf f (idOf S t) none x = none := by unfold updf; split <;> simp [hx]
    rw [h2]
    have := h.sz
    simp at this h1 ⊢; omega
  · rw [List.map_append, mP]; simpa [mS] using e1
  · rw [List.map_append, List.map_append, mP, mQ]; simpa [mS] using e2
  · intro p hp
    rw [hcl]
    split
    · rfl
    · rename_i hps
      exact h.cP p (by simpa [hps] using hp)
  · intro p hp
    rw [hcl, if_neg (hne p (by simp [hp]))]
    exact h.cQ p (by simp [hp])

end Go.Proofs.Qxb6629139a.Walks
