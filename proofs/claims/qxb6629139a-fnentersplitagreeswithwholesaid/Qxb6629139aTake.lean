/- take. -/
import Derived.Test.Qxb6629139aLinks
namespace Go.Proofs.Qxb6629139a.Walks
open Go.RowKit Go.Proofs.Qxb6629139a.Plain
attribute [local simp] len_setO len_setN len_setI len_setC len_unlinkS len_linkS
set_option linter.unusedVariables false
variable {w : World} {base C g scap bm : Nat} {cap calls : Int} {S : List Ent} {D : DataW Unit}

theorem news_at (w : World) (x : Int) : ∀ (j : Nat) (u : Value), (Ent.cells ⟨x, 0, 0, 0⟩)[j]? = some u →
    (w.alloc (.cells #[.int .i64 x, .int .u64 0, .int .i64 0, .int .i64 0] 35)).cell? ((⟨w.heap.size, 0, none⟩ : Addr).add j) = some u := by
  intro j u h
  match j, h with
  | 0, h => simpa [Addr.add, Ent.cells] using h
  | 1, h => simpa [Addr.add, Ent.cells] using h
  | 2, h => simpa [Addr.add, Ent.cells] using h
  | 3, h => simpa [Addr.add, Ent.cells] using h
  | n + 4, h => simp [Ent.cells] at h
theorem news_one (x : Int) : ∀ u ∈ Ent.cells ⟨x, 0, 0, 0⟩, u.oneCell' = true := by
  intro u hu; simp [Ent.cells] at hu; rcases hu with rfl | rfl | rfl <;> rfl

theorem own_form {w : World} {base : Nat} {e : TypeId} {size n : Nat} {v : Value} {xs : List Value} (h : w.ownsRow base e size v n xs) (hn : 0 < n) : ∃ g cap, v = .slice (some ⟨g, 0, none⟩) n cap := by
  rcases h.2 with ⟨_, h0⟩ | ⟨g, cap, cur, rfl, _⟩
  · omega
  · exact ⟨g, cap, rfl⟩

/-- Behind the append: the struct's block and the map's are as they were. -/
theorem after_append (h : Rep w base C g scap bm cap calls S D) {o : Obj} {w1 : World} {v : Value} (hv : v = .slice (some ⟨g, 0, none⟩) S.length scap) (hg : (w.alloc o).drew.grownBy w1 v.ownBlock) :
    w1.heap[C]? = some (.cells #[.int .i64 cap, .slice (some ⟨g, 0, none⟩) S.length scap, .map (some bm), .int .u64 calls] 39 (0, 0)) ∧
    w1.ownsMap Try.prog 2 (plainElem Try.prog 3) bm (Maps.size D) D ∧ Below base w w1 := by
  subst hv
  have hC := h.ltC
  have hbC := h.bC
  refine ⟨?_, (h.map.alloc o).drew.kept hg (by simpa [Value.ownBlock] using h.mg), ?_⟩
  · have e := hg.block C (by simp; omega) (by simpa [Value.ownBlock] using h.gC.symm)
    have e1 : (w.alloc o).drew.heap[C]? = w.heap[C]? := Below.heap_alloc w o C hC
    rw [e, e1]; exact h.box
  · refine ((Below.refl _ _).alloc (by omega) _).drew.grown hg (by simp; omega) ?_
    intro k hk
    simp [Value.ownBlock] at hk
    subst hk
    exact h.bg

/-- Behind the store of the new slice: the struct. -/
theorem stored_box {w1 : World} {x0 x1 x2 x3 : Value} (hb : w1.heap[C]? = some (.cells #[x0, x1, x2, x3] 39 (0, 0))) (u : Value) :
    (w1.setCell ⟨C, 1, none⟩ u).heap[C]? = some (.cells #[x0, u, x2, x3] 39 (0, 0)) := by
  simp [World.setCell, Array.getElem?_modify, hb]

theorem own_ne {w1 : World} {v : Value} {n : Nat} {xs : List Value} {cs : Array Value} (hown : w1.ownsRow base 35 4 v n xs) (hb : w1.heap[C]? = some (.cells cs 39 (0, 0))) : v.ownBlock ≠ some C := by
  intro e
  rcases hown.2 with ⟨rfl, _⟩ | ⟨g, cap, cur, rfl, _, hg, _⟩
  · simp [Value.ownBlock] at e
  · simp [Value.ownBlock] at e
    subst e
    rw [hg] at hb
    simp at hb

/-- 'c.slots = append(..)' and 'c.at[id] = s' done. -/
theorem grow_post {w1 w2 : World} {g' scap' k0 k : Nat} {S' : List Ent} {D0 D' : DataW Unit} (hb : w1.heap[C]? = some (.cells #[.int .i64 cap, .slice (some ⟨g, 0, none⟩) S.length scap, .map (some bm), .int .u64 calls] 39 (0, 0)))
    (hown : w1.ownsRow base 35 4 (.slice (some ⟨g', 0, none⟩) S'.length scap') S'.length (flat S')) (hbC : base ≤ C) (hbM : base ≤ bm) (hm1 : w1.ownsMap Try.prog 2 (plainElem Try.prog 3) bm k0 D0)
    (hm : w2.ownsMap Try.prog 2 (plainElem Try.prog 3) bm k D') (hg : (w1.setCell ⟨C, 1, none⟩ (.slice (some ⟨g', 0, none⟩) S'.length scap')).grownBy w2 (some bm)) (hmC : bm ≠ C) : Rep w2 base C g' scap' bm cap calls S' D' := by
  have hC1 : C < w1.heap.size := (Array.getElem?_eq_some_iff.1 hb).1
  have hne := own_ne hown hb
  refine ⟨?_, ?_, own_size hm, hbC, hbM⟩
  · rw [hg.block C (by simpa [World.setCell] using hC1) (by simpa using hmC.symm)]
    exact stored_box hb _
  · refine (ownsRow_setCell_other hown hne _).kept hg (.inr ?_)
    intro e
    simp [Value.ownBlock] at e
    subst e
    obtain ⟨es, c, h1, _⟩ := hm1
    rcases hown.2 with ⟨h', _⟩ | ⟨g2, cap2, cur, h', _, h2, _⟩
    · simp at h'
    · simp only [Value.slice.injEq, Option.some.injEq, Addr.mk.injEq, and_true, true_and] at h'
      obtain ⟨rfl, rfl⟩ := h'
      rw [h1] at h2; simp at h2

set_option maxHeartbeats 1000000 in
theorem take_grow (h : Rep w base C g scap bm cap calls S D) {x : Int} (hn : S.length ≤ 100000) (hp : 0 < S.length) (hD : Maps.size D ≤ 100000) (hlt : (S.length : Int) - 1 < cap) (hw : (Lit.int .i64 x).wf = true) :
    Calls Try.prog 13 #[.pointer (some ⟨C, 0, none⟩), .int .i64 x] w fun e w' => e = .returned (.int .i64 S.length) ∧ ∃ g' scap', Rep w' base C g' scap' bm cap calls (S ++ [⟨x, 0, 0, 0⟩]) (D.put (.int .i64 x) (.lit (.int .i64 S.length))) ∧ Below base w w' := by
  obtain ⟨i0, hi, hz0, hz1, hz2⟩ := info_parts info35
  have h0 := h.c0
  have h1 := h.c1
  have h2 := h.c2
  have hf := h.fz 1
  have hC := h.ltC
  have hM := h.ltm
  have hbC := h.bC
  have hown := h.row
  have hmap := h.map
  have hmC := h.mC
  have hmg := h.mg
  have hgC := h.gC
  have hdec : decide ((S.length : Int) - 1 < cap) = true := by simpa using hlt
  go_enter Try.func13, Try.ntmps13
  go_wp2
  go_region
  go_wp2_with (first
    | (at_builtin; refine wpList_append_own _ rfl _ _ 36 rfl base 35 i0 (.agg #[.int .i64 0, .int .u64 0, .int .i64 0, .int .i64 0]) 4 32 Try.underlying36 hi hz0 hz1 hz2 rfl (by decide) (.slice (some ⟨g, 0, none⟩) S.length scap) S.length (flat S) rfl (hown.alloc _).drew ⟨w.heap.size, 0, none⟩ 1 1 (Ent.cells ⟨x, 0, 0, 0⟩) rfl rfl (news_at w x) (news_one x) (by unfold maxLen; omega) (by omega) (by simp; omega) ?_; intro v' w1 hown' hgrow _; go_must (obtain ⟨g', scap', rfl⟩ := own_form hown' (Nat.succ_pos _); obtain ⟨hb1, hm1, hbel⟩ := after_append h rfl hgrow; have d1 : w1.cell? ⟨C, 1, none⟩ = some (.slice (some ⟨g, 0, none⟩) S.length scap) := (by simp [World.cell?, hb1]); have d2 : w1.cell? ⟨C, 2, none⟩ = some (.map (some bm)) := (by simp [World.cell?, hb1]); have d3 : w1.frozen? ⟨C, 1, none⟩ = false := (by simp [World.frozen?, hb1])))
    | (at_mapUpdate; refine wpList_mapUpdate_own _ rfl _ _ _ 37 rfl 2 3 law2 Try.underlying37 _ bm _ _ rfl (hm1.setCell hmC _) (by unfold maxLen; omega) _ _ _ rfl rfl (Maps.keyOf_int_mk Try.underlying2 hw) _ [] (plainElem_int Try.underlying3 (WalkArith.wf_i64 (by omega))) ?_; intro w2 hm2 hg2))
  go_ret
  refine ⟨rfl, g', scap', grow_post (S' := S ++ [⟨x, 0, 0, 0⟩]) hb1 ?_ hbC h.bM hm1 hm2 ?_ hmC, ?_⟩
  · rw [flat_append, List.length_append]; exact hown'
  · rw [List.length_append]; exact hg2
  · exact (hbel.setCell hbC _).grown hg2 (by have := hbel.size; simp [World.setCell]; omega) (by intro k hk; cases hk; exact h.bM)

set_option maxHeartbeats 1000000 in
theorem take_full (h : Rep w base C g scap bm cap calls S D) {x : Int} {t : Nat} (hn : S.length ≤ 100000) (hp : 0 < S.length) (hD : Maps.size D ≤ 100000) (hge : cap ≤ (S.length : Int) - 1) (hw : (Lit.int .i64 x).wf = true)
    (ht : newr S 0 = t) (htl : t < S.length) (h1 : newr S t < S.length) (h2 : oldr S t < S.length) (hwt : (Lit.int .i64 (idOf S t)).wf = true) :
    Calls Try.prog 13 #[.pointer (some ⟨C, 0, none⟩), .int .i64 x] w fun e w' => e = .returned (.int .i64 t) ∧
      Rep w' base C g scap bm cap calls (setI (unlinkS S t) t x) ((D.del (.int .i64 (idOf S t))).put (.int .i64 x) (.lit (.int .i64 t))) ∧ Below base w w' := by
  have c0 := h.c0
  have c1 := h.c1
  have hroot := h.at2 hp
  rw [ht] at hroot
  simp only [Nat.zero_mul, Nat.zero_add] at hroot
  have hdec : decide ((S.length : Int) - 1 < cap) = false := by simp; omega
  go_enter Try.func13, Try.ntmps13
  go_wp2
  go_region
  go_wp2_with fail
  refine (unlink_any h.drew hn htl h1 h2).mono ?_
  rintro e w1 ⟨rfl, hr1, hb1⟩
  clear c0 c1 hroot
  have c0 := hr1.c0
  have c1 := hr1.c1
  have c2 := hr1.c2
  have ci := hr1.at0 (s := t) (by simpa using htl)
  have fi := hr1.fzg (t * 4)
  have hgC := h.gC
  have hmC := h.mC
  have hmg := h.mg
  simp only [len_unlinkS] at c1
  have eid : idOf (unlinkS S t) = idOf S := (unlinkS_facts h1 h2).2.2.1
  rw [eid] at ci
  have Eid : Hid (idOf (unlinkS S t) = idOf S) := eid
  clear eid
  obtain ⟨w2, hrun, hm2, hturn⟩ := hr1.drew.map.drop law2 Try.underlying37 (Maps.keyOf_int_mk Try.underlying2 hwt) 0
  have hr2 := hr1.drew.mapped hm2 hturn.grown
  have d1 := hr2.c1
  have d2 := hr2.c2
  have di := hr2.at0 (s := t) (by simpa using htl)
  have df := hr2.fzg (t * 4)
  simp only [len_unlinkS] at d1
  have hm3 := hr2.map
  go_wp2
  go_region
  have hsz : Maps.size (D.del (.int .i64 (idOf S t))) ≤ Maps.size D := by
    have := Maps.size_del (h.map.tidy law2) (k := .int .i64 (idOf S t))
    omega
  go_wp2_with (at_mapUpdate; refine wpList_mapUpdate_own _ rfl _ _ _ 37 rfl 2 3 law2 Try.underlying37 _ bm _ _ rfl (hm3.setCell hmg _) (by unfold maxLen; omega) _ _ _ rfl rfl (Maps.keyOf_int_mk Try.underlying2 hw) _ [] (plainElem_int Try.underlying3 (WalkArith.wf_i64 (by omega))) ?_; intro w4 hm4 hg4)
  go_ret
  have hr3 := hr2.setI (s := t) (by simpa using htl) x
  refine ⟨rfl, hr3.mapped hm4 hg4, ?_⟩
  have b1 : Below base w w1 := ((Below.refl _ _).drew).trans hb1
  have b2 : Below base w w2 := b1.drew.grown hturn.grown (by have := h.ltC; have := h.bC; have := b1.size; simp; omega) (by intro k hk; cases hk; exact h.bM)
  exact (b2.setCell h.bg _).grown hg4 (by have := h.ltC; have := h.bC; have := b2.size; simp [World.setCell]; omega) (by intro k hk; cases hk; exact h.bM)
end Go.Proofs.Qxb6629139a.Walks
