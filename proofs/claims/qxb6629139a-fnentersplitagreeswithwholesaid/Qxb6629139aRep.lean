/- The cache in memory: three blocks: the struct, the slots' array, the map. -/
import Derived.Test.Qxb6629139aRows
import Derived.Test.Qxb6629139aOk
import Derived.WalkKit
import Derived.WalkSpells
import Derived.WalkSmall
import Derived.Below
import Derived.Deep.QuietTactic
import Derived.BigQuiet
import Derived.Maps.OwnSet
namespace Go.Proofs.Qxb6629139a.Walks
open Go.RowKit Go.Proofs.Qxb6629139a.Plain
attribute [local simp] len_setO len_setN len_setI len_setC len_unlinkS len_linkS
set_option linter.unusedVariables false

theorem law2 : Maps.Keyed Try.prog 2 := Maps.int_keyed Try.underlying2
theorem zero3 (w : World) : (zeroValue 3).run Try.prog w = .ok (.int .i64 0) w := by kernel_rfl
theorem info35 : (Try.prog.info? 35).map (fun i => (i.zero, i.size, i.bytes)) = some (some (.agg #[.int .i64 0, .int .u64 0, .int .i64 0, .int .i64 0]), 4, 32) := by kernel_rfl
theorem info2 : (Try.prog.info? 2).map (fun i => (i.zero, i.size, i.bytes)) = some (some (.int .i64 0), 1, 8) := by kernel_rfl

structure Rep (w : World) (base C g scap bm : Nat) (cap calls : Int) (S : List Ent) (D : DataW Unit) : Prop where
  box : w.heap[C]? = some (.cells #[.int .i64 cap, .slice (some ⟨g, 0, none⟩) S.length scap, .map (some bm), .int .u64 calls] 39 (0, 0))
  row : w.ownsRow base 35 4 (.slice (some ⟨g, 0, none⟩) S.length scap) S.length (flat S)
  map : w.ownsMap Try.prog 2 (plainElem Try.prog 3) bm (Maps.size D) D
  bC : base ≤ C
  bM : base ≤ bm

theorem own_size {w : World} {P : Program} {k : TypeId} {R : Value → Option (DataW Unit × List MemPlace)} {b n : Nat} {D : DataW Unit} (h : w.ownsMap P k R b n D) : w.ownsMap P k R b (Maps.size D) D := by
  obtain ⟨es, clock, hb, F, hs, rfl⟩ := h
  exact ⟨es, clock, hb, F, by simp [Maps.size, length_sorted], rfl⟩

section
variable {w : World} {base C g scap bm : Nat} {cap calls : Int} {S : List Ent} {D : DataW Unit}

theorem Rep.gBlock (h : Rep w base C g scap bm cap calls S D) : ∃ cur, w.heap[g]? = some (.cells cur 35 (0, 0)) ∧ base ≤ g := by
  rcases h.row.2 with ⟨h', _⟩ | ⟨g', cap', cur, h', hb, hg, _⟩
  · simp at h'
  · simp only [Value.slice.injEq, Option.some.injEq, Addr.mk.injEq, and_true, true_and] at h'
    obtain ⟨rfl, rfl⟩ := h'
    exact ⟨cur, hg, hb⟩
theorem Rep.mBlock (h : Rep w base C g scap bm cap calls S D) : ∃ es c, w.heap[bm]? = some (.map es c) := by
  obtain ⟨es, clock, hb, _⟩ := h.map
  exact ⟨es, clock, hb⟩
theorem Rep.bg (h : Rep w base C g scap bm cap calls S D) : base ≤ g := by obtain ⟨_, _, h⟩ := h.gBlock; exact h
theorem Rep.gC (h : Rep w base C g scap bm cap calls S D) : g ≠ C := by
  intro e; subst e
  obtain ⟨cur, hg, _⟩ := h.gBlock
  have := h.box
  rw [hg] at this
  simp at this
theorem Rep.mC (h : Rep w base C g scap bm cap calls S D) : bm ≠ C := by
  intro e; subst e
  obtain ⟨es, c, hg⟩ := h.mBlock
  have := h.box
  rw [hg] at this
  simp at this
theorem Rep.mg (h : Rep w base C g scap bm cap calls S D) : bm ≠ g := by
  intro e; subst e
  obtain ⟨es, c, hg⟩ := h.mBlock
  obtain ⟨cur, hg', _⟩ := h.gBlock
  rw [hg] at hg'
  simp at hg'
theorem Rep.ltC (h : Rep w base C g scap bm cap calls S D) : C < w.heap.size := (Array.getElem?_eq_some_iff.1 h.box).1
theorem Rep.ltg (h : Rep w base C g scap bm cap calls S D) : g < w.heap.size := by obtain ⟨_, hg, _⟩ := h.gBlock; exact (Array.getElem?_eq_some_iff.1 hg).1
theorem Rep.ltm (h : Rep w base C g scap bm cap calls S D) : bm < w.heap.size := by obtain ⟨_, _, hg⟩ := h.mBlock; exact (Array.getElem?_eq_some_iff.1 hg).1

theorem Rep.c0 (h : Rep w base C g scap bm cap calls S D) : w.cell? ⟨C, 0, none⟩ = some (.int .i64 cap) := by simp [World.cell?, h.box]
theorem Rep.c1 (h : Rep w base C g scap bm cap calls S D) : w.cell? ⟨C, 1, none⟩ = some (.slice (some ⟨g, 0, none⟩) S.length scap) := by simp [World.cell?, h.box]
theorem Rep.c2 (h : Rep w base C g scap bm cap calls S D) : w.cell? ⟨C, 2, none⟩ = some (.map (some bm)) := by simp [World.cell?, h.box]
theorem Rep.c3 (h : Rep w base C g scap bm cap calls S D) : w.cell? ⟨C, 3, none⟩ = some (.int .u64 calls) := by simp [World.cell?, h.box]
theorem Rep.fz (h : Rep w base C g scap bm cap calls S D) (j : Nat) : w.frozen? ⟨C, j, none⟩ = false := by simp [World.frozen?, h.box]
theorem Rep.fzg (h : Rep w base C g scap bm cap calls S D) (j : Nat) : w.frozen? ⟨g, j, none⟩ = false := h.row.frozenAt j

theorem Rep.at (h : Rep w base C g scap bm cap calls S D) {s : Nat} (hs : s < S.length) (j : Nat) (hj : j < 4) : w.cell? ⟨g, s * 4 + j, none⟩ = (S.getD s zeroEnt).cells[j]? := by
  rw [h.row.cellAt (s * 4 + j) (by omega), flat_get S s j hs hj]
theorem Rep.at0 (h : Rep w base C g scap bm cap calls S D) {s : Nat} (hs : s < S.length) : w.cell? ⟨g, s * 4, none⟩ = some (.int .i64 (idOf S s)) := h.at hs 0 (by omega)
theorem Rep.at1 (h : Rep w base C g scap bm cap calls S D) {s : Nat} (hs : s < S.length) : w.cell? ⟨g, s * 4 + 1, none⟩ = some (.int .u64 (callOf S s)) := h.at hs 1 (by omega)
theorem Rep.at2 (h : Rep w base C g scap bm cap calls S D) {s : Nat} (hs : s < S.length) : w.cell? ⟨g, s * 4 + 2, none⟩ = some (.int .i64 (newr S s)) := h.at hs 2 (by omega)
theorem Rep.at3 (h : Rep w base C g scap bm cap calls S D) {s : Nat} (hs : s < S.length) : w.cell? ⟨g, s * 4 + 3, none⟩ = some (.int .i64 (oldr S s)) := h.at hs 3 (by omega)

theorem Rep.drewN (h : Rep w base C g scap bm cap calls S D) (n : Nat) : Rep (w.drewN n) base C g scap bm cap calls S D := ⟨h.box, h.row, h.map, h.bC, h.bM⟩
theorem Rep.drew (h : Rep w base C g scap bm cap calls S D) : Rep w.drew base C g scap bm cap calls S D := ⟨h.box, h.row, h.map, h.bC, h.bM⟩

/-- A store into one entry's cell. -/
theorem Rep.store (h : Rep w base C g scap bm cap calls S D) {s j : Nat} (hs : s < S.length) (hj : j < 4) (v : Value) (e' : Ent) (he : e'.cells = (S.getD s zeroEnt).cells.set j v) :
    Rep (w.setCell ⟨g, s * 4 + j, none⟩ v) base C g scap bm cap calls (S.set s e') D := by
  have hst := (h.row.stored (s * 4 + j) v).1
  rw [flat_set v e' S s j hs hj he] at hst
  refine ⟨?_, by simpa using hst, h.map.setCell h.mg _, h.bC, h.bM⟩
  rw [Below.heap_setCell _ _ _ _ h.gC.symm, List.length_set]; exact h.box
theorem Rep.setO (h : Rep w base C g scap bm cap calls S D) {s : Nat} (hs : s < S.length) (v : Nat) : Rep (w.setCell ⟨g, s * 4 + 3, none⟩ (.int .i64 v)) base C g scap bm cap calls (setO S s v) D := h.store hs (j := 3) (by omega) _ _ rfl
theorem Rep.setN (h : Rep w base C g scap bm cap calls S D) {s : Nat} (hs : s < S.length) (v : Nat) : Rep (w.setCell ⟨g, s * 4 + 2, none⟩ (.int .i64 v)) base C g scap bm cap calls (setN S s v) D := h.store hs (j := 2) (by omega) _ _ rfl
theorem Rep.setC (h : Rep w base C g scap bm cap calls S D) {s : Nat} (hs : s < S.length) (v : Int) : Rep (w.setCell ⟨g, s * 4 + 1, none⟩ (.int .u64 v)) base C g scap bm cap calls (setC S s v) D := h.store hs (j := 1) (by omega) _ _ rfl
theorem Rep.setI (h : Rep w base C g scap bm cap calls S D) {s : Nat} (hs : s < S.length) (v : Int) : Rep (w.setCell ⟨g, s * 4, none⟩ (.int .i64 v)) base C g scap bm cap calls (setI S s v) D := h.store hs (j := 0) (by omega) _ _ rfl

theorem Rep.setCalls (h : Rep w base C g scap bm cap calls S D) (v : Int) : Rep (w.setCell ⟨C, 3, none⟩ (.int .u64 v)) base C g scap bm cap v S D := by
  refine ⟨?_, ownsRow_setCell_other h.row (by simpa [Value.ownBlock] using h.gC) _, h.map.setCell h.mC _, h.bC, h.bM⟩
  simp [World.setCell, Array.getElem?_modify, h.box]

/-- The map written. -/
theorem Rep.mapped (h : Rep w base C g scap bm cap calls S D) {w' : World} {D' : DataW Unit} {n : Nat} (hm : w'.ownsMap Try.prog 2 (plainElem Try.prog 3) bm n D') (hg : w.grownBy w' (some bm)) : Rep w' base C g scap bm cap calls S D' :=
  ⟨(hg.block C h.ltC (by simpa using h.mC.symm)).trans h.box, h.row.kept hg (.inr (by simpa [Value.ownBlock] using h.mg.symm)), own_size hm, h.bC, h.bM⟩

/-- Nothing below B has turned, and the cache lies below B. -/
theorem Rep.below (h : Rep w base C g scap bm cap calls S D) {w' : World} {B : Nat} (hb : Below B w w') (hC : C < B) (hg : g < B) (hm : bm < B) : Rep w' base C g scap bm cap calls S D := by
  refine ⟨(hb.block C hC).trans h.box, ⟨h.row.1, ?_⟩, ?_, h.bC, h.bM⟩
  · rcases h.row.2 with hn | ⟨g', cap', cur, e, h1, h2, r⟩
    · exact .inl hn
    · simp only [Value.slice.injEq, Option.some.injEq, Addr.mk.injEq, and_true, true_and] at e
      obtain ⟨rfl, rfl⟩ := e
      exact .inr ⟨g, scap, cur, rfl, h1, (hb.block g hg).trans h2, r⟩
  · obtain ⟨es, c, h1, r⟩ := h.map
    exact ⟨es, c, (hb.block bm hm).trans h1, r⟩
theorem Rep.belowAll (h : Rep w base C g scap bm cap calls S D) {w' : World} (hb : Below w.heap.size w w') : Rep w' base C g scap bm cap calls S D := h.below hb h.ltC h.ltg h.ltm

/-- What is stored above base does not turn what lies below. -/
theorem below_set {B : Nat} {a w : World} (h : Below B a w) {b j : Nat} (hp : B ≤ b) (u : Value) : Below B a (w.setCell ⟨b, j, none⟩ u) := h.setCell hp u
end

/-! ### the leaves -/
section
variable {w : World} {base C g scap bm : Nat} {cap calls : Int} {S : List Ent} {D : DataW Unit}

set_option maxHeartbeats 400000 in
theorem count_any (hn : S.length ≤ 100000) (h : Rep w base C g scap bm cap calls S D) :
    Calls Try.prog 16 #[.pointer (some ⟨C, 0, none⟩)] w fun e w' => e = .returned (.int .i64 S.length) ∧ w = w' := by
  have h1 := h.c1
  clear h
  go_enter Try.func16, Try.ntmps16
  go_wp2
  go_ret
  exact ⟨rfl, rfl⟩

set_option maxHeartbeats 400000 in
theorem older_any (hn : S.length ≤ 100000) {s : Nat} (hs : s < S.length) (h : Rep w base C g scap bm cap calls S D) :
    Calls Try.prog 17 #[.pointer (some ⟨C, 0, none⟩), .int .i64 s] w fun e w' => e = .returned (.int .i64 (oldr S s)) ∧ w = w' := by
  have h1 := h.c1
  have h3 := h.at3 hs
  clear h
  go_enter Try.func17, Try.ntmps17
  go_wp2
  go_ret
  exact ⟨rfl, rfl⟩

set_option maxHeartbeats 400000 in
theorem newer_any (hn : S.length ≤ 100000) {s : Nat} (hs : s < S.length) (h : Rep w base C g scap bm cap calls S D) :
    Calls Try.prog 18 #[.pointer (some ⟨C, 0, none⟩), .int .i64 s] w fun e w' => e = .returned (.int .i64 (newr S s)) ∧ w = w' := by
  have h1 := h.c1
  have h3 := h.at2 hs
  clear h
  go_enter Try.func18, Try.ntmps18
  go_wp2
  go_ret
  exact ⟨rfl, rfl⟩

set_option maxHeartbeats 400000 in
theorem id_any (hn : S.length ≤ 100000) {s : Nat} (hs : s < S.length) (h : Rep w base C g scap bm cap calls S D) :
    Calls Try.prog 19 #[.pointer (some ⟨C, 0, none⟩), .int .i64 s] w fun e w' => e = .returned (.int .i64 (idOf S s)) ∧ w = w' := by
  have h1 := h.c1
  have h3 := h.at0 hs
  clear h
  go_enter Try.func19, Try.ntmps19
  go_wp2
  go_ret
  exact ⟨rfl, rfl⟩

set_option maxHeartbeats 400000 in
theorem calls_any (h : Rep w base C g scap bm cap calls S D) :
    Calls Try.prog 11 #[.pointer (some ⟨C, 0, none⟩)] w fun e w' => e = .returned (.int .u64 calls) ∧ w = w' := by
  have h1 := h.c3
  clear h
  go_enter Try.func11, Try.ntmps11
  go_wp2
  go_ret
  exact ⟨rfl, rfl⟩

set_option maxHeartbeats 400000 in
theorem held_any (h : Rep w base C g scap bm cap calls S D) :
    Calls Try.prog 21 #[.pointer (some ⟨C, 0, none⟩)] w fun e w' => e = .returned (.int .i64 (Maps.size D)) ∧ w = w' := by
  have h1 := h.c2
  have hm := h.map
  clear h
  go_enter Try.func21, Try.ntmps21
  go_wp2_with (at_len; refine wpList_len_own _ rfl _ 37 rfl 2 3 Try.underlying37 _ bm _ D rfl hm ?_)
  go_ret
  exact ⟨rfl, rfl⟩

set_option maxHeartbeats 400000 in
theorem place_any {x : Int} (hw : (Lit.int .i64 x).wf = true) (h : Rep w base C g scap bm cap calls S D) :
    Calls Try.prog 20 #[.pointer (some ⟨C, 0, none⟩), .int .i64 x] w fun e w' => ∃ c, e = .returned (.tuple #[.int .i64 c, .bool (Maps.has D (.int .i64 x))]) ∧ D.atKey (.int .i64 x) (.lit (.int .i64 0)) = .lit (.int .i64 c) ∧ w = w' := by
  have h1 := h.c2
  have hm := h.map
  clear h
  go_enter Try.func20, Try.ntmps20
  go_wp2_with (at_lookup; refine wpList_lookup_own_ok_int _ rfl _ _ 37 rfl 2 3 .i64 law2 Try.underlying37 Try.underlying3 (zero3 _) bm _ D rfl hm _ _ rfl (Maps.keyOf_int_mk Try.underlying2 hw) ?_; intro c hat hwc)
  go_ret2
  exact ⟨_, rfl, by assumption, rfl⟩
end
end Go.Proofs.Qxb6629139a.Walks
