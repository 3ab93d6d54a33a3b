/- The law's copies: 'if x != nil { zzc := make(..); copy(zzc, x); x = zzc }'. -/
import Derived.Test.Qxb6629217aBridge
import Derived.Laws.CopyOwn
import Derived.Deep.CutRange
namespace Go.Proofs.Qxb6629217a.Wk
open Go.RowKit Go.Proofs.Qxb6629217a.Pl
set_option linter.unusedVariables false

/-- A slice's cells, whatever their kind. -/
def Vals (w : World) (B : Nat) (a : Option Addr) (l : List Value) : Prop :=
  l = [] ∨ ∃ b off, a = some ⟨b, off, none⟩ ∧ b < B ∧ ∀ k v, l[k]? = some v → w.cell? ⟨b, off + k, none⟩ = some v

theorem Vals.below {w w' : World} {B B' : Nat} {a : Option Addr} {l : List Value} (h : Vals w B a l) (hb : Below B w w') (hB : B ≤ B') : Vals w' B' a l := by
  rcases h with rfl | ⟨b, off, rfl, hlt, hc⟩
  · exact .inl rfl
  · exact .inr ⟨b, off, rfl, by omega, fun k v hk => by rw [hb.cell (p := ⟨b, off + k, none⟩) hlt]; exact hc k v hk⟩

theorem strs_vals {w : World} {B : Nat} {a : Option Addr} {l : List ByteArray} : Strs w B a l ↔ Vals w B a (l.map .string) := by
  unfold Strs Vals
  constructor
  · rintro (rfl | ⟨b, off, rfl, hlt, hc⟩)
    · exact .inl rfl
    · refine .inr ⟨b, off, rfl, hlt, fun k v hk => ?_⟩
      rw [List.getElem?_map] at hk
      obtain ⟨x, hx, rfl⟩ := Option.map_eq_some_iff.1 hk
      obtain ⟨hkl, hx'⟩ := List.getElem?_eq_some_iff.1 hx
      rw [hc k hkl]; simp [nm, List.getD_eq_getElem?_getD, hx]
  · rintro (h | ⟨b, off, rfl, hlt, hc⟩)
    · exact .inl (List.map_eq_nil_iff.1 h)
    · refine .inr ⟨b, off, rfl, hlt, fun k hk => hc k _ ?_⟩
      rw [List.getElem?_map, List.getElem?_eq_getElem hk]; simp [nm, List.getD_eq_getElem?_getD, List.getElem?_eq_getElem hk]

theorem us_vals {w : World} {B : Nat} {a : Option Addr} {l : List Int} : Us w B a l ↔ Vals w B a (l.map (.int .u64)) := by
  unfold Us Vals
  constructor
  · rintro (rfl | ⟨b, off, rfl, hlt, hc⟩)
    · exact .inl rfl
    · refine .inr ⟨b, off, rfl, hlt, fun k v hk => ?_⟩
      rw [List.getElem?_map] at hk
      obtain ⟨x, hx, rfl⟩ := Option.map_eq_some_iff.1 hk
      obtain ⟨hkl, hx'⟩ := List.getElem?_eq_some_iff.1 hx
      rw [hc k hkl]; simp [ct, List.getD_eq_getElem?_getD, hx]
  · rintro (h | ⟨b, off, rfl, hlt, hc⟩)
    · exact .inl (List.map_eq_nil_iff.1 h)
    · refine .inr ⟨b, off, rfl, hlt, fun k hk => hc k _ ?_⟩
      rw [List.getElem?_map, List.getElem?_eq_getElem hk]; simp [ct, List.getD_eq_getElem?_getD, List.getElem?_eq_getElem hk]

theorem own_row {w : World} {base e g n : Nat} {xs : List Value} (h : w.ownsRow base e 1 (.slice (some ⟨g, 0, none⟩) n n) n xs) : ∃ cur : List Value, w.heap[g]? = some (.cells cur.toArray e (0, 0)) ∧ cur.length = n ∧ base ≤ g := by
  obtain ⟨_, h | ⟨g', cap, cur, hv, hb, hh, _, _, hs, _⟩⟩ := h
  · exact absurd h.1 (by simp)
  · simp only [Value.slice.injEq, Option.some.injEq, Addr.mk.injEq] at hv
    obtain ⟨⟨rfl, _⟩, _, rfl⟩ := hv
    exact ⟨cur.toList, by simpa using hh, by simp [hs], hb⟩

theorem row_vals {w : World} {e g : Nat} {cur X : List Value} (h : w.heap[g]? = some (.cells (splice cur 0 X).toArray e (0, 0))) : ∀ k v, X[k]? = some v → w.cell? ⟨g, 0 + k, none⟩ = some v := by
  intro k v hk
  obtain ⟨hkl, _⟩ := List.getElem?_eq_some_iff.1 hk
  simp [World.cell?, h, splice, List.getElem?_append_left hkl, hk]

theorem vals_src {w : World} {B : Nat} {a : Addr} {l : List Value} (h : Vals w B (some a) l) (hl : 0 < l.length) : ∃ ad, some a = some ad ∧ ∀ j v, l[j]? = some v → w.cell? (ad.add j) = some v := by
  rcases h with rfl | ⟨b, off, h, _, hc⟩
  · simp at hl
  · obtain rfl := Option.some.inj h
    refine ⟨_, rfl, fun j v hj => ?_⟩
    have := hc j v hj
    unfold Addr.add
    split
    · rename_i hz; subst hz; exact this
    · exact this

theorem row_lt {w : World} {g : Nat} {o : Obj} (h : w.heap[g]? = some o) : g < w.heap.size := (Array.getElem?_eq_some_iff.1 h).1

/-- Where the ways of a copy meet. -/
def Cp (w : World) (X : List Value) (n : Nat) (s : Value) (wc : World) : Prop := ∃ a c, s = .slice a n c ∧ Vals wc wc.heap.size a X ∧ Below w.heap.size w wc

theorem info9 : (Try.prog.info? 9).map (fun i => (i.zero, i.size, i.bytes)) = some (some (.string ByteArray.empty), 1, 16) := by kernel_rfl
theorem sz9 : (Try.prog.info? 9).map (·.size) = some 1 := by kernel_rfl
theorem sz32 : (Try.prog.info? 32).map (·.size) = some 1 := by kernel_rfl
theorem info32 : (Try.prog.info? 32).map (fun i => (i.zero, i.size, i.bytes)) = some (some (.int .u64 0), 1, 8) := by kernel_rfl

theorem rel_as {w : World} {g1 g2 : Nat} {n1 n2 : List ByteArray} {c1 c2 : List Int} {v : Int} (hv : rnum n1 c1 n2 c2 = v) (h1 : Ents w w.heap.size g1 n1 c1) (h2 : Ents w w.heap.size g2 n2 c2) (hl1 : n1.length ≤ 4096) (hl2 : n2.length ≤ 4096)
    (hp1 : ∀ k, 0 ≤ ct c1 k) (hp2 : ∀ k, 0 ≤ ct c2 k) :
    Calls Try.prog 9 #[.agg #[.slice (some ⟨g1, 0, none⟩) n1.length n1.length], .agg #[.slice (some ⟨g2, 0, none⟩) n2.length n2.length]] w fun e w' => e = .returned (.int .i64 v) ∧ Below w.heap.size w w' := by
  subst hv; exact rel_any h1 h2 hl1 hl2 hp1 hp2

theorem Ents.below {w w' : World} {B B' g : Nat} {ns : List ByteArray} {cs : List Int} (h : Ents w B g ns cs) (hb : Below B w w') (hB : B ≤ B') : Ents w' B' g ns cs :=
  ⟨Nat.lt_of_lt_of_le h.1 hB, fun k hk => ⟨by rw [hb.cell (p := ⟨g, k * 2, none⟩) h.1]; exact (h.2 k hk).1, by rw [hb.cell (p := ⟨g, k * 2 + 1, none⟩) h.1]; exact (h.2 k hk).2⟩⟩

/-- What two boxed vectors and their lists are, behind the making. -/
structure Boxed (w0 w : World) (p1 p2 g1 g2 : Nat) (a1 a2 a3 a4 : Option Addr) (n1 : List ByteArray) (c1 : List Int) (n2 : List ByteArray) (c2 : List Int) : Prop where
  bel : Below w0.heap.size w0 w
  lt1 : p1 < w.heap.size
  lt2 : p2 < w.heap.size
  box1 : w.cell? ⟨p1, 0, none⟩ = some (.slice (some ⟨g1, 0, none⟩) n1.length n1.length)
  box2 : w.cell? ⟨p2, 0, none⟩ = some (.slice (some ⟨g2, 0, none⟩) n2.length n2.length)
  ents1 : Ents w w.heap.size g1 n1 c1
  ents2 : Ents w w.heap.size g2 n2 c2
  s1 : Strs w w.heap.size a1 n1
  s2 : Us w w.heap.size a2 c1
  s3 : Strs w w.heap.size a3 n2
  s4 : Us w w.heap.size a4 c2

theorem Boxed.below {w0 w w' : World} {p1 p2 g1 g2 : Nat} {a1 a2 a3 a4 : Option Addr} {n1 n2 : List ByteArray} {c1 c2 : List Int} (h : Boxed w0 w p1 p2 g1 g2 a1 a2 a3 a4 n1 c1 n2 c2) (hb : Below w.heap.size w w') : Boxed w0 w' p1 p2 g1 g2 a1 a2 a3 a4 n1 c1 n2 c2 :=
  ⟨h.bel.trans (hb.mono h.bel.size), Nat.lt_of_lt_of_le h.lt1 hb.size, Nat.lt_of_lt_of_le h.lt2 hb.size, by rw [hb.cell (p := ⟨p1, 0, none⟩) h.lt1]; exact h.box1, by rw [hb.cell (p := ⟨p2, 0, none⟩) h.lt2]; exact h.box2,
    h.ents1.below hb hb.size, h.ents2.below hb hb.size, h.s1.below hb hb.size, h.s2.below hb hb.size, h.s3.below hb hb.size, h.s4.below hb hb.size⟩

theorem cell_of {w : World} {g t : Nat} {v : Value} (h : w.heap[g]? = some (.cells #[v] t (0, 0))) : w.cell? ⟨g, 0, none⟩ = some v := by
  simp [World.cell?, h]

theorem boxed_made {w0 W4 W5 W7 : World} {g1 g2 : Nat} {a1 a2 a3 a4 : Option Addr} {n1 n2 : List ByteArray} {c1 c2 : List Int} (B4 : Below w0.heap.size w0 W4)
    (S1 : Strs W4 W4.heap.size a1 n1) (S2 : Us W4 W4.heap.size a2 c1) (S3 : Strs W4 W4.heap.size a3 n2) (S4 : Us W4 W4.heap.size a4 c2)
    (b5 : Below W4.heap.size W4 W5) (E1 : Ents W5 W5.heap.size g1 n1 c1)
    (b7 : Below (W5.alloc (.cells #[.slice (some ⟨g1, 0, none⟩) n1.length n1.length] 28)).heap.size (W5.alloc (.cells #[.slice (some ⟨g1, 0, none⟩) n1.length n1.length] 28)) W7) (E2 : Ents W7 W7.heap.size g2 n2 c2) :
    Boxed w0 (W7.alloc (.cells #[.slice (some ⟨g2, 0, none⟩) n2.length n2.length] 28)) W5.heap.size W7.heap.size g1 g2 a1 a2 a3 a4 n1 c1 n2 c2 := by
  have e5 : (W5.alloc (.cells #[.slice (some ⟨g1, 0, none⟩) n1.length n1.length] 28)).heap.size = W5.heap.size + 1 := by simp
  have e7 : (W7.alloc (.cells #[.slice (some ⟨g2, 0, none⟩) n2.length n2.length] 28)).heap.size = W7.heap.size + 1 := by simp
  have b6 := (Below.refl W5.heap.size W5).alloc (Nat.le_refl _) (.cells #[.slice (some ⟨g1, 0, none⟩) n1.length n1.length] 28)
  have b8 := (Below.refl W7.heap.size W7).alloc (Nat.le_refl _) (.cells #[.slice (some ⟨g2, 0, none⟩) n2.length n2.length] 28)
  have z57 : W5.heap.size + 1 ≤ W7.heap.size := by have := b7.size; omega
  have b58 := (b6.trans (b7.mono (by omega))).trans (b8.mono (by omega))
  have b48 := b5.trans (b58.mono b5.size)
  have z48 := b48.size
  have z58 := b58.size
  refine ⟨B4.trans (b48.mono B4.size), by omega, by omega, ?_, ?_, E1.below b58 z58, E2.below b8 b8.size, S1.below b48 z48, S2.below b48 z48, S3.below b48 z48, S4.below b48 z48⟩
  · rw [b8.cell (p := ⟨W5.heap.size, 0, none⟩) (by show W5.heap.size < _; omega), b7.cell (p := ⟨W5.heap.size, 0, none⟩) (by show W5.heap.size < _; omega)]
    have := heap_alloc_new W5 (.cells #[.slice (some ⟨g1, 0, none⟩) n1.length n1.length] 28)
    exact cell_of this
  · have := heap_alloc_new W7 (.cells #[.slice (some ⟨g2, 0, none⟩) n2.length n2.length] 28)
    exact cell_of this
end Go.Proofs.Qxb6629217a.Wk
