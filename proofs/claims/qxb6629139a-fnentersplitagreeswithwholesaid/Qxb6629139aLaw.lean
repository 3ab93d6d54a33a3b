/- What both laws share: a slice of int64 that came in; the model's loop. -/
import Derived.Test.Qxb6629139aEq
namespace Go.Proofs.Qxb6629139a.Walks
open Go.RowKit Go.Proofs.Qxb6629139a.Plain
set_option linter.unusedVariables false

/-- WHAT THE WALK IS TOLD OF A SLICE OF INTEGERS THAT CAME IN: it is nil; or it leads to a row of 'cap' cells, the numbers 'zs' (the first 'len' are its elements, the rest its spare room), each fitting its kind. -/
def IsRow (k : IntKind) (w : World) (a : Option Addr) (len cap : Nat) (zs : List Int) : Prop :=
  (a = none ∧ len = 0 ∧ cap = 0 ∧ zs = []) ∨
  ∃ x, a = some x ∧ len ≤ cap ∧ cap ≤ maxLen ∧ zs.length = cap ∧ (∀ i, i < zs.length → w.cell? (x.add i) = some (.int k (zs.getD i 0))) ∧ ∀ n ∈ zs, (Lit.int k n).wf = true

theorem row_ints {w : World} {a : Option Addr} {len cap : Nat} {zs : List Int} (h : IsRow .i64 w a len cap zs) : ∃ l : List Int, l.length = len ∧ Ints w w.heap.size a l ∧ (∀ x ∈ l, (Lit.int .i64 x).wf = true) ∧ len ≤ maxLen := by
  rcases h with ⟨rfl, rfl, rfl, rfl⟩ | ⟨x, rfl, hlc, hcm, hz, hcell, hwf⟩
  · exact ⟨[], rfl, .inl rfl, by simp, by simp⟩
  · refine ⟨zs.take len, by simp; omega, ?_, fun y hy => hwf y (List.mem_of_mem_take hy), by omega⟩
    by_cases h0 : len = 0
    · left; simp [h0]
    · right
      obtain ⟨b, off, spot⟩ := x
      have hspot : spot = none := by simpa [Addr.add] using World.cell?_spot (hcell 0 (by omega))
      subst hspot
      refine ⟨b, off, rfl, World.block_lt_of_cell? _ _ (hcell 0 (by omega)), fun k hk => ?_⟩
      simp at hk
      rw [← Go.WideShapes.add_plain, hcell k (by omega)]
      simp [List.getD_eq_getElem?_getD, show k < len by omega]

theorem Ints.below {w w' : World} {B B' : Nat} {a : Option Addr} {l : List Int} (h : Ints w B a l) (hb : Below B w w') (hB : B ≤ B') : Ints w' B' a l := by
  rcases h with rfl | ⟨b, off, rfl, hlt, hc⟩
  · exact .inl rfl
  · exact .inr ⟨b, off, rfl, by omega, fun k hk => by rw [hb.cell (p := ⟨b, off + k, none⟩) hlt]; exact hc k hk⟩

/-- The model's list after the uses u (the last first). -/
def lruOf (cap : Int) (u : List Int) : List Int := (dd u).take cap.toNat
theorem lruOf_len (cap : Int) (u : List Int) : (lruOf cap u).length ≤ u.length := by
  unfold lruOf; have := dd_len u; rw [List.length_take]; omega
theorem lruOf_nodup (cap : Int) (u : List Int) : (lruOf cap u).Nodup := by
  unfold lruOf; exact (List.take_sublist _ _).nodup (nodup_dd u)
theorem lruOf_use (cap : Int) (u : List Int) (x : Int) : (x :: (lruOf cap u).filter (fun y => y != x)).take cap.toNat = lruOf cap (x :: u) := use_dd _ _ _

theorem rev_snoc (l : List Int) (k : Nat) (h : k < l.length) : (l.take (k + 1)).reverse = l.getD k 0 :: (l.take k).reverse := by
  rw [List.take_succ_eq_append_getElem h]
  simp [List.getD_eq_getElem?_getD, List.getElem?_eq_getElem h]

/-- The relation of the loops that use. -/
def RelU (w wr : World) (B G scap : Nat) (cap : Int) (l v : List Int) (lru i : Value) : Prop :=
  ∃ k, k ≤ l.length ∧ i = .int .i64 k ∧ ∃ m, m = lruOf cap ((l.take k).reverse ++ v) ∧ lru = .slice (some ⟨G, 0, none⟩) m.length scap ∧
    wr.ownsRow B 2 1 (.slice (some ⟨G, 0, none⟩) m.length scap) m.length (m.map (Value.int .i64)) ∧ Below B w wr

/-- A row that lies below the heap's size stays owned by what turns nothing below it. -/
theorem own_below {w w' : World} {base : Nat} {e : TypeId} {size n : Nat} {v : Value} {xs : List Value} (h : w.ownsRow base e size v n xs) (hb : Below w.heap.size w w') : w'.ownsRow base e size v n xs := by
  have hlt := h.lt
  refine ⟨h.1, ?_⟩
  rcases h.2 with hn | ⟨g, cap, cur, rfl, hg, hh, rest⟩
  · exact .inl hn
  · exact .inr ⟨g, cap, cur, rfl, hg, by rw [hb.block g (hlt g rfl).2]; exact hh, rest⟩
end Go.Proofs.Qxb6629139a.Walks
