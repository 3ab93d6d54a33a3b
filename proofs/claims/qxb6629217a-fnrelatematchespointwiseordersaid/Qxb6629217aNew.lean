/- ZZnewVector. -/
import Derived.Test.Qxb6629217aSize
namespace Go.Proofs.Qxb6629217a.Wk
open Go.RowKit Go.Proofs.Qxb6629217a.Pl
set_option linter.unusedVariables false

theorem info35 : (Try.prog.info? 35).map (fun i => (i.zero, i.size, i.bytes)) = some (some (.agg #[.string ByteArray.empty, .int .u64 0]), 2, 24) := by kernel_rfl

/-- The relation of the loop that fills the entries. -/
def RelN (w wr : World) (G : Nat) (ns : List ByteArray) (cs : List Int) (i : Value) : Prop :=
  ∃ (k : Nat) (xs : List Value), k ≤ ns.length ∧ i = .int .i64 k ∧ wr.ownsRow w.heap.size 35 2 (.slice (some ⟨G, 0, none⟩) ns.length ns.length) ns.length xs ∧
    (∀ j, j < k → xs[j * 2]? = some (.string (nm ns j)) ∧ xs[j * 2 + 1]? = some (.int .u64 (ct cs j))) ∧ wr.heap[w.heap.size]? = some (.cells #[.slice none 0 0] 28 (0, 0)) ∧ Below w.heap.size w wr

/-- The entries in memory. -/
def Ents (w : World) (B : Nat) (g : Nat) (ns : List ByteArray) (cs : List Int) : Prop :=
  g < B ∧ ∀ k, k < ns.length → w.cell? ⟨g, k * 2, none⟩ = some (.string (nm ns k)) ∧ w.cell? ⟨g, k * 2 + 1, none⟩ = some (.int .u64 (ct cs k))

theorem fill_step {xs : List Value} {k : Nat} {ns : List ByteArray} {cs : List Int} (h : ∀ j, j < k → xs[j * 2]? = some (.string (nm ns j)) ∧ xs[j * 2 + 1]? = some (.int .u64 (ct cs j))) (hl : k * 2 + 1 < xs.length) :
    ∀ j, j < k + 1 → ((xs.set (k * 2) (.string (nm ns k))).set (k * 2 + 1) (.int .u64 (ct cs k)))[j * 2]? = some (.string (nm ns j)) ∧
      ((xs.set (k * 2) (.string (nm ns k))).set (k * 2 + 1) (.int .u64 (ct cs k)))[j * 2 + 1]? = some (.int .u64 (ct cs j)) := by
  intro j hj
  rcases Nat.lt_or_eq_of_le (Nat.le_of_lt_succ hj) with c | c
  · obtain ⟨h1, h2⟩ := h j c
    rw [List.getElem?_set_ne (by omega), List.getElem?_set_ne (by omega), List.getElem?_set_ne (by omega), List.getElem?_set_ne (by omega)]
    exact ⟨h1, h2⟩
  · subst c
    refine ⟨?_, ?_⟩
    · rw [List.getElem?_set_ne (by omega), List.getElem?_set_self (by omega)]
    · rw [List.getElem?_set_self (by simpa using hl)]

set_option maxRecDepth 100000 in
set_option maxHeartbeats 2000000 in
theorem new_any {w : World} {a a' : Option Addr} {ns : List ByteArray} {cs : List Int} {c c' : Nat} (hs : Strs w w.heap.size a ns) (hu : Us w w.heap.size a' cs) (hl : ns.length = cs.length) (hn : ns.length ≤ 4096) :
    Calls Try.prog 8 #[.slice a ns.length c, .slice a' cs.length c'] w fun e w' => ∃ g, e = .returned (.agg #[.slice (some ⟨g, 0, none⟩) ns.length ns.length]) ∧ Ents w' w'.heap.size g ns cs ∧ Below w.heap.size w w' := by
  obtain ⟨i0, hi, hz0, hz1, hz2⟩ := info_parts info35
  have HS : Hid (Strs w w.heap.size a ns) := hs
  have HU : Hid (Us w w.heap.size a' cs) := hu
  have hl1 : ns.length ≤ cs.length := by omega
  have hl2 : cs.length ≤ ns.length := by omega
  clear hs hu hl
  go_enter Try.func8, Try.ntmps8
  go_wp2_with (at_make; refine wpList_make_full _ rfl _ _ 26 rfl w.heap.size 35 i0 (.agg #[.string ByteArray.empty, .int .u64 0]) 2 Try.underlying26 hi hz0 hz1 .i64 .i64 _ _ ns.length rfl rfl rfl rfl (by rw [hz2]; omega) (by unfold maxLen; omega) (by simp) ?_; intro w2 hown hgrow)
  have hbx : w2.heap[w.heap.size]? = some (.cells #[.slice none 0 0] 28 (0, 0)) := by
    rw [hgrow.block w.heap.size (by simp) (by simp)]
    exact heap_alloc_new w _
  have hb2 : Below w.heap.size w w2 := ((Below.refl _ _).alloc (Nat.le_refl _) _).grown hgrow (by simp) (by simp)
  clear hgrow
  have esz : (w.alloc (.cells #[.slice none 0 0] 28)).heap.size = w.heap.size + 1 := by simp
  rw [esz] at hown
  clear esz
  go_loopw [7] (fun i wr => RelN w wr (w.heap.size + 1) ns cs i) (fun i _ => ns.length - (intOf i).toNat)
  case atStart => exact ⟨0, _, Nat.zero_le _, rfl, hown, by intro j hj; omega, hbx, hb2⟩
  case round =>
    clear hown hbx hb2
    obtain ⟨k, xs, hk, rfl, hown, hj, hbx, hb⟩ := hrel
    have HJ : Hid _ := hj
    clear hj
    have hxl := hown.1
    by_cases hkl : k < ns.length
    · obtain ⟨b1, o1, rfl, lb1, q1⟩ := Strs.at HS.out hkl
      obtain ⟨b2, o2, rfl, lb2, q2⟩ := Us.at HU.out (k := k) (by omega)
      have u1 : wr.cell? ⟨b1, o1 + k, none⟩ = some (.string (nm ns k)) := by rw [hb.cell (p := ⟨b1, o1 + k, none⟩) lb1]; exact q1 k hkl
      have u2 : wr.cell? ⟨b2, o2 + k, none⟩ = some (.int .u64 (ct cs k)) := by rw [hb.cell (p := ⟨b2, o2 + k, none⟩) lb2]; exact q2 k (by omega)
      have HF : Hid _ := fill_step HJ.out (k := k) (by omega)
      obtain ⟨v1, hv1⟩ : ∃ v, wr.cell? ⟨w.heap.size + 1, k * 2, none⟩ = some v := ⟨_, by rw [hown.cellAt (k * 2) (by omega)]; exact List.getElem?_eq_getElem (by omega)⟩
      obtain ⟨v2, hv2⟩ : ∃ v, wr.cell? ⟨w.heap.size + 1, k * 2 + 1, none⟩ = some v := ⟨_, by rw [hown.cellAt (k * 2 + 1) (by omega)]; exact List.getElem?_eq_getElem (by omega)⟩
      have f1 := hown.frozenAt (k * 2)
      have f2 := hown.frozenAt (k * 2 + 1)
      have HO : Hid _ := ((hown.stored (k * 2) (.string (nm ns k))).1.stored (k * 2 + 1) (.int .u64 (ct cs k))).1
      clear q1 q2 hown HJ
      generalize nm ns k = x at u1 HF HO
      generalize ct cs k = y at u2 HF HO
      go_wp2
      go_region
      go_wp2
      go_roundw
      case rel =>
        refine ⟨k + 1, _, by omega, by go_num, HO.out, HF.out, ?_, ?_⟩
        · show ((wr.setCell ⟨w.heap.size + 1, k * 2, none⟩ (.string x)).setCell ⟨w.heap.size + 1, k * 2 + 1, none⟩ (.int .u64 y)).heap[w.heap.size]? = _
          rw [Below.heap_setCell _ _ _ _ (by simp), Below.heap_setCell _ _ _ _ (by simp)]; exact hbx
        · exact ((hb.setCell (p := ⟨w.heap.size + 1, k * 2, none⟩) (by simp) _).setCell (p := ⟨w.heap.size + 1, k * 2 + 1, none⟩) (by simp) _).drew
      case measure => simp [intOf]; omega
    · have hkk : k = ns.length := by omega
      have d1 : wr.cell? ⟨w.heap.size, 0, none⟩ = some (.slice none 0 0) := by simp [World.cell?, hbx]
      have d2 : wr.frozen? ⟨w.heap.size, 0, none⟩ = false := by simp [World.frozen?, hbx]
      have HE : Hid (Ents wr wr.heap.size (w.heap.size + 1) ns cs) := by
        refine ⟨(hown.lt _ rfl).2, fun j hj => ?_⟩
        obtain ⟨h1, h2⟩ := HJ.out j (by omega)
        exact ⟨(hown.cellAt (j * 2) (by omega)).trans h1, (hown.cellAt (j * 2 + 1) (by omega)).trans h2⟩
      clear HJ hown
      go_wp2
      refine bodyPost_ret (v := .agg #[.slice (some ⟨w.heap.size + 1, 0, none⟩) ns.length ns.length]) (by simp [results, Try.results8, go_sem, d1]) rfl ⟨w.heap.size + 1, rfl, ?_, ?_⟩
      · refine ⟨by simpa [World.setCell] using HE.out.1, fun j hj => ?_⟩
        obtain ⟨h1, h2⟩ := HE.out.2 j hj
        exact ⟨(World.cell?_setCell_other _ _ _ _ (by simp)).trans h1, (World.cell?_setCell_other _ _ _ _ (by simp)).trans h2⟩
      · exact hb.setCell (Nat.le_refl _) _
end Go.Proofs.Qxb6629217a.Wk
