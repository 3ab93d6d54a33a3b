/- The four slices that came in. -/
import Derived.Test.Qxb6629217aMem
import Derived.OpenShut
import Derived.SliceStrings
namespace Go.Proofs.Qxb6629217a.Wk
open Go.RowKit
set_option linter.unusedVariables false

def RowS (w : World) (a : Option Addr) (l : List ByteArray) : Prop := Strs w w.heap.size a l ∧ l.length ≤ maxLen ∧ ∀ k, k < l.length → (nm l k).size ≤ maxLen
def RowU (w : World) (a : Option Addr) (l : List Int) : Prop := Us w w.heap.size a l ∧ l.length ≤ maxLen ∧ ∀ k, 0 ≤ ct l k

theorem rowS_nil {w : World} {a : Option Addr} : RowS w a [] := ⟨.inl rfl, by simp, by simp⟩
theorem rowU_nil {w : World} {a : Option Addr} : RowU w a [] := ⟨.inl rfl, by simp, fun k => by simp [ct]⟩

theorem rowS {w : World} {x : Addr} {len cap : Nat} {zs : List ByteArray} (hlc : len ≤ cap) (hcm : cap ≤ maxLen) (hz : zs.length = cap) (hcell : ∀ i, i < zs.length → w.cell? (x.add i) = some (.string (zs.getD i ByteArray.empty))) (hwf : ∀ s ∈ zs, s.size ≤ maxLen) :
    ∃ l : List ByteArray, l.length = len ∧ RowS w (some x) l := by
  refine ⟨zs.take len, by simp; omega, ?_, by simp; omega, fun k hk => ?_⟩
  · by_cases h0 : len = 0
    · left; simp [h0]
    · right
      obtain ⟨b, off, spot⟩ := x
      have hspot : spot = none := by simpa [Addr.add] using World.cell?_spot (hcell 0 (by omega))
      subst hspot
      refine ⟨b, off, rfl, World.block_lt_of_cell? _ _ (hcell 0 (by omega)), fun k hk => ?_⟩
      simp at hk
      rw [← Go.WideShapes.add_plain, hcell k (by omega)]
      simp [nm, List.getD_eq_getElem?_getD, show k < len by omega]
  · simp at hk
    have hkz : k < zs.length := by omega
    have e : nm (zs.take len) k = zs[k] := by simp [nm, List.getD_eq_getElem?_getD, show k < len by omega, List.getElem?_eq_getElem hkz]
    rw [e]
    exact hwf _ (List.getElem_mem _)

theorem rowU {w : World} {x : Addr} {len cap : Nat} {zs : List Int} (hlc : len ≤ cap) (hcm : cap ≤ maxLen) (hz : zs.length = cap) (hcell : ∀ i, i < zs.length → w.cell? (x.add i) = some (.int .u64 (zs.getD i 0))) (hwf : ∀ n ∈ zs, (Lit.int .u64 n).wf = true) :
    ∃ l : List Int, l.length = len ∧ RowU w (some x) l := by
  refine ⟨zs.take len, by simp; omega, ?_, by simp; omega, fun k => ?_⟩
  · by_cases h0 : len = 0
    · left; simp [h0]
    · right
      obtain ⟨b, off, spot⟩ := x
      have hspot : spot = none := by simpa [Addr.add] using World.cell?_spot (hcell 0 (by omega))
      subst hspot
      refine ⟨b, off, rfl, World.block_lt_of_cell? _ _ (hcell 0 (by omega)), fun k hk => ?_⟩
      simp at hk
      rw [← Go.WideShapes.add_plain, hcell k (by omega)]
      simp [ct, List.getD_eq_getElem?_getD, show k < len by omega]
  · by_cases hk : k < (zs.take len).length
    · have e : ct (zs.take len) k = (zs.take len)[k] := by simp only [ct, List.getD_eq_getElem?_getD, List.getElem?_eq_getElem hk]; rfl
      rw [e]
      have hw := hwf _ (List.mem_of_mem_take (List.getElem_mem hk))
      generalize (zs.take len)[k] = z at hw
      simp only [Lit.wf, Bool.and_eq_true, decide_eq_true_eq] at hw
      have h0 : IntKind.u64.min = 0 := by decide
      rw [h0] at hw
      exact hw.1
    · simp only [ct, List.getD_eq_getElem?_getD, List.getElem?_eq_none (by omega : (zs.take len).length ≤ k)]; decide
end Go.Proofs.Qxb6629217a.Wk
