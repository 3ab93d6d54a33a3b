/- The slots as a plain list of entries: what a store into one cell does to it. Of Go's model only the values. -/
import Derived.Test.Qxb6629139aPlain
import Derived.Below
namespace Go.Proofs.Qxb6629139a.Walks
open Go.Proofs.Qxb6629139a.Plain

structure Ent where
  id : Int
  call : Int
  newer : Nat
  older : Nat

def Ent.cells (e : Ent) : List Value := [.int .i64 e.id, .int .u64 e.call, .int .i64 e.newer, .int .i64 e.older]
def zeroEnt : Ent := ⟨0, 0, 0, 0⟩
def flat : List Ent → List Value
  | [] => []
  | e :: r => e.cells ++ flat r

theorem flat_len : ∀ S : List Ent, (flat S).length = S.length * 4
  | [] => rfl
  | e :: r => by simp [flat, flat_len r, Ent.cells]; omega

theorem flat_append : ∀ (S : List Ent) (e : Ent), flat (S ++ [e]) = flat S ++ e.cells
  | [], e => by simp [flat]
  | x :: r, e => by simp [flat, flat_append r e]

theorem flat_get : ∀ (S : List Ent) (s j : Nat), s < S.length → j < 4 → (flat S)[s * 4 + j]? = (S.getD s zeroEnt).cells[j]?
  | e :: r, 0, j, _, hj => by
    simp only [flat, Nat.zero_mul, Nat.zero_add]
    rw [List.getElem?_append_left (by simpa [Ent.cells] using hj)]
    simp
  | e :: r, s + 1, j, hs, hj => by
    simp only [flat]
    rw [List.getElem?_append_right (by simp [Ent.cells]; omega)]
    have := flat_get r s j (by simpa using hs) hj
    simp only [Ent.cells, List.length_cons, List.length_nil]
    rw [show (s + 1) * 4 + j - (0 + 1 + 1 + 1 + 1) = s * 4 + j from by omega, this]
    simp [Ent.cells]

theorem flat_set (v : Value) (e' : Ent) : ∀ (S : List Ent) (s j : Nat), s < S.length → j < 4 → e'.cells = (S.getD s zeroEnt).cells.set j v → (flat S).set (s * 4 + j) v = flat (S.set s e')
  | e :: r, 0, j, _, hj, he => by
    simp only [flat, Nat.zero_mul, Nat.zero_add, List.set_cons_zero]
    rw [List.set_append_left _ _ (by simpa [Ent.cells] using hj)]
    simp at he
    rw [he]
  | e :: r, s + 1, j, hs, hj, he => by
    simp only [flat, List.set_cons_succ]
    rw [List.set_append_right _ _ (by simp [Ent.cells]; omega)]
    have := flat_set v e' r s j (by simpa using hs) hj (by simpa using he)
    rw [show (s + 1) * 4 + j - e.cells.length = s * 4 + j from by simp [Ent.cells]; omega, this]

def idOf (S : List Ent) (j : Nat) : Int := (S.getD j zeroEnt).id
def callOf (S : List Ent) (j : Nat) : Int := (S.getD j zeroEnt).call
def newr (S : List Ent) (j : Nat) : Nat := (S.getD j zeroEnt).newer
def oldr (S : List Ent) (j : Nat) : Nat := (S.getD j zeroEnt).older

def setO (S : List Ent) (s v : Nat) : List Ent := S.set s { S.getD s zeroEnt with older := v }
def setN (S : List Ent) (s v : Nat) : List Ent := S.set s { S.getD s zeroEnt with newer := v }
def setI (S : List Ent) (s : Nat) (v : Int) : List Ent := S.set s { S.getD s zeroEnt with id := v }
def setC (S : List Ent) (s : Nat) (v : Int) : List Ent := S.set s { S.getD s zeroEnt with call := v }

theorem getD_set (S : List Ent) (s j : Nat) (e : Ent) (hs : s < S.length) : (S.set s e).getD j zeroEnt = if j = s then e else S.getD j zeroEnt := by
  simp only [List.getD_eq_getElem?_getD, List.getElem?_set]
  by_cases h : s = j
  · subst h; simp [hs]
  · rw [if_neg h, if_neg (fun h' => h h'.symm)]

section
variable (S : List Ent) (s : Nat)
theorem len_setO (v : Nat) : (setO S s v).length = S.length := by simp [setO]
theorem len_setN (v : Nat) : (setN S s v).length = S.length := by simp [setN]
theorem len_setI (v : Int) : (setI S s v).length = S.length := by simp [setI]
theorem len_setC (v : Int) : (setC S s v).length = S.length := by simp [setC]
end
attribute [local simp] len_setO len_setN len_setI len_setC

theorem oldr_setO {S : List Ent} {s : Nat} (hs : s < S.length) (v : Nat) : oldr (setO S s v) = upd (oldr S) s v := by
  funext j; unfold oldr setO upd; rw [getD_set S s j _ hs]; split <;> simp_all
theorem newr_setO {S : List Ent} {s : Nat} (hs : s < S.length) (v : Nat) : newr (setO S s v) = newr S := by
  funext j; unfold newr setO; rw [getD_set S s j _ hs]; split <;> simp_all
theorem idOf_setO {S : List Ent} {s : Nat} (hs : s < S.length) (v : Nat) : idOf (setO S s v) = idOf S := by
  funext j; unfold idOf setO; rw [getD_set S s j _ hs]; split <;> simp_all
theorem callOf_setO {S : List Ent} {s : Nat} (hs : s < S.length) (v : Nat) : callOf (setO S s v) = callOf S := by
  funext j; unfold callOf setO; rw [getD_set S s j _ hs]; split <;> simp_all
theorem oldr_setN {S : List Ent} {s : Nat} (hs : s < S.length) (v : Nat) : oldr (setN S s v) = oldr S := by
  funext j; unfold oldr setN; rw [getD_set S s j _ hs]; split <;> simp_all
theorem newr_setN {S : List Ent} {s : Nat} (hs : s < S.length) (v : Nat) : newr (setN S s v) = upd (newr S) s v := by
  funext j; unfold newr setN upd; rw [getD_set S s j _ hs]; split <;> simp_all
theorem idOf_setN {S : List Ent} {s : Nat} (hs : s < S.length) (v : Nat) : idOf (setN S s v) = idOf S := by
  funext j; unfold idOf setN; rw [getD_set S s j _ hs]; split <;> simp_all
theorem callOf_setN {S : List Ent} {s : Nat} (hs : s < S.length) (v : Nat) : callOf (setN S s v) = callOf S := by
  funext j; unfold callOf setN; rw [getD_set S s j _ hs]; split <;> simp_all
theorem oldr_setI {S : List Ent} {s : Nat} (hs : s < S.length) (v : Int) : oldr (setI S s v) = oldr S := by
  funext j; unfold oldr setI; rw [getD_set S s j _ hs]; split <;> simp_all
theorem newr_setI {S : List Ent} {s : Nat} (hs : s < S.length) (v : Int) : newr (setI S s v) = newr S := by
  funext j; unfold newr setI; rw [getD_set S s j _ hs]; split <;> simp_all
theorem idOf_setI {S : List Ent} {s : Nat} (hs : s < S.length) (j : Nat) (v : Int) : idOf (setI S s v) j = if j = s then v else idOf S j := by
  unfold idOf setI; rw [getD_set S s j _ hs]; split <;> simp_all
theorem callOf_setI {S : List Ent} {s : Nat} (hs : s < S.length) (v : Int) : callOf (setI S s v) = callOf S := by
  funext j; unfold callOf setI; rw [getD_set S s j _ hs]; split <;> simp_all
theorem oldr_setC {S : List Ent} {s : Nat} (hs : s < S.length) (v : Int) : oldr (setC S s v) = oldr S := by
  funext j; unfold oldr setC; rw [getD_set S s j _ hs]; split <;> simp_all
theorem newr_setC {S : List Ent} {s : Nat} (hs : s < S.length) (v : Int) : newr (setC S s v) = newr S := by
  funext j; unfold newr setC; rw [getD_set S s j _ hs]; split <;> simp_all
theorem idOf_setC {S : List Ent} {s : Nat} (hs : s < S.length) (v : Int) : idOf (setC S s v) = idOf S := by
  funext j; unfold idOf setC; rw [getD_set S s j _ hs]; split <;> simp_all
theorem callOf_setC {S : List Ent} {s : Nat} (hs : s < S.length) (j : Nat) (v : Int) : callOf (setC S s v) j = if j = s then v else callOf S j := by
  unfold callOf setC; rw [getD_set S s j _ hs]; split <;> simp_all

/-- 'unlink' -/
def unlinkS (S : List Ent) (s : Nat) : List Ent := setN (setO S (newr S s) (oldr S s)) (oldr S s) (newr S s)
/-- 'linkBehind' -/
def linkS (S : List Ent) (s a : Nat) : List Ent := setN (setO (setO (setN S s a) s (oldr S a)) a s) (oldr S a) s

theorem len_unlinkS (S : List Ent) (s : Nat) : (unlinkS S s).length = S.length := by simp [unlinkS]
theorem len_linkS (S : List Ent) (s a : Nat) : (linkS S s a).length = S.length := by simp [linkS]

theorem unlinkS_facts {S : List Ent} {s : Nat} (h1 : newr S s < S.length) (h2 : oldr S s < S.length) :
    oldr (unlinkS S s) = upd (oldr S) (newr S s) (oldr S s) ∧ newr (unlinkS S s) = upd (newr S) (oldr S s) (newr S s) ∧ idOf (unlinkS S s) = idOf S ∧ callOf (unlinkS S s) = callOf S := by
  have h3 : oldr S s < (setO S (newr S s) (oldr S s)).length := by simpa using h2
  unfold unlinkS
  exact ⟨by rw [oldr_setN h3, oldr_setO h1], by rw [newr_setN h3, newr_setO h1], by rw [idOf_setN h3, idOf_setO h1], by rw [callOf_setN h3, callOf_setO h1]⟩

theorem linkS_facts {S : List Ent} {s a : Nat} (h1 : s < S.length) (h2 : a < S.length) (h3 : oldr S a < S.length) :
    oldr (linkS S s a) = upd (upd (oldr S) s (oldr S a)) a s ∧ newr (linkS S s a) = upd (upd (newr S) s a) (oldr S a) s ∧ idOf (linkS S s a) = idOf S ∧ callOf (linkS S s a) = callOf S := by
  have k1 : s < (setN S s a).length := by simpa using h1
  have k2 : a < (setO (setN S s a) s (oldr S a)).length := by simpa using h2
  have k3 : oldr S a < (setO (setO (setN S s a) s (oldr S a)) a s).length := by simpa using h3
  unfold linkS
  exact ⟨by rw [oldr_setN k3, oldr_setO k2, oldr_setO k1, oldr_setN h1], by rw [newr_setN k3, newr_setO k2, newr_setO k1, newr_setN h1],
    by rw [idOf_setN k3, idOf_setO k2, idOf_setO k1, idOf_setN h1], by rw [callOf_setN k3, callOf_setO k2, callOf_setO k1, callOf_setN h1]⟩

theorem getD_append (S : List Ent) (e : Ent) (j : Nat) : (S ++ [e]).getD j zeroEnt = if j = S.length then e else S.getD j zeroEnt := by
  simp only [List.getD_eq_getElem?_getD]
  rcases Nat.lt_trichotomy j S.length with h | h | h
  · rw [List.getElem?_append_left h, if_neg (by omega)]
  · subst h; simp
  · rw [List.getElem?_eq_none (by simp; omega), if_neg (by omega), List.getElem?_eq_none (by omega)]

end Go.Proofs.Qxb6629139a.Walks
