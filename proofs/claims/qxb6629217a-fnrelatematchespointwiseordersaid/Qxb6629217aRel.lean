/- Vector.Relate. -/
import Derived.Test.Qxb6629217aNew
namespace Go.Proofs.Qxb6629217a.Wk
open Go.RowKit Go.Proofs.Qxb6629217a.Pl
set_option linter.unusedVariables false

theorem bel_drewN {B : Nat} {a w : World} (h : Below B a w) (n : Nat) : Below B a (w.drewN n) := ⟨h.os, h.tape, h.output, h.size, h.block⟩

/-- The p entries from the i-th on. -/
def ens (ns : List ByteArray) (cs : List Int) : Nat → Nat → List E
  | 0, _ => []
  | p + 1, i => ((nm ns i).data.toList, (ct cs i).toNat) :: ens ns cs p (i + 1)

/-- The number of a relation. -/
def code (r : Bool × Bool) : Int := if r.1 then (if r.2 then 3 else 2) else (if r.2 then 1 else 0)

theorem mg_end (f : Nat) (ns cs ns' cs') (p i q j : Nat) (x y : Bool) (h : p = 0 ∨ q = 0) (hf : p + q ≤ f) : mg f (ens ns cs p i) (ens ns' cs' q j) x y = (x || decide (0 < p), y || decide (0 < q)) := by
  cases p with
  | zero =>
    cases q with
    | zero => cases f <;> simp [mg, ens]
    | succ q => 
      cases f with
      | zero => omega
      | succ f => simp [mg, ens]
  | succ p =>
    cases q with
    | zero =>
      cases f with
      | zero => omega
      | succ f => simp [mg, ens]
    | succ q => omega

theorem mg_lt (f : Nat) (n1 c1 n2 c2) (p i q j : Nat) (x y : Bool) (h : Go.Lib.compareBytes (nm n1 i).data.toList (nm n2 j).data.toList = -1) :
    mg (f + 1) (ens n1 c1 (p + 1) i) (ens n2 c2 (q + 1) j) x y = mg f (ens n1 c1 p (i + 1)) (ens n2 c2 (q + 1) j) true y := by
  simp only [ens, mg]; rw [h, if_pos (by decide)]
theorem mg_gt (f : Nat) (n1 c1 n2 c2) (p i q j : Nat) (x y : Bool) (h : Go.Lib.compareBytes (nm n1 i).data.toList (nm n2 j).data.toList = 1) :
    mg (f + 1) (ens n1 c1 (p + 1) i) (ens n2 c2 (q + 1) j) x y = mg f (ens n1 c1 (p + 1) i) (ens n2 c2 q (j + 1)) x true := by
  simp only [ens, mg]; rw [h, if_neg (by decide), if_pos (by decide)]
theorem mg_eq (f : Nat) (n1 c1 n2 c2) (p i q j : Nat) (x y : Bool) (h : Go.Lib.compareBytes (nm n1 i).data.toList (nm n2 j).data.toList = 0) (h1 : 0 ≤ ct c1 i) (h2 : 0 ≤ ct c2 j) :
    mg (f + 1) (ens n1 c1 (p + 1) i) (ens n2 c2 (q + 1) j) x y = mg f (ens n1 c1 p (i + 1)) (ens n2 c2 q (j + 1)) (x || decide (ct c2 j < ct c1 i)) (y || decide (ct c1 i < ct c2 j)) := by
  have e1 : decide ((ct c2 j).toNat < (ct c1 i).toNat) = decide (ct c2 j < ct c1 i) := decide_eq_decide.2 (by omega)
  have e2 : decide ((ct c1 i).toNat < (ct c2 j).toNat) = decide (ct c1 i < ct c2 j) := decide_eq_decide.2 (by omega)
  simp only [ens, mg]; rw [h, if_neg (by decide), if_neg (by decide), e1, e2]

/-- What holds ahead of each round. -/
def RelR (w wr : World) (g1 g2 : Nat) (n1 : List ByteArray) (c1 : List Int) (n2 : List ByteArray) (c2 : List Int) (a b xx yy : Value) : Prop :=
  ∃ (i p j q f : Nat) (x y : Bool) (ad1 ad2 : Option Addr), i + p = n1.length ∧ j + q = n2.length ∧ p + q ≤ f ∧ a = .slice ad1 p p ∧ b = .slice ad2 q q ∧ xx = .bool x ∧ yy = .bool y ∧
    (0 < p → ad1 = some ⟨g1, i * 2, none⟩) ∧ (0 < q → ad2 = some ⟨g2, j * 2, none⟩) ∧
    mg f (ens n1 c1 p i) (ens n2 c2 q j) x y = mg (n1.length + n2.length) (ens n1 c1 n1.length 0) (ens n2 c2 n2.length 0) false false ∧ Below w.heap.size w wr

theorem cmp_as {a b : ByteArray} {c : Int} (h : Go.Lib.compareBytes a.data.toList b.data.toList = c) (w : World) : Calls Try.prog 14 #[.string a, .string b] w fun e w' => e = .returned (.int .i64 c) ∧ w' = w := by
  subst h
  exact (compare_any a b w).mono (fun e w' h => ⟨h.1, h.2.symm⟩)

def lenOf : Value → Nat
  | .slice _ n _ => n
  | _ => 0

set_option maxRecDepth 100000 in
set_option maxHeartbeats 4000000 in
theorem rel_any {w : World} {g1 g2 : Nat} {n1 n2 : List ByteArray} {c1 c2 : List Int} (h1 : Ents w w.heap.size g1 n1 c1) (h2 : Ents w w.heap.size g2 n2 c2) (hl1 : n1.length ≤ 4096) (hl2 : n2.length ≤ 4096)
    (hp1 : ∀ k, 0 ≤ ct c1 k) (hp2 : ∀ k, 0 ≤ ct c2 k) :
    Calls Try.prog 9 #[.agg #[.slice (some ⟨g1, 0, none⟩) n1.length n1.length], .agg #[.slice (some ⟨g2, 0, none⟩) n2.length n2.length]] w fun e w' =>
      e = .returned (.int .i64 (code (mg (n1.length + n2.length) (ens n1 c1 n1.length 0) (ens n2 c2 n2.length 0) false false))) ∧ Below w.heap.size w w' := by
  have H1 : Hid (Ents w w.heap.size g1 n1 c1) := h1
  have H2 : Hid (Ents w w.heap.size g2 n2 c2) := h2
  have P1 : Hid _ := hp1
  have P2 : Hid _ := hp2
  clear h1 h2 hp1 hp2
  go_enter Try.func9, Try.ntmps9
  go_wp2
  go_region
  go_wp2
  go_loopw [5, 6, 7, 8] (fun a b xx yy wr => RelR w wr g1 g2 n1 c1 n2 c2 a b xx yy) (fun a b _ _ _ => lenOf a + lenOf b)
  case atStart =>
    exact ⟨0, n1.length, 0, n2.length, _, false, false, _, _, by omega, by omega, Nat.le_refl _, rfl, rfl, rfl, rfl, fun _ => rfl, fun _ => rfl, rfl, (((Below.refl _ _).alloc (Nat.le_refl _) _).alloc (by simp) _).drew⟩
  case round =>
    obtain ⟨i, p, j, q, f, x, y, ad1, ad2, hi, hj, hf, rfl, rfl, rfl, rfl, ha1, ha2, hmg, hb⟩ := hrel
    have HM : Hid _ := hmg
    clear hmg
    by_cases hpq : p = 0 ∨ q = 0
    · clear ha1 ha2
      have HR : Hid _ := HM.out.symm.trans (mg_end f n1 c1 n2 c2 p i q j x y hpq hf)
      clear HM
      rcases Nat.eq_zero_or_pos p with rfl | hp
      · rcases Nat.eq_zero_or_pos q with rfl | hq
        · cases x <;> cases y
          all_goals
            go_wp2
            go_ret
            exact ⟨by rw [HR.out]; rfl, hb⟩
        · obtain ⟨q, rfl⟩ : ∃ q', q = q' + 1 := ⟨q - 1, by omega⟩
          cases x <;> cases y
          all_goals
            go_wp2
            go_ret
            exact ⟨by rw [HR.out]; simp [code], hb⟩
      · obtain rfl : q = 0 := by omega
        obtain ⟨p, rfl⟩ : ∃ p', p = p' + 1 := ⟨p - 1, by omega⟩
        cases x <;> cases y
        all_goals
          go_wp2
          go_ret
          exact ⟨by rw [HR.out]; simp [code], hb⟩
    · obtain rfl := ha1 (by omega)
      obtain rfl := ha2 (by omega)
      clear ha1 ha2
      obtain ⟨p, rfl⟩ : ∃ p', p = p' + 1 := ⟨p - 1, by omega⟩
      obtain ⟨q, rfl⟩ : ∃ q', q = q' + 1 := ⟨q - 1, by omega⟩
      obtain ⟨f, rfl⟩ : ∃ f', f = f' + 1 := ⟨f - 1, by omega⟩
      obtain ⟨u1, u2⟩ := H1.out.2 i (by omega)
      obtain ⟨v1, v2⟩ := H2.out.2 j (by omega)
      rw [← hb.cell (p := ⟨g1, i * 2, none⟩) H1.out.1] at u1
      rw [← hb.cell (p := ⟨g1, i * 2 + 1, none⟩) H1.out.1] at u2
      rw [← hb.cell (p := ⟨g2, j * 2, none⟩) H2.out.1] at v1
      rw [← hb.cell (p := ⟨g2, j * 2 + 1, none⟩) H2.out.1] at v2
      rcases cb_cases (nm n1 i).data.toList (nm n2 j).data.toList with ⟨h1, h2⟩ | ⟨h1, h2⟩ | ⟨h1, h2⟩
      · have hc : Hid (∀ w, Calls Try.prog 14 #[.string (nm n1 i), .string (nm n2 j)] w fun e w' => e = .returned (.int .i64 (-1)) ∧ w' = w) := fun w => cmp_as h1 w
        have HM2 : Hid _ := (mg_lt f n1 c1 n2 c2 p i q j x y h1).symm.trans HM.out
        clear h1 h2 HM
        go_wp2
        go_quiet ((go_at_call 14; exact Calls.quiet_of_same (hc.out _)))
        go_wp2
        go_region
        go_wp2
        go_roundw
        case rel => exact ⟨i + 1, p, j, q + 1, f, true, y, _, _, by omega, hj, by omega, rfl, rfl, rfl, rfl, fun h => by rw [if_neg (by omega)]; congr 2; omega, fun _ => rfl, HM2.out, (bel_drewN hb _).drew⟩
        case measure => simp only [lenOf]; omega
      · have hc : Hid (∀ w, Calls Try.prog 14 #[.string (nm n1 i), .string (nm n2 j)] w fun e w' => e = .returned (.int .i64 1) ∧ w' = w) := fun w => cmp_as h1 w
        have HM2 : Hid _ := (mg_gt f n1 c1 n2 c2 p i q j x y h1).symm.trans HM.out
        clear h1 h2 HM
        go_wp2
        go_quiet ((go_at_call 14; exact Calls.quiet_of_same (hc.out _)))
        go_wp2
        go_region
        go_wp2
        go_roundw
        case rel => exact ⟨i, p + 1, j + 1, q, f, x, true, _, _, hi, by omega, by omega, rfl, rfl, rfl, rfl, fun _ => rfl, fun h => by rw [if_neg (by omega)]; congr 2; omega, HM2.out, (bel_drewN hb _).drew⟩
        case measure => simp only [lenOf]; omega
      · have hc : Hid (∀ w, Calls Try.prog 14 #[.string (nm n1 i), .string (nm n2 j)] w fun e w' => e = .returned (.int .i64 0) ∧ w' = w) := fun w => cmp_as h1 w
        have HM2 : Hid _ := (mg_eq f n1 c1 n2 c2 p i q j x y h1 (P1.out i) (P2.out j)).symm.trans HM.out
        clear h1 h2 HM
        generalize ct c1 i = d1 at u2 HM2
        generalize ct c2 j = d2 at v2 HM2
        cases x <;> cases y
        all_goals
          go_wp2
          go_quiet ((go_at_call 14; exact Calls.quiet_of_same (hc.out _)))
          go_wp2
          go_quiet (fail)
          go_wp2
          go_quiet (fail)
          go_wp2
          go_quiet (fail)
          go_wp2
          go_roundw
          case rel => exact ⟨i + 1, p, j + 1, q, f, _, _, _, _, by omega, by omega, by omega, rfl, rfl, rfl, rfl, fun h => by rw [if_neg (by omega)]; congr 2; omega, fun h => by rw [if_neg (by omega)]; congr 2; omega, HM2.out, bel_drewN (bel_drewN (bel_drewN (bel_drewN hb _) _) _) _⟩
          case measure => simp only [lenOf]; omega
end Go.Proofs.Qxb6629217a.Wk
