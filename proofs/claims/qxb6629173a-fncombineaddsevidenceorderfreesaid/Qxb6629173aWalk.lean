/- The walks of combine and its callees. -/
import Derived.Test.Qxb6629173aRows
import Derived.Test.Qxb6629173aComb
import Derived.WalkKit
import Derived.WalkSpells
import Derived.WalkLawsBesides
import Derived.Laws.FloatArith
import Derived.Laws.Externs
import Derived.Below
import Derived.Handy
namespace Go.Proofs.Qxb6629173a.Fl
open Ieee Go.RowKit

theorem call12 (x y : Nat) (w : World) : (callFunc 12 #[.float .f64 x, .float .f64 y]).run Try.prog w = .ok (.value (.float .f64 (pickW false .gt x y))) w := by
  rw [run_callFunc_extern (e := Extern.MathDim.pick "math.archMax" false .gt) Try.func12 (by kernel_rfl) (by kernel_rfl) (by kernel_rfl) (by kernel_rfl)]
  rfl
theorem call14 (x y : Nat) (w : World) : (callFunc 14 #[.float .f64 x, .float .f64 y]).run Try.prog w = .ok (.value (.float .f64 (pickW true .lt x y))) w := by
  rw [run_callFunc_extern (e := Extern.MathDim.pick "math.archMin" true .lt) Try.func14 (by kernel_rfl) (by kernel_rfl) (by kernel_rfl) (by kernel_rfl)]
  rfl

set_option maxHeartbeats 400000 in
theorem max_any (x y : Nat) (w : World) : Calls Try.prog 10 #[.float .f64 x, .float .f64 y] w fun e w' => e = .returned (.float .f64 (pickW false .gt x y)) ∧ w = w' := by
  have hc := call12
  go_enter Try.func10, Try.ntmps10
  go_wp2
  go_ret
  exact ⟨rfl, rfl⟩

set_option maxHeartbeats 400000 in
theorem min_any (x y : Nat) (w : World) : Calls Try.prog 11 #[.float .f64 x, .float .f64 y] w fun e w' => e = .returned (.float .f64 (pickW true .lt x y)) ∧ w = w' := by
  have hc := call14
  go_enter Try.func11, Try.ntmps11
  go_wp2
  go_ret
  exact ⟨rfl, rfl⟩

/-- A store of a float (the walk's own set has it for integers, bools, pointers, slices, strings). -/
theorem run_store_float {P : Program} {w : World} {a : Addr} {m : Mode} (k : FloatKind) (x : Nat) : (store a (.float k x) m).run P w = stored P w a (.float k x) m := run_store P w a _ m rfl
attribute [local go_sem] run_store_float

theorem run_add {x y r : Nat} (h : double.add x y = some r) (w : World) (t : TypeId) : (binOp .add t (.float .f64 x) (.float .f64 y)).run Try.prog w = .ok (.float .f64 r) w := run_float_arith w .add t .f64 x y r h
theorem run_sub {x y r : Nat} (h : double.sub x y = some r) (w : World) (t : TypeId) : (binOp .sub t (.float .f64 x) (.float .f64 y)).run Try.prog w = .ok (.float .f64 r) w := run_float_arith w .sub t .f64 x y r h
theorem run_mul {x y r : Nat} (h : double.mul x y = some r) (w : World) (t : TypeId) : (binOp .mul t (.float .f64 x) (.float .f64 y)).run Try.prog w = .ok (.float .f64 r) w := run_float_arith w .mul t .f64 x y r h
theorem run_quo {x y r : Nat} (h : double.div x y = some r) (w : World) (t : TypeId) : (binOp .quo t (.float .f64 x) (.float .f64 y)).run Try.prog w = .ok (.float .f64 r) w := run_float_arith w .quo t .f64 x y r h

set_option maxHeartbeats 1000000 in
theorem comb_zero (pMu pNu pA pB qMu qNu qA qB cNu cA cB : Nat) (w : World) (eNu : double.add pNu qNu = some cNu) (eA : double.add pA qA = some cA) (eB : double.add pB qB = some cB)
    (h0 : (FloatKind.f64.format.order pNu 0 == some .eq) = true) :
    Calls Try.prog 9 #[.agg #[.float .f64 pMu, .float .f64 pNu, .float .f64 pA, .float .f64 pB], .agg #[.float .f64 qMu, .float .f64 qNu, .float .f64 qA, .float .f64 qB]] w
      fun e w' => e = .returned (.agg #[.float .f64 qMu, .float .f64 cNu, .float .f64 cA, .float .f64 cB]) ∧ Below w.heap.size w w' := by
  have r1 := run_add eNu
  have r2 := run_add eA
  have r3 := run_add eB
  clear eNu eA eB
  go_enter Try.func9, Try.ntmps9
  go_wp2
  exact bodyPost_ret (v := .agg #[.float .f64 qMu, .float .f64 cNu, .float .f64 cA, .float .f64 cB]) (by simp [results, Try.results9, go_sem]) rfl ⟨rfl, by
    go_grown⟩

set_option maxHeartbeats 1000000 in
theorem comb_nz {pMu pNu pA pB qMu qNu qA qB cNu cA cB ww d wd mu m2 x1 x2 x3 t b2 : Nat} (w : World) (h : Chain pMu pNu pA pB qMu qNu qA qB cNu cA cB ww d wd mu m2 x1 x2 x3 t b2)
    (h0 : (FloatKind.f64.format.order pNu 0 == some .eq) = false) :
    Calls Try.prog 9 #[.agg #[.float .f64 pMu, .float .f64 pNu, .float .f64 pA, .float .f64 pB], .agg #[.float .f64 qMu, .float .f64 qNu, .float .f64 qA, .float .f64 qB]] w
      fun e w' => e = .returned (.agg #[.float .f64 m2, .float .f64 cNu, .float .f64 cA, .float .f64 b2]) ∧ Below w.heap.size w w' := by
  have r1 := run_add h.eNu
  have r2 := run_add h.eA
  have r3 := run_add h.eB
  have r4 := run_quo h.ew
  have r5 := run_sub h.ed
  have r6 := run_mul h.ewd
  have r7 := run_add h.emu
  have r8 := run_mul h.ex1
  have r9 := run_mul h.ex2
  have ra := run_mul h.ex3
  have rb := run_quo h.et
  have rc := run_add h.eb2
  have HM : Hid _ := h.em2
  clear h
  go_enter Try.func9, Try.ntmps9
  go_wp2_with fail
  refine (min_any _ _ _).mono ?_
  rintro e w1 ⟨rfl, rfl⟩
  generalize hmn : pickW true .lt pMu qMu = mn
  have HMN : Hid _ := hmn
  clear hmn
  go_wp2_with fail
  refine (max_any _ _ _).mono ?_
  rintro e w1 ⟨rfl, rfl⟩
  generalize hm1 : pickW false .gt mu mn = m1
  have HM1 : Hid _ := hm1
  clear hm1
  go_wp2_with fail
  refine (max_any _ _ _).mono ?_
  rintro e w1 ⟨rfl, rfl⟩
  generalize hmx : pickW false .gt pMu qMu = mx
  have HMX : Hid _ := hmx
  clear hmx
  go_wp2_with fail
  refine (min_any _ _ _).mono ?_
  rintro e w1 ⟨rfl, rfl⟩
  have hm2 : pickW true .lt m1 mx = m2 := by rw [HM.out, HMN.out, HM1.out, HMX.out]
  rw [hm2]
  clear hm2 HM HMN HM1 HMX
  go_wp2
  exact bodyPost_ret (v := .agg #[.float .f64 m2, .float .f64 cNu, .float .f64 cA, .float .f64 b2]) (by simp [results, Try.results9, go_sem]) rfl ⟨rfl, by go_grown⟩

theorem third_cell (w : World) (A B : Obj) (c : Array Value) (t : TypeId) (j : Nat) : (((w.alloc A).alloc B).alloc (.cells c t)).cell? ⟨w.heap.size + 1 + 1, j, none⟩ = c[j]? := by
  have e : ((w.alloc A).alloc B).heap.size = w.heap.size + 1 + 1 := by simp
  rw [← e, World.cell?_alloc_new]
theorem third_frozen (w : World) (A B : Obj) (c : Array Value) (t : TypeId) (j : Nat) : (((w.alloc A).alloc B).alloc (.cells c t)).frozen? ⟨w.heap.size + 1 + 1, j, none⟩ = false := by
  have e : ((w.alloc A).alloc B).heap.size = w.heap.size + 1 + 1 := by simp
  rw [← e, World.frozen?_alloc_new]

/-- 'ZZcombine' hands combine's answer on. -/
theorem zz_any (p q r : Array Value) (hp : ∃ a b c d, p = #[.float .f64 a, .float .f64 b, .float .f64 c, .float .f64 d]) (hq : ∃ a b c d, q = #[.float .f64 a, .float .f64 b, .float .f64 c, .float .f64 d])
    (hr : ∃ a b c d, r = #[.float .f64 a, .float .f64 b, .float .f64 c, .float .f64 d]) (w : World)
    (hc : ∀ w : World, Calls Try.prog 9 #[.agg p, .agg q] w fun e w' => e = .returned (.agg r) ∧ Below w.heap.size w w') :
    Calls Try.prog 6 #[.agg p, .agg q] w fun e w' => e = .returned (.agg r) ∧ Below w.heap.size w w' := by
  obtain ⟨a1, a2, a3, a4, rfl⟩ := hp
  obtain ⟨b1, b2, b3, b4, rfl⟩ := hq
  obtain ⟨c1, c2, c3, c4, rfl⟩ := hr
  have HC : Hid _ := hc
  clear hc
  go_enter Try.func6, Try.ntmps6
  go_wp2_with fail
  refine (HC.out _).mono ?_
  rintro e w1 ⟨rfl, hb⟩
  have hk : ∀ j, j < 4 → w1.cell? ⟨w.heap.size + 1 + 1, j, none⟩ = some (.float .f64 0) := by
    intro j hj
    rw [hb.cell (p := ⟨w.heap.size + 1 + 1, j, none⟩) (by simp)]
    rw [third_cell]
    match j, hj with
    | 0, _ => rfl
    | 1, _ => rfl
    | 2, _ => rfl
    | 3, _ => rfl
  have k0 := hk 0 (by decide)
  have k1 := hk 1 (by decide)
  have k2 := hk 2 (by decide)
  have k3 := hk 3 (by decide)
  have hf : ∀ j, w1.frozen? ⟨w.heap.size + 1 + 1, j, none⟩ = false := by
    intro j
    rw [hb.frozen (p := ⟨w.heap.size + 1 + 1, j, none⟩) (by simp)]
    exact third_frozen _ _ _ _ _ _
  clear hk
  go_wp2
  exact bodyPost_ret (v := .agg #[.float .f64 c1, .float .f64 c2, .float .f64 c3, .float .f64 c4]) (by simp [results, Try.results6, go_sem, k0, k1, k2, k3]) rfl ⟨rfl, by
    refine Below.trans (b := ((w.alloc (.cells #[.float .f64 a1, .float .f64 a2, .float .f64 a3, .float .f64 a4] 25)).alloc (.cells #[.float .f64 b1, .float .f64 b2, .float .f64 b3, .float .f64 b4] 25)).alloc (.cells #[.float .f64 0, .float .f64 0, .float .f64 0, .float .f64 0] 25)) (by go_grown) ?_
    have hb' := hb.mono (B' := w.heap.size) (by simp; omega)
    go_grown⟩

/-! ### the guards -/
theorem ge_of {x y : Nat} (h : (double.order x y == some .gt || double.order x y == some .eq) = true) : N x ∧ N y ∧ V y ≤ V x := by
  by_cases hx : N x
  · by_cases hy : N y
    · refine ⟨hx, hy, ?_⟩
      rw [order_n hx hy] at h
      simp only [Bool.or_eq_true, beq_iff_eq, Option.some.injEq, Int.compare_eq_gt, Int.compare_eq_eq] at h
      omega
    · rw [order_not (.inr hy)] at h; simp at h
  · rw [order_not (.inl hx)] at h; simp at h
theorem le_of {x y : Nat} (h : (double.order x y == some .lt || double.order x y == some .eq) = true) : N x ∧ N y ∧ V x ≤ V y := by
  by_cases hx : N x
  · by_cases hy : N y
    · refine ⟨hx, hy, ?_⟩
      rw [order_n hx hy] at h
      simp only [Bool.or_eq_true, beq_iff_eq, Option.some.injEq, Int.compare_eq_lt, Int.compare_eq_eq] at h
      omega
    · rw [order_not (.inr hy)] at h; simp at h
  · rw [order_not (.inl hx)] at h; simp at h
theorem fmt64 : FloatKind.f64.format = double := rfl

set_option maxHeartbeats 400000 in
theorem mean_any (x : Nat) (w : World) : Calls Try.prog 7 #[.float .f64 x] w fun e w' => (∃ b, e = .returned (.bool b) ∧ (b = true → Fi x ∧ -pp 1407 ≤ V x ∧ V x ≤ pp 1407)) ∧ w = w' := by
  cases c1 : (FloatKind.f64.format.order x 15326393489903895421 == some .gt || FloatKind.f64.format.order x 15326393489903895421 == some .eq)
  · go_enter Try.func7, Try.ntmps7
    go_wp2
    go_ret
    exact ⟨⟨_, rfl, by simp⟩, rfl⟩
  · cases c2 : (FloatKind.f64.format.order x 6103021453049119613 == some .lt || FloatKind.f64.format.order x 6103021453049119613 == some .eq)
    · go_enter Try.func7, Try.ntmps7
      go_wp2
      go_ret
      exact ⟨⟨_, rfl, by simp⟩, rfl⟩
    · have HC : Hid (Fi x ∧ -pp 1407 ≤ V x ∧ V x ≤ pp 1407) := by
        obtain ⟨n1, _, v1⟩ := ge_of c1
        obtain ⟨_, _, v2⟩ := le_of c2
        have e1 := negbig_word.2
        have e2 := big_word.2.2
        have h1 : -pp 1407 ≤ V x := Int.le_trans e1 v1
        have h2 : V x ≤ pp 1407 := Int.le_trans v2 e2
        exact ⟨fi_of n1 h1 h2 (by decide), h1, h2⟩
      go_enter Try.func7, Try.ntmps7
      go_wp2
      go_ret
      exact ⟨⟨_, rfl, fun _ => HC.out⟩, rfl⟩

set_option maxHeartbeats 400000 in
theorem count_any (x : Nat) (w : World) : Calls Try.prog 8 #[.float .f64 x] w fun e w' => (∃ b, e = .returned (.bool b) ∧ (b = true → Fi x ∧ 0 ≤ V x ∧ V x ≤ pp 1407)) ∧ w = w' := by
  cases c1 : (FloatKind.f64.format.order x 0 == some .gt || FloatKind.f64.format.order x 0 == some .eq)
  · go_enter Try.func8, Try.ntmps8
    go_wp2
    go_ret
    exact ⟨⟨_, rfl, by simp⟩, rfl⟩
  · cases c2 : (FloatKind.f64.format.order x 6103021453049119613 == some .lt || FloatKind.f64.format.order x 6103021453049119613 == some .eq)
    · go_enter Try.func8, Try.ntmps8
      go_wp2
      go_ret
      exact ⟨⟨_, rfl, by simp⟩, rfl⟩
    · have HC : Hid (Fi x ∧ 0 ≤ V x ∧ V x ≤ pp 1407) := by
        obtain ⟨n1, _, v1⟩ := ge_of c1
        obtain ⟨_, _, v2⟩ := le_of c2
        have e2 := big_word.2.2
        have h1 : 0 ≤ V x := by rw [← zero_word.2]; exact v1
        have h2 : V x ≤ pp 1407 := Int.le_trans v2 e2
        have := pp_pos 1407
        exact ⟨fi_of n1 (by omega) h2 (by decide), h1, h2⟩
      go_enter Try.func8, Try.ntmps8
      go_wp2
      go_ret
      exact ⟨⟨_, rfl, fun _ => HC.out⟩, rfl⟩

theorem sub_self_inf {x : Nat} (h : N x) (hi : ¬ Fi x) : double.sub x x = none := by
  rcases Nat.lt_or_eq_of_le h with c | c
  · exact absurd c hi
  · unfold Format.sub
    rw [read_inf hf c]
    cases sgn double x <;> rfl

theorem nan_bits (t : Nat) : ¬ N (t % 2 * 2 ^ 63 + 0x7ff0000000000000 + 1 + t / 2 % (2 ^ 52 - 1)) := by
  intro h
  unfold N NN rg at h
  have e1 : double.signWeight = 9223372036854775808 := by decide
  have e2 : double.infRung = 9218868437227405312 := by decide
  rw [e1, e2] at h
  have hr : t / 2 % (2 ^ 52 - 1) < 2 ^ 52 - 1 := Nat.mod_lt _ (by decide)
  generalize t / 2 % (2 ^ 52 - 1) = r at h hr
  rcases Nat.mod_two_eq_zero_or_one t with hs | hs
  · rw [hs] at h; omega
  · rw [hs] at h; omega

theorem run_sub_inf {x : Nat} (h : N x) (hi : ¬ Fi x) (w : World) (t : TypeId) : ∃ r, ¬ N r ∧ (binOp .sub t (.float .f64 x) (.float .f64 x)).run Try.prog w = .ok (.float .f64 r) w.drew := by
  have e : FloatKind.f64.format.sub x x = none := sub_self_inf h hi
  refine ⟨_, nan_bits (w.tape w.drawn (.nanBits .f64 x x)), ?_⟩
  simp [binOp, Op.floatArith, e]
  rfl

theorem order_self {x : Nat} (h : N x) : double.order x x = some .eq := by rw [order_n h h]; simp

set_option maxHeartbeats 400000 in
theorem finite_any (x : Nat) (w : World) : Calls Try.prog 5 #[.float .f64 x] w fun e w' => (∃ b, e = .returned (.bool b) ∧ (b = true → Fi x)) ∧ ∃ n, w' = w.drewN n := by
  by_cases hn : N x
  · have c1 : (FloatKind.f64.format.order x x == some .eq) = true := by rw [fmt64, order_self hn]; rfl
    by_cases hi : Fi x
    · obtain ⟨r, e1, rr⟩ := sub_r hi hi
      have r1 := run_sub e1
      have c2 : (FloatKind.f64.format.order r 0 == some .eq) = true := by
        have hz := (rr.zero (by omega)).1
        rw [fmt64, order_n rr.nn zero_word.1.n, hz, zero_word.2]; rfl
      have HI : Hid (Fi x) := hi
      clear hi e1 rr hn
      go_enter Try.func5, Try.ntmps5
      go_wp2
      go_ret
      exact ⟨⟨_, rfl, fun _ => HI.out⟩, 0, rfl⟩
    · obtain ⟨r, hr, e1⟩ := run_sub_inf hn hi w 22
      have c2 : (FloatKind.f64.format.order r 0 == some .eq) = false := by rw [fmt64, order_not (.inl hr)]; rfl
      clear hi hr hn
      go_enter Try.func5, Try.ntmps5
      go_wp2
      go_ret
      exact ⟨⟨_, rfl, by simp⟩, 1, rfl⟩
  · have c1 : (FloatKind.f64.format.order x x == some .eq) = false := by rw [fmt64, order_not (.inl hn)]; rfl
    clear hn
    go_enter Try.func5, Try.ntmps5
    go_wp2
    go_ret
    exact ⟨⟨_, rfl, by simp⟩, 0, rfl⟩
end Go.Proofs.Qxb6629173a.Fl
