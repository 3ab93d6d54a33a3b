/- zzLRUUseInstanceB1. -/
import Derived.Test.Qxb6629139aRead
namespace Go.Proofs.Qxb6629139a.Walks
open Go.RowKit Go.Proofs.Qxb6629139a.Plain
set_option linter.unusedVariables false

/-- The list behind i rounds of the shift from pos down. -/
def sft (l : List Int) (pos : Nat) : Nat → List Int
  | 0 => l
  | i + 1 => (sft l pos i).set (pos - i) ((sft l pos i).getD (pos - i - 1) 0)

theorem sft_len (l : List Int) (pos : Nat) : ∀ i, (sft l pos i).length = l.length
  | 0 => rfl
  | i + 1 => by simp [sft, sft_len l pos i]

theorem sft_get {l : List Int} {pos : Nat} (h : pos < l.length) : ∀ i, i ≤ pos → ∀ t, (sft l pos i)[t]? = if pos - i < t ∧ t ≤ pos then l[t - 1]? else l[t]?
  | 0, _, t => by rw [if_neg (by omega)]; rfl
  | i + 1, hi, t => by
    have ih := sft_get h i (by omega)
    simp only [sft, List.getElem?_set, sft_len]
    by_cases e : pos - i = t
    · subst e
      rw [if_pos rfl, if_pos (by omega), if_pos (by omega), List.getD_eq_getElem?_getD, ih, if_neg (by omega), List.getElem?_eq_getElem (show pos - i - 1 < l.length by omega)]
      rfl
    · rw [if_neg e, ih]
      by_cases e2 : pos - i < t ∧ t ≤ pos
      · rw [if_pos e2, if_pos (by omega)]
      · rw [if_neg e2, if_neg (by omega)]

theorem sft_end {l : List Int} {pos : Nat} (h : pos < l.length) (x : Int) : (sft l pos pos).set 0 x = x :: l.eraseIdx pos := by
  apply List.ext_getElem?
  intro t
  rw [List.getElem?_set, sft_len, sft_get h pos (Nat.le_refl _)]
  cases t with
  | zero => rw [if_pos rfl, if_pos (by omega)]; rfl
  | succ t =>
    rw [if_neg (by omega), List.getElem?_cons_succ, List.getElem?_eraseIdx]
    by_cases e : t < pos
    · rw [if_pos (by omega), if_pos e]; simp
    · rw [if_neg (by omega), if_neg e]

theorem erase_hit {l : List Int} {k : Nat} (hn : l.Nodup) (h : k < l.length) : l.eraseIdx k = l.filter (fun y => y != l.getD k 0) := by
  induction l generalizing k with
  | nil => simp at h
  | cons y r ih =>
    obtain ⟨h1, h2⟩ := List.nodup_cons.1 hn
    cases k with
    | zero =>
      simp only [List.eraseIdx_cons_zero, List.getD_cons_zero]
      rw [List.filter_cons_of_neg (by simp)]
      exact (List.filter_eq_self.2 fun z hz => by simp; intro e; exact h1 (e ▸ hz)).symm
    | succ k =>
      have hk : k < r.length := by simpa using h
      have hm : r.getD k 0 ∈ r := by simp [List.getD_eq_getElem?_getD, List.getElem?_eq_getElem hk]
      simp only [List.eraseIdx_cons_succ, List.getD_cons_succ]
      rw [List.filter_cons_of_pos (by simp; intro e; exact h1 (e ▸ hm)), ih h2 hk]

theorem erase_miss {l : List Int} {x : Int} (h : x ∉ l) : (l ++ [0]).eraseIdx l.length = l.filter (fun y => y != x) := by
  rw [List.eraseIdx_append_of_length_le (Nat.le_refl _)]
  simp only [Nat.sub_self, List.eraseIdx_cons_zero, List.append_nil]
  exact (List.filter_eq_self.2 fun z hz => by simp; intro e; exact h (e ▸ hz)).symm

theorem own_take {w : World} {base : Nat} {e : TypeId} {g n cap m : Nat} {xs : List Value} (h : w.ownsRow base e 1 (.slice (some ⟨g, 0, none⟩) n cap) n xs) (hm : m ≤ n) :
    w.ownsRow base e 1 (.slice (some ⟨g, 0, none⟩) m cap) m (xs.take m) := by
  have h1 := h.1
  rcases h.2 with ⟨h', _⟩ | ⟨g', cap', cur, h', hb, hg, hnc, hcm, hcs, htake⟩
  · simp at h'
  · simp only [Value.slice.injEq, Option.some.injEq, Addr.mk.injEq, and_true, true_and] at h'
    obtain ⟨rfl, rfl⟩ := h'
    refine ⟨by simp at h1 ⊢; omega, .inr ⟨g, cap, cur, rfl, hb, hg, by omega, hcm, hcs, ?_⟩⟩
    rw [← htake, List.take_take]
    congr 1; omega

/-- One store into an owned row of int64. -/
theorem own_set {w : World} {base g cap : Nat} {l : List Int} (h : w.ownsRow base 2 1 (.slice (some ⟨g, 0, none⟩) l.length cap) l.length (l.map (Value.int .i64))) (j : Nat) (x : Int) :
    (w.setCell ⟨g, j, none⟩ (.int .i64 x)).ownsRow base 2 1 (.slice (some ⟨g, 0, none⟩) (l.set j x).length cap) (l.set j x).length ((l.set j x).map (Value.int .i64)) := by
  have := (h.stored j (.int .i64 x)).1
  rw [List.length_set, List.map_set]; exact this

theorem own_cell {w : World} {base g cap : Nat} {l : List Int} (h : w.ownsRow base 2 1 (.slice (some ⟨g, 0, none⟩) l.length cap) l.length (l.map (Value.int .i64))) (j : Nat) (hj : j < l.length) :
    w.cell? ⟨g, j, none⟩ = some (.int .i64 (l.getD j 0)) := by
  rw [h.cellAt j (by omega)]
  simp [List.getD_eq_getElem?_getD, List.getElem?_eq_getElem hj]

theorem take_snoc_mem {l : List Int} {k : Nat} {x : Int} (hk : k < l.length) (h : x ∉ l.take k) (hne : l.getD k 0 ≠ x) : x ∉ l.take (k + 1) := by
  rw [List.take_succ_eq_append_getElem hk]
  simp only [List.mem_append, List.mem_singleton, not_or]
  refine ⟨h, fun e => hne ?_⟩
  simp [List.getD_eq_getElem?_getD, List.getElem?_eq_getElem hk, e]

/-- What a use leaves. -/
def Used (w w' : World) (base g scap : Nat) (cap : Int) (l : List Int) (x : Int) (e : Ending) : Prop :=
  ∃ l', l' = (x :: l.filter (fun y => y != x)).take cap.toNat ∧ e = .returned (.slice (some ⟨g, 0, none⟩) l'.length scap) ∧ w'.ownsRow base 2 1 (.slice (some ⟨g, 0, none⟩) l'.length scap) l'.length (l'.map (Value.int .i64)) ∧ Below base w w'

/-- The relation of the shift. -/
def RelS (w wr : World) (base g scap n : Nat) (M : List Int) (pos : Nat) (jv : Value) : Prop :=
  ∃ i, i ≤ pos ∧ jv = .int .i64 ((pos : Int) - i) ∧ wr.ownsRow base 2 1 (.slice (some ⟨g, 0, none⟩) n scap) n ((sft M pos i).map (Value.int .i64)) ∧ Below base w wr

theorem ownN_cell {w : World} {base g cap n : Nat} {l : List Int} (h : w.ownsRow base 2 1 (.slice (some ⟨g, 0, none⟩) n cap) n (l.map (Value.int .i64))) (j : Nat) (hj : j < n) :
    w.cell? ⟨g, j, none⟩ = some (.int .i64 (l.getD j 0)) := by
  have h1 := h.1
  simp at h1
  rw [h.cellAt j (by omega)]
  simp [List.getD_eq_getElem?_getD, List.getElem?_eq_getElem (show j < l.length by omega)]
theorem ownN_set {w : World} {base g cap n : Nat} {l : List Int} (h : w.ownsRow base 2 1 (.slice (some ⟨g, 0, none⟩) n cap) n (l.map (Value.int .i64))) (j : Nat) (x : Int) :
    (w.setCell ⟨g, j, none⟩ (.int .i64 x)).ownsRow base 2 1 (.slice (some ⟨g, 0, none⟩) n cap) n ((l.set j x).map (Value.int .i64)) := by
  have := (h.stored j (.int .i64 x)).1
  rw [List.map_set]; exact this

/-- The three ways to cut. -/
theorem used_mk {w w' : World} {base g scap n : Nat} {cap x : Int} {l T : List Int} (hT : T = x :: l.filter (fun y => y != x)) (h : w'.ownsRow base 2 1 (.slice (some ⟨g, 0, none⟩) n scap) n (T.map (Value.int .i64))) (hb : Below base w w')
    {m : Nat} (hm : (m = n ∧ (n : Int) ≤ cap) ∨ (m = cap.toNat ∧ m ≤ n)) : Used w w' base g scap cap l x (.returned (.slice (some ⟨g, 0, none⟩) m scap)) := by
  have h1 := h.1
  simp at h1
  have e : T.take cap.toNat = T.take m := by
    rcases hm with ⟨rfl, hm⟩ | ⟨rfl, _⟩
    · rw [List.take_of_length_le (by omega), List.take_of_length_le (by omega)]
    · rfl
  have hmn : m ≤ n := by rcases hm with ⟨rfl, _⟩ | ⟨_, h⟩ <;> omega
  have hlen : (T.take m).length = m := by rw [List.length_take]; omega
  refine ⟨T.take m, by rw [← hT, e], by rw [hlen], ?_, hb⟩
  rw [hlen, List.map_take]
  exact own_take h hmn

set_option maxRecDepth 100000 in
set_option maxHeartbeats 2000000 in
theorem use_any {w : World} {base g scap : Nat} {cap x : Int} {l : List Int} (h : w.ownsRow base 2 1 (.slice (some ⟨g, 0, none⟩) l.length scap) l.length (l.map (Value.int .i64)))
    (hr : l.length + 1 ≤ scap) (hl : l.length ≤ 20000) (hn : l.Nodup) (hbase : base ≤ w.heap.size) (hs : scap ≤ 40000) :
    Calls Try.prog 8 #[.slice (some ⟨g, 0, none⟩) l.length scap, .int .i64 x, .int .i64 cap] w fun e w' => Used w w' base g scap cap l x e := by
  obtain ⟨i0, hi, hz0, hz1, hz2⟩ := info_parts info2
  have hbg := (h.lt g rfl).1
  go_enter Try.func8, Try.ntmps8
  go_wp2
  go_loop [7, 8] (fun p i => ∃ k : Nat, k ≤ l.length ∧ i = .int .i64 k ∧ p = .int .i64 (-1) ∧ x ∉ l.take k) (fun _ i => l.length - (intOf i).toNat)
  case atStart => exact ⟨0, Nat.zero_le _, rfl, rfl, by simp⟩
  case round =>
    obtain ⟨k, hk, rfl, rfl, hnot⟩ := hrel
    by_cases hkl : k < l.length
    · have hc := own_cell h k hkl
      obtain ⟨y, hy⟩ : ∃ y, y = l.getD k 0 := ⟨_, rfl⟩
      rw [← hy] at hc
      by_cases he : y = x
      · have hbe : (y == x) = true := beq_iff_eq.2 he
        have HY : Hid (y = x ∧ y = l.getD k 0) := ⟨he, hy⟩
        clear he hy
        go_wp2
        have hyn : l.getD k 0 = x := HY.out.2.symm.trans HY.out.1
        have hT : (sft (l) k k).set 0 x = x :: l.filter (fun y => y != x) := (by rw [sft_end hkl, erase_hit hn hkl, hyn])
        have HT : Hid _ := hT
        clear hT
        go_loopw [9] (fun jv wr => RelS w wr base g scap (l.length) (l) k jv) (fun jv _ => (intOf jv).toNat)
        case atStart => exact ⟨0, Nat.zero_le _, by simp, h, (Below.refl _ _)⟩
        case round =>
          clear h
          obtain ⟨i, hi2, rfl, hwn, hbl⟩ := hrel
          by_cases hip : i < k
          · have q1 := ownN_cell hwn (k - i - 1) (by omega)
            have q2 := ownN_cell hwn (k - i) (by omega)
            have q3 := hwn.frozenAt (k - i)
            generalize hz : (sft (l) k i).getD (k - i - 1) 0 = z at q1
            generalize (sft (l) k i).getD (k - i) 0 = z2 at q2
            have HZ : Hid _ := hz
            have HW : Hid _ := ownN_set hwn (k - i) z
            clear hz hwn
            go_wp2
            go_roundw
            case rel => exact ⟨i + 1, by omega, by go_num, by simp only [sft]; rw [HZ.out]; exact HW.out, hbl.setCell hbg _⟩
            case measure => simp [intOf]; omega
          · rw [show i = k from by omega] at hwn
            have q1 := ownN_cell hwn 0 (by omega)
            have q3 := hwn.frozenAt 0
            generalize (sft (l) k k).getD 0 0 = z at q1
            have HW : Hid _ := ownN_set hwn 0 x
            have HB : Hid _ := hbl.setCell hbg (p := ⟨g, 0, none⟩) (.int .i64 x)
            clear hwn hbl
            by_cases c1 : cap < ((l.length : Nat) : Int)
            · by_cases c2 : cap ≤ 0
              · go_wp2
                go_ret
                exact used_mk HT.out HW.out HB.out (m := 0) (.inr ⟨by omega, by omega⟩)
              · obtain ⟨c, rfl⟩ : ∃ c : Nat, cap = (c : Int) := ⟨cap.toNat, by omega⟩
                have c3 : c ≤ scap := by omega
                go_wp2
                go_ret
                exact used_mk HT.out HW.out HB.out (m := c) (.inr ⟨by simp, by omega⟩)
            · go_wp2
              go_ret
              exact used_mk HT.out HW.out HB.out (m := l.length) (.inl ⟨rfl, by omega⟩)

      · have hbe : (y == x) = false := beq_eq_false_iff_ne.2 he
        have HN : Hid (x ∉ l.take (k + 1)) := take_snoc_mem hkl hnot (by rw [← hy]; exact he)
        clear he hy hnot
        go_wp2
        go_round
        case rel => exact ⟨k + 1, by omega, by go_num, rfl, HN.out⟩
        case measure => simp [intOf]; omega
    · obtain rfl : k = l.length := by omega
      rw [List.take_of_length_le (Nat.le_refl _)] at hnot
      go_wp2_with (at_builtin; refine wpList_append_fits _ rfl _ _ 22 rfl base 2 i0 1 Try.underlying22 hi hz1 g l.length scap _ rfl (h.alloc _) ⟨w.heap.size, 0, none⟩ 1 1 [.int .i64 0] rfl rfl (cell_one_new _ _ _) (ints_oneCell .i64 [0]) (by omega) ?_; intro w1 hown1 hgrow1)
      have hM : w1.ownsRow base 2 1 (.slice (some ⟨g, 0, none⟩) (l.length + 1) scap) (l.length + 1) ((l ++ [0]).map (Value.int .i64)) := by rw [List.map_append]; exact hown1
      have hB1 : Below base w w1 := ((Below.refl _ _).alloc hbase _).grown hgrow1 (by simp; omega) (by intro k hk; cases hk; exact hbg)
      clear hown1 hgrow1
      have hT : (sft (l ++ [0]) l.length l.length).set 0 x = x :: l.filter (fun y => y != x) := (by rw [sft_end (by simp), erase_miss hnot])
      have HT : Hid _ := hT
      clear hT
      go_loopw [9] (fun jv wr => RelS w wr base g scap (l.length + 1) (l ++ [0]) l.length jv) (fun jv _ => (intOf jv).toNat)
      case atStart => exact ⟨0, Nat.zero_le _, by simp, hM, hB1⟩
      case round =>
        clear hM
        obtain ⟨i, hi2, rfl, hwn, hbl⟩ := hrel
        by_cases hip : i < l.length
        · have q1 := ownN_cell hwn (l.length - i - 1) (by omega)
          have q2 := ownN_cell hwn (l.length - i) (by omega)
          have q3 := hwn.frozenAt (l.length - i)
          generalize hz : (sft (l ++ [0]) l.length i).getD (l.length - i - 1) 0 = z at q1
          generalize (sft (l ++ [0]) l.length i).getD (l.length - i) 0 = z2 at q2
          have HZ : Hid _ := hz
          have HW : Hid _ := ownN_set hwn (l.length - i) z
          clear hz hwn
          go_wp2
          go_roundw
          case rel => exact ⟨i + 1, by omega, by go_num, by simp only [sft]; rw [HZ.out]; exact HW.out, hbl.setCell hbg _⟩
          case measure => simp [intOf]; omega
        · rw [show i = l.length from by omega] at hwn
          have q1 := ownN_cell hwn 0 (by omega)
          have q3 := hwn.frozenAt 0
          generalize (sft (l ++ [0]) l.length l.length).getD 0 0 = z at q1
          have HW : Hid _ := ownN_set hwn 0 x
          have HB : Hid _ := hbl.setCell hbg (p := ⟨g, 0, none⟩) (.int .i64 x)
          clear hwn hbl
          by_cases c1 : cap < ((l.length + 1 : Nat) : Int)
          · by_cases c2 : cap ≤ 0
            · go_wp2
              go_ret
              exact used_mk HT.out HW.out HB.out (m := 0) (.inr ⟨by omega, by omega⟩)
            · obtain ⟨c, rfl⟩ : ∃ c : Nat, cap = (c : Int) := ⟨cap.toNat, by omega⟩
              have c3 : c ≤ scap := by omega
              go_wp2
              go_ret
              exact used_mk HT.out HW.out HB.out (m := c) (.inr ⟨by simp, by omega⟩)
          · go_wp2
            go_ret
            exact used_mk HT.out HW.out HB.out (m := l.length + 1) (.inl ⟨rfl, by omega⟩)

end Go.Proofs.Qxb6629139a.Walks
