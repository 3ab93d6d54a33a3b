/- The law FnEnterSplitAgreesWithWhole. -/
import Derived.Test.Qxb6629139aLaw
namespace Go.Proofs.Qxb6629139a.Walks
open Go.RowKit Go.Proofs.Qxb6629139a.Plain
set_option linter.unusedVariables false

theorem zero4 (w : World) : (zeroValue 4).run Try.prog w = .ok (.bool false) w := by kernel_rfl

/-- An element that reads as a bool's datum IS that bool. -/
theorem plainElem_bool_inv {P : Program} {e : TypeId} (he : P.underlying e = some .bool) {v : Value} {z : DataW Unit × List MemPlace} (h : plainElem P e v = some z) : ∃ x, v = .bool x ∧ z = (.lit (.bool x), []) := by
  unfold plainElem at h
  rw [he] at h
  cases v <;> simp at h
  exact ⟨_, rfl, h.symm⟩

/-- 'm[k]' (without 'ok') at elements that are bools. -/
theorem wpList_lookup_own_bool {P : Program} (w : World) {ops : Array Oper} {rest : List Oper} {o : Oper} {a : Act} {Q : Exit → Act → World → Prop}
    (hg : o.guard = none) (m x : Operand) (t : TypeId) (hop : o.op = Op.lookup t m x false)
    (k e : TypeId) (K : Maps.Keyed P k) (ht : P.underlying t = some (.map k e)) (he : P.underlying e = some .bool) (hz : (zeroValue e).run P w = .ok (.bool false) w) (b n : Nat) (D : DataW Unit)
    (hm : a.eval m = .map (some b)) (hown : w.ownsMap P k (plainElem P e) b n D) (key : Value) (kl : Lit) (hx : a.eval x = key) (hkey : keyOf P k key = some kl)
    (y : Bool) (hat : D.atKey kl (.lit (.bool false)) = .lit (.bool y))
    (hK : wpList P ops Q rest (a.put o.dst (.bool y)) w) :
    wpList P ops Q (o :: rest) a w := by
  refine wpList_plain hg fun K' hK' => ?_
  obtain ⟨v, ps, hrun, hv⟩ := hown.lookup K ht hz (plainElem_bool he false) hkey
  obtain ⟨c, rfl, hc⟩ := plainElem_bool_inv he hv
  rw [hat] at hc
  simp at hc
  obtain ⟨rfl, _⟩ := hc
  unfold Oper.wp
  simp [execOp, hop, hm, hx, hrun, Result.andThen]
  exact hK' _ _ hK

/-- 'enter_any' at a length that is written otherwise. -/
theorem enter_len {w : World} {base C : Nat} {cap calls : Int} {ur ids : List Int} {n icap : Nat} {a : Option Addr} (hn : n = ids.length) (h : Good w base C cap calls ((dd ur).take cap.toNat))
    (hc0 : 0 ≤ calls) (hc1 : calls ≤ 1000) (hI : Ints w base a ids) (hw : ∀ x ∈ ids, (Lit.int .i64 x).wf = true) (hl : ids.length + ur.length ≤ 20000) :
    Calls Try.prog 7 #[.pointer (some ⟨C, 0, none⟩), .slice a n icap] w fun e w' => e = .returned (.tuple #[]) ∧ Good w' base C cap (calls + 1) ((dd (ids.reverse ++ ur)).take cap.toNat) ∧ Below base w w' := by
  subst hn; exact enter_any h hc0 hc1 hI hw hl

/-- The set of what has been seen. -/
def SetIs (D : DataW Unit) (u : List Int) : Prop := ∀ x, D.atKey (.int .i64 x) (.lit (.bool false)) = .lit (.bool (u.contains x))
theorem SetIs.empty : SetIs (.map []) [] := fun _ => rfl
theorem SetIs.put {D : DataW Unit} {u : List Int} (h : SetIs D u) (hm : Maps.IsMap D) (x : Int) : SetIs (D.put (.int .i64 x) (.lit (.bool true))) (x :: u) := by
  intro y
  by_cases e : y = x
  · subst e; rw [Maps.atKey_put_same hm (isKey y)]; simp
  · rw [Maps.atKey_put_other (by simpa using e), h y]; simp [e]
theorem SetIs.old {D : DataW Unit} {u : List Int} (h : SetIs D u) {x : Int} (hx : x ∈ u) : SetIs D (x :: u) := by
  intro y
  rw [h y]
  by_cases e : y = x
  · subst e; simp [hx]
  · simp [e]

theorem len_strike {x : Int} : ∀ {D : List Int}, D.Nodup → x ∈ D → (D.filter (fun y => y != x)).length + 1 = D.length
  | [], _, h => by simp at h
  | y :: D, hn, h => by
    obtain ⟨h1, h2⟩ := List.nodup_cons.1 hn
    by_cases e : y = x
    · subst e
      rw [List.filter_cons_of_neg (by simp), List.filter_eq_self.2 (fun z hz => by simp; intro e; exact h1 (e ▸ hz))]
      simp
    · rw [List.filter_cons_of_pos (by simp [e]), List.length_cons, List.length_cons, len_strike h2 ((List.mem_cons.1 h).resolve_left (fun h' => e h'.symm))]
theorem dd_new {x : Int} {u : List Int} (h : x ∉ u) : (dd (x :: u)).length = (dd u).length + 1 := by
  simp only [dd, List.length_cons]
  rw [List.filter_eq_self.2 (fun z hz => by simp; intro e; subst e; exact h ((mem_dd z u).1 hz))]
theorem dd_old {x : Int} {u : List Int} (h : x ∈ u) : (dd (x :: u)).length = (dd u).length := by
  simp only [dd, List.length_cons]
  exact len_strike (nodup_dd u) ((mem_dd x u).2 h)

/-- What 'want' is. -/
theorem want_len (cap : Int) (u : List Int) : ((lruOf cap u).length : Int) = if cap < ((dd u).length : Int) then (if cap ≤ 0 then 0 else cap) else ((dd u).length : Int) := by
  unfold lruOf
  rw [List.length_take]
  split
  · split <;> omega
  · omega
theorem head_lru {cap : Int} {W : List Int} (h : 0 < (lruOf cap W.reverse).length) : (lruOf cap W.reverse).getD 0 0 = W.getD (W.length - 1) 0 ∧ 0 < W.length := by
  have hl := lruOf_len cap W.reverse
  simp at hl
  have hW : 0 < W.length := by omega
  refine ⟨?_, hW⟩
  obtain ⟨c, hc⟩ : ∃ c, cap.toNat = c + 1 := by
    unfold lruOf at h; rw [List.length_take] at h; exact ⟨cap.toNat - 1, by omega⟩
  have hne : W ≠ [] := by intro e; subst e; simp at hW
  obtain ⟨V, y, rfl⟩ : ∃ V y, W = V ++ [y] := ⟨W.dropLast, W.getLast hne, (List.dropLast_concat_getLast hne).symm⟩
  unfold lruOf
  rw [hc, List.reverse_append]
  simp [dd, List.getD_eq_getElem?_getD]

/-- The relation of the loops that copy. -/
def RelW (w wr : World) (G scap : Nat) (l v : List Int) (wh i : Value) : Prop :=
  ∃ k n, k ≤ l.length ∧ n = v.length + k ∧ i = .int .i64 k ∧ wh = .slice (some ⟨G, 0, none⟩) n scap ∧
    wr.ownsRow w.heap.size 2 1 (.slice (some ⟨G, 0, none⟩) n scap) n ((v ++ l.take k).map (Value.int .i64)) ∧ Below w.heap.size w wr

/-- The relation of the count. -/
def RelC (w wr : World) (bm : Nat) (W : List Int) (d i : Value) : Prop :=
  ∃ k D, k ≤ W.length ∧ i = .int .i64 k ∧ d = .int .i64 (dd ((W.take k).reverse)).length ∧ SetIs D ((W.take k).reverse) ∧ wr.ownsMap Try.prog 2 (plainElem Try.prog 4) bm k D ∧ Below bm w wr

theorem snoc_vals (v l : List Int) (k : Nat) (h : k < l.length) : (v ++ l.take (k + 1)).map (Value.int .i64) = (v ++ l.take k).map (Value.int .i64) ++ [.int .i64 (l.getD k 0)] := by
  rw [List.take_succ_eq_append_getElem h, ← List.append_assoc, List.map_append (l₁ := v ++ l.take k)]
  simp [List.getD_eq_getElem?_getD, List.getElem?_eq_getElem h]

set_option maxRecDepth 100000 in
set_option maxHeartbeats 4000000 in
theorem split_core (cap : Int) (a1 a2 : Option Addr) (cap1 cap2 : Nat) (l1 l2 : List Int) (w : World) (h1 : Ints w w.heap.size a1 l1) (h2 : Ints w w.heap.size a2 l2)
    (hw1 : ∀ x ∈ l1, (Lit.int .i64 x).wf = true) (hw2 : ∀ x ∈ l2, (Lit.int .i64 x).wf = true) (hm1 : l1.length ≤ maxLen) (hm2 : l2.length ≤ maxLen) :
    Calls Try.prog 4 #[.int .i64 cap, .slice a1 l1.length cap1, .slice a2 l2.length cap2] w fun e w' => e = .returned (.bool true) ∧ Below w.heap.size w w' := by
  obtain ⟨i0, hi, hz0, hz1, hz2⟩ := info_parts info2
  have H1 : Hid _ := h1
  have H2 : Hid _ := h2
  have HW1 : Hid _ := hw1
  have HW2 : Hid _ := hw2
  clear h1 h2 hw1 hw2
  have hmm := @run_makeMap Try.prog
  go_enter Try.func4, Try.ntmps4
  go_wp2_with fail
  refine (bytes_b cap a1 a2 _ cap1 _ cap2 hm1 hm2).mono ?_
  rintro e w1 ⟨b, rfl, rfl⟩
  unfold maxLen at hm1 hm2
  cases b with
  | false =>
    go_wp2
    go_ret
    exact ⟨rfl, Below.refl _ _⟩
  | true =>
    by_cases c1 : 4096 < l1.length
    · go_wp2
      go_ret
      exact ⟨rfl, Below.refl _ _⟩
    · by_cases c2 : 4096 < l2.length
      · go_wp2
        go_ret
        exact ⟨rfl, Below.refl _ _⟩
      · clear hm1 hm2
        go_wp2_with (at_make; refine wpList_make_own _ rfl _ _ 22 rfl w.heap.size 2 i0 (.int .i64 0) 1 Try.underlying22 hi hz0 hz1 .i64 .i64 _ (l1.length + l2.length) rfl rfl (by omega) (by rw [hz2]; omega) (by unfold maxLen; omega) (Nat.le_refl _) ?_; intro w4 hown hgrow)
        go_loopw [7, 8] (fun wh i wr => RelW w wr w.heap.size (l1.length + l2.length) l1 ([] : List Int) wh i) (fun _ i _ => l1.length - (intOf i).toNat)
        case atStart => exact ⟨0, 0, Nat.zero_le _, rfl, rfl, rfl, hown, (Below.refl _ _).grown hgrow (Nat.le_refl _) (by simp)⟩
        case round =>
          clear hown hgrow
          obtain ⟨k, n, hk, hn, rfl, rfl, hown, hb⟩ := hrel
          obtain rfl : k = n := by simpa using hn.symm
          clear hn
          by_cases hkl : k < l1.length
          · obtain ⟨b, off, rfl, hbl, hcells⟩ : ∃ b off, a1 = some ⟨b, off, none⟩ ∧ b < w.heap.size ∧ ∀ k, k < l1.length → w.cell? ⟨b, off + k, none⟩ = some (.int .i64 (l1.getD k 0)) := by
              rcases H1.out with e | e
              · rw [e] at hkl; simp at hkl
              · exact e
            have hcx : wr.cell? ⟨b, off + k, none⟩ = some (.int .i64 (l1.getD k 0)) := by
              rw [hb.cell (p := ⟨b, off + k, none⟩) hbl]; exact hcells k hkl
            have hsn := snoc_vals ([] : List Int) l1 k hkl
            generalize l1.getD k 0 = x at hcx hsn
            have HSN : Hid _ := hsn
            clear hsn hcells
            go_wp2_with (at_builtin; refine wpList_append_fits _ rfl _ _ 22 rfl w.heap.size 2 i0 1 Try.underlying22 hi hz1 w.heap.size (k) (l1.length + l2.length) _ rfl (hown.alloc _) ⟨wr.heap.size, 0, none⟩ 1 1 [.int .i64 x] rfl rfl (cell_one_new _ _ _) (ints_oneCell .i64 [x]) (by omega) ?_; intro w5 hown5 hgrow5)
            have hb5 : Below w.heap.size w w5 := (hb.alloc hb.size _).grown hgrow5 (by have := hb.size; simp; omega) (by intro k hk; cases hk; exact Nat.le_refl _)
            clear hown hb hgrow5
            go_wp2
            go_roundw
            case rel => exact ⟨k + 1, _, by omega, by simp, by go_num, rfl, by rw [HSN.out]; exact hown5, hb5⟩
            case measure => simp [intOf]; omega
          · have hkk : k = l1.length := by omega
            subst hkk
            rw [List.take_of_length_le (Nat.le_refl _)] at hown
            go_wp2
            go_loopw [7, 9] (fun wh i wr => RelW w wr w.heap.size (l1.length + l2.length) l2 (l1) wh i) (fun _ i _ => l2.length - (intOf i).toNat)
            case atStart => exact ⟨0, l1.length, Nat.zero_le _, rfl, rfl, by congr 1, by simpa using hown, hb⟩
            case round =>
              clear hown hb
              obtain ⟨k, n, hk, rfl, rfl, rfl, hown, hb⟩ := hrel
              by_cases hkl : k < l2.length
              · obtain ⟨b, off, rfl, hbl, hcells⟩ : ∃ b off, a2 = some ⟨b, off, none⟩ ∧ b < w.heap.size ∧ ∀ k, k < l2.length → w.cell? ⟨b, off + k, none⟩ = some (.int .i64 (l2.getD k 0)) := by
                  rcases H2.out with e | e
                  · rw [e] at hkl; simp at hkl
                  · exact e
                have hcx : wr.cell? ⟨b, off + k, none⟩ = some (.int .i64 (l2.getD k 0)) := by
                  rw [hb.cell (p := ⟨b, off + k, none⟩) hbl]; exact hcells k hkl
                have hsn := snoc_vals (l1) l2 k hkl
                generalize l2.getD k 0 = x at hcx hsn
                have HSN : Hid _ := hsn
                clear hsn hcells
                go_wp2_with (at_builtin; refine wpList_append_fits _ rfl _ _ 22 rfl w.heap.size 2 i0 1 Try.underlying22 hi hz1 w.heap.size (l1.length + k) (l1.length + l2.length) _ rfl (hown.alloc _) ⟨wr.heap.size, 0, none⟩ 1 1 [.int .i64 x] rfl rfl (cell_one_new _ _ _) (ints_oneCell .i64 [x]) (by omega) ?_; intro w5 hown5 hgrow5)
                have hb5 : Below w.heap.size w w5 := (hb.alloc hb.size _).grown hgrow5 (by have := hb.size; simp; omega) (by intro k hk; cases hk; exact Nat.le_refl _)
                clear hown hb hgrow5
                go_wp2
                go_roundw
                case rel => exact ⟨k + 1, _, by omega, by simp [Nat.add_assoc], by go_num, rfl, by rw [HSN.out]; exact hown5, hb5⟩
                case measure => simp [intOf]; omega
              · have hkk : k = l2.length := by omega
                subst hkk
                rw [List.take_of_length_le (Nat.le_refl _)] at hown
                obtain ⟨W, hW⟩ : ∃ W, W = l1 ++ l2 := ⟨_, rfl⟩
                have hWl1 : W.length ≤ l1.length + l2.length := by rw [hW]; simp
                have hWl2 : l1.length + l2.length ≤ W.length := by rw [hW]; simp
                have hwW : ∀ x ∈ W, (Lit.int .i64 x).wf = true := by
                  intro x hx; rw [hW] at hx
                  rcases List.mem_append.1 hx with hx | hx
                  · exact HW1.out x hx
                  · exact HW2.out x hx
                rw [← hW] at hown
                have HWW : Hid (W = l1 ++ l2) := hW
                have HwW : Hid (∀ x ∈ W, (Lit.int .i64 x).wf = true) := hwW
                clear hW hwW
                obtain ⟨wB, rfl⟩ : ∃ wB, wB = wr := ⟨_, rfl⟩
                go_wp2
                have hbs := hb.size
                have hmade := World.ownsMap_made (H := Unit) wB Try.prog 2 (plainElem Try.prog 4)
                have hbm : Below wB.heap.size wB (wB.alloc (.map #[] 0)) := (Below.refl _ _).alloc (Nat.le_refl _) _
                have hcW : ∀ k, k < W.length → wB.cell? ⟨w.heap.size, k, none⟩ = some (.int .i64 (W.getD k 0)) := fun k hk => ownN_cell hown k (by omega)
                have hG := (hown.lt w.heap.size rfl).2
                have HCW : Hid _ := hcW
                clear hcW
                go_loopw [11, 12] (fun d i wx => RelC wB wx wB.heap.size W d i) (fun _ i _ => W.length - (intOf i).toNat)
                case atStart => exact ⟨0, .map [], Nat.zero_le _, rfl, rfl, SetIs.empty, hmade, hbm⟩
                case round =>
                  clear hmade hbm
                  obtain ⟨k, D, hk, rfl, rfl, hset, hmap, hbx⟩ := hrel
                  have hdl := dd_len ((W.take k).reverse)
                  simp only [List.length_reverse, List.length_take] at hdl
                  by_cases hkl : k < W.length
                  · have hcx : wr.cell? ⟨w.heap.size, k, none⟩ = some (.int .i64 (W.getD k 0)) := by
                      rw [hbx.cell (p := ⟨w.heap.size, k, none⟩) hG]; exact HCW.out k hkl
                    have hxm : W.getD k 0 ∈ W := by simp [List.getD_eq_getElem?_getD, List.getElem?_eq_getElem hkl]
                    have hwx := HwW.out _ hxm
                    have hrs := rev_snoc W k hkl
                    generalize W.getD k 0 = x at hcx hrs hwx hxm
                    have hat := hset x
                    have HRS : Hid _ := hrs
                    clear hrs hxm
                    generalize (W.take k).reverse = u at hset hat hdl HRS
                    by_cases hxu : x ∈ u
                    · rw [show u.contains x = true from by simpa using hxu] at hat
                      have HD : Hid _ := dd_old hxu
                      have HS : Hid _ := hset.old hxu
                      clear hset hxu
                      go_wp2_with (at_lookup; refine wpList_lookup_own_bool _ rfl _ _ 33 rfl 2 4 law2 Try.underlying33 Try.underlying4 (zero4 _) wB.heap.size k D rfl hmap _ _ rfl (Maps.keyOf_int_mk Try.underlying2 hwx) true hat ?_)
                      go_roundw
                      case rel => exact ⟨k + 1, D, by omega, by go_num, by rw [HRS.out, HD.out], by rw [HRS.out]; exact HS.out, hmap.mono (by omega), hbx⟩
                      case measure => simp [intOf]; omega
                    · rw [show u.contains x = false from by simpa using hxu] at hat
                      have HD : Hid _ := dd_new hxu
                      have HS : Hid _ := hset.put hmap.isMap x
                      clear hset hxu
                      go_wp2_with (first
                        | (at_lookup; refine wpList_lookup_own_bool _ rfl _ _ 33 rfl 2 4 law2 Try.underlying33 Try.underlying4 (zero4 _) wB.heap.size k D rfl hmap _ _ rfl (Maps.keyOf_int_mk Try.underlying2 hwx) false hat ?_)
                        | (at_mapUpdate; refine wpList_mapUpdate_own _ rfl _ _ _ 33 rfl 2 4 law2 Try.underlying33 _ wB.heap.size k D rfl hmap (by unfold maxLen; omega) _ _ _ rfl rfl (Maps.keyOf_int_mk Try.underlying2 hwx) _ [] (plainElem_bool Try.underlying4 true) ?_; intro w5 hmap5 hgrow5))
                      have hb5 : Below wB.heap.size wB w5 := hbx.grown hgrow5 hbx.size (by intro j hj; cases hj; exact Nat.le_refl _)
                      clear hgrow5 hmap hbx
                      go_roundw
                      case rel => exact ⟨k + 1, _, by omega, by go_num, by rw [HRS.out, HD.out]; go_num, by rw [HRS.out]; exact HS.out, hmap5, hb5⟩
                      case measure => simp [intOf]; omega
                  · obtain ⟨wC, rfl⟩ : ∃ wC, wC = wr := ⟨_, rfl⟩
                    have hkk : k = W.length := by omega
                    rw [hkk, List.take_of_length_le (Nat.le_refl _)] at hdl ⊢
                    have hbC : Below w.heap.size w wC := hb.trans (hbx.mono hb.size)
                    have hrow := own_below hown hbx
                    obtain ⟨m, hm⟩ : ∃ m, m = lruOf cap W.reverse := ⟨_, rfl⟩
                    have hml := lruOf_len cap W.reverse
                    rw [← hm, List.length_reverse] at hml
                    have hwant := want_len cap W.reverse
                    rw [← hm] at hwant
                    have HH : Hid (0 < m.length → m.getD 0 0 = W.getD (W.length - 1) 0 ∧ 0 < W.length) := by rw [hm]; exact head_lru
                    have HE1 : Hid ((dd (l2.reverse ++ (l1.reverse ++ []))).take cap.toNat = m) := by rw [hm, HWW.out, List.append_nil, List.reverse_append]; rfl
                    have HE2 : Hid ((dd (W.reverse ++ [])).take cap.toNat = m) := by rw [hm, List.append_nil]; rfl
                    clear hown hbx hkl hset hmap hkk hm HCW
                    generalize (dd W.reverse).length = d at hwant hdl ⊢
                    by_cases k1 : cap < (d : Int)
                    · by_cases k2 : cap ≤ 0
                      · have hmd : (m.length : Int) ≤ 0 := by rw [if_pos k1, if_pos k2] at hwant; omega
                        clear hwant
                        go_wp2_with fail
                        refine (new_good wC cap).mono ?_
                        rintro e w1 ⟨rfl, G1, b1⟩
                        go_wp2_with fail
                        have bI1 : Below w.heap.size w w1 := hbC.trans (b1.mono hbC.size)
                        refine (enter_any G1 (by omega) (by omega) (Ints.below (l := l1) H1.out bI1 hbC.size) HW1.out (by simp; omega)).mono ?_
                        rintro e w2 ⟨rfl, G2, b2⟩
                        have bI2 : Below w.heap.size w w2 := bI1.trans (b2.mono hbC.size)
                        go_wp2_with fail
                        refine (enter_any G2 (by omega) (by omega) (Ints.below (l := l2) H2.out bI2 hbC.size) HW2.out (by simp; omega)).mono ?_
                        rintro e w3 ⟨rfl, G3, b3⟩
                        have bC3 : Below wC.heap.size wC w3 := b1.trans (b2.trans b3)
                        have bI3 : Below w.heap.size w w3 := bI2.trans (b3.mono hbC.size)
                        have hrow3 := own_below hrow bC3
                        clear G1 G2 b1 b2 b3 bI1 bI2
                        go_wp2_with fail
                        refine (new_good w3 cap).mono ?_
                        rintro e w4 ⟨rfl, G4, b4⟩
                        have hIW : Ints w4 w3.heap.size (some ⟨w.heap.size, 0, none⟩) W := by
                          refine .inr ⟨w.heap.size, 0, rfl, (hrow3.lt _ rfl).2, fun k hk => ?_⟩
                          rw [Nat.zero_add]; exact ownN_cell (own_below hrow3 b4) k (by omega)
                        go_wp2_with fail
                        refine (enter_len (by omega) G4 (by omega) (by omega) hIW HwW.out (by simp; omega)).mono ?_
                        rintro e w5 ⟨rfl, G5, b5⟩
                        have b35 : Below w3.heap.size w3 w5 := b4.trans b5
                        rw [HE1.out] at G3
                        rw [HE2.out] at G5
                        have G3' := G3.below b35 (Nat.le_refl _)
                        have bI5 : Below w.heap.size w w5 := bI3.trans (b35.mono bI3.size)
                        have hrow5 := own_below hrow3 b35
                        clear G3 G4 b4 b5 b35 hIW hrow3 bI3 bC3
                        go_wp2_with fail
                        refine (read_any G3' (by omega)).mono ?_
                        rintro e w6 ⟨rfl, ho1, b6⟩
                        have G6 := G5.below b6 (Nat.le_refl _)
                        have G36 := G3'.below b6 (Nat.le_refl _)
                        have hrow6 := own_below hrow5 b6
                        have bI6 : Below w.heap.size w w6 := bI5.trans (b6.mono bI5.size)
                        clear G5 G3' hrow5 b6 bI5
                        go_wp2_with fail
                        refine (read_any G6 (by omega)).mono ?_
                        rintro e w7 ⟨rfl, ho2, b7⟩
                        have G7 := G6.below b7 (Nat.le_refl _)
                        have G37 := G36.below b7 (Nat.le_refl _)
                        have ho17 := own_below ho1 b7
                        have hrow7 := own_below hrow6 b7
                        have bI7 : Below w.heap.size w w7 := bI6.trans (b7.mono bI6.size)
                        clear G6 G36 hrow6 b7 bI6 ho1
                        go_wp2_with fail
                        refine (equal_any (l := m) (by omega) (fun k hk => own_cell ho17 k hk) (fun k hk => own_cell ho2 k hk)).mono ?_
                        rintro e w8 ⟨rfl, n8, rfl⟩
                        have hne : ((m.length : Int) != 0) = false := by rw [bne_eq_false_iff_eq]; omega
                        have hgd : decide ((0 : Int) < 0) = false := by simp
                        clear hrow hrow7 ho17 ho2
                        go_wp2
                        go_quiet (fail)
                        go_wp2_with fail
                        refine (calls_good (G37.below (below_drewN (Below.refl _ _) _) (Nat.le_refl _))).mono ?_
                        rintro e w9 ⟨rfl, rfl⟩
                        go_wp2_with fail
                        refine (calls_good (G7.below (below_drewN (Below.refl _ _) _) (Nat.le_refl _))).mono ?_
                        rintro e w9 ⟨rfl, rfl⟩
                        go_wp2
                        go_ret
                        exact ⟨rfl, below_drewN bI7 _⟩
                      · have hmd1 : (m.length : Int) ≤ cap := by rw [if_pos k1, if_neg k2] at hwant; omega
                        have hmd2 : cap ≤ (m.length : Int) := by rw [if_pos k1, if_neg k2] at hwant; omega
                        clear hwant
                        go_wp2_with fail
                        refine (new_good wC cap).mono ?_
                        rintro e w1 ⟨rfl, G1, b1⟩
                        go_wp2_with fail
                        have bI1 : Below w.heap.size w w1 := hbC.trans (b1.mono hbC.size)
                        refine (enter_any G1 (by omega) (by omega) (Ints.below (l := l1) H1.out bI1 hbC.size) HW1.out (by simp; omega)).mono ?_
                        rintro e w2 ⟨rfl, G2, b2⟩
                        have bI2 : Below w.heap.size w w2 := bI1.trans (b2.mono hbC.size)
                        go_wp2_with fail
                        refine (enter_any G2 (by omega) (by omega) (Ints.below (l := l2) H2.out bI2 hbC.size) HW2.out (by simp; omega)).mono ?_
                        rintro e w3 ⟨rfl, G3, b3⟩
                        have bC3 : Below wC.heap.size wC w3 := b1.trans (b2.trans b3)
                        have bI3 : Below w.heap.size w w3 := bI2.trans (b3.mono hbC.size)
                        have hrow3 := own_below hrow bC3
                        clear G1 G2 b1 b2 b3 bI1 bI2
                        go_wp2_with fail
                        refine (new_good w3 cap).mono ?_
                        rintro e w4 ⟨rfl, G4, b4⟩
                        have hIW : Ints w4 w3.heap.size (some ⟨w.heap.size, 0, none⟩) W := by
                          refine .inr ⟨w.heap.size, 0, rfl, (hrow3.lt _ rfl).2, fun k hk => ?_⟩
                          rw [Nat.zero_add]; exact ownN_cell (own_below hrow3 b4) k (by omega)
                        go_wp2_with fail
                        refine (enter_len (by omega) G4 (by omega) (by omega) hIW HwW.out (by simp; omega)).mono ?_
                        rintro e w5 ⟨rfl, G5, b5⟩
                        have b35 : Below w3.heap.size w3 w5 := b4.trans b5
                        rw [HE1.out] at G3
                        rw [HE2.out] at G5
                        have G3' := G3.below b35 (Nat.le_refl _)
                        have bI5 : Below w.heap.size w w5 := bI3.trans (b35.mono bI3.size)
                        have hrow5 := own_below hrow3 b35
                        clear G3 G4 b4 b5 b35 hIW hrow3 bI3 bC3
                        go_wp2_with fail
                        refine (read_any G3' (by omega)).mono ?_
                        rintro e w6 ⟨rfl, ho1, b6⟩
                        have G6 := G5.below b6 (Nat.le_refl _)
                        have G36 := G3'.below b6 (Nat.le_refl _)
                        have hrow6 := own_below hrow5 b6
                        have bI6 : Below w.heap.size w w6 := bI5.trans (b6.mono bI5.size)
                        clear G5 G3' hrow5 b6 bI5
                        go_wp2_with fail
                        refine (read_any G6 (by omega)).mono ?_
                        rintro e w7 ⟨rfl, ho2, b7⟩
                        have G7 := G6.below b7 (Nat.le_refl _)
                        have G37 := G36.below b7 (Nat.le_refl _)
                        have ho17 := own_below ho1 b7
                        have hrow7 := own_below hrow6 b7
                        have bI7 : Below w.heap.size w w7 := bI6.trans (b7.mono bI6.size)
                        clear G6 G36 hrow6 b7 bI6 ho1
                        go_wp2_with fail
                        refine (equal_any (l := m) (by omega) (fun k hk => own_cell ho17 k hk) (fun k hk => own_cell ho2 k hk)).mono ?_
                        rintro e w8 ⟨rfl, n8, rfl⟩
                        have hne : ((m.length : Int) != cap) = false := by rw [bne_eq_false_iff_eq]; omega
                        by_cases hm0 : 0 < m.length
                        · have hgd : decide (0 < cap) = true := by simp; omega
                          obtain ⟨hd1, hd2⟩ := HH.out hm0
                          have q1 := own_cell ho2 0 hm0
                          have q2 := ownN_cell hrow7 (W.length - 1) (by omega)
                          rw [hd1] at q1
                          generalize W.getD (W.length - 1) 0 = y at q1 q2
                          rw [show W.length - 1 = l1.length + l2.length - 1 from by omega] at q2
                          have hmi : (0 : Int) < (m.length : Int) := by omega
                          clear hd1 hrow hrow7 ho17 ho2
                          go_wp2
                          go_quiet (fail)
                          go_wp2_with fail
                          refine (calls_good (G37.below (below_drewN (Below.refl _ _) _) (Nat.le_refl _))).mono ?_
                          rintro e w9 ⟨rfl, rfl⟩
                          go_wp2_with fail
                          refine (calls_good (G7.below (below_drewN (Below.refl _ _) _) (Nat.le_refl _))).mono ?_
                          rintro e w9 ⟨rfl, rfl⟩
                          go_wp2
                          go_ret
                          exact ⟨rfl, below_drewN bI7 _⟩
                        · exfalso; omega
                    · have hmd1 : m.length ≤ d := by rw [if_neg k1] at hwant; omega
                      have hmd2 : d ≤ m.length := by rw [if_neg k1] at hwant; omega
                      clear hwant
                      go_wp2_with fail
                      refine (new_good wC cap).mono ?_
                      rintro e w1 ⟨rfl, G1, b1⟩
                      go_wp2_with fail
                      have bI1 : Below w.heap.size w w1 := hbC.trans (b1.mono hbC.size)
                      refine (enter_any G1 (by omega) (by omega) (Ints.below (l := l1) H1.out bI1 hbC.size) HW1.out (by simp; omega)).mono ?_
                      rintro e w2 ⟨rfl, G2, b2⟩
                      have bI2 : Below w.heap.size w w2 := bI1.trans (b2.mono hbC.size)
                      go_wp2_with fail
                      refine (enter_any G2 (by omega) (by omega) (Ints.below (l := l2) H2.out bI2 hbC.size) HW2.out (by simp; omega)).mono ?_
                      rintro e w3 ⟨rfl, G3, b3⟩
                      have bC3 : Below wC.heap.size wC w3 := b1.trans (b2.trans b3)
                      have bI3 : Below w.heap.size w w3 := bI2.trans (b3.mono hbC.size)
                      have hrow3 := own_below hrow bC3
                      clear G1 G2 b1 b2 b3 bI1 bI2
                      go_wp2_with fail
                      refine (new_good w3 cap).mono ?_
                      rintro e w4 ⟨rfl, G4, b4⟩
                      have hIW : Ints w4 w3.heap.size (some ⟨w.heap.size, 0, none⟩) W := by
                        refine .inr ⟨w.heap.size, 0, rfl, (hrow3.lt _ rfl).2, fun k hk => ?_⟩
                        rw [Nat.zero_add]; exact ownN_cell (own_below hrow3 b4) k (by omega)
                      go_wp2_with fail
                      refine (enter_len (by omega) G4 (by omega) (by omega) hIW HwW.out (by simp; omega)).mono ?_
                      rintro e w5 ⟨rfl, G5, b5⟩
                      have b35 : Below w3.heap.size w3 w5 := b4.trans b5
                      rw [HE1.out] at G3
                      rw [HE2.out] at G5
                      have G3' := G3.below b35 (Nat.le_refl _)
                      have bI5 : Below w.heap.size w w5 := bI3.trans (b35.mono bI3.size)
                      have hrow5 := own_below hrow3 b35
                      clear G3 G4 b4 b5 b35 hIW hrow3 bI3 bC3
                      go_wp2_with fail
                      refine (read_any G3' (by omega)).mono ?_
                      rintro e w6 ⟨rfl, ho1, b6⟩
                      have G6 := G5.below b6 (Nat.le_refl _)
                      have G36 := G3'.below b6 (Nat.le_refl _)
                      have hrow6 := own_below hrow5 b6
                      have bI6 : Below w.heap.size w w6 := bI5.trans (b6.mono bI5.size)
                      clear G5 G3' hrow5 b6 bI5
                      go_wp2_with fail
                      refine (read_any G6 (by omega)).mono ?_
                      rintro e w7 ⟨rfl, ho2, b7⟩
                      have G7 := G6.below b7 (Nat.le_refl _)
                      have G37 := G36.below b7 (Nat.le_refl _)
                      have ho17 := own_below ho1 b7
                      have hrow7 := own_below hrow6 b7
                      have bI7 : Below w.heap.size w w7 := bI6.trans (b7.mono bI6.size)
                      clear G6 G36 hrow6 b7 bI6 ho1
                      go_wp2_with fail
                      refine (equal_any (l := m) (by omega) (fun k hk => own_cell ho17 k hk) (fun k hk => own_cell ho2 k hk)).mono ?_
                      rintro e w8 ⟨rfl, n8, rfl⟩
                      have hne : ((m.length : Int) != (d : Int)) = false := by rw [bne_eq_false_iff_eq]; omega
                      by_cases hm0 : 0 < m.length
                      · have hgd : decide (0 < d) = true := by simp; omega
                        obtain ⟨hd1, hd2⟩ := HH.out hm0
                        have q1 := own_cell ho2 0 hm0
                        have q2 := ownN_cell hrow7 (W.length - 1) (by omega)
                        rw [hd1] at q1
                        generalize W.getD (W.length - 1) 0 = y at q1 q2
                        rw [show W.length - 1 = l1.length + l2.length - 1 from by omega] at q2
                        have hmi : (0 : Int) < (m.length : Int) := by omega
                        clear hd1 hrow hrow7 ho17 ho2
                        go_wp2
                        go_quiet (fail)
                        go_wp2_with fail
                        refine (calls_good (G37.below (below_drewN (Below.refl _ _) _) (Nat.le_refl _))).mono ?_
                        rintro e w9 ⟨rfl, rfl⟩
                        go_wp2_with fail
                        refine (calls_good (G7.below (below_drewN (Below.refl _ _) _) (Nat.le_refl _))).mono ?_
                        rintro e w9 ⟨rfl, rfl⟩
                        go_wp2
                        go_ret
                        exact ⟨rfl, below_drewN bI7 _⟩
                      · have hgd : decide (0 < d) = false := by simp; omega
                        clear hrow hrow7 ho17 ho2
                        go_wp2
                        go_quiet (fail)
                        go_wp2_with fail
                        refine (calls_good (G37.below (below_drewN (Below.refl _ _) _) (Nat.le_refl _))).mono ?_
                        rintro e w9 ⟨rfl, rfl⟩
                        go_wp2_with fail
                        refine (calls_good (G7.below (below_drewN (Below.refl _ _) _) (Nat.le_refl _))).mono ?_
                        rintro e w9 ⟨rfl, rfl⟩
                        go_wp2
                        go_ret
                        exact ⟨rfl, below_drewN bI7 _⟩
end Go.Proofs.Qxb6629139a.Walks
