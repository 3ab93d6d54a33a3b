import Derived.Test.Qxb6629139aLaw
namespace Go.Proofs.Qxb6629139a.Walks
open Go.RowKit Go.Proofs.Qxb6629139a.Plain
set_option linter.unusedVariables false

set_option maxRecDepth 100000 in
set_option maxHeartbeats 2000000 in
theorem keep_core (cap : Int) (a1 a2 : Option Addr) (cap1 cap2 : Nat) (l1 l2 : List Int) (w : World) (h1 : Ints w w.heap.size a1 l1) (h2 : Ints w w.heap.size a2 l2)
    (hw1 : ∀ x ∈ l1, (Lit.int .i64 x).wf = true) (hw2 : ∀ x ∈ l2, (Lit.int .i64 x).wf = true) (hm1 : l1.length ≤ maxLen) (hm2 : l2.length ≤ maxLen) :
    Calls Try.prog 3 #[.int .i64 cap, .slice a1 l1.length cap1, .slice a2 l2.length cap2] w fun e w' => e = .returned (.bool true) ∧ Below w.heap.size w w' := by
  obtain ⟨i0, hi, hz0, hz1, hz2⟩ := info_parts info2
  have H1 : Hid _ := h1
  have H2 : Hid _ := h2
  have HW1 : Hid _ := hw1
  have HW2 : Hid _ := hw2
  clear h1 h2 hw1 hw2
  go_enter Try.func3, Try.ntmps3
  go_wp2_with fail
  refine (bytes_a cap a1 a2 _ cap1 _ cap2 hm1 hm2).mono ?_
  rintro e w1 ⟨b, rfl, rfl⟩
  unfold maxLen at hm1 hm2
  cases b with
  | false =>
    go_wp2
    go_ret
    exact ⟨rfl, Below.refl _ _⟩
  | true =>
    by_cases c1 : 4096 < l1.length
    · go_wp2
      go_ret
      exact ⟨rfl, Below.refl _ _⟩
    · by_cases c2 : 4096 < l2.length
      · go_wp2
        go_ret
        exact ⟨rfl, Below.refl _ _⟩
      · go_wp2_with fail
        refine (new_good w cap).mono ?_
        rintro e w1 ⟨rfl, G1, b1⟩
        go_wp2_with fail
        refine (enter_any G1 (by omega) (by omega) (Ints.below (l := l1) H1.out b1 (Nat.le_refl _)) HW1.out (by simp; omega)).mono ?_
        rintro e w2 ⟨rfl, G2, b2⟩
        have b12 := b1.trans b2
        go_wp2_with fail
        refine (enter_any G2 (by omega) (by omega) (Ints.below (l := l2) H2.out b12 (Nat.le_refl _)) HW2.out (by simp; omega)).mono ?_
        rintro e w3 ⟨rfl, G3, b3⟩
        have b13 := b12.trans b3
        clear G1 G2 b1 b2 b12 b3
        go_wp2_with (at_make; refine wpList_make_own _ rfl _ _ 22 rfl w3.heap.size 2 i0 (.int .i64 0) 1 Try.underlying22 hi hz0 hz1 .i64 .i64 _ (l1.length + l2.length) rfl rfl (by omega) (by rw [hz2]; omega) (by unfold maxLen; omega) (Nat.le_refl _) ?_; intro w4 hown hgrow)
        go_loopw [8, 9] (fun lru i wr => RelU w3 wr w3.heap.size w3.heap.size (l1.length + l2.length) cap l1 ([] : List Int) lru i) (fun _ i _ => l1.length - (intOf i).toNat)
        case atStart => exact ⟨0, Nat.zero_le _, rfl, [], by simp [lruOf, dd], rfl, hown, (Below.refl _ _).grown hgrow (Nat.le_refl _) (by simp)⟩
        case round =>
          clear hown hgrow
          obtain ⟨k, hk, rfl, m, hm, rfl, hown, hb⟩ := hrel
          have hml : m.length ≤ k + ([] : List Int).length := by
            rw [hm]; have := lruOf_len cap ((l1.take k).reverse ++ ([] : List Int)); simp at this ⊢; omega
          have hmn : m.Nodup := by rw [hm]; exact lruOf_nodup _ _
          have HM : Hid (m = lruOf cap ((l1.take k).reverse ++ ([] : List Int))) := hm
          clear hm
          simp only [List.length_nil] at hml
          by_cases hkl : k < l1.length
          · obtain ⟨b, off, rfl, hbl, hcells⟩ : ∃ b off, a1 = some ⟨b, off, none⟩ ∧ b < w.heap.size ∧ ∀ k, k < l1.length → w.cell? ⟨b, off + k, none⟩ = some (.int .i64 (l1.getD k 0)) := by
              rcases H1.out with e | e
              · rw [e] at hkl; simp at hkl
              · exact e
            have hbx := b13.trans (hb.mono b13.size)
            have hcx : wr.cell? ⟨b, off + k, none⟩ = some (.int .i64 (l1.getD k 0)) := by
              rw [hbx.cell (p := ⟨b, off + k, none⟩) hbl]; exact hcells k hkl
            have hrs := rev_snoc l1 k hkl
            generalize l1.getD k 0 = x at hcx hrs
            have HRS : Hid ((l1.take (k + 1)).reverse = x :: (l1.take k).reverse) := hrs
            clear hrs hcells hbx
            go_wp2_with fail
            refine (use_any hown (by omega) (by omega) hmn hb.size (by omega)).mono ?_
            rintro e w5 ⟨m', hm', rfl, hown', hb'⟩
            have HM2 : Hid (m' = lruOf cap ((l1.take (k + 1)).reverse ++ ([] : List Int))) := by
              rw [HRS.out, List.cons_append, ← lruOf_use, ← HM.out]; exact hm'
            have hb5 := hb.trans hb'
            clear hm' hown hb hb' HM HRS
            go_wp2
            go_roundw
            case rel => exact ⟨k + 1, by omega, by go_num, m', HM2.out, rfl, hown', hb5⟩
            case measure => simp [intOf]; omega
          · have hkk : k = l1.length := by omega
            have HM3 : Hid (m = lruOf cap (l1.reverse ++ ([] : List Int))) := by have := HM.out; rw [hkk, List.take_of_length_le (Nat.le_refl _)] at this; exact this
            clear HM hkk
            go_wp2
            go_loopw [8, 10] (fun lru i wr => RelU w3 wr w3.heap.size w3.heap.size (l1.length + l2.length) cap l2 (l1.reverse) lru i) (fun _ i _ => l2.length - (intOf i).toNat)
            case atStart => exact ⟨0, Nat.zero_le _, rfl, m, by simpa using HM3.out, rfl, hown, hb⟩
            case round =>
              clear hown hb hml hmn HM3
              obtain ⟨k, hk, rfl, m, hm, rfl, hown, hb⟩ := hrel
              have hml : m.length ≤ k + (l1.reverse).length := by
                rw [hm]; have := lruOf_len cap ((l2.take k).reverse ++ (l1.reverse)); simp at this ⊢; omega
              have hmn : m.Nodup := by rw [hm]; exact lruOf_nodup _ _
              have HM : Hid (m = lruOf cap ((l2.take k).reverse ++ (l1.reverse))) := hm
              clear hm
              simp only [List.length_reverse] at hml
              by_cases hkl : k < l2.length
              · obtain ⟨b, off, rfl, hbl, hcells⟩ : ∃ b off, a2 = some ⟨b, off, none⟩ ∧ b < w.heap.size ∧ ∀ k, k < l2.length → w.cell? ⟨b, off + k, none⟩ = some (.int .i64 (l2.getD k 0)) := by
                  rcases H2.out with e | e
                  · rw [e] at hkl; simp at hkl
                  · exact e
                have hbx := b13.trans (hb.mono b13.size)
                have hcx : wr.cell? ⟨b, off + k, none⟩ = some (.int .i64 (l2.getD k 0)) := by
                  rw [hbx.cell (p := ⟨b, off + k, none⟩) hbl]; exact hcells k hkl
                have hrs := rev_snoc l2 k hkl
                generalize l2.getD k 0 = x at hcx hrs
                have HRS : Hid ((l2.take (k + 1)).reverse = x :: (l2.take k).reverse) := hrs
                clear hrs hcells hbx
                go_wp2_with fail
                refine (use_any hown (by omega) (by omega) hmn hb.size (by omega)).mono ?_
                rintro e w5 ⟨m', hm', rfl, hown', hb'⟩
                have HM2 : Hid (m' = lruOf cap ((l2.take (k + 1)).reverse ++ (l1.reverse))) := by
                  rw [HRS.out, List.cons_append, ← lruOf_use, ← HM.out]; exact hm'
                have hb5 := hb.trans hb'
                clear hm' hown hb hb' HM HRS
                go_wp2
                go_roundw
                case rel => exact ⟨k + 1, by omega, by go_num, m', HM2.out, rfl, hown', hb5⟩
                case measure => simp [intOf]; omega
              · have hkk : k = l2.length := by omega
                have HM3 : Hid (m = lruOf cap (l2.reverse ++ (l1.reverse))) := by have := HM.out; rw [hkk, List.take_of_length_le (Nat.le_refl _)] at this; exact this
                clear HM hkk
                have hmeq : (dd (l2.reverse ++ (l1.reverse ++ []))).take cap.toNat = m := by rw [HM3.out, List.append_nil]; rfl
                rw [hmeq] at G3
                have G4 := G3.below hb (Nat.le_refl _)
                clear hmeq HM3 G3
                go_wp2_with fail
                refine (read_any G4 (by omega)).mono ?_
                rintro e w5 ⟨rfl, ho, hb5⟩
                have hl5 := own_below hown hb5
                have G5 := G4.below hb5 (Nat.le_refl _)
                clear G4 hown
                go_wp2_with fail
                refine (equal_any (l := m) (by omega) (fun k hk => own_cell ho k hk) (fun k hk => own_cell hl5 k hk)).mono ?_
                rintro e w6 ⟨rfl, n, rfl⟩
                go_wp2_with fail
                refine (calls_good (G5.below (below_drewN (Below.refl _ _) n) (Nat.le_refl _))).mono ?_
                rintro e w7 ⟨rfl, rfl⟩
                go_wp2
                go_ret
                refine ⟨rfl, below_drewN (b13.trans ((hb.mono b13.size).trans (hb5.mono ?_))) n⟩
                have e1 := b13.size
                have e2 := hb.size
                omega
end Go.Proofs.Qxb6629139a.Walks
