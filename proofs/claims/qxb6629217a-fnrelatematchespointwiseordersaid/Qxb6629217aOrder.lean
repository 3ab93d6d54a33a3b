/- The law of the pointwise order: the walk. -/
import Derived.Test.Qxb6629217aCopy
import Derived.Laws.Small
namespace Go.Proofs.Qxb6629217a.Wk
open Go.RowKit Go.Proofs.Qxb6629217a.Pl
set_option linter.unusedVariables false

set_option maxRecDepth 100000 in
set_option maxHeartbeats 4000000 in
theorem order_any {w : World} {a1 a2 a3 a4 : Option Addr} {n1 n2 : List ByteArray} {c1 c2 : List Int} {k1 k2 k3 k4 : Nat}
    (h1 : Strs w w.heap.size a1 n1) (h2 : Us w w.heap.size a2 c1) (h3 : Strs w w.heap.size a3 n2) (h4 : Us w w.heap.size a4 c2)
    (m1 : n1.length ≤ maxLen) (m2 : c1.length ≤ maxLen) (m3 : n2.length ≤ maxLen) (m4 : c2.length ≤ maxLen)
    (z1 : ∀ k, k < n1.length → (nm n1 k).size ≤ maxLen) (z2 : ∀ k, k < n2.length → (nm n2 k).size ≤ maxLen)
    (hp1 : ∀ k, 0 ≤ ct c1 k) (hp2 : ∀ k, 0 ≤ ct c2 k) :
    Calls Try.prog 3 #[.slice a1 n1.length k1, .slice a2 c1.length k2, .slice a3 n2.length k3, .slice a4 c2.length k4] w fun e w' => e = .returned (.bool true) ∧ Below w.heap.size w w' := by
  obtain ⟨i9, hi9, hz90, hz91, hz92⟩ := info_parts info9
  obtain ⟨i32, hi32, hz320, hz321, hz322⟩ := info_parts info32
  have t22 := fun w a n c => run_neq_slice_nil_any (P := Try.prog) w 22 9 a n c 0 0 Try.underlying22
  have tb := fun w a b => run_eql_bool (P := Try.prog) (w := w) 4 a b Try.underlying4
  have t23 := fun w a n c => run_neq_slice_nil_any (P := Try.prog) w 23 32 a n c 0 0 Try.underlying23
  go_enter Try.func3, Try.ntmps3
  go_wp2_with fail
  refine (bytes5 h1 h3 m1 m2 m3 m4 z1 z2).mono ?_
  rintro e w' ⟨⟨b, rfl, hz⟩, rfl⟩
  cases b
  · go_wp2_with fail
    go_ret
    exact ⟨rfl, Below.refl _ _⟩
  obtain ⟨y1, y2⟩ := hz rfl
  clear hz z1 z2
  go_wp2_with fail
  refine (size_any h1 h3 m1 m2 m3 m4 y1 y2).mono ?_
  rintro e w' ⟨⟨b, rfl, hz⟩, rfl⟩
  cases b
  · go_wp2_with fail
    go_ret
    exact ⟨rfl, Below.refl _ _⟩
  obtain ⟨l1, l2, l3, l4⟩ := hz rfl
  clear hz m1 m2 m3 m4
  go_wp2_with fail
  refine (wf_any h1 h2 (by omega) (by omega) y1).mono ?_
  rintro e wA ⟨⟨b, rfl, hg1⟩, n, hn⟩
  have bA : Below w.heap.size w wA := by rw [hn]; exact bel_drewN (Below.refl _ _) _
  clear hn
  cases b
  · go_wp2_with fail
    go_ret
    exact ⟨rfl, bA⟩
  have G1 : Hid _ := hg1 rfl
  clear hg1
  go_wp2_with fail
  refine (wf_any (h3.below bA (Nat.le_refl _)) (h4.below bA (Nat.le_refl _)) (by omega) (by omega) y2).mono ?_
  rintro e wB ⟨⟨b, rfl, hg2⟩, n', hn⟩
  have bB : Below w.heap.size w wB := by rw [hn]; exact bel_drewN bA _
  clear hn
  cases b
  · go_wp2_with fail
    go_ret
    exact ⟨rfl, bB⟩
  have G2 : Hid _ := hg2 rfl
  clear hg2 bA y1 y2
  have V1 : Hid (Vals wB wB.heap.size a1 (n1.map .string)) := strs_vals.1 (h1.below bB bB.size)
  have V2 : Hid (Vals wB wB.heap.size a2 (c1.map (.int .u64))) := us_vals.1 (h2.below bB bB.size)
  have V3 : Hid (Vals wB wB.heap.size a3 (n2.map .string)) := strs_vals.1 (h3.below bB bB.size)
  have V4 : Hid (Vals wB wB.heap.size a4 (c2.map (.int .u64))) := us_vals.1 (h4.below bB bB.size)
  clear h1 h2 h3 h4
  obtain ⟨X1, hX1⟩ : ∃ X1 : List Value, X1 = n1.map .string := ⟨_, rfl⟩
  have L1 : X1.length = n1.length := by rw [hX1]; simp
  have O1 : Hid (∀ v ∈ X1, v.oneCell' = true) := by
    rw [hX1]; intro v hv; obtain ⟨_, _, rfl⟩ := List.mem_map.1 hv; rfl
  have HX1 : Hid _ := hX1
  rw [← hX1] at V1
  clear hX1
  go_upto_if 42 with fail
  go_cut [0] from 19 (fun s wc => Cp wB X1 n1.length s wc)
  case first =>
    rcases a1 with _ | ad
    · go_wp2_with fail
      go_meet
      case rel => exact ⟨_, _, rfl, V1.out, Below.refl _ _⟩
    · go_upto_region 9 with (at_make; refine wpList_make_full _ rfl _ _ 22 rfl wB.heap.size 9 i9 (.string ByteArray.empty) 1 Try.underlying22 hi9 hz90 hz91 .i64 .i64 _ _ n1.length rfl rfl rfl rfl (by rw [hz92]; omega) (by unfold maxLen; omega) (by simp) ?_; intro wm hown hgrow)
      obtain ⟨cur, hcur, hcl, _⟩ := own_row hown
      have HC : Hid _ := hcur
      have bm : Below wB.heap.size wB wm := (Below.refl _ _).grown hgrow (Nat.le_refl _) (by simp)
      have Vm := Vals.below V1.out bm (Nat.le_refl _)
      clear hown hgrow hcur
      go_wp2_with (refine wpList_copy_splice rfl (.tmp 46) (.tmp 47) 22 22 rfl 9 Try.underlying22 sz9 _ _ _ _ _ _ rfl rfl wB.heap.size 0 cur 9 HC.out X1 (by rw [L1]; exact (Nat.min_self _).symm) (fun hc => ⟨rfl, vals_src Vm hc⟩) (by omega) O1.out wB.heap.size wB bm (Nat.le_refl _) ?_; intro wn hrow bn)
      go_meet
      case rel => exact ⟨_, _, rfl, .inr ⟨_, _, rfl, row_lt hrow.out, row_vals hrow.out⟩, bn⟩
  case rest =>
    obtain ⟨a1', k1', rfl, V1', b1⟩ := hcut
    rename World => W1
    have N2 : Hid (Vals W1 W1.heap.size a2 _) := Vals.below V2.out b1 b1.size
    clear V2
    have V2 : Hid (Vals W1 W1.heap.size a2 _) := N2.out
    clear N2
    have N3 : Hid (Vals W1 W1.heap.size a3 _) := Vals.below V3.out b1 b1.size
    clear V3
    have V3 : Hid (Vals W1 W1.heap.size a3 _) := N3.out
    clear N3
    have N4 : Hid (Vals W1 W1.heap.size a4 _) := Vals.below V4.out b1 b1.size
    clear V4
    have V4 : Hid (Vals W1 W1.heap.size a4 _) := N4.out
    clear N4
    obtain ⟨X2, hX2⟩ : ∃ X2 : List Value, X2 = c1.map (.int .u64) := ⟨_, rfl⟩
    have L2 : X2.length = c1.length := by rw [hX2]; simp
    have O2 : Hid (∀ v ∈ X2, v.oneCell' = true) := by
      rw [hX2]; intro v hv; obtain ⟨_, _, rfl⟩ := List.mem_map.1 hv; rfl
    have HX2 : Hid _ := hX2
    rw [← hX2] at V2
    clear hX2
    go_upto_if 51 with fail
    go_cut [1] from 19 (fun s wc => Cp W1 X2 c1.length s wc)
    case first =>
      rcases a2 with _ | ad
      · go_wp2_with fail
        go_meet
        case rel => exact ⟨_, _, rfl, V2.out, Below.refl _ _⟩
      · go_upto_region 13 with (at_make; refine wpList_make_full _ rfl _ _ 23 rfl W1.heap.size 32 i32 (.int .u64 0) 1 Try.underlying23 hi32 hz320 hz321 .i64 .i64 _ _ c1.length rfl rfl rfl rfl (by rw [hz322]; omega) (by unfold maxLen; omega) (by simp) ?_; intro wm hown hgrow)
        obtain ⟨cur, hcur, hcl, _⟩ := own_row hown
        have HC : Hid _ := hcur
        have bm : Below W1.heap.size W1 wm := (Below.refl _ _).grown hgrow (Nat.le_refl _) (by simp)
        have Vm := Vals.below V2.out bm (Nat.le_refl _)
        clear hown hgrow hcur
        go_wp2_with (refine wpList_copy_splice rfl (.tmp 55) (.tmp 56) 23 23 rfl 32 Try.underlying23 sz32 _ _ _ _ _ _ rfl rfl W1.heap.size 0 cur 32 HC.out X2 (by rw [L2]; exact (Nat.min_self _).symm) (fun hc => ⟨rfl, vals_src Vm hc⟩) (by omega) O2.out W1.heap.size W1 bm (Nat.le_refl _) ?_; intro wn hrow bn)
        go_meet
        case rel => exact ⟨_, _, rfl, .inr ⟨_, _, rfl, row_lt hrow.out, row_vals hrow.out⟩, bn⟩
    case rest =>
      obtain ⟨a2', k2', rfl, V2', b2⟩ := hcut
      rename World => W2
      have N3 : Hid (Vals W2 W2.heap.size a3 _) := Vals.below V3.out b2 b2.size
      clear V3
      have V3 : Hid (Vals W2 W2.heap.size a3 _) := N3.out
      clear N3
      have N4 : Hid (Vals W2 W2.heap.size a4 _) := Vals.below V4.out b2 b2.size
      clear V4
      have V4 : Hid (Vals W2 W2.heap.size a4 _) := N4.out
      clear N4
      have N1 : Vals _ _ _ _ := V1'.below b2 b2.size
      clear V1'
      have V1' := N1
      clear N1
      obtain ⟨X3, hX3⟩ : ∃ X3 : List Value, X3 = n2.map .string := ⟨_, rfl⟩
      have L3 : X3.length = n2.length := by rw [hX3]; simp
      have O3 : Hid (∀ v ∈ X3, v.oneCell' = true) := by
        rw [hX3]; intro v hv; obtain ⟨_, _, rfl⟩ := List.mem_map.1 hv; rfl
      have HX3 : Hid _ := hX3
      rw [← hX3] at V3
      clear hX3
      go_upto_if 60 with fail
      go_cut [2] from 19 (fun s wc => Cp W2 X3 n2.length s wc)
      case first =>
        rcases a3 with _ | ad
        · go_wp2_with fail
          go_meet
          case rel => exact ⟨_, _, rfl, V3.out, Below.refl _ _⟩
        · go_upto_region 17 with (at_make; refine wpList_make_full _ rfl _ _ 22 rfl W2.heap.size 9 i9 (.string ByteArray.empty) 1 Try.underlying22 hi9 hz90 hz91 .i64 .i64 _ _ n2.length rfl rfl rfl rfl (by rw [hz92]; omega) (by unfold maxLen; omega) (by simp) ?_; intro wm hown hgrow)
          obtain ⟨cur, hcur, hcl, _⟩ := own_row hown
          have HC : Hid _ := hcur
          have bm : Below W2.heap.size W2 wm := (Below.refl _ _).grown hgrow (Nat.le_refl _) (by simp)
          have Vm := Vals.below V3.out bm (Nat.le_refl _)
          clear hown hgrow hcur
          go_wp2_with (refine wpList_copy_splice rfl (.tmp 64) (.tmp 65) 22 22 rfl 9 Try.underlying22 sz9 _ _ _ _ _ _ rfl rfl W2.heap.size 0 cur 9 HC.out X3 (by rw [L3]; exact (Nat.min_self _).symm) (fun hc => ⟨rfl, vals_src Vm hc⟩) (by omega) O3.out W2.heap.size W2 bm (Nat.le_refl _) ?_; intro wn hrow bn)
          go_meet
          case rel => exact ⟨_, _, rfl, .inr ⟨_, _, rfl, row_lt hrow.out, row_vals hrow.out⟩, bn⟩
      case rest =>
        obtain ⟨a3', k3', rfl, V3', b3⟩ := hcut
        rename World => W3
        have N4 : Hid (Vals W3 W3.heap.size a4 _) := Vals.below V4.out b3 b3.size
        clear V4
        have V4 : Hid (Vals W3 W3.heap.size a4 _) := N4.out
        clear N4
        have N1 : Vals _ _ _ _ := V1'.below b3 b3.size
        clear V1'
        have V1' := N1
        clear N1
        have N2 : Vals _ _ _ _ := V2'.below b3 b3.size
        clear V2'
        have V2' := N2
        clear N2
        obtain ⟨X4, hX4⟩ : ∃ X4 : List Value, X4 = c2.map (.int .u64) := ⟨_, rfl⟩
        have L4 : X4.length = c2.length := by rw [hX4]; simp
        have O4 : Hid (∀ v ∈ X4, v.oneCell' = true) := by
          rw [hX4]; intro v hv; obtain ⟨_, _, rfl⟩ := List.mem_map.1 hv; rfl
        have HX4 : Hid _ := hX4
        rw [← hX4] at V4
        clear hX4
        go_upto_if 69 with fail
        go_cut [3] from 19 (fun s wc => Cp W3 X4 c2.length s wc)
        case first =>
          rcases a4 with _ | ad
          · go_wp2_with fail
            go_meet
            case rel => exact ⟨_, _, rfl, V4.out, Below.refl _ _⟩
          · go_upto_region 21 with (at_make; refine wpList_make_full _ rfl _ _ 23 rfl W3.heap.size 32 i32 (.int .u64 0) 1 Try.underlying23 hi32 hz320 hz321 .i64 .i64 _ _ c2.length rfl rfl rfl rfl (by rw [hz322]; omega) (by unfold maxLen; omega) (by simp) ?_; intro wm hown hgrow)
            obtain ⟨cur, hcur, hcl, _⟩ := own_row hown
            have HC : Hid _ := hcur
            have bm : Below W3.heap.size W3 wm := (Below.refl _ _).grown hgrow (Nat.le_refl _) (by simp)
            have Vm := Vals.below V4.out bm (Nat.le_refl _)
            clear hown hgrow hcur
            go_wp2_with (refine wpList_copy_splice rfl (.tmp 73) (.tmp 74) 23 23 rfl 32 Try.underlying23 sz32 _ _ _ _ _ _ rfl rfl W3.heap.size 0 cur 32 HC.out X4 (by rw [L4]; exact (Nat.min_self _).symm) (fun hc => ⟨rfl, vals_src Vm hc⟩) (by omega) O4.out W3.heap.size W3 bm (Nat.le_refl _) ?_; intro wn hrow bn)
            go_meet
            case rel => exact ⟨_, _, rfl, .inr ⟨_, _, rfl, row_lt hrow.out, row_vals hrow.out⟩, bn⟩
        case rest =>
          obtain ⟨a4', k4', rfl, V4', b4⟩ := hcut
          rename World => W4
          have N1 : Vals _ _ _ _ := V1'.below b4 b4.size
          clear V1'
          have V1' := N1
          clear N1
          have N2 : Vals _ _ _ _ := V2'.below b4 b4.size
          clear V2'
          have V2' := N2
          clear N2
          have N3 : Vals _ _ _ _ := V3'.below b4 b4.size
          clear V3'
          have V3' := N3
          clear N3
          have B4 : Below w.heap.size w W4 := (((bB.trans (b1.mono bB.size)).trans (b2.mono (Nat.le_trans bB.size b1.size))).trans (b3.mono (Nat.le_trans (Nat.le_trans bB.size b1.size) b2.size))).trans (b4.mono (Nat.le_trans (Nat.le_trans (Nat.le_trans bB.size b1.size) b2.size) b3.size))
          have S1 : Strs W4 W4.heap.size a1' n1 := strs_vals.2 (by rw [← HX1.out]; exact V1')
          have S2 : Us W4 W4.heap.size a2' c1 := us_vals.2 (by rw [← HX2.out]; exact V2')
          have S3 : Strs W4 W4.heap.size a3' n2 := strs_vals.2 (by rw [← HX3.out]; exact V3')
          have S4 : Us W4 W4.heap.size a4' c2 := us_vals.2 (by rw [← HX4.out]; exact V4')
          clear V1' V2' V3' V4' V1 V2 V3 V4 b1 b2 b3 b4 bB
          go_wp2_with fail
          refine (new_any S1 S2 G1.out.1 l1).mono ?_
          rintro e W5 ⟨g1, rfl, E1, b5⟩
          go_wp2_with fail
          have s5 : (W5.alloc (.cells #[.slice (some ⟨g1, 0, none⟩) n1.length n1.length] 28)).heap.size = W5.heap.size + 1 := by simp
          have b6 := (Below.refl W5.heap.size W5).alloc (Nat.le_refl _) (.cells #[.slice (some ⟨g1, 0, none⟩) n1.length n1.length] 28)
          refine (new_any (S3.below (b5.trans (b6.mono b5.size)) (by have := b5.size; omega)) (S4.below (b5.trans (b6.mono b5.size)) (by have := b5.size; omega)) G2.out.1 l3).mono ?_
          rintro e W7 ⟨g2, rfl, E2, b7⟩
          go_upto_region 25 with fail
          have hbx := boxed_made B4 S1 S2 S3 S4 b5 E1 b7 E2
          clear b6 s5 b7 b5 E1 E2 S1 S2 S3 S4 B4
          generalize W7.alloc (.cells #[.slice (some ⟨g2, 0, none⟩) n2.length n2.length] 28) = Wx at hbx ⊢
          rcases law_order hp1 hp2 G1.out G2.out with ⟨r1, A, A'⟩ | ⟨r1, A, A'⟩ | ⟨r1, A, A'⟩ | ⟨r1, A, A'⟩
          · have q1 := hbx.box1
            have q2 := hbx.box2
            go_wp2_with fail
            refine (rel_as r1 hbx.ents1 hbx.ents2 l1 l3 hp1 hp2).mono ?_
            rintro e Wy ⟨rfl, by1⟩
            have hby := hbx.below by1
            go_wp2_with fail
            refine (most_any hby.s1 hby.s2 hby.s3 hby.s4 G1.out.1 G2.out.1 l1 l3).mono ?_
            rintro e Wz ⟨⟨b, rfl, hb⟩, n, hn⟩
            have hbz := hby.below (show Below Wy.heap.size Wy Wz by rw [hn]; exact bel_drewN (Below.refl _ _) _)
            clear hn
            obtain rfl : b = true := hb.2 A
            go_wp2_with fail
            refine (most_any hbz.s3 hbz.s4 hbz.s1 hbz.s2 G2.out.1 G1.out.1 l3 l1).mono ?_
            rintro e We ⟨⟨b, rfl, hb'⟩, n', hn⟩
            have bE : Below w.heap.size w We := by rw [hn]; exact bel_drewN hbz.bel _
            clear hn
            obtain rfl : b = true := hb'.2 A'
            go_wp2_with fail
            go_ret
            exact ⟨rfl, bE⟩
          · have q1 := hbx.box1
            have q2 := hbx.box2
            go_wp2_with fail
            refine (rel_as r1 hbx.ents1 hbx.ents2 l1 l3 hp1 hp2).mono ?_
            rintro e Wy ⟨rfl, by1⟩
            have hby := hbx.below by1
            go_wp2_with fail
            refine (most_any hby.s1 hby.s2 hby.s3 hby.s4 G1.out.1 G2.out.1 l1 l3).mono ?_
            rintro e Wz ⟨⟨b, rfl, hb⟩, n, hn⟩
            have hbz := hby.below (show Below Wy.heap.size Wy Wz by rw [hn]; exact bel_drewN (Below.refl _ _) _)
            clear hn
            obtain rfl : b = true := hb.2 A
            go_wp2_with fail
            refine (most_any hbz.s3 hbz.s4 hbz.s1 hbz.s2 G2.out.1 G1.out.1 l3 l1).mono ?_
            rintro e We ⟨⟨b, rfl, hb'⟩, n', hn⟩
            have bE : Below w.heap.size w We := by rw [hn]; exact bel_drewN hbz.bel _
            clear hn
            obtain rfl : b = false := Bool.eq_false_iff.2 (fun h => A' (hb'.1 h))
            go_wp2_with fail
            go_ret
            exact ⟨rfl, bE⟩
          · have q1 := hbx.box1
            have q2 := hbx.box2
            go_wp2_with fail
            refine (rel_as r1 hbx.ents1 hbx.ents2 l1 l3 hp1 hp2).mono ?_
            rintro e Wy ⟨rfl, by1⟩
            have hby := hbx.below by1
            go_wp2_with fail
            refine (most_any hby.s1 hby.s2 hby.s3 hby.s4 G1.out.1 G2.out.1 l1 l3).mono ?_
            rintro e Wz ⟨⟨b, rfl, hb⟩, n, hn⟩
            have hbz := hby.below (show Below Wy.heap.size Wy Wz by rw [hn]; exact bel_drewN (Below.refl _ _) _)
            clear hn
            obtain rfl : b = false := Bool.eq_false_iff.2 (fun h => A (hb.1 h))
            go_wp2_with fail
            refine (most_any hbz.s3 hbz.s4 hbz.s1 hbz.s2 G2.out.1 G1.out.1 l3 l1).mono ?_
            rintro e We ⟨⟨b, rfl, hb'⟩, n', hn⟩
            have bE : Below w.heap.size w We := by rw [hn]; exact bel_drewN hbz.bel _
            clear hn
            obtain rfl : b = true := hb'.2 A'
            go_wp2_with fail
            go_ret
            exact ⟨rfl, bE⟩
          · have q1 := hbx.box1
            have q2 := hbx.box2
            go_wp2_with fail
            refine (rel_as r1 hbx.ents1 hbx.ents2 l1 l3 hp1 hp2).mono ?_
            rintro e Wy ⟨rfl, by1⟩
            have hby := hbx.below by1
            go_wp2_with fail
            refine (most_any hby.s1 hby.s2 hby.s3 hby.s4 G1.out.1 G2.out.1 l1 l3).mono ?_
            rintro e Wz ⟨⟨b, rfl, hb⟩, n, hn⟩
            have hbz := hby.below (show Below Wy.heap.size Wy Wz by rw [hn]; exact bel_drewN (Below.refl _ _) _)
            clear hn
            obtain rfl : b = false := Bool.eq_false_iff.2 (fun h => A (hb.1 h))
            go_wp2_with fail
            refine (most_any hbz.s3 hbz.s4 hbz.s1 hbz.s2 G2.out.1 G1.out.1 l3 l1).mono ?_
            rintro e We ⟨⟨b, rfl, hb'⟩, n', hn⟩
            have bE : Below w.heap.size w We := by rw [hn]; exact bel_drewN hbz.bel _
            clear hn
            obtain rfl : b = false := Bool.eq_false_iff.2 (fun h => A' (hb'.1 h))
            go_wp2_with fail
            go_ret
            exact ⟨rfl, bE⟩
end Go.Proofs.Qxb6629217a.Wk
