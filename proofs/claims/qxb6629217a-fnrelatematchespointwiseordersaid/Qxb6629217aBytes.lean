/- zzBytes_.., zzB1SizeOK. -/
import Derived.Test.Qxb6629217aMem
namespace Go.Proofs.Qxb6629217a.Wk
open Go.RowKit Go.Proofs.Qxb6629217a.Pl
set_option linter.unusedVariables false

/-- It answers a bool; true only if P. -/
def Ans (e : Ending) (P : Prop) : Prop := ∃ b, e = .returned (.bool b) ∧ (b = true → P)

theorem size_step {l : List ByteArray} {k : Nat} (h : ∀ j, j < k → (nm l j).size ≤ 1048576) (h1 : (nm l k).size ≤ 1048576) : ∀ j, j < k + 1 → (nm l j).size ≤ 1048576 := by
  intro j hj
  rcases Nat.lt_or_eq_of_le (Nat.le_of_lt_succ hj) with c | c
  · exact h j c
  · subst c; exact h1

set_option maxRecDepth 100000 in
set_option maxHeartbeats 2000000 in
theorem bytes5 {w : World} {B : Nat} {a a' b b' : Option Addr} {ns ms : List ByteArray} {cs ds : List Int} {c c' d d' : Nat} (hs1 : Strs w B a ns) (hs2 : Strs w B b ms)
    (hn : ns.length ≤ maxLen) (hc : cs.length ≤ maxLen) (hm : ms.length ≤ maxLen) (hd : ds.length ≤ maxLen) (hz1 : ∀ k, k < ns.length → (nm ns k).size ≤ maxLen) (hz2 : ∀ k, k < ms.length → (nm ms k).size ≤ maxLen) :
    Calls Try.prog 5 #[.slice a ns.length c, .slice a' cs.length c', .slice b ms.length d, .slice b' ds.length d'] w
      fun e w' => Ans e ((∀ k, k < ns.length → (nm ns k).size ≤ 1048576) ∧ (∀ k, k < ms.length → (nm ms k).size ≤ 1048576)) ∧ w = w' := by
  unfold maxLen at hn hc hm hd
  have HS1 : Hid (Strs w B a ns) := hs1
  have HS2 : Hid (Strs w B b ms) := hs2
  have HZ1 : Hid (∀ k, k < ns.length → (nm ns k).size ≤ maxLen) := hz1
  have HZ2 : Hid (∀ k, k < ms.length → (nm ms k).size ≤ maxLen) := hz2
  clear hs1 hs2 hz1 hz2
  go_enter Try.func5, Try.ntmps5
  by_cases t0 : ns.length ≤ 1048576
  · go_wp2
    go_loop [9, 10] (fun z i => ∃ (k : Nat) (s : Int), k ≤ ns.length ∧ i = .int .i64 k ∧ z = .int .i64 s ∧ 0 ≤ s ∧ s ≤ 1048576 ∧ ∀ j, j < k → (nm ns j).size ≤ 1048576) (fun _ i => ns.length - (intOf i).toNat)
    case atStart => exact ⟨0, _, Nat.zero_le _, rfl, rfl, by omega, by omega, by intro j hj; omega⟩
    case round =>
      obtain ⟨k, s, hk, rfl, rfl, hs0, hs1, hj⟩ := hrel
      have HJ : Hid _ := hj
      clear hj
      by_cases hkl : k < ns.length
      · obtain ⟨b1, o1, rfl, _, q1⟩ := Strs.at HS1.out hkl
        have u1 := q1 k hkl
        have zz := HZ1.out k hkl
        unfold maxLen at zz
        clear q1
        by_cases hs2 : (nm ns k).size ≤ 1048576
        · have HN : Hid _ := size_step HJ.out hs2
          generalize nm ns k = x at u1 zz hs2
          by_cases hs3 : s + (x.size : Int) ≤ 1048576
          · go_wp2
            go_round
            case rel => exact ⟨k + 1, _, by omega, by go_num, rfl, by omega, by omega, HN.out⟩
            case measure => simp [intOf]; omega
          · go_wp2
            go_ret
            exact ⟨⟨false, rfl, by simp⟩, rfl⟩
        · generalize nm ns k = x at u1 zz hs2
          go_wp2
          go_ret
          exact ⟨⟨false, rfl, by simp⟩, rfl⟩
      · have HA : Hid (∀ j, j < ns.length → (nm ns j).size ≤ 1048576) := fun j hj => HJ.out j (by omega)
        clear HJ
        by_cases t1 : cs.length ≤ 1048576
        · by_cases t2 : s + (cs.length : Int) ≤ 1048576
          · by_cases t3 : ms.length ≤ 1048576
            · by_cases t4 : s + (cs.length : Int) + (ms.length : Int) ≤ 1048576
              · go_wp2
                go_loop [9, 11] (fun z i => ∃ (k : Nat) (s : Int), k ≤ ms.length ∧ i = .int .i64 k ∧ z = .int .i64 s ∧ 0 ≤ s ∧ s ≤ 1048576 ∧ ∀ j, j < k → (nm ms j).size ≤ 1048576) (fun _ i => ms.length - (intOf i).toNat)
                case atStart => exact ⟨0, _, Nat.zero_le _, rfl, rfl, by omega, by omega, by intro j hj; omega⟩
                case round =>
                  obtain ⟨k, s, hk, rfl, rfl, hs0, hs1, hj⟩ := hrel
                  have HJ : Hid _ := hj
                  clear hj
                  by_cases hkl : k < ms.length
                  · obtain ⟨b1, o1, rfl, _, q1⟩ := Strs.at HS2.out hkl
                    have u1 := q1 k hkl
                    have zz := HZ2.out k hkl
                    unfold maxLen at zz
                    clear q1
                    by_cases hs2 : (nm ms k).size ≤ 1048576
                    · have HN : Hid _ := size_step HJ.out hs2
                      generalize nm ms k = x at u1 zz hs2
                      by_cases hs3 : s + (x.size : Int) ≤ 1048576
                      · go_wp2
                        go_round
                        case rel => exact ⟨k + 1, _, by omega, by go_num, rfl, by omega, by omega, HN.out⟩
                        case measure => simp [intOf]; omega
                      · go_wp2
                        go_ret
                        exact ⟨⟨false, rfl, by simp⟩, rfl⟩
                    · generalize nm ms k = x at u1 zz hs2
                      go_wp2
                      go_ret
                      exact ⟨⟨false, rfl, by simp⟩, rfl⟩
                  · have HB : Hid (∀ j, j < ms.length → (nm ms j).size ≤ 1048576) := fun j hj => HJ.out j (by omega)
                    clear HJ
                    by_cases t1 : ds.length ≤ 1048576
                    · by_cases t2 : s + (ds.length : Int) ≤ 1048576
                      · go_wp2
                        go_ret
                        exact ⟨⟨true, rfl, fun _ => ⟨HA.out, HB.out⟩⟩, rfl⟩
                      · go_wp2
                        go_ret
                        exact ⟨⟨false, rfl, by simp⟩, rfl⟩
                    · go_wp2
                      go_ret
                      exact ⟨⟨false, rfl, by simp⟩, rfl⟩
              · go_wp2
                go_ret
                exact ⟨⟨false, rfl, by simp⟩, rfl⟩
            · go_wp2
              go_ret
              exact ⟨⟨false, rfl, by simp⟩, rfl⟩
          · go_wp2
            go_ret
            exact ⟨⟨false, rfl, by simp⟩, rfl⟩
        · go_wp2
          go_ret
          exact ⟨⟨false, rfl, by simp⟩, rfl⟩
  · go_wp2
    go_ret
    exact ⟨⟨false, rfl, by simp⟩, rfl⟩

set_option maxRecDepth 100000 in
set_option maxHeartbeats 2000000 in
theorem bytes11 {w : World} {B : Nat} {a a' b b' : Option Addr} {ns ms : List ByteArray} {cs ds : List Int} {c c' d d' : Nat} (hs1 : Strs w B a ns) (hs2 : Strs w B b ms)
    (hn : ns.length ≤ maxLen) (hc : cs.length ≤ maxLen) (hm : ms.length ≤ maxLen) (hd : ds.length ≤ maxLen) (hz1 : ∀ k, k < ns.length → (nm ns k).size ≤ maxLen) (hz2 : ∀ k, k < ms.length → (nm ms k).size ≤ maxLen) :
    Calls Try.prog 11 #[.slice a ns.length c, .slice a' cs.length c', .slice b ms.length d, .slice b' ds.length d'] w
      fun e w' => Ans e ((∀ k, k < ns.length → (nm ns k).size ≤ 1048576) ∧ (∀ k, k < ms.length → (nm ms k).size ≤ 1048576)) ∧ w = w' := by
  unfold maxLen at hn hc hm hd
  have HS1 : Hid (Strs w B a ns) := hs1
  have HS2 : Hid (Strs w B b ms) := hs2
  have HZ1 : Hid (∀ k, k < ns.length → (nm ns k).size ≤ maxLen) := hz1
  have HZ2 : Hid (∀ k, k < ms.length → (nm ms k).size ≤ maxLen) := hz2
  clear hs1 hs2 hz1 hz2
  go_enter Try.func11, Try.ntmps11
  by_cases t0 : ns.length ≤ 1048576
  · go_wp2
    go_loop [9, 10] (fun z i => ∃ (k : Nat) (s : Int), k ≤ ns.length ∧ i = .int .i64 k ∧ z = .int .i64 s ∧ 0 ≤ s ∧ s ≤ 1048576 ∧ ∀ j, j < k → (nm ns j).size ≤ 1048576) (fun _ i => ns.length - (intOf i).toNat)
    case atStart => exact ⟨0, _, Nat.zero_le _, rfl, rfl, by omega, by omega, by intro j hj; omega⟩
    case round =>
      obtain ⟨k, s, hk, rfl, rfl, hs0, hs1, hj⟩ := hrel
      have HJ : Hid _ := hj
      clear hj
      by_cases hkl : k < ns.length
      · obtain ⟨b1, o1, rfl, _, q1⟩ := Strs.at HS1.out hkl
        have u1 := q1 k hkl
        have zz := HZ1.out k hkl
        unfold maxLen at zz
        clear q1
        by_cases hs2 : (nm ns k).size ≤ 1048576
        · have HN : Hid _ := size_step HJ.out hs2
          generalize nm ns k = x at u1 zz hs2
          by_cases hs3 : s + (x.size : Int) ≤ 1048576
          · go_wp2
            go_round
            case rel => exact ⟨k + 1, _, by omega, by go_num, rfl, by omega, by omega, HN.out⟩
            case measure => simp [intOf]; omega
          · go_wp2
            go_ret
            exact ⟨⟨false, rfl, by simp⟩, rfl⟩
        · generalize nm ns k = x at u1 zz hs2
          go_wp2
          go_ret
          exact ⟨⟨false, rfl, by simp⟩, rfl⟩
      · have HA : Hid (∀ j, j < ns.length → (nm ns j).size ≤ 1048576) := fun j hj => HJ.out j (by omega)
        clear HJ
        by_cases t1 : cs.length ≤ 1048576
        · by_cases t2 : s + (cs.length : Int) ≤ 1048576
          · by_cases t3 : ms.length ≤ 1048576
            · by_cases t4 : s + (cs.length : Int) + (ms.length : Int) ≤ 1048576
              · go_wp2
                go_loop [9, 11] (fun z i => ∃ (k : Nat) (s : Int), k ≤ ms.length ∧ i = .int .i64 k ∧ z = .int .i64 s ∧ 0 ≤ s ∧ s ≤ 1048576 ∧ ∀ j, j < k → (nm ms j).size ≤ 1048576) (fun _ i => ms.length - (intOf i).toNat)
                case atStart => exact ⟨0, _, Nat.zero_le _, rfl, rfl, by omega, by omega, by intro j hj; omega⟩
                case round =>
                  obtain ⟨k, s, hk, rfl, rfl, hs0, hs1, hj⟩ := hrel
                  have HJ : Hid _ := hj
                  clear hj
                  by_cases hkl : k < ms.length
                  · obtain ⟨b1, o1, rfl, _, q1⟩ := Strs.at HS2.out hkl
                    have u1 := q1 k hkl
                    have zz := HZ2.out k hkl
                    unfold maxLen at zz
                    clear q1
                    by_cases hs2 : (nm ms k).size ≤ 1048576
                    · have HN : Hid _ := size_step HJ.out hs2
                      generalize nm ms k = x at u1 zz hs2
                      by_cases hs3 : s + (x.size : Int) ≤ 1048576
                      · go_wp2
                        go_round
                        case rel => exact ⟨k + 1, _, by omega, by go_num, rfl, by omega, by omega, HN.out⟩
                        case measure => simp [intOf]; omega
                      · go_wp2
                        go_ret
                        exact ⟨⟨false, rfl, by simp⟩, rfl⟩
                    · generalize nm ms k = x at u1 zz hs2
                      go_wp2
                      go_ret
                      exact ⟨⟨false, rfl, by simp⟩, rfl⟩
                  · have HB : Hid (∀ j, j < ms.length → (nm ms j).size ≤ 1048576) := fun j hj => HJ.out j (by omega)
                    clear HJ
                    by_cases t1 : ds.length ≤ 1048576
                    · by_cases t2 : s + (ds.length : Int) ≤ 1048576
                      · go_wp2
                        go_ret
                        exact ⟨⟨true, rfl, fun _ => ⟨HA.out, HB.out⟩⟩, rfl⟩
                      · go_wp2
                        go_ret
                        exact ⟨⟨false, rfl, by simp⟩, rfl⟩
                    · go_wp2
                      go_ret
                      exact ⟨⟨false, rfl, by simp⟩, rfl⟩
              · go_wp2
                go_ret
                exact ⟨⟨false, rfl, by simp⟩, rfl⟩
            · go_wp2
              go_ret
              exact ⟨⟨false, rfl, by simp⟩, rfl⟩
          · go_wp2
            go_ret
            exact ⟨⟨false, rfl, by simp⟩, rfl⟩
        · go_wp2
          go_ret
          exact ⟨⟨false, rfl, by simp⟩, rfl⟩
  · go_wp2
    go_ret
    exact ⟨⟨false, rfl, by simp⟩, rfl⟩

end Go.Proofs.Qxb6629217a.Wk
