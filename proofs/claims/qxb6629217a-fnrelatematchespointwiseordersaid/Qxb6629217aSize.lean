/- zzB1SizeOK. -/
import Derived.Test.Qxb6629217aBytes
namespace Go.Proofs.Qxb6629217a.Wk
open Go.RowKit Go.Proofs.Qxb6629217a.Pl
set_option linter.unusedVariables false

set_option maxRecDepth 100000 in
set_option maxHeartbeats 2000000 in
theorem size_any {w : World} {B : Nat} {a a' b b' : Option Addr} {ns ms : List ByteArray} {cs ds : List Int} {c c' d d' : Nat} (hs1 : Strs w B a ns) (hs2 : Strs w B b ms)
    (hn : ns.length ≤ maxLen) (hc : cs.length ≤ maxLen) (hm : ms.length ≤ maxLen) (hd : ds.length ≤ maxLen) (hz1 : ∀ k, k < ns.length → (nm ns k).size ≤ 1048576) (hz2 : ∀ k, k < ms.length → (nm ms k).size ≤ 1048576) :
    Calls Try.prog 6 #[.slice a ns.length c, .slice a' cs.length c', .slice b ms.length d, .slice b' ds.length d'] w
      fun e w' => Ans e (ns.length ≤ 4096 ∧ cs.length ≤ 4096 ∧ ms.length ≤ 4096 ∧ ds.length ≤ 4096) ∧ w = w' := by
  unfold maxLen at hn hc hm hd
  have HS1 : Hid (Strs w B a ns) := hs1
  have HS2 : Hid (Strs w B b ms) := hs2
  have HZ1 : Hid (∀ k, k < ns.length → (nm ns k).size ≤ 1048576) := hz1
  have HZ2 : Hid (∀ k, k < ms.length → (nm ms k).size ≤ 1048576) := hz2
  clear hs1 hs2 hz1 hz2
  by_cases t1 : ns.length ≤ 4096
  · by_cases t2 : cs.length ≤ 4096
    · by_cases t3 : ms.length ≤ 4096
      · by_cases t4 : ds.length ≤ 4096
        · go_enter Try.func6, Try.ntmps6
          go_wp2
          go_loop [9, 10] (fun z i => ∃ (k : Nat) (s : Int), k ≤ ns.length ∧ i = .int .i64 k ∧ z = .int .i64 s ∧ 0 ≤ s ∧ s ≤ 1048576) (fun _ i => ns.length - (intOf i).toNat)
          case atStart => exact ⟨0, _, Nat.zero_le _, rfl, rfl, by omega, by omega⟩
          case round =>
            obtain ⟨k, s, hk, rfl, rfl, hs0, hs1⟩ := hrel
            by_cases hkl : k < ns.length
            · obtain ⟨b1, o1, rfl, _, q1⟩ := Strs.at HS1.out hkl
              have u1 := q1 k hkl
              have zz := HZ1.out k hkl
              clear q1
              generalize nm ns k = x at u1 zz
              by_cases hs3 : s + (x.size : Int) ≤ 1048576
              · go_wp2
                go_round
                case rel => exact ⟨k + 1, _, by omega, by go_num, rfl, by omega, by omega⟩
                case measure => simp [intOf]; omega
              · go_wp2
                go_ret
                exact ⟨⟨false, rfl, by simp⟩, rfl⟩
            · go_wp2
              go_loop [9, 11] (fun z i => ∃ (k : Nat) (s : Int), k ≤ ms.length ∧ i = .int .i64 k ∧ z = .int .i64 s ∧ 0 ≤ s ∧ s ≤ 1048576) (fun _ i => ms.length - (intOf i).toNat)
              case atStart => exact ⟨0, _, Nat.zero_le _, rfl, rfl, by omega, by omega⟩
              case round =>
                obtain ⟨k, s, hk, rfl, rfl, hs0, hs1⟩ := hrel
                by_cases hkl : k < ms.length
                · obtain ⟨b1, o1, rfl, _, q1⟩ := Strs.at HS2.out hkl
                  have u1 := q1 k hkl
                  have zz := HZ2.out k hkl
                  clear q1
                  generalize nm ms k = x at u1 zz
                  by_cases hs3 : s + (x.size : Int) ≤ 1048576
                  · go_wp2
                    go_round
                    case rel => exact ⟨k + 1, _, by omega, by go_num, rfl, by omega, by omega⟩
                    case measure => simp [intOf]; omega
                  · go_wp2
                    go_ret
                    exact ⟨⟨false, rfl, by simp⟩, rfl⟩
                · go_wp2
                  go_ret
                  exact ⟨⟨_, rfl, fun _ => trivial⟩, rfl⟩
        · go_enter Try.func6, Try.ntmps6
          go_wp2
          go_ret
          exact ⟨⟨false, rfl, by simp⟩, rfl⟩
      · go_enter Try.func6, Try.ntmps6
        go_wp2
        go_ret
        exact ⟨⟨false, rfl, by simp⟩, rfl⟩
    · go_enter Try.func6, Try.ntmps6
      go_wp2
      go_ret
      exact ⟨⟨false, rfl, by simp⟩, rfl⟩
  · go_enter Try.func6, Try.ntmps6
    go_wp2
    go_ret
    exact ⟨⟨false, rfl, by simp⟩, rfl⟩
end Go.Proofs.Qxb6629217a.Wk
