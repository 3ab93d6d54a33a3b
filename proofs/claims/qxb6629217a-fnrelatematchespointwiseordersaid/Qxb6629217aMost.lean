/- zzB1Count and zzB1AtMost. -/
import Derived.Test.Qxb6629217aSame
namespace Go.Proofs.Qxb6629217a.Wk
open Go.RowKit Go.Proofs.Qxb6629217a.Pl
set_option linter.unusedVariables false

/-- The first count that stands beside the name, from the i-th entry on. -/
def cnF (ns : List ByteArray) (cs : List Int) (s : ByteArray) : Nat → Nat → Int
  | 0, _ => 0
  | p + 1, i => if nm ns i = s then ct cs i else cnF ns cs s p (i + 1)

set_option maxHeartbeats 1000000 in
theorem count_any {w : World} {B : Nat} {a1 a2 : Option Addr} {ns : List ByteArray} {cs : List Int} {k1 k2 : Nat} (s : ByteArray) (h1 : Strs w B a1 ns) (h2 : Us w B a2 cs)
    (hl : ns.length = cs.length) (hn : ns.length ≤ 4096) :
    Calls Try.prog 15 #[.slice a1 ns.length k1, .slice a2 cs.length k2, .string s] w fun e w' => e = .returned (.int .u64 (cnF ns cs s ns.length 0)) ∧ w' = w := by
  have H1 : Hid _ := h1
  have H2 : Hid _ := h2
  have le1 : ns.length ≤ cs.length := by omega
  clear h1 h2 hl
  go_enter Try.func15, Try.ntmps15
  go_wp2
  go_loopw [7] (fun i wr => ∃ k p : Nat, k + p = ns.length ∧ i = .int .i64 k ∧ cnF ns cs s ns.length 0 = cnF ns cs s p k ∧ wr = w) (fun i _ => ns.length - (intOf i).toNat)
  case atStart => exact ⟨0, ns.length, by omega, rfl, rfl, rfl⟩
  case round =>
    obtain ⟨k, p, hk, rfl, hj, rfl⟩ := hrel
    have HJ : Hid _ := hj
    clear hj
    by_cases hkl : k < ns.length
    · obtain ⟨p, rfl⟩ : ∃ p', p = p' + 1 := ⟨p - 1, by omega⟩
      obtain ⟨b1, o1, rfl, _, q1⟩ := Strs.at H1.out hkl
      obtain ⟨b2, o2, rfl, _, q2⟩ := Us.at H2.out (k := k) (by omega)
      have u1 := q1 k hkl
      have u2 := q2 k (by omega)
      clear q1 q2
      by_cases es : nm ns k = s
      · have hs : ((nm ns k).toList == s.toList) = true := by rw [es]; exact beq_self_eq_true _
        have HE : Hid _ := HJ.out.trans (show cnF ns cs s (p + 1) k = ct cs k by simp [cnF, es])
        clear es
        go_wp2
        go_ret
        exact ⟨by rw [HE.out]; rfl, rfl⟩
      · have hs : ((nm ns k).toList == s.toList) = false := ba_ne es
        have HE : Hid _ := HJ.out.trans (show cnF ns cs s (p + 1) k = cnF ns cs s p (k + 1) by simp [cnF, es])
        clear es
        go_wp2
        go_roundw
        case rel => exact ⟨k + 1, p, by omega, by go_num, HE.out, trivial⟩
        case measure => simp [intOf]; omega
    · obtain rfl : p = 0 := by omega
      have HE : Hid _ := HJ.out.trans (show cnF ns cs s 0 k = 0 from rfl)
      go_wp2
      go_ret
      exact ⟨by rw [HE.out]; rfl, rfl⟩

/-- At most, name by name. -/
def Most (n1 : List ByteArray) (c1 : List Int) (n2 : List ByteArray) (c2 : List Int) : Prop := ∀ k, k < n1.length → ct c1 k ≤ cnF n2 c2 (nm n1 k) n2.length 0

theorem most_step {n1 n2 : List ByteArray} {c1 c2 : List Int} {k : Nat} (h : ∀ j, j < k → ct c1 j ≤ cnF n2 c2 (nm n1 j) n2.length 0) (h1 : ct c1 k ≤ cnF n2 c2 (nm n1 k) n2.length 0) :
    ∀ j, j < k + 1 → ct c1 j ≤ cnF n2 c2 (nm n1 j) n2.length 0 := by
  intro j hj
  rcases Nat.lt_or_eq_of_le (Nat.le_of_lt_succ hj) with c | c
  · exact h j c
  · subst c; exact h1

set_option maxHeartbeats 1000000 in
theorem most_any {w : World} {B : Nat} {a1 a2 a3 a4 : Option Addr} {n1 n2 : List ByteArray} {c1 c2 : List Int} {k1 k2 k3 k4 : Nat} (h1 : Strs w B a1 n1) (h2 : Us w B a2 c1) (h3 : Strs w B a3 n2) (h4 : Us w B a4 c2)
    (hl1 : n1.length = c1.length) (hl2 : n2.length = c2.length) (hn : n1.length ≤ 4096) (hn' : n2.length ≤ 4096) :
    Calls Try.prog 10 #[.slice a1 n1.length k1, .slice a2 c1.length k2, .slice a3 n2.length k3, .slice a4 c2.length k4] w fun e w' => Told w w' e (Most n1 c1 n2 c2) := by
  have H1 : Hid _ := h1
  have H2 : Hid _ := h2
  have H3 : Hid _ := h3
  have H4 : Hid _ := h4
  have le1 : n1.length ≤ c1.length := by omega
  have HL : Hid _ := hl2
  clear h1 h2 h3 h4 hl1 hl2
  go_enter Try.func10, Try.ntmps10
  go_wp2
  go_loopw [9] (fun i wr => ∃ k : Nat, k ≤ n1.length ∧ i = .int .i64 k ∧ (∀ j, j < k → ct c1 j ≤ cnF n2 c2 (nm n1 j) n2.length 0) ∧ ∃ n, wr = w.drewN n) (fun i _ => n1.length - (intOf i).toNat)
  case atStart => exact ⟨0, Nat.zero_le _, rfl, by intro j hj; omega, 0, rfl⟩
  case round =>
    obtain ⟨k, hk, rfl, hj, n, hn⟩ := hrel
    have HJ : Hid _ := hj
    have HW : Hid (wr = w.drewN n) := hn
    have hcw : ∀ p, wr.cell? p = w.cell? p := fun p => by rw [hn]; rfl
    have HCW : Hid _ := hcw
    have H3' : Hid (Strs wr B a3 n2) := by rw [hn]; exact H3.out
    have H4' : Hid (Us wr B a4 c2) := by rw [hn]; exact H4.out
    clear hj hn hcw
    by_cases hkl : k < n1.length
    · obtain ⟨b1, o1, rfl, _, q1⟩ := Strs.at H1.out hkl
      obtain ⟨b2, o2, rfl, _, q2⟩ := Us.at H2.out (k := k) (by omega)
      have u1 := (HCW.out _).trans (q1 k hkl)
      have u2 := (HCW.out _).trans (q2 k (by omega))
      clear q1 q2
      have hc : Hid (∀ m, _) := fun m => count_any (w := wr.drewN m) (B := B) (k1 := k3) (k2 := k4) (nm n1 k) H3'.out H4'.out HL.out hn'
      by_cases ec : cnF n2 c2 (nm n1 k) n2.length 0 < ct c1 k
      · have HNo : Hid (¬ Most n1 c1 n2 c2) := fun h => by have := h k hkl; omega
        have hd : decide (cnF n2 c2 (nm n1 k) n2.length 0 < ct c1 k) = true := by simpa using ec
        generalize cnF n2 c2 (nm n1 k) n2.length 0 = v at hc ec hd
        generalize ct c1 k = v2 at u2 ec hd
        go_wp2
        go_quiet ((go_at_call 15; exact Calls.quiet_of_same (hc.out _)))
        go_wp2
        go_ret
        exact ⟨⟨_, rfl, by simp [HNo.out]⟩, _, by rw [HW.out, World.drewN_drewN]⟩
      · have HN : Hid _ := most_step HJ.out (by omega : ct c1 k ≤ cnF n2 c2 (nm n1 k) n2.length 0)
        have hd : decide (cnF n2 c2 (nm n1 k) n2.length 0 < ct c1 k) = false := by simpa using ec
        generalize cnF n2 c2 (nm n1 k) n2.length 0 = v at hc ec hd
        generalize ct c1 k = v2 at u2 ec hd
        go_wp2
        go_quiet ((go_at_call 15; exact Calls.quiet_of_same (hc.out _)))
        go_wp2
        go_roundw
        case rel => exact ⟨k + 1, by omega, by go_num, HN.out, _, by rw [HW.out, World.drewN_drewN]⟩
        case measure => simp [intOf]; omega
    · have HA : Hid (Most n1 c1 n2 c2) := fun j hj => HJ.out j (by omega)
      go_wp2
      go_ret
      exact ⟨⟨_, rfl, by simp [HA.out]⟩, _, HW.out⟩
end Go.Proofs.Qxb6629217a.Wk
