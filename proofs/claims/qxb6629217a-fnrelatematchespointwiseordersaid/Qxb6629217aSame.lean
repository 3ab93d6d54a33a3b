/- zzB1Identical. -/
import Derived.Test.Qxb6629217aRel
namespace Go.Proofs.Qxb6629217a.Wk
open Go.RowKit Go.Proofs.Qxb6629217a.Pl
set_option linter.unusedVariables false

theorem ba_inj {a b : ByteArray} (h : a.data.toList = b.data.toList) : a = b := by
  obtain ⟨⟨x⟩⟩ := a
  obtain ⟨⟨y⟩⟩ := b
  simp only at h
  rw [h]
theorem ba_ne {a b : ByteArray} (h : a ≠ b) : (a.toList == b.toList) = false := by
  apply beq_eq_false_iff_ne.2
  intro e
  exact h (ba_inj (by simpa [ByteArray.toList_eq] using e))

/-- Cell by cell the same. -/
def Alike (n1 : List ByteArray) (c1 : List Int) (n2 : List ByteArray) (c2 : List Int) : Prop := n1.length = n2.length ∧ ∀ k, k < n1.length → nm n1 k = nm n2 k ∧ ct c1 k = ct c2 k

theorem alike_step {n1 n2 : List ByteArray} {c1 c2 : List Int} {k : Nat} (h : ∀ j, j < k → nm n1 j = nm n2 j ∧ ct c1 j = ct c2 j) (h1 : nm n1 k = nm n2 k) (h2 : ct c1 k = ct c2 k) :
    ∀ j, j < k + 1 → nm n1 j = nm n2 j ∧ ct c1 j = ct c2 j := by
  intro j hj
  rcases Nat.lt_or_eq_of_le (Nat.le_of_lt_succ hj) with c | c
  · exact h j c
  · subst c; exact ⟨h1, h2⟩

def Told (w w' : World) (e : Ending) (P : Prop) : Prop := (∃ b, e = .returned (.bool b) ∧ (b = true ↔ P)) ∧ ∃ n, w' = w.drewN n

set_option maxHeartbeats 1000000 in
theorem same_any {w : World} {B : Nat} {a1 a2 a3 a4 : Option Addr} {n1 n2 : List ByteArray} {c1 c2 : List Int} {k1 k2 k3 k4 : Nat} (h1 : Strs w B a1 n1) (h2 : Us w B a2 c1) (h3 : Strs w B a3 n2) (h4 : Us w B a4 c2)
    (hl1 : n1.length = c1.length) (hl2 : n2.length = c2.length) (hn : n1.length ≤ 4096) (hn' : n2.length ≤ 4096) :
    Calls Try.prog 12 #[.slice a1 n1.length k1, .slice a2 c1.length k2, .slice a3 n2.length k3, .slice a4 c2.length k4] w fun e w' => Told w w' e (Alike n1 c1 n2 c2) := by
  by_cases hlen : n1.length = n2.length
  · have H1 : Hid _ := h1
    have H2 : Hid _ := h2
    have H3 : Hid _ := h3
    have H4 : Hid _ := h4
    have hb1 : ((n1.length : Int) != (n2.length : Int)) = false := by rw [hlen]; simp
    have hb2 : ((c1.length : Int) != (c2.length : Int)) = false := by rw [← hl1, ← hl2, hlen]; simp
    have HL : Hid (n1.length = n2.length) := hlen
    have le1 : n1.length ≤ c1.length := by omega
    have le2 : n1.length ≤ n2.length := by omega
    have le3 : n1.length ≤ c2.length := by omega
    clear h1 h2 h3 h4 hl1 hl2 hlen
    go_enter Try.func12, Try.ntmps12
    go_wp2
    go_loopw [9] (fun i wr => ∃ k : Nat, k ≤ n1.length ∧ i = .int .i64 k ∧ (∀ j, j < k → nm n1 j = nm n2 j ∧ ct c1 j = ct c2 j) ∧ ∃ n, wr = w.drewN n) (fun i _ => n1.length - (intOf i).toNat)
    case atStart => exact ⟨0, Nat.zero_le _, rfl, by intro j hj; omega, 0, rfl⟩
    case round =>
      obtain ⟨k, hk, rfl, hj, n, hn⟩ := hrel
      have HJ : Hid _ := hj
      have HW : Hid (wr = w.drewN n) := hn
      have hcw : ∀ p, wr.cell? p = w.cell? p := fun p => by rw [hn]; rfl
      have HCW : Hid _ := hcw
      clear hj hn hcw
      by_cases hkl : k < n1.length
      · obtain ⟨b1, o1, rfl, _, q1⟩ := Strs.at H1.out hkl
        obtain ⟨b2, o2, rfl, _, q2⟩ := Us.at H2.out (k := k) (by omega)
        obtain ⟨b3, o3, rfl, _, q3⟩ := Strs.at H3.out (k := k) (by omega)
        obtain ⟨b4, o4, rfl, _, q4⟩ := Us.at H4.out (k := k) (by omega)
        have u1 := (HCW.out _).trans (q1 k hkl)
        have u2 := (HCW.out _).trans (q2 k (by omega))
        have u3 := (HCW.out _).trans (q3 k (by omega))
        have u4 := (HCW.out _).trans (q4 k (by omega))
        clear q1 q2 q3 q4
        by_cases es : nm n1 k = nm n2 k
        · have hs : ((nm n1 k).toList == (nm n2 k).toList) = true := by rw [es]; exact beq_self_eq_true _
          by_cases ec : ct c1 k = ct c2 k
          · have hc : (ct c1 k != ct c2 k) = false := by simp [ec]
            have HN : Hid _ := alike_step HJ.out es ec
            clear es ec
            go_wp2
            go_quiet (fail)
            go_wp2
            go_roundw
            case rel => exact ⟨k + 1, by omega, by go_num, HN.out, _, by rw [HW.out, World.drewN_drewN]⟩
            case measure => simp [intOf]; omega
          · have hc : (ct c1 k != ct c2 k) = true := by simp [ec]
            have HNo : Hid (¬ Alike n1 c1 n2 c2) := fun h => ec (h.2 k hkl).2
            clear es ec
            go_wp2
            go_quiet (fail)
            go_wp2
            go_ret
            exact ⟨⟨_, rfl, by simp [HNo.out]⟩, _, by rw [HW.out, World.drewN_drewN]⟩
        · have hs : ((nm n1 k).toList == (nm n2 k).toList) = false := ba_ne es
          have HNo : Hid (¬ Alike n1 c1 n2 c2) := fun h => es (h.2 k hkl).1
          clear es
          go_wp2
          go_quiet (fail)
          go_wp2
          go_ret
          exact ⟨⟨_, rfl, by simp [HNo.out]⟩, _, by rw [HW.out, World.drewN_drewN]⟩
      · have HA : Hid (Alike n1 c1 n2 c2) := ⟨HL.out, fun j hj => HJ.out j (by omega)⟩
        go_wp2
        go_ret
        exact ⟨⟨_, rfl, by simp [HA.out]⟩, _, HW.out⟩
  · have hb1 : ((n1.length : Int) != (n2.length : Int)) = true := by simp only [bne_iff_ne]; omega
    have HNo : Hid (¬ Alike n1 c1 n2 c2) := fun h => hlen h.1
    clear h1 h2 h3 h4 hlen hl1 hl2
    go_enter Try.func12, Try.ntmps12
    go_wp2
    go_ret
    exact ⟨⟨_, rfl, by simp [HNo.out]⟩, 0, rfl⟩
end Go.Proofs.Qxb6629217a.Wk
