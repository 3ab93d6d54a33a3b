/- Slices of strings and of uint64 in memory; the readers of the law. -/
import Derived.Test.Qxb6629217aLess
namespace Go.Proofs.Qxb6629217a.Wk
open Go.RowKit Go.Proofs.Qxb6629217a.Pl
set_option linter.unusedVariables false

/-- The k-th name, the k-th count. -/
def nm (l : List ByteArray) (k : Nat) : ByteArray := l.getD k ByteArray.empty
def ct (l : List Int) (k : Nat) : Int := l.getD k 0

def Strs (w : World) (B : Nat) (a : Option Addr) (l : List ByteArray) : Prop :=
  l = [] ∨ ∃ b off, a = some ⟨b, off, none⟩ ∧ b < B ∧ ∀ k, k < l.length → w.cell? ⟨b, off + k, none⟩ = some (.string (nm l k))
def Us (w : World) (B : Nat) (a : Option Addr) (l : List Int) : Prop :=
  l = [] ∨ ∃ b off, a = some ⟨b, off, none⟩ ∧ b < B ∧ ∀ k, k < l.length → w.cell? ⟨b, off + k, none⟩ = some (.int .u64 (ct l k))

theorem Strs.below {w w' : World} {B B' : Nat} {a : Option Addr} {l : List ByteArray} (h : Strs w B a l) (hb : Below B w w') (hB : B ≤ B') : Strs w' B' a l := by
  rcases h with rfl | ⟨b, off, rfl, hlt, hc⟩
  · exact .inl rfl
  · exact .inr ⟨b, off, rfl, by omega, fun k hk => by rw [hb.cell (p := ⟨b, off + k, none⟩) hlt]; exact hc k hk⟩
theorem Us.below {w w' : World} {B B' : Nat} {a : Option Addr} {l : List Int} (h : Us w B a l) (hb : Below B w w') (hB : B ≤ B') : Us w' B' a l := by
  rcases h with rfl | ⟨b, off, rfl, hlt, hc⟩
  · exact .inl rfl
  · exact .inr ⟨b, off, rfl, by omega, fun k hk => by rw [hb.cell (p := ⟨b, off + k, none⟩) hlt]; exact hc k hk⟩
theorem Strs.at {w : World} {B : Nat} {a : Option Addr} {l : List ByteArray} (h : Strs w B a l) {k : Nat} (hk : k < l.length) : ∃ b off, a = some ⟨b, off, none⟩ ∧ b < B ∧ ∀ k, k < l.length → w.cell? ⟨b, off + k, none⟩ = some (.string (nm l k)) := by
  rcases h with rfl | h
  · simp at hk
  · exact h
theorem Us.at {w : World} {B : Nat} {a : Option Addr} {l : List Int} (h : Us w B a l) {k : Nat} (hk : k < l.length) : ∃ b off, a = some ⟨b, off, none⟩ ∧ b < B ∧ ∀ k, k < l.length → w.cell? ⟨b, off + k, none⟩ = some (.int .u64 (ct l k)) := by
  rcases h with rfl | h
  · simp at hk
  · exact h

/-- What zzB1WellFormed promises. -/
def Good (ns : List ByteArray) (cs : List Int) : Prop := ns.length = cs.length ∧ ∀ k, k < ns.length → ct cs k ≠ 0 ∧ (0 < k → cb (nm ns (k - 1)) (nm ns k) < 0)

theorem good_step {ns : List ByteArray} {cs : List Int} {k : Nat} (h : ∀ j, j < k → ct cs j ≠ 0 ∧ (0 < j → cb (nm ns (j - 1)) (nm ns j) < 0)) (h0 : ct cs k ≠ 0) (h1 : 0 < k → cb (nm ns (k - 1)) (nm ns k) < 0) :
    ∀ j, j < k + 1 → ct cs j ≠ 0 ∧ (0 < j → cb (nm ns (j - 1)) (nm ns j) < 0) := by
  intro j hj
  rcases Nat.lt_or_eq_of_le (Nat.le_of_lt_succ hj) with c | c
  · exact h j c
  · subst c; exact ⟨h0, h1⟩

set_option maxHeartbeats 1000000 in
theorem wf_any {w : World} {B : Nat} {a a' : Option Addr} {ns : List ByteArray} {cs : List Int} {c c' : Nat} (hs : Strs w B a ns) (hu : Us w B a' cs) (hl : ns.length ≤ 1048576) (hl' : cs.length ≤ 1048576) (hz : ∀ k, k < ns.length → (nm ns k).size ≤ 1048576) :
    Calls Try.prog 7 #[.slice a ns.length c, .slice a' cs.length c'] w fun e w' => (∃ b, e = .returned (.bool b) ∧ (b = true → Good ns cs)) ∧ ∃ n, w' = w.drewN n := by
  by_cases hlen : ns.length = cs.length
  · have hbn : ((ns.length : Int) != (cs.length : Int)) = false := by rw [hlen]; simp
    have HS : Hid (Strs w B a ns) := hs
    have HU : Hid (Us w B a' cs) := hu
    have HL : Hid (ns.length = cs.length) := hlen
    have hle : ns.length ≤ cs.length := by omega
    clear hs hu hlen
    go_enter Try.func7, Try.ntmps7
    go_wp2
    go_loopw [5] (fun i wr => ∃ k : Nat, k ≤ ns.length ∧ i = .int .i64 k ∧ (∀ j, j < k → ct cs j ≠ 0 ∧ (0 < j → cb (nm ns (j - 1)) (nm ns j) < 0)) ∧ ∃ n, wr = w.drewN n) (fun i _ => ns.length - (intOf i).toNat)
    case atStart => exact ⟨0, Nat.zero_le _, rfl, by intro j hj; omega, 0, rfl⟩
    case round =>
      obtain ⟨k, hk, rfl, hj, n, hn⟩ := hrel
      have HJ : Hid _ := hj
      have HW : Hid (wr = w.drewN n) := hn
      have hcw : ∀ p, wr.cell? p = w.cell? p := fun p => by rw [hn]; rfl
      have HCW : Hid _ := hcw
      clear hj hn hcw
      by_cases hkl : k < ns.length
      · obtain ⟨b1, o1, rfl, _, q1⟩ := Strs.at HS.out hkl
        obtain ⟨b2, o2, rfl, _, q2⟩ := Us.at HU.out (k := k) (by omega)
        have u2 := (HCW.out _).trans (q2 k (by omega))
        have u1 := (HCW.out _).trans (q1 k hkl)
        have z1 := hz k hkl
        obtain ⟨cc, hcc⟩ : ∃ cc, cc = ct cs k := ⟨_, rfl⟩
        rw [← hcc] at u2
        by_cases h0 : cc = 0
        · have hb0 : (cc == 0) = true := beq_iff_eq.2 h0
          clear q1 q2 h0 hcc
          go_wp2
          go_ret
          exact ⟨⟨_, rfl, by simp⟩, _, HW.out⟩
        · have hb0 : (cc == 0) = false := beq_eq_false_iff_ne.2 h0
          have H0 : Hid (ct cs k ≠ 0) := by rw [← hcc]; exact h0
          clear q2 h0 hcc
          by_cases hk0 : 0 < k
          · have u0 := (HCW.out _).trans (q1 (k - 1) (by omega))
            have z0 := hz (k - 1) (by omega)
            generalize hx : nm ns (k - 1) = x at u0 z0
            generalize hy : nm ns k = y at u1 z1
            have hdk : decide (0 < k) = true := by simpa using hk0
            have hki : (0 : Int) < (k : Int) := by omega
            have hwr : IntKind.i64.wrap ((k : Int) - 1) = ((k - 1 : Nat) : Int) := by rw [IntWalk.i64_in _ (by omega)]; omega
            have hk1 : ((k - 1 : Nat) : Int) < (ns.length : Int) := by omega
            by_cases hc : cb x y < 0
            · have hdc : decide (cb x y < 0) = true := by simpa using hc
              have HN : Hid _ := good_step HJ.out H0.out (fun _ => by rw [hx, hy]; exact hc)
              clear q1 hc hx hy
              go_wp2
              go_quiet ((go_at_call 13; exact Calls.quiet_of (less_any x y _ z0 z1)))
              go_wp2
              go_roundw
              case rel => exact ⟨k + 1, by omega, by go_num, HN.out, _, by rw [HW.out, World.drewN_drewN]⟩
              case measure => simp [intOf]; omega
            · have hdc : decide (cb x y < 0) = false := by simpa using hc
              clear q1 hc hx hy
              go_wp2
              go_quiet ((go_at_call 13; exact Calls.quiet_of (less_any x y _ z0 z1)))
              go_wp2
              go_ret
              exact ⟨⟨_, rfl, by simp⟩, _, by rw [HW.out, World.drewN_drewN]⟩
          · have hdk : decide (0 < k) = false := by simpa using hk0
            have HN : Hid _ := good_step HJ.out H0.out (fun h => absurd h hk0)
            clear q1
            go_wp2
            go_quiet (fail)
            go_wp2
            go_roundw
            case rel => exact ⟨k + 1, by omega, by go_num, HN.out, _, by rw [HW.out, World.drewN_drewN]⟩
            case measure => simp [intOf]; omega
      · have HG : Hid (Good ns cs) := ⟨HL.out, fun j hj => HJ.out j (by omega)⟩
        go_wp2
        go_ret
        exact ⟨⟨_, rfl, fun _ => HG.out⟩, _, HW.out⟩
  · have hbn : ((ns.length : Int) != (cs.length : Int)) = true := by simp only [bne_iff_ne]; omega
    clear hs hu
    go_enter Try.func7, Try.ntmps7
    go_wp2
    go_ret
    exact ⟨⟨_, rfl, by simp⟩, 0, rfl⟩
end Go.Proofs.Qxb6629217a.Wk
