/- zzB1Less, strings.Compare. -/
import Derived.Test.Qxb6629217aRows
import Derived.Test.Qxb6629217aPlain
import Derived.WalkKit
import Derived.WalkSpells
import Derived.WalkSmall
import Derived.WalkLawsBesides
import Derived.Laws.Externs
import Derived.Below
import Derived.Deep.QuietTactic
import Derived.BigQuiet
namespace Go.Proofs.Qxb6629217a.Wk
open Go.RowKit Go.Proofs.Qxb6629217a.Pl
open Go.Lib (compareBytes)
set_option linter.unusedVariables false

/-- The order of two names. -/
def cb (a b : ByteArray) : Int := compareBytes a.data.toList b.data.toList

theorem call17 (a b : ByteArray) (w : World) : (callFunc 17 #[.string a, .string b]).run Try.prog w = .ok (.value (.int .i64 (cb a b))) w := by
  rw [run_callFunc_extern (e := Extern.BytealgCompare.compare) Try.func17 (by kernel_rfl) (by kernel_rfl) (by kernel_rfl) (by kernel_rfl), Lib.run_compareString]
  rfl

set_option maxHeartbeats 400000 in
theorem cstr_any (a b : ByteArray) (w : World) : Calls Try.prog 16 #[.string a, .string b] w fun e w' => e = .returned (.int .i64 (cb a b)) ∧ w = w' := by
  have hc := call17
  go_enter Try.func16, Try.ntmps16
  go_wp2
  go_ret
  exact ⟨rfl, rfl⟩
set_option maxHeartbeats 400000 in
theorem compare_any (a b : ByteArray) (w : World) : Calls Try.prog 14 #[.string a, .string b] w fun e w' => e = .returned (.int .i64 (cb a b)) ∧ w = w' := by
  go_enter Try.func14, Try.ntmps14
  go_wp2_with fail
  refine (cstr_any a b _).mono ?_
  rintro e w1 ⟨rfl, rfl⟩
  go_wp2
  go_ret
  exact ⟨rfl, rfl⟩

theorem getD_byte (a : ByteArray) (k : Nat) (h : k < a.size) : a.data.toList.getD k 0 = a[k] := by
  have h' : k < a.data.toList.length := by simpa using h
  simp [List.getD_eq_getElem?_getD, List.getElem?_eq_getElem h']
  rfl

theorem take_step {a b : ByteArray} {k : Nat} (h1 : k < a.size) (h2 : k < b.size) (h : a.data.toList.take k = b.data.toList.take k) (he : a[k] = b[k]) : a.data.toList.take (k + 1) = b.data.toList.take (k + 1) := by
  have h1' : k < a.data.toList.length := by simpa using h1
  have h2' : k < b.data.toList.length := by simpa using h2
  rw [List.take_succ_eq_append_getElem h1', List.take_succ_eq_append_getElem h2', h]
  congr 1
  have e1 := getD_byte a k h1
  have e2 := getD_byte b k h2
  simp only [List.getD_eq_getElem?_getD, List.getElem?_eq_getElem h1', List.getElem?_eq_getElem h2', Option.getD_some] at e1 e2
  rw [e1, e2, he]
theorem less_at {a b : ByteArray} {k : Nat} (h1 : k < a.size) (h2 : k < b.size) (h : a.data.toList.take k = b.data.toList.take k) (he : ¬ a[k] = b[k]) : decide (cb a b < 0) = decide ((a[k]).toNat < (b[k]).toNat) := by
  have h1' : k < a.data.toList.length := by simpa using h1
  have h2' : k < b.data.toList.length := by simpa using h2
  have e := cb_at h1' h2' h (by rw [getD_byte a k h1, getD_byte b k h2]; exact he)
  rw [getD_byte a k h1, getD_byte b k h2] at e
  unfold cb
  rw [decide_eq_decide, e, UInt8.lt_iff_toNat_lt]
theorem less_end {a b : ByteArray} {i : Nat} (hi : i = min a.size b.size) (h : a.data.toList.take i = b.data.toList.take i) : decide (cb a b < 0) = decide (a.size < b.size) := by
  have e := cb_end (a := a.data.toList) (b := b.data.toList) (i := i) (by simpa using hi) h
  unfold cb
  rw [decide_eq_decide, e]
  rfl

set_option maxHeartbeats 1000000 in
theorem less_any (a b : ByteArray) (w : World) (ha : a.size ≤ 1048576) (hb : b.size ≤ 1048576) :
    Calls Try.prog 13 #[.string a, .string b] w fun e w' => e = .returned (.bool (decide (cb a b < 0))) ∧ ∃ n, w' = w.drewN n := by
  by_cases hlt : b.size < a.size
  · go_enter Try.func13, Try.ntmps13
    go_wp2
    go_loopw [6] (fun i wr => ∃ k : Nat, k ≤ b.size ∧ i = .int .i64 k ∧ a.data.toList.take k = b.data.toList.take k ∧ ∃ n, wr = w.drewN n) (fun i _ => b.size - (intOf i).toNat)
    case atStart => exact ⟨0, Nat.zero_le _, rfl, rfl, 0, rfl⟩
    case round =>
      obtain ⟨k, hk, rfl, htk, n, rfl⟩ := hrel
      have HT : Hid _ := htk
      clear htk
      by_cases hkl : k < b.size
      · have h1 : k < a.size := by omega
        have h2 : k < b.size := by omega
        have hab1 := getD_byte a k h1
        have hab2 := getD_byte b k h2
        by_cases he : a[k] = b[k]
        · have hbe : (((a[k]).toNat : Int) != ((b[k]).toNat : Int)) = false := by rw [he]; simp
          have HS : Hid _ := take_step h1 h2 HT.out he
          clear he hab1 hab2
          go_wp2
          go_region
          all_goals (try go_wp2)
          go_roundw
          case rel => exact ⟨k + 1, by omega, by go_num, HS.out, _, rfl⟩
          case measure => simp [intOf]; omega
        · have hbe : (((a[k]).toNat : Int) != ((b[k]).toNat : Int)) = true := by
            simp only [bne_iff_ne]; intro e; exact he (UInt8.toNat_inj.1 (by omega))
          have HC : Hid _ := less_at h1 h2 HT.out he
          clear he hab1 hab2
          go_wp2
          go_region
          all_goals (try go_wp2)
          go_region
          all_goals (try go_wp2)
          go_ret
          refine ⟨?_, _, rfl⟩
          rw [HC.out]; rfl
      · have hkk : k = b.size := by omega
        have HC : Hid _ := less_end (i := k) (by omega) HT.out
        go_wp2
        go_ret
        refine ⟨?_, _, rfl⟩
        rw [HC.out]; rfl
  · go_enter Try.func13, Try.ntmps13
    go_wp2
    go_loopw [6] (fun i wr => ∃ k : Nat, k ≤ a.size ∧ i = .int .i64 k ∧ a.data.toList.take k = b.data.toList.take k ∧ ∃ n, wr = w.drewN n) (fun i _ => a.size - (intOf i).toNat)
    case atStart => exact ⟨0, Nat.zero_le _, rfl, rfl, 0, rfl⟩
    case round =>
      obtain ⟨k, hk, rfl, htk, n, rfl⟩ := hrel
      have HT : Hid _ := htk
      clear htk
      by_cases hkl : k < a.size
      · have h1 : k < a.size := by omega
        have h2 : k < b.size := by omega
        have hab1 := getD_byte a k h1
        have hab2 := getD_byte b k h2
        by_cases he : a[k] = b[k]
        · have hbe : (((a[k]).toNat : Int) != ((b[k]).toNat : Int)) = false := by rw [he]; simp
          have HS : Hid _ := take_step h1 h2 HT.out he
          clear he hab1 hab2
          go_wp2
          go_region
          all_goals (try go_wp2)
          go_roundw
          case rel => exact ⟨k + 1, by omega, by go_num, HS.out, _, rfl⟩
          case measure => simp [intOf]; omega
        · have hbe : (((a[k]).toNat : Int) != ((b[k]).toNat : Int)) = true := by
            simp only [bne_iff_ne]; intro e; exact he (UInt8.toNat_inj.1 (by omega))
          have HC : Hid _ := less_at h1 h2 HT.out he
          clear he hab1 hab2
          go_wp2
          go_region
          all_goals (try go_wp2)
          go_region
          all_goals (try go_wp2)
          go_ret
          refine ⟨?_, _, rfl⟩
          rw [HC.out]; rfl
      · have hkk : k = a.size := by omega
        have HC : Hid _ := less_end (i := k) (by omega) HT.out
        go_wp2
        go_ret
        refine ⟨?_, _, rfl⟩
        rw [HC.out]; rfl
end Go.Proofs.Qxb6629217a.Wk
