/- unlink, linkBehind, take. -/
import Derived.Test.Qxb6629139aRep
namespace Go.Proofs.Qxb6629139a.Walks
open Go.RowKit Go.Proofs.Qxb6629139a.Plain
attribute [local simp] len_setO len_setN len_setI len_setC len_unlinkS len_linkS
set_option linter.unusedVariables false
variable {w : World} {base C g scap bm : Nat} {cap calls : Int} {S : List Ent} {D : DataW Unit}

set_option maxHeartbeats 400000 in
theorem unlink_raw {n s nw od : Nat} (hs : s < n) (hn : n ≤ 100000) (hnw : nw < n) (hod : od < n) (hne : g ≠ C) {u5 u6 : Value}
   (h1 : w.cell? ⟨C, 1, none⟩ = some (.slice (some ⟨g, 0, none⟩) n scap))
   (h2 : w.cell? ⟨g, s * 4 + 2, none⟩ = some (.int .i64 nw))
   (h3 : w.cell? ⟨g, s * 4 + 3, none⟩ = some (.int .i64 od))
   (h5 : w.cell? ⟨g, nw * 4 + 3, none⟩ = some u5) (h6 : w.cell? ⟨g, od * 4 + 2, none⟩ = some u6) (hfz : ∀ j, w.frozen? ⟨g, j, none⟩ = false) :
    Calls Try.prog 14 #[.pointer (some ⟨C, 0, none⟩), .int .i64 s] w fun e w' => e = .returned (.tuple #[]) ∧ ∃ k, w' = ((w.setCell ⟨g, nw * 4 + 3, none⟩ (.int .i64 od)).setCell ⟨g, od * 4 + 2, none⟩ (.int .i64 nw)).drewN k := by
  go_enter Try.func14, Try.ntmps14
  go_wp2
  go_region
  all_goals (try go_wp2)
  go_end0
  exact ⟨rfl, 1, rfl⟩

theorem unlink_any (h : Rep w base C g scap bm cap calls S D) {s : Nat} (hn : S.length ≤ 100000) (hs : s < S.length) (h1 : newr S s < S.length) (h2 : oldr S s < S.length) :
    Calls Try.prog 14 #[.pointer (some ⟨C, 0, none⟩), .int .i64 s] w fun e w' => e = .returned (.tuple #[]) ∧ Rep w' base C g scap bm cap calls (unlinkS S s) D ∧ Below base w w' := by
  refine (unlink_raw hs hn h1 h2 h.gC h.c1 (h.at2 hs) (h.at3 hs) (h.at3 h1) (h.at2 h2) h.fzg).mono ?_
  rintro e w' ⟨rfl, k, rfl⟩
  exact ⟨rfl, ((h.setO h1 _).setN (by simpa using h2) _).drewN k, below_drewN ((((Below.refl _ _).setCell h.bg _)).setCell h.bg _) k⟩

set_option maxHeartbeats 400000 in
theorem link_raw {n s a od : Nat} (hs : s < n) (hn : n ≤ 100000) (ha : a < n) (hod : od < n) (hne : g ≠ C) (hsa : s ≠ a) (hso : s ≠ od) {u5 u6 u7 : Value}
   (h1 : w.cell? ⟨C, 1, none⟩ = some (.slice (some ⟨g, 0, none⟩) n scap))
   (h3 : w.cell? ⟨g, a * 4 + 3, none⟩ = some (.int .i64 od))
   (h5 : w.cell? ⟨g, s * 4 + 2, none⟩ = some u5) (h6 : w.cell? ⟨g, s * 4 + 3, none⟩ = some u6) (h7 : w.cell? ⟨g, od * 4 + 2, none⟩ = some u7) (hfz : ∀ j, w.frozen? ⟨g, j, none⟩ = false) :
    Calls Try.prog 15 #[.pointer (some ⟨C, 0, none⟩), .int .i64 s, .int .i64 a] w fun e w' => e = .returned (.tuple #[]) ∧ ∃ k, w' = ((((w.setCell ⟨g, s * 4 + 2, none⟩ (.int .i64 a)).setCell ⟨g, s * 4 + 3, none⟩ (.int .i64 od)).setCell ⟨g, a * 4 + 3, none⟩ (.int .i64 s)).setCell ⟨g, od * 4 + 2, none⟩ (.int .i64 s)).drewN k := by
  go_enter Try.func15, Try.ntmps15
  go_wp2
  go_region
  all_goals (try go_wp2)
  go_end0
  exact ⟨rfl, 1, rfl⟩

theorem link_any (h : Rep w base C g scap bm cap calls S D) {s a : Nat} (hn : S.length ≤ 100000) (hs : s < S.length) (ha : a < S.length) (h2 : oldr S a < S.length) (hsa : s ≠ a) (hso : s ≠ oldr S a) :
    Calls Try.prog 15 #[.pointer (some ⟨C, 0, none⟩), .int .i64 s, .int .i64 a] w fun e w' => e = .returned (.tuple #[]) ∧ Rep w' base C g scap bm cap calls (linkS S s a) D ∧ Below base w w' := by
  refine (link_raw hs hn ha h2 h.gC hsa hso h.c1 (h.at3 ha) (h.at2 hs) (h.at3 hs) (h.at2 h2) h.fzg).mono ?_
  rintro e w' ⟨rfl, k, rfl⟩
  exact ⟨rfl, ((((h.setN hs _).setO (by simpa using hs) _).setO (by simpa using ha) _).setN (by simpa using h2) _).drewN k,
    below_drewN (((((Below.refl _ _).setCell h.bg _).setCell h.bg _).setCell h.bg _).setCell h.bg _) k⟩
end Go.Proofs.Qxb6629139a.Walks
