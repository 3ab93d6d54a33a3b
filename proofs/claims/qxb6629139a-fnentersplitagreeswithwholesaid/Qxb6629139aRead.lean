/- zzReadOrderInstanceB1. -/
import Derived.Test.Qxb6629139aEnter
namespace Go.Proofs.Qxb6629139a.Walks
open Go.RowKit Go.Proofs.Qxb6629139a.Plain
attribute [local simp] len_setO len_setN len_setI len_setC len_unlinkS len_linkS
set_option linter.unusedVariables false

theorem Lk_at {o nw : Nat → Nat} : ∀ (l : List Nat) (x j : Nat), Lk o nw x l 0 → j ≤ l.length → o (lastOf x (l.take j)) = l.getD j 0 ∧ nw (l.getD j 0) = lastOf x (l.take j)
  | [], x, j, h, hj => by
    have : j = 0 := by simpa using hj
    subst this
    exact h
  | z :: r, x, 0, h, hj => ⟨by simpa [lastOf] using h.1, by simpa [lastOf] using h.2.1⟩
  | z :: r, x, j + 1, h, hj => by
    have := Lk_at r z j h.2.2 (by simpa using hj)
    simpa [lastOf_cons] using this

theorem lastOf_take (l : List Nat) (j : Nat) (h : j < l.length) (x : Nat) : lastOf x (l.take (j + 1)) = l.getD j 0 := by
  rw [List.take_succ_eq_append_getElem h, lastOf_snoc]
  simp [List.getD_eq_getElem?_getD, List.getElem?_eq_getElem h]

theorem getD_mem (l : List Nat) (j : Nat) (h : j < l.length) : l.getD j 0 ∈ l := by
  simp [List.getD_eq_getElem?_getD, List.getElem?_eq_getElem h]

theorem map_take_snoc (S : List Ent) (l : List Nat) (j : Nat) (h : j < l.length) : ((l.take (j + 1)).map (idOf S)).map (Value.int .i64) = ((l.take j).map (idOf S)).map (Value.int .i64) ++ [.int .i64 (idOf S (l.getD j 0))] := by
  rw [List.take_succ_eq_append_getElem h, List.map_append, List.map_append]
  simp [List.getD_eq_getElem?_getD, List.getElem?_eq_getElem h]

/-- The relation of the walk along the ring. -/
def RelR (w wr : World) (G : Nat) (S : List Ent) (L : List Nat) (od pv s st : Value) : Prop :=
  ∃ j, j ≤ L.length ∧ wr.ownsRow w.heap.size 2 1 (.slice (some ⟨G, 0, none⟩) j L.length) j (((L.take j).map (idOf S)).map (Value.int .i64)) ∧ od = .slice (some ⟨G, 0, none⟩) j L.length ∧
    pv = .int .i64 (lastOf 0 (L.take j)) ∧ s = .int .i64 (L.getD j 0) ∧ st = .int .i64 j ∧ Below w.heap.size w wr

set_option maxRecDepth 100000 in
set_option maxHeartbeats 2000000 in
theorem read_inv {w : World} {base C bm : Nat} {cap calls : Int} {g scap : Nat} {S : List Ent} {D : DataW Unit} {f : Int → Option Nat} {L : List Nat}
    (h : Rep w base C g scap bm cap calls S D) (hmi : MapIs D f) (hok : Ok S L f) (hsz : Maps.size D = L.length) (hl : L.length ≤ 20000) :
    Calls Try.prog 9 #[.pointer (some ⟨C, 0, none⟩)] w fun e w' => e = .returned (.tuple #[.slice (some ⟨w.heap.size, 0, none⟩) L.length L.length, .bool true]) ∧
      w'.ownsRow w.heap.size 2 1 (.slice (some ⟨w.heap.size, 0, none⟩) L.length L.length) L.length ((L.map (idOf S)).map (Value.int .i64)) ∧ Below w.heap.size w w' := by
  obtain ⟨i0, hi, hz0, hz1, hz2⟩ := info_parts info2
  have hlen := hok.len
  have hSl : S.length ≤ 100000 := by omega
  have hpos := hok.pos
  have hat0 := Lk_at L 0 0 hok.ring (Nat.zero_le _)
  simp only [List.take_zero, lastOf_nil] at hat0
  have hle1 : L.length + 1 ≤ S.length := by omega
  have hle2 : S.length ≤ L.length + 1 := by omega
  clear hlen
  go_enter Try.func9, Try.ntmps9
  go_wp2_with fail
  refine (count_any hSl h).mono ?_
  rintro e w1 ⟨rfl, rfl⟩
  go_wp2_with (at_make; refine wpList_make_own _ rfl _ _ 22 rfl w.heap.size 2 i0 (.int .i64 0) 1 Try.underlying22 hi hz0 hz1 .i64 .i64 _ L.length rfl rfl (by omega) (by rw [hz2]; omega) (by unfold maxLen; omega) (Nat.le_refl _) ?_; intro w2 hown hgrow)
  have hb2 : Below w.heap.size w w2 := (Below.refl _ _).grown hgrow (Nat.le_refl _) (by simp)
  have hr2 := h.belowAll hb2
  clear hgrow
  refine (older_any hSl hpos hr2).mono ?_
  rintro e w3 ⟨rfl, rfl⟩
  have H0 : Hid (oldr S 0 = L.getD 0 0) := hat0.1
  clear hat0 hr2
  go_wp2
  go_loopw [5, 6, 7, 8] (fun od pv s st wr => RelR w wr w.heap.size S L od pv s st) (fun _ _ _ st _ => L.length - (intOf st).toNat)
  case atStart => exact ⟨0, Nat.zero_le _, by simpa using hown, rfl, rfl, by rw [H0.out], rfl, hb2⟩
  case round =>
    clear hown hb2 H0
    obtain ⟨j, hj, hown, rfl, rfl, rfl, rfl, hb⟩ := hrel
    obtain ⟨a1, a2⟩ := Lk_at L 0 j hok.ring hj
    have hr := h.belowAll hb
    by_cases hjl : j < L.length
    · have hm := getD_mem L j hjl
      have hlt := hok.lt _ hm
      have hid := (hok.fm _ _).2 ⟨hm, rfl⟩
      have hwf := hok.wf _ hm
      obtain ⟨b1, _⟩ := Lk_at L 0 (j + 1) hok.ring hjl
      rw [lastOf_take L j hjl] at b1
      have hmap := map_take_snoc S L j hjl
      have hlast := lastOf_take L j hjl 0
      have hn0 : L.getD j 0 ≠ 0 := by
        intro e; rw [e] at hm
        exact (List.nodup_cons.1 hok.nd).1 hm
      generalize hs : L.getD j 0 = s at *
      generalize hp : lastOf 0 (L.take j) = pv at *
      have hb1 : ((s : Int) != 0) = true := by simp; omega
      have HS : Hid (L.getD j 0 = s) := hs
      have HA : Hid (newr S s = pv) := a2
      have HB : Hid (oldr S s = L.getD (j + 1) 0) := b1
      have HM : Hid _ := hmap
      have HLs : Hid _ := hlast
      have HOk : Hid (Ok S L f) := hok
      have HF : Hid (f (idOf S s) = some s) := hid
      have HMi : Hid (MapIs D f) := hmi
      clear hs hp a1 a2 b1 hmap hlast hm hn0 hok hid hmi
      go_wp2_with fail
      refine (newer_any hSl hlt hr).mono ?_
      rintro e w1 ⟨rfl, rfl⟩
      rw [HA.out]
      go_wp2_with fail
      refine (id_any hSl hlt hr).mono ?_
      rintro e w1 ⟨rfl, rfl⟩
      go_wp2_with fail
      refine (place_any hwf hr).mono ?_
      rintro e w1 ⟨c, rfl, hat, rfl⟩
      obtain rfl : c = (s : Int) := by
        rw [HMi.out.2 _ _ HF.out] at hat
        simpa using hat.symm
      have hhas : Maps.has D (.int .i64 (idOf S s)) = true := by rw [HMi.out.1, HF.out]; rfl
      rw [hhas]
      clear hat hhas
      go_wp2_with (at_builtin; refine wpList_append_fits _ rfl _ _ 22 rfl w.heap.size 2 i0 1 Try.underlying22 hi hz1 w.heap.size j L.length _ rfl (hown.alloc _) ⟨wr.heap.size, 0, none⟩ 1 1 [.int .i64 (idOf S s)] rfl rfl (cell_one_new _ _ _) (ints_oneCell .i64 [idOf S s]) (by omega) ?_; intro w2 hown2 hgrow2)
      have hb2 : Below w.heap.size w w2 := (hb.alloc hb.size _).grown hgrow2 (by have := hb.size; simp; omega) (by intro k hk; cases hk; exact Nat.le_refl _)
      have hr2 := h.belowAll hb2
      refine (older_any hSl hlt hr2).mono ?_
      rintro e w3 ⟨rfl, rfl⟩
      clear hgrow2 hr hr2
      go_wp2
      go_roundw
      case rel => exact ⟨j + 1, by omega, by rw [HM.out]; exact hown2, rfl, by rw [HLs.out], by rw [HB.out], by go_num, hb2⟩
      case measure => simp [intOf]; omega
    · obtain rfl : j = L.length := by omega
      rw [List.take_of_length_le (Nat.le_refl _)] at a1 a2 hown
      have hz : L.getD L.length 0 = 0 := by simp
      rw [hz] at a2
      have HA : Hid (newr S 0 = lastOf 0 L) := a2
      have HSz : Hid (Maps.size D = L.length) := hsz
      clear a1 a2 hj hsz
      go_wp2_with fail
      refine (newer_any hSl hpos hr).mono ?_
      rintro e w1 ⟨rfl, rfl⟩
      rw [HA.out]
      go_wp2_with fail
      refine (held_any hr).mono ?_
      rintro e w1 ⟨rfl, rfl⟩
      rw [HSz.out]
      go_wp2
      go_ret2
      exact ⟨rfl, hown, hb⟩

theorem read_any {w : World} {base C : Nat} {cap calls : Int} {l : List Int} (h : Good w base C cap calls l) (hl : l.length ≤ 20000) :
    Calls Try.prog 9 #[.pointer (some ⟨C, 0, none⟩)] w fun e w' => e = .returned (.tuple #[.slice (some ⟨w.heap.size, 0, none⟩) l.length l.length, .bool true]) ∧
      w'.ownsRow w.heap.size 2 1 (.slice (some ⟨w.heap.size, 0, none⟩) l.length l.length) l.length (l.map (Value.int .i64)) ∧ Below w.heap.size w w' := by
  obtain ⟨g, scap, bm, S, D, f, L, hr, hm, hok, hsz, rfl, hcl⟩ := h
  rw [List.length_map] at hl ⊢
  exact read_inv hr hm hok hsz hl

theorem Good.below {w w' : World} {base C : Nat} {cap calls : Int} {l : List Int} (h : Good w base C cap calls l) {B : Nat} (hb : Below B w w') (hB : w.heap.size ≤ B) : Good w' base C cap calls l := by
  obtain ⟨g, scap, bm, S, D, f, L, hr, r⟩ := h
  exact ⟨g, scap, bm, S, D, f, L, hr.belowAll (hb.mono hB), r⟩

theorem calls_good {w : World} {base C : Nat} {cap calls : Int} {l : List Int} (h : Good w base C cap calls l) :
    Calls Try.prog 11 #[.pointer (some ⟨C, 0, none⟩)] w fun e w' => e = .returned (.int .u64 calls) ∧ w = w' := by
  obtain ⟨g, scap, bm, S, D, f, L, hr, r⟩ := h
  exact calls_any hr
end Go.Proofs.Qxb6629139a.Walks
