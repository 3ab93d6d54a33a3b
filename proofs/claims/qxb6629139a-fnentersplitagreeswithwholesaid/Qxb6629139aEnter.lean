/- Enter. -/
import Derived.Test.Qxb6629139aInv
namespace Go.Proofs.Qxb6629139a.Walks
open Go.RowKit Go.Proofs.Qxb6629139a.Plain
attribute [local simp] len_setO len_setN len_setI len_setC len_unlinkS len_linkS
set_option linter.unusedVariables false

/-- A slice of int64 that lies below block B and holds l. -/
def Ints (w : World) (B : Nat) (a : Option Addr) (l : List Int) : Prop :=
  l = [] ∨ ∃ b off, a = some ⟨b, off, none⟩ ∧ b < B ∧ ∀ k, k < l.length → w.cell? ⟨b, off + k, none⟩ = some (.int .i64 (l.getD k 0))

/-- Between two calls of Enter: the cache at C holds the ids l, most recently used first. -/
def Good (w : World) (base C : Nat) (cap calls : Int) (l : List Int) : Prop :=
  ∃ g scap bm S D f L, Rep w base C g scap bm cap calls S D ∧ MapIs D f ∧ Ok S L f ∧ Maps.size D = L.length ∧ L.map (idOf S) = l ∧ ∀ p ∈ L, callOf S p ≤ calls

theorem rev_take (l : List Int) (j : Nat) (h : j < l.length) : l.reverse.take (j + 1) = l.reverse.take j ++ [l.getD (l.length - 1 - j) 0] := by
  rw [List.take_succ_eq_append_getElem (by simpa using h), List.getElem_reverse]
  simp [List.getD_eq_getElem?_getD, List.getElem?_eq_getElem (show l.length - 1 - j < l.length by omega)]

theorem look_run {wr : World} {base C g scap bm : Nat} {cap calls : Int} {S : List Ent} {D : DataW Unit} {f : Int → Option Nat} (h : Rep wr base C g scap bm cap calls S D) (hm : MapIs D f) {x : Int} (hw : (Lit.int .i64 x).wf = true) :
    (∀ p, f x = some p → (Instr.lookup 37 (.map (some bm)) (.int .i64 x) true).run Try.prog wr.drew = .ok (.tuple #[.int .i64 p, .bool true]) wr.drew) ∧
    (f x = none → ∃ c, (Instr.lookup 37 (.map (some bm)) (.int .i64 x) true).run Try.prog wr.drew = .ok (.tuple #[.int .i64 c, .bool false]) wr.drew) := by
  obtain ⟨v, ps, hrun, hv⟩ := h.drew.map.look_ok law2 Try.underlying37 (zero3 _) (plainElem_int Try.underlying3 (by decide)) (Maps.keyOf_int_mk Try.underlying2 hw)
  obtain ⟨c, rfl, hc, hwc⟩ := plainElem_int_inv Try.underlying3 hv
  have hc1 := congrArg Prod.fst hc
  simp only at hc1
  constructor
  · intro p hp
    rw [hm.2 x p hp] at hc1
    rw [hm.1 x, hp] at hrun
    simp at hc1
    rw [hrun, hc1]; rfl
  · intro hn
    rw [hm.1 x, hn] at hrun
    exact ⟨c, hrun⟩

theorem Pre.linkable {S : List Ent} {P Q : List Nat} {s : Nat} (h : Pre S (P ++ Q) s) : lastOf 0 P < S.length ∧ oldr S (lastOf 0 P) < S.length ∧ s ≠ lastOf 0 P ∧ s ≠ oldr S (lastOf 0 P) := by
  have hm : lastOf 0 P ∈ 0 :: (P ++ Q) := by
    have := lastOf_mem 0 P
    simp at this ⊢; rcases this with h | h <;> simp [h]
  refine ⟨lastOf_lt h.lt h.pos, (h.links hm).1, fun e => h.out (e ▸ hm), fun e => ?_⟩
  have := Lk_older_mem _ _ h.ring _ hm
  rw [← e] at this
  exact h.out (by simp at this ⊢; rcases this with h | h | h <;> simp [h])

/-- What Enter's loop leaves. -/
def Done (w w' : World) (base C bm : Nat) (cap calls : Int) (ur ids : List Int) : Prop :=
  ∃ g' scap' S' D' f' P' Q' r r', Inv w w' base C bm cap calls ur r g' scap' S' D' f' P' Q' ∧ ids.reverse = r ++ r' ∧ (r' = [] ∨ cap.toNat ≤ P'.length)

/-- The relation of Enter's loop. -/
def Rel (w wr : World) (base C bm : Nat) (cap calls : Int) (ur ids : List Int) (ah pl k : Value) : Prop :=
  ∃ (j g scap : Nat) (S : List Ent) (D : DataW Unit) (f : Int → Option Nat) (P Q : List Nat), j ≤ ids.length ∧ Inv w wr base C bm cap calls ur (ids.reverse.take j) g scap S D f P Q ∧
      ah = .int .i64 (lastOf 0 P) ∧ pl = .int .i64 P.length ∧ k = .int .i64 ((ids.length : Int) - 1 - j)

set_option maxRecDepth 100000 in
set_option maxHeartbeats 2000000 in
theorem enter_inv {w : World} {base C bm : Nat} {cap calls : Int} {ur ids : List Int} {g scap icap : Nat} {S : List Ent} {D : DataW Unit} {f : Int → Option Nat} {L : List Nat} {a : Option Addr}
    (h : Rep w base C g scap bm cap calls S D) (hmi : MapIs D f) (hok : Ok S L f) (hsz : Maps.size D = L.length) (hL : L.map (idOf S) = (dd ur).take cap.toNat) (hcl : ∀ p ∈ L, callOf S p ≤ calls)
    (hc0 : 0 ≤ calls) (hc1 : calls ≤ 1000) (hI : Ints w base a ids) (hw : ∀ x ∈ ids, (Lit.int .i64 x).wf = true) (hl : ids.length + ur.length ≤ 20000) :
    Calls Try.prog 7 #[.pointer (some ⟨C, 0, none⟩), .slice a ids.length icap] w fun e w' => e = .returned (.tuple #[]) ∧ Done w w' base C bm cap (calls + 1) ur ids := by
  have c3 := h.c3
  have f3 := h.fz 3
  have hi0 : Inv w (w.setCell ⟨C, 3, none⟩ (.int .u64 (calls + 1))) base C bm cap (calls + 1) ur [] g scap S D f [] L :=
    ⟨h.setCalls _, hmi, by simpa using hok, by simpa using hsz, by simp [dd], by simpa using hL, by simp, fun p hp => by have := hcl p hp; omega, (Below.refl _ _).setCell h.bC _⟩
  have hbC := h.bC
  clear h hmi hok hsz hL hcl
  go_enter Try.func7, Try.ntmps7
  go_wp2
  go_loopw [4, 5, 6] (fun ah pl k wr => Rel w wr base C bm cap (calls + 1) ur ids ah pl k) (fun _ _ k _ => (intOf k + 1).toNat)
  case atStart => exact ⟨0, g, scap, S, D, f, [], L, Nat.zero_le _, by simpa using hi0, rfl, rfl, by simp⟩
  case round =>
    clear c3 f3 hi0
    obtain ⟨j, g, scap, S, D, f, P, Q, hj, hi, rfl, rfl, rfl⟩ := hrel
    have hlen := hi.len
    have hll := hi.lenle
    simp only [List.length_take, List.length_reverse] at hll
    have d0 := hi.rep.c0
    have d1 := hi.rep.c1
    have d2 := hi.rep.c2
    have d3 := hi.rep.c3
    by_cases hjl : j < ids.length
    · by_cases hpc : (P.length : Int) < cap
      · obtain ⟨x, hx⟩ : ∃ x, x = ids.getD (ids.length - 1 - j) 0 := ⟨_, rfl⟩
        have hxm : x ∈ ids := by
          rw [hx, List.getD_eq_getElem?_getD, List.getElem?_eq_getElem (show ids.length - 1 - j < ids.length by omega)]
          exact List.getElem_mem _
        have hwx := hw x hxm
        have hr := rev_take ids j hjl
        rw [← hx] at hr
        obtain ⟨b, off, rfl, hb, hcells⟩ : ∃ b off, a = some ⟨b, off, none⟩ ∧ b < base ∧ ∀ k, k < ids.length → w.cell? ⟨b, off + k, none⟩ = some (.int .i64 (ids.getD k 0)) := by
          rcases hI with rfl | hI
          · simp at hjl
          · exact hI
        have hcx : wr.cell? ⟨b, off + (ids.length - 1 - j), none⟩ = some (.int .i64 x) := by
          rw [hi.bel.cell (p := ⟨b, off + (ids.length - 1 - j), none⟩) hb, hcells _ (by omega), ← hx]
        have HR : Hid (List.take (j + 1) ids.reverse = List.take j ids.reverse ++ [x]) := hr
        clear hr hx hcells hI hxm
        obtain ⟨l1, l2⟩ := look_run hi.rep hi.mis hwx
        have hPc : P.length < cap.toNat := by omega
        cases hfx : f x with
        | some p =>
          have hrun := l1 p hfx
          obtain ⟨hpm, hpx⟩ := hi.found hfx
          have hpl := hi.ok.lt p hpm
          have e1 := hi.rep.at1 hpl
          clear l1 l2
          by_cases hpP : p ∈ P
          · have hcp := hi.cP p hpP
            rw [hcp] at e1
            have HI : Hid (Inv w wr.drew.drew base C bm cap (calls + 1) ur (List.take j ids.reverse ++ [x]) g scap S D f P Q) := hi.skip hPc hpP hpx hi.rep.drew.drew hi.bel.drew.drew
            clear hcp hpx hfx hpm hi hpP
            go_wp2
            go_region
            go_wp2
            go_region
            go_wp2
            go_roundw
            case rel => exact ⟨j + 1, g, scap, S, D, f, P, Q, by omega, by rw [HR.out]; exact HI.out, rfl, rfl, by go_num⟩
            case measure => simp [intOf]; omega
          · have hpQ : p ∈ Q := by simpa [hpP] using hpm
            obtain ⟨Q1, Q2, rfl⟩ := List.append_of_mem hpQ
            have hcp := hi.cQ p hpQ
            have hbe : (callOf S p == calls + 1) = false := beq_eq_false_iff_ne.2 (by omega)
            have hnl := hi.ok.links (a := p) (by simp)
            have hpre := (hi.ok.move (calls + 1)).1
            have hSl : S.length ≤ 100000 := by omega
            have HI : Hid (∀ w', Rep w' base C g scap bm cap (calls + 1) (linkS (setC (unlinkS S p) p (calls + 1)) p (lastOf 0 P)) D → Below base w w' → Inv w w' base C bm cap (calls + 1) ur (List.take j ids.reverse ++ [x]) g scap (linkS (setC (unlinkS S p) p (calls + 1)) p (lastOf 0 P)) D f (P ++ [p]) (Q1 ++ Q2)) :=
              fun w' h1 h2 => hi.move hPc hpx rfl h1 h2
            have HB : Hid (Below base w wr) := hi.bel
            have HRp : Hid (Rep wr base C g scap bm cap (calls + 1) S D) := hi.rep
            clear hpx hfx hpm hi hpP hpQ hcp hlen
            go_wp2
            go_region
            go_wp2
            go_region
            go_wp2_with fail
            refine (unlink_any HRp.out.drew.drew hSl hpl hnl.2 hnl.1).mono ?_
            rintro e w1 ⟨rfl, hr1, hb1⟩
            clear d0 d1 d2 d3 e1 hrun hcx
            have d1 := hr1.c1
            have d3 := hr1.c3
            have dp := hr1.at1 (s := p) (by simpa using hpl)
            have df := hr1.fzg (p * 4 + 1)
            have hgC := hr1.gC
            simp only [len_unlinkS] at d1
            go_wp2
            go_region
            go_wp2_with fail
            have hpc2 := hpre.setC (calls + 1)
            obtain ⟨k1, k2, k3, k4⟩ := hpc2.linkable
            have hr2 := (hr1.setC (s := p) (by simpa using hpl) (calls + 1)).drew
            refine (link_any hr2 (by simpa using hSl) hpc2.slt k1 k2 k3 k4).mono ?_
            rintro e w3 ⟨rfl, hr3, hb3⟩
            have hb4 : Below base w w3 := ((HB.out.drew.drew.trans hb1).setCell hr1.bg _).drew.trans hb3
            have HI3 : Hid _ := HI.out w3 hr3 hb4
            clear HI hr3 hb4 hb3 hb1 hr1 hr2 hpre hpc2 k1 k2 k3 k4 d1 d3 dp df HB HRp
            go_wp2
            go_roundw
            case rel => exact ⟨j + 1, g, scap, _, D, f, P ++ [p], Q1 ++ Q2, by omega, by rw [HR.out]; exact HI3.out, by rw [lastOf_snoc], by simp, by go_num⟩
            case measure => simp [intOf]; omega
        | none =>
          obtain ⟨c, hrun⟩ := l2 hfx
          have hSl : S.length ≤ 100000 := by omega
          have hSl1 : S.length + 1 ≤ 100000 := by omega
          have hpos := hi.ok.pos
          have hDl : Maps.size D ≤ 100000 := by have := hi.sz; simp at this; omega
          clear l1 l2
          by_cases hroom : (S.length : Int) - 1 < cap
          · have hpre := (hi.ok.grow hfx hwx (calls + 1)).1
            have HI : Hid (∀ w' g' scap', Rep w' base C g' scap' bm cap (calls + 1) (linkS (setC (S ++ [⟨x, 0, 0, 0⟩]) S.length (calls + 1)) S.length (lastOf 0 P)) (D.put (.int .i64 x) (.lit (.int .i64 S.length))) → Below base w w' →
                Inv w w' base C bm cap (calls + 1) ur (List.take j ids.reverse ++ [x]) g' scap' (linkS (setC (S ++ [⟨x, 0, 0, 0⟩]) S.length (calls + 1)) S.length (lastOf 0 P)) (D.put (.int .i64 x) (.lit (.int .i64 S.length))) (updf f x (some S.length)) (P ++ [S.length]) Q) :=
              fun w' g' scap' h1 h2 => hi.grow hPc (by omega) hfx hwx rfl h1 h2
            have HB : Hid (Below base w wr) := hi.bel
            have HRp : Hid (Rep wr base C g scap bm cap (calls + 1) S D) := hi.rep
            clear hfx hi hlen
            go_wp2
            go_region
            go_wp2_with fail
            refine (take_grow HRp.out.drew hSl hpos hDl hroom hwx).mono ?_
            rintro e w1 ⟨rfl, g', scap', hr1, hb1⟩
            clear d0 d1 d2 d3 hrun hcx
            have d1 := hr1.c1
            have d3 := hr1.c3
            have dp := hr1.at1 (s := S.length) (by simp)
            have df := hr1.fzg (S.length * 4 + 1)
            have hgC := hr1.gC
            simp only [List.length_append, List.length_cons, List.length_nil, Nat.zero_add] at d1
            go_wp2
            go_region
            go_wp2_with fail
            have hpc2 := hpre.setC (calls + 1)
            obtain ⟨k1, k2, k3, k4⟩ := hpc2.linkable
            have hr2 := (hr1.setC (s := S.length) (by simp) (calls + 1)).drew
            refine (link_any hr2 (by simpa using hSl1) hpc2.slt k1 k2 k3 k4).mono ?_
            rintro e w3 ⟨rfl, hr3, hb3⟩
            have hb4 : Below base w w3 := ((HB.out.drew.trans hb1).setCell hr1.bg _).drew.trans hb3
            have HI3 : Hid _ := HI.out w3 _ _ hr3 hb4
            clear HI hr3 hb4 hb3 hb1 hr1 hr2 hpre hpc2 k1 k2 k3 k4 d1 d3 dp df HB HRp
            go_wp2
            go_roundw
            case rel => exact ⟨j + 1, g', scap', _, _, _, P ++ [S.length], Q, by omega, by rw [HR.out]; exact HI3.out, by rw [lastOf_snoc], by simp, by go_num⟩
            case measure => simp [intOf]; omega
          · have hQ : Q ≠ [] := by
              intro e; subst e
              simp at hlen hll; omega
            obtain ⟨Q1, t, rfl⟩ : ∃ Q1 t, Q = Q1 ++ [t] := ⟨Q.dropLast, Q.getLast hQ, (List.dropLast_concat_getLast hQ).symm⟩
            obtain ⟨ht, hpre, _⟩ := hi.ok.full hfx hwx (calls + 1)
            have hnl := hi.ok.links (a := t) (by simp)
            have htl := hi.ok.lt t (by simp)
            have hwt := hi.ok.wf t (by simp)
            have HI : Hid (∀ w', Rep w' base C g scap bm cap (calls + 1) (linkS (setC (setI (unlinkS S t) t x) t (calls + 1)) t (lastOf 0 P)) ((D.del (.int .i64 (idOf S t))).put (.int .i64 x) (.lit (.int .i64 t))) → Below base w w' →
                Inv w w' base C bm cap (calls + 1) ur (List.take j ids.reverse ++ [x]) g scap (linkS (setC (setI (unlinkS S t) t x) t (calls + 1)) t (lastOf 0 P)) ((D.del (.int .i64 (idOf S t))).put (.int .i64 x) (.lit (.int .i64 t))) (updf (updf f (idOf S t) none) x (some t)) (P ++ [t]) Q1) :=
              fun w' h1 h2 => hi.full hPc (by simp at hlen ⊢; omega) hfx hwx rfl h1 h2
            have HB : Hid (Below base w wr) := hi.bel
            have HRp : Hid (Rep wr base C g scap bm cap (calls + 1) S D) := hi.rep
            have HT : Hid (newr S 0 = t) := ht
            clear hfx hi hlen ht
            go_wp2
            go_region
            go_wp2_with fail
            refine (take_full HRp.out.drew hSl hpos hDl (by omega) hwx HT.out htl hnl.2 hnl.1 hwt).mono ?_
            rintro e w1 ⟨rfl, hr1, hb1⟩
            clear d0 d1 d2 d3 hrun hcx
            have d1 := hr1.c1
            have d3 := hr1.c3
            have dp := hr1.at1 (s := t) (by simpa using htl)
            have df := hr1.fzg (t * 4 + 1)
            have hgC := hr1.gC
            simp only [len_setI, len_unlinkS] at d1
            go_wp2
            go_region
            go_wp2_with fail
            have hpc2 := (hpre.setI x).setC (calls + 1)
            obtain ⟨k1, k2, k3, k4⟩ := hpc2.linkable
            have hr2 := (hr1.setC (s := t) (by simpa using htl) (calls + 1)).drew
            refine (link_any hr2 (by simpa using hSl) hpc2.slt k1 k2 k3 k4).mono ?_
            rintro e w3 ⟨rfl, hr3, hb3⟩
            have hb4 : Below base w w3 := ((HB.out.drew.trans hb1).setCell hr1.bg _).drew.trans hb3
            have HI3 : Hid _ := HI.out w3 hr3 hb4
            clear HI hr3 hb4 hb3 hb1 hr1 hr2 hpre hpc2 k1 k2 k3 k4 d1 d3 dp df HB HRp
            go_wp2
            go_roundw
            case rel => exact ⟨j + 1, g, scap, _, _, _, P ++ [t], Q1, by omega, by rw [HR.out]; exact HI3.out, by rw [lastOf_snoc], by simp, by go_num⟩
            case measure => simp [intOf]; omega
      · go_wp2
        go_end0
        refine ⟨rfl, g, scap, S, D, f, P, Q, ids.reverse.take j, ids.reverse.drop j, hi, by simp, .inr (by omega)⟩
    · go_wp2
      go_end0
      refine ⟨rfl, g, scap, S, D, f, P, Q, ids.reverse.take j, ids.reverse.drop j, hi, by simp, .inl (by simp; omega)⟩

theorem enter_any {w : World} {base C : Nat} {cap calls : Int} {ur ids : List Int} {icap : Nat} {a : Option Addr} (h : Good w base C cap calls ((dd ur).take cap.toNat))
    (hc0 : 0 ≤ calls) (hc1 : calls ≤ 1000) (hI : Ints w base a ids) (hw : ∀ x ∈ ids, (Lit.int .i64 x).wf = true) (hl : ids.length + ur.length ≤ 20000) :
    Calls Try.prog 7 #[.pointer (some ⟨C, 0, none⟩), .slice a ids.length icap] w fun e w' => e = .returned (.tuple #[]) ∧ Good w' base C cap (calls + 1) ((dd (ids.reverse ++ ur)).take cap.toNat) ∧ Below base w w' := by
  obtain ⟨g, scap, bm, S, D, f, L, hr, hm, hok, hsz, hL, hcl⟩ := h
  refine (enter_inv hr hm hok hsz hL hcl hc0 hc1 hI hw hl).mono ?_
  rintro e w' ⟨rfl, g', scap', S', D', f', P', Q', r, r', hi, he, hend⟩
  refine ⟨rfl, ⟨g', scap', bm, S', D', f', P' ++ Q', hi.rep, hi.mis, hi.ok, hi.sz, ?_, ?_⟩, hi.bel⟩
  · rw [he]
    rcases hend with rfl | hend
    · rw [List.append_nil]; exact hi.hPQ
    · have e := hi.hPQ
      rw [List.map_append] at e ⊢
      exact full_end hi.hP e (by simpa using hend)
  · intro p hp
    rcases List.mem_append.1 hp with hp | hp
    · rw [hi.cP p hp]; exact Int.le_refl _
    · exact Int.le_of_lt (hi.cQ p hp)

theorem new_good (w : World) (cap : Int) :
    Calls Try.prog 6 #[.int .i64 cap] w fun e w' => e = .returned (.pointer (some ⟨w.heap.size + 2, 0, none⟩)) ∧ Good w' w.heap.size (w.heap.size + 2) cap 0 ((dd []).take cap.toNat) ∧ Below w.heap.size w w' := by
  refine (new_any w cap).mono ?_
  rintro e w' ⟨rfl, hr, hb⟩
  refine ⟨rfl, ⟨_, _, _, _, _, fun _ => none, [], hr, MapIs.empty, ⟨⟨rfl, rfl⟩, by simp, by simp, rfl, fun x p => by simp, by simp⟩, rfl, by simp [dd], by simp⟩, hb⟩
end Go.Proofs.Qxb6629139a.Walks
