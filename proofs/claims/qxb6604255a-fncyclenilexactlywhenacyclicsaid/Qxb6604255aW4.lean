import Derived.Test.Qxb6604255aW3
import Derived.Test.Qxb6604255aPlain3
namespace Go.Proofs.Qxb6604255a
open Go.RowKit
set_option linter.unusedVariables false

/-- The graph as it lies in memory. -/
structure GrAt (G : Gr) (w : World) (fa sa : Option Addr) (fc ns sc : Nat) : Prop where
  ok : G.OK
  F : Sl w .i32 fa (G.n + 1) fc G.first
  S : Sl w .i32 sa ns sc G.succ
  hn : G.n ≤ 4096
  hs : ns ≤ 4096
  Fr : ∀ j, In32 (G.first.getD j 0)
  Sr : ∀ j, In32 (G.succ.getD j 0)
/-- Row g is neither of its two. -/
def Apart (fa sa : Option Addr) (g : Nat) : Prop := (∀ b off, fa = some ⟨b, off, none⟩ → b ≠ g) ∧ (∀ b off, sa = some ⟨b, off, none⟩ → b ≠ g)

theorem GrAt.step {G : Gr} {w w' : World} {fa sa : Option Addr} {fc ns sc : Nat} (h : GrAt G w fa sa fc ns sc) {r : Option Nat} (hg : w.grownBy w' r) (hr : ∀ g, r = some g → Apart fa sa g) : GrAt G w' fa sa fc ns sc :=
  ⟨h.ok, h.F.step hg (fun g e => (hr g e).1), h.S.step hg (fun g e => (hr g e).2), h.hn, h.hs, h.Fr, h.Sr⟩
theorem GrAt.step0 {G : Gr} {w w' : World} {fa sa : Option Addr} {fc ns sc : Nat} (h : GrAt G w fa sa fc ns sc) (hg : w.grownBy w' none) : GrAt G w' fa sa fc ns sc := h.step hg (fun g e => by cases e)
/-- A node's span of edges, as the walk wants it. -/
theorem GrAt.node {G : Gr} {w : World} {fa sa : Option Addr} {fc ns sc : Nat} (h : GrAt G w fa sa fc ns sc) (u : Nat) (hu : u < G.n) : ∃ fb fo j0 j1 : Nat, fa = some ⟨fb, fo, none⟩ ∧ j0 ≤ j1 ∧ j1 ≤ ns ∧ G.first.getD u 0 = (j0 : Int) ∧ G.first.getD (u + 1) 0 = (j1 : Int) ∧
    w.cell? ⟨fb, fo + u, none⟩ = some (.int .i32 (j0 : Int)) ∧ w.cell? ⟨fb, fo + (u + 1), none⟩ = some (.int .i32 (j1 : Int)) := by
  obtain ⟨fb, fo, rfl, cf⟩ := h.F.cells (by omega)
  have h1 := h.ok.span u hu
  obtain ⟨j0, e0⟩ := Int.eq_ofNat_of_zero_le h1.1
  obtain ⟨j1, e1⟩ := Int.eq_ofNat_of_zero_le (show (0 : Int) ≤ G.first.getD (u + 1) 0 by omega)
  have c0 := cf u (by omega)
  have c1 := cf (u + 1) (by omega)
  have hl := h.S.hlen
  rw [e0] at c0
  rw [e1] at c1
  exact ⟨fb, fo, j0, j1, rfl, by omega, by omega, e0, e1, c0, c1⟩
/-- An edge. -/
theorem GrAt.succ {G : Gr} {w : World} {fa sa : Option Addr} {fc ns sc : Nat} (h : GrAt G w fa sa fc ns sc) (u j j0 j1 : Nat) (hu : u < G.n) (e0 : G.first.getD u 0 = (j0 : Int)) (e1 : G.first.getD (u + 1) 0 = (j1 : Int)) (hj0 : j0 ≤ j) (hj1 : j < j1) (hns : j1 ≤ ns) :
    ∃ sb so v : Nat, sa = some ⟨sb, so, none⟩ ∧ v < G.n ∧ G.succ.getD j 0 = (v : Int) ∧ G.edge u v ∧ w.cell? ⟨sb, so + j, none⟩ = some (.int .i32 (v : Int)) := by
  obtain ⟨sb, so, rfl, cs⟩ := h.S.cells (by omega)
  have ht := h.ok.target u j hu (by omega) (by omega)
  obtain ⟨v, ev⟩ := Int.eq_ofNat_of_zero_le ht.1
  have c0 := cs j (by omega)
  rw [ev] at c0
  exact ⟨sb, so, v, rfl, by omega, ev, ⟨hu, j, by omega, by omega, ev⟩, c0⟩

def LinkRes (G : Gr) (a b : Nat) (st : Int) (M : Nat → Int) (mg : Nat) (w : World) (e' : Ending) (w' : World) : Prop :=
  ∃ β, e' = .returned (.bool β) ∧ (G.link a b → β = true) ∧ (∃ M' : Nat → Int, IR w' .i64 mg G.n M' ∧ ∀ v, v < G.n → M' v = M v ∨ M' v = st) ∧ w.grownBy w' (some mg)

/-- The loop's state in linked. -/
structure LS (G : Gr) (a b : Nat) (st : Int) (M0 : Nat → Int) (mg B : Nat) (w wr : World) (vs : Value) (K : List Nat) (M : Nat → Int) : Prop where
  own : wr.ownsRow B 3 1 vs K.length (I64 K)
  row : IR wr .i64 mg G.n M
  old : ∀ v, v < G.n → M v = M0 v ∨ M v = st
  fr : w.grownBy wr (some mg)

theorem owns_ge {w : World} {base : Nat} {e : TypeId} {v : Value} {n : Nat} {xs : List Value} (h : w.ownsRow base e 1 v n xs) {g : Nat} (hg : v.ownBlock = some g) : base ≤ g := by
  rcases h.2 with ⟨rfl, _⟩ | ⟨g', cap, cur, rfl, hb, _⟩
  · cases hg
  · cases hg; exact hb

set_option maxHeartbeats 6400000 in
set_option maxRecDepth 100000 in
theorem linked17 (G : Gr) (a b : Nat) (st : Int) (M : Nat → Int) (mg : Nat) (fa sa : Option Addr) (fc ns sc mc : Nat) (w : World) (hG : GrAt G w fa sa fc ns sc) (ha : a < G.n) (hM : IR w .i64 mg G.n M) (hst : ∀ v, v < G.n → M v ≠ st) (hap : Apart fa sa mg) (hn0 : 0 < G.n) :
    Calls Try.prog 17 #[.int .i64 a, .int .i64 b, .int .i64 G.nreal, .slice fa (G.n + 1) fc, .slice sa ns sc, .slice (some ⟨mg, 0, none⟩) G.n mc, .int .i64 st] w fun e' w' => LinkRes G a b st M mg w e' w' := by
  obtain ⟨i0, hi0, hz0, hz1, hz2⟩ := info_parts Try.info3
  have HG := hidg hG
  have HM := hidg hM
  have HST := hidg hst
  have HAP := hidg hap
  have hnn := hG.hn
  have hns := hG.hs
  have HMG := hidg (hM.lt hn0)
  clear hG hM hst hap
  have hor : ∀ g, g < w.heap.size ∨ w.heap.size ≤ g := fun g => by omega
  go_enter Try.func17, Try.ntmps17
  go_wp2_with (at_make; refine Hid.out ?_)
  refine hidg ?_
  refine wpList_make_own _ rfl _ _ 26 rfl w.heap.size 3 i0 (.int .i64 0) 1 Try.underlying26 hi0 hz0 hz1 _ _ _ 16 rfl rfl rfl (by rw [hz2]; omega) (by unfold maxLen; omega) (Nat.le_refl _) ?_
  intro w1 hown1 hgrow1
  have HO1 := hidg hown1
  have HG1 := hidg hgrow1
  have hs1 := hgrow1.size
  clear hown1 hgrow1
  go_wp2_with (at_builtin; refine Hid.out ?_)
  refine hidg ?_
  refine wpList_app1 w1 rfl _ _ 26 rfl w.heap.size 3 i0 (.int .i64 0) 8 Try.underlying26 hi0 hz0 hz1 hz2 rfl _ 0 [] HO1.out _ rfl rfl rfl (by unfold maxLen; omega) (by omega) hs1 ?_
  intro v2 w2 hown2 hgr2
  have L2 : Hid (LS G a b st M mg w.heap.size w w2 v2 [a] M) := by
    have hfr : w.grownBy w2 (some mg) := by
      have := grown_trans HG1.out hgr2.frame (.inr (.inr ⟨_, rfl, Nat.le_refl _⟩))
      exact grown_weak _ this
    refine ⟨hown2, ?_, fun v _ => .inl rfl, hfr⟩
    refine (HM.out.step HG1.out).stepR hgr2.frame ?_
    have := HMG.out
    simp [Value.ownBlock]; omega
  clear hown2 hgr2 HO1 HG1
  have Q2 : Hid (Lk G a b st M [a] G.n) := Lk.init ha HST.out
  have C2 : Hid (cnt (unmark st M) G.n + 1 ≤ G.n + 1) := by have := cnt_le (unmark st M) G.n; exact (by omega : cnt (unmark st M) G.n + 1 ≤ G.n + 1)
  go_wp2
  go_loopg [15] (G.n + 1) (fun q vs wr => Hid (∃ K M1, LS G a b st M mg w.heap.size w wr vs K M1 ∧ Lk G a b st M1 K G.n ∧ cnt (unmark st M1) G.n + K.length ≤ q ∧ q ≤ G.n + 1))
  case atStart => exact ⟨[a], M, L2.out, Q2.out, C2.out, Nat.le_refl _⟩
  case round =>
    clear L2 Q2 C2
    obtain ⟨K, M1, hL, hQ, hc, hq⟩ := hrel.out
    clear hrel
    by_cases hK : K.length = 0
    · obtain rfl : K = [] := List.eq_nil_of_length_eq_zero hK
      obtain ⟨ao, cap, rfl, _⟩ := owns_shape hL.own
      have E := hidg (And.intro hL hQ)
      clear hL hQ hc hq hK
      go_wp2
      go_ret
      exact ⟨false, rfl, fun hl => absurd hl (Lk.none HG.out.ok ha E.out.2), ⟨M1, E.out.1.row, E.out.1.old⟩, E.out.1.fr⟩
    · obtain ⟨K', u, rfl⟩ : ∃ K' u, K = K' ++ [u] := ⟨K.dropLast, K.getLast (by intro h; simp [h] at hK), (List.dropLast_concat_getLast _).symm⟩
      have hlen : (K' ++ [u]).length = K'.length + 1 := by simp
      rw [hlen] at hc
      have hown := hL.own
      rw [hlen] at hown
      obtain ⟨sb, cap, rfl, hsb, hsb2, hcap⟩ := owns_ao hown (by omega)
      obtain ⟨hu, hQ1⟩ := hQ.pop
      have ctop := owns_cell hown K'.length (.int .i64 (u : Int)) (by rw [I64_get _ _ (by simp)]; simp)
      have hGr := HG.out.step hL.fr (fun g e => by cases e; exact HAP.out)
      obtain ⟨fb, fo, j0, j1, rfl, hj01, hj1, e0, e1, cf0, cf1⟩ := hGr.node u hu
      have hown' := owns_take hown K'.length (by omega) (by simp)
      rw [I64_take, List.take_left'  rfl] at hown'
      have L3 : Hid (LS G a b st M mg w.heap.size w wr (.slice (some ⟨sb, 0, none⟩) K'.length cap) K' M1) := ⟨hown', hL.row, hL.old, hL.fr⟩
      have E3 := hidg (And.intro hQ1 (And.intro hc (And.intro hq (And.intro e0 e1))))
      have hkl : (K'.length : Int) + 1 ≤ 5000 := by omega
      have b32a : (j0 : Int) ≤ 4096 := by omega
      have b32b : (j1 : Int) ≤ 4096 := by omega
      clear hL hQ hQ1 hc hq hown hown' e0 e1 hlen hK hGr
      go_wp2
      obtain ⟨wo, rfl⟩ : ∃ wo : World, wo = wr := ⟨_, rfl⟩
      obtain ⟨gko, rfl⟩ : ∃ gko : Nat, gko = gk := ⟨_, rfl⟩
      go_loopg [15, 17] (j1 - j0) (fun q vs jv wr => ∃ j : Nat, j0 ≤ j ∧ j ≤ j1 ∧ q = j1 - j ∧ jv = .int .i64 j ∧ Hid (∃ K M1, LS G a b st M mg w.heap.size w wr vs K M1 ∧ Lk G a b st M1 K u ∧ G.lpart b st M1 u j ∧ cnt (unmark st M1) G.n + (K.length + 1) ≤ gko))
      case atStart => exact ⟨j0, Nat.le_refl _, hj01, rfl, rfl, _, _, L3.out, E3.out.1, Gr.lpart_zero E3.out.2.2.2.1, E3.out.2.1⟩
      case round =>
        clear L3 ctop cf0 cf1
        obtain ⟨j, hj0, hjj, rfl, rfl, HX⟩ := hrel
        obtain ⟨K, M1, hL, hQ, hP, hc⟩ := HX.out
        clear HX
        have hGr := HG.out.step hL.fr (fun g e => by cases e; exact HAP.out)
        have hqo : gko ≤ G.n + 1 := E3.out.2.2.1
        obtain ⟨ao, cap2, rfl, _, hcap2, hao0, _⟩ := owns_shape hL.own
        obtain ⟨fb', fo', j0', j1', efa, _, _, e0', e1', cf0, cf1⟩ := hGr.node u hu
        cases efa
        obtain rfl : j0 = j0' := by have := E3.out.2.2.2.1; omega
        obtain rfl : j1 = j1' := by have := E3.out.2.2.2.2; omega
        by_cases hlt : j < j1
        · obtain ⟨xb, xo, v, rfl, hv, ev, hedge, cs⟩ := hGr.succ u j j0 j1 hu e0' e1' hj0 hlt hj1
          have cm := hL.row.cell v hv
          have fm := Rw.free hL.row v hv
          have hsz := hL.fr.size
          have q1 : (j : Int) < j1 := by omega
          have q2 : (j : Int) < ns := by omega
          have q3 : (v : Int) < G.n := by omega
          have q4 : (v : Int) ≤ 4096 := by omega
          have E4 := hidg (And.intro hL (And.intro hQ (And.intro hP (And.intro hc (And.intro ev hqo)))))
          clear hL hQ hP hc ev hGr hqo e0' e1' hedge cf0
          by_cases hvb : v = b
          · subst hvb
            go_wp2
            go_ret
            exact ⟨true, rfl, fun _ => rfl, ⟨M1, E4.out.1.row, E4.out.1.old⟩, E4.out.1.fr⟩
          · have bvb : ((v : Int) == (b : Int)) = false := by simp; omega
            have HVB := hidg hvb
            clear hvb
            by_cases hvr : v < G.nreal
            · go_wp2
              go_roundg (j1 - (j + 1))
              case rel => exact ⟨j + 1, by omega, by omega, rfl, by go_num, K, M1, E4.out.1, E4.out.2.1, Gr.lpart_step E4.out.2.2.1 E4.out.2.2.2.2.1 HVB.out (fun h => absurd hvr h), E4.out.2.2.2.1⟩
              case measure => omega
            · by_cases hms : M1 v = st
              · rw [hms] at cm
                have HMS := hidg hms
                clear hms
                go_wp2
                go_roundg (j1 - (j + 1))
                case rel => exact ⟨j + 1, by omega, by omega, rfl, by go_num, K, M1, E4.out.1, E4.out.2.1, Gr.lpart_step E4.out.2.2.1 E4.out.2.2.2.2.1 HVB.out (fun _ => HMS.out), E4.out.2.2.2.1⟩
                case measure => omega
              · have hne : (M1 v != st) = true := by simp [hms]
                have HMS := hidg hms
                clear hms
                have hmb := HMG.out
                have L5 : Hid (LS G a b st M mg w.heap.size w (wr.setCell ⟨mg, v, none⟩ (.int .i64 st)) (.slice ao K.length cap2) K (upd M1 v st)) := by
                  refine ⟨ownsRow_setCell_below E4.out.1.own hmb _, E4.out.1.row.set v hv st, fun x hx => ?_, grown_setR E4.out.1.fr _ _⟩
                  by_cases hxv : x = v
                  · subst hxv; exact .inr (upd_same _ _ _)
                  · rw [upd_other _ _ hxv]; exact E4.out.1.old x hx
                have hkl2 : K.length ≤ 4097 := by have := E4.out.2.2.2.1; have := E4.out.2.2.2.2.2; omega
                go_wp2_with (at_builtin; refine Hid.out ?_)
                refine hidg ?_
                refine wpList_app1g (wr.setCell ⟨mg, v, none⟩ (.int .i64 st)) rfl _ _ 26 rfl w.heap.size 3 i0 (.int .i64 0) 8 Try.underlying26 hi0 hz0 hz1 hz2 rfl _ K.length (I64 K) L5.out.own _ _ rfl rfl (by simp [World.setCell]) rfl (by unfold maxLen; omega) (by omega) L5.out.fr.size ?_
                intro v6 w6 hown6 hgr6
                have L6 : Hid (LS G a b st M mg w.heap.size w w6 v6 (K ++ [v]) (upd M1 v st)) := by
                  have hob : ∀ g, (Value.slice ao K.length cap2).ownBlock = some g → w.heap.size ≤ g := fun g hg => owns_ge L5.out.own hg
                  refine ⟨?_, ?_, L5.out.old, ?_⟩
                  · rw [I64_app] at hown6
                    simpa using hown6
                  · refine L5.out.row.stepR hgr6.frame ?_
                    intro he
                    have := hob _ he
                    omega
                  · refine grown_trans L5.out.fr hgr6.frame ?_
                    cases ho : (Value.slice ao K.length cap2).ownBlock with
                    | none => exact .inl rfl
                    | some g => exact .inr (.inr ⟨g, rfl, hob g ho⟩)
                clear hown6 hgr6
                go_wp2
                go_roundg (j1 - (j + 1))
                case rel =>
                  refine ⟨j + 1, by omega, by omega, rfl, by go_num, K ++ [v], upd M1 v st, L6.out, E4.out.2.1.push hv, Gr.lpart_step (Gr.lpart_push E4.out.2.2.1 v) E4.out.2.2.2.2.1 HVB.out (fun _ => upd_same _ _ _), ?_⟩
                  have h1 := unmark_drop (n := G.n) hv HMS.out
                  have h2 := E4.out.2.2.2.1
                  simp
                  omega
                case measure => omega
        · obtain rfl : j1 = j := by omega
          have E4 := hidg (And.intro hL (And.intro hQ (And.intro hP (And.intro hc hqo))))
          clear hL hQ hP hc hGr hqo e0' e1' cf0
          go_wp2
          go_roundg (gko - 1)
          case rel => exact ⟨K, M1, E4.out.1, E4.out.2.1.fin E4.out.2.2.1 E3.out.2.2.2.2, by have := E4.out.2.2.2.1; omega, by have := E4.out.2.2.2.2; omega⟩
          case measure => have := E4.out.2.2.2.1; omega
end Go.Proofs.Qxb6604255a
