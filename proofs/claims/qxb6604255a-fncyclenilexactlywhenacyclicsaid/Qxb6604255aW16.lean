import Derived.Test.Qxb6604255aW10
import Derived.Test.Qxb6604255aPlain6
namespace Go.Proofs.Qxb6604255a
open Go.RowKit
set_option linter.unusedVariables false

structure KS (G : Gr) (g1 B : Nat) (w wr : World) (vs : Value) (Q : List Nat) (D : Nat → Int) : Prop where
  own : wr.ownsRow B 3 1 vs Q.length (I64 Q)
  row : IR wr .i64 g1 G.n D
  fr : w.grownBy wr none
  lo : w.heap.size ≤ g1
  lt : g1 < B
  sz : B ≤ wr.heap.size
theorem KS.set {G : Gr} {g1 B : Nat} {w wr : World} {vs : Value} {Q : List Nat} {D : Nat → Int} (h : KS G g1 B w wr vs Q D) (v : Nat) (hv : v < G.n) (x : Int) : KS G g1 B w (wr.setCell ⟨g1, v, none⟩ (.int .i64 x)) vs Q (upd D v x) :=
  ⟨ownsRow_setCell_below h.own h.lt _, h.row.set v hv x, grown_set h.fr _ _ h.lo, h.lo, h.lt, by have := h.sz; simpa [World.setCell] using this⟩
theorem KS.app {G : Gr} {g1 B : Nat} {w wr w' : World} {vs vs' : Value} {Q : List Nat} {D : Nat → Int} (h : KS G g1 B w wr vs Q D) (v : Nat) (ho : w'.ownsRow B 3 1 vs' (Q.length + 1) (I64 Q ++ [.int .i64 (v : Int)])) (hg : Grew 3 wr vs Q.length w' vs') : KS G g1 B w w' vs' (Q ++ [v]) D := by
  have hl := h.lt
  have hlo := h.lo
  have hB : ∀ g, vs.ownBlock = some g → B ≤ g := fun g e => owns_ge h.own e
  refine ⟨?_, h.row.stepR hg.frame (fun e => by have := hB _ e; omega), ?_, hlo, hl, Nat.le_trans h.sz hg.frame.size⟩
  · rw [I64_app] at ho
    simpa using ho
  · refine grown_trans h.fr hg.frame ?_
    cases hob : vs.ownBlock with
    | none => exact .inl rfl
    | some g => exact .inr (.inr ⟨g, rfl, by have := hB g hob; omega⟩)
theorem Roots.len {G : Gr} {lo k : Nat} {D : Nat → Int} {Q : List Nat} (h : Roots G lo k D Q) : Q.length ≤ k := by
  rw [← cnt_list Q k h.nod (fun x hx => (h.rng x hx).2)]
  exact cnt_le _ _
theorem Kh.len {G : Gr} {lo ns h u j : Nat} {Q : List Nat} {D : Nat → Int} {al : Nat → Bool} (hK : Kh G lo ns h u j Q D al) : Q.length ≤ G.n := by
  rw [← cnt_list Q G.n hK.nod (fun x hx => (hK.rng x hx).2)]
  exact cnt_le _ _
/-- What acyclicFrom answers. -/
def KahnRes (G : Gr) (lo : Nat) (w : World) (e : Ending) (w' : World) : Prop := ∃ β : Bool, e = .returned (.bool β) ∧ (β = true → G.Ranked lo) ∧ (β = false → G.Stuck lo) ∧ w.grownBy w' none

set_option maxHeartbeats 12800000 in
set_option maxRecDepth 100000 in
theorem kahn14 (G : Gr) (lo : Nat) (fa sa : Option Addr) (fc ns sc : Nat) (w : World) (hG : GrAt G w fa sa fc ns sc) (hlo : lo ≤ G.n) :
    Calls Try.prog 14 #[.int .i64 lo, .slice fa (G.n + 1) fc, .slice sa ns sc] w fun e w' => KahnRes G lo w e w' := by
  obtain ⟨i0, hi0, hz0, hz1, hz2⟩ := info_parts Try.info3
  have hnn := hG.hn
  have hns := hG.hs
  have HG := hidg hG
  clear hG
  by_cases hln : lo = G.n
  · subst hln
    go_enter Try.func14, Try.ntmps14
    go_wp2
    go_ret
    exact ⟨true, rfl, fun _ => ⟨fun _ => 0, fun x y hx _ he => by have := he.1; omega⟩, (fun h => by cases h), grown_refl _ _⟩
  have hl1 : lo < G.n := by omega
  have hl2 : (lo : Int) < G.n := by omega
  have bl2 : decide (G.n ≤ lo) = false := decide_eq_false (by omega)
  clear hln hlo
  obtain ⟨f0, ef0⟩ : ∃ f0 : Nat, G.first.getD lo 0 = (f0 : Int) := Int.eq_ofNat_of_zero_le (HG.out.ok.span lo hl1).1
  obtain ⟨f1, ef1⟩ : ∃ f1 : Nat, G.first.getD G.n 0 = (f1 : Int) := by
    have h1 := (HG.out.ok.span (G.n - 1) (by omega))
    rw [show G.n - 1 + 1 = G.n by omega] at h1
    exact Int.eq_ofNat_of_zero_le (by omega)
  have hf1 : f1 ≤ ns := by
    have h1 := HG.out.ok.high
    have h2 := HG.out.S.hlen
    omega
  have HF := hidg (And.intro ef0 ef1)
  clear ef0 ef1
  go_enter Try.func14, Try.ntmps14
  go_wp2_with (at_make; refine Hid.out ?_)
  refine hidg ?_
  refine wpList_make_full _ rfl _ _ 26 rfl w.heap.size 3 i0 (.int .i64 0) 1 Try.underlying26 hi0 hz0 hz1 _ _ _ _ G.n rfl rfl rfl rfl (by rw [hz2]; omega) (by unfold maxLen; omega) (Nat.le_refl _) ?_
  intro w1 hown1 hgrow1
  have B1 := hidg (ir_new hown1)
  have HG1 := hidg hgrow1
  clear hown1 hgrow1
  go_wp2
  go_loopg [9] (G.n - lo) (fun q uv wr => ∃ u : Nat, lo ≤ u ∧ u ≤ G.n ∧ q = G.n - u ∧ uv = .int .i64 u ∧ Hid (∃ D ju, IR wr .i64 w.heap.size G.n D ∧ G.first.getD u 0 = ((ju : Nat) : Int) ∧ f0 ≤ ju ∧ Deg G lo ns f0 ju D ∧ w.grownBy wr none))
  case atStart => exact ⟨lo, Nat.le_refl _, by omega, rfl, rfl, _, f0, B1.out, HF.out.1, Nat.le_refl _, Deg.init, HG1.out⟩
  case round =>
    clear B1 HG1
    obtain ⟨u, hu0, hu1, rfl, rfl, HX⟩ := hrel
    obtain ⟨D, ju, hI, eju, hfj, hD, hg⟩ := HX.out
    clear HX
    by_cases hun : u < G.n
    · have hul : (u : Int) < G.n := by omega
      have hgr := HG.out.step0 hg
      obtain ⟨fb, fo, j0, j1, rfl, hj01, hj1, e0, e1, cf0, cf1⟩ := hgr.node u hun
      obtain rfl : ju = j0 := by omega
      have E := hidg (And.intro hI (And.intro hD (And.intro hg (And.intro e0 e1))))
      clear hI hD hg eju e0 e1 hgr
      have b32a : (ju : Int) ≤ 4096 := by omega
      have b32b : (j1 : Int) ≤ 4096 := by omega
      go_wp2
      obtain ⟨wu, rfl⟩ : ∃ wu : World, wu = wr := ⟨_, rfl⟩
      go_loopg [10] (j1 - ju) (fun q jv wr => ∃ j : Nat, ju ≤ j ∧ j ≤ j1 ∧ q = j1 - j ∧ jv = .int .i64 j ∧ Hid (∃ D, IR wr .i64 w.heap.size G.n D ∧ Deg G lo ns f0 j D ∧ w.grownBy wr none))
      case atStart => exact ⟨ju, Nat.le_refl _, hj01, rfl, rfl, D, E.out.1, E.out.2.1, E.out.2.2.1⟩
      case round =>
        have EJ := hidg E.out.2.2.2
        clear E cf0 cf1
        obtain ⟨j, hj0, hjj, rfl, rfl, HX⟩ := hrel
        obtain ⟨D, hI, hD, hg⟩ := HX.out
        clear HX
        have hgr := HG.out.step0 hg
        obtain ⟨fb', fo', j0', j1', efa, _, _, e0', e1', cf0, cf1⟩ := hgr.node u hun
        cases efa
        obtain rfl : ju = j0' := by have := EJ.out.1; omega
        obtain rfl : j1 = j1' := by have := EJ.out.2; omega
        by_cases hlt : j < j1
        · obtain ⟨xb, xo, v, rfl, hv, ev, hedge, cs⟩ := hgr.succ u j ju j1 hun e0' e1' hj0 hlt hj1
          have q1 : (j : Int) < j1 := by omega
          have q2 : (j : Int) < ns := by omega
          have q3 : (v : Int) < G.n := by omega
          have q4 : (v : Int) ≤ 4096 := by omega
          have cv := hI.cell v hv
          have fv := Rw.free hI v hv
          clear hgr e0' e1' cf0 hedge
          by_cases hvl : v < lo
          · have R : Hid (∃ D, IR wr .i64 w.heap.size G.n D ∧ Deg G lo ns f0 (j + 1) D ∧ w.grownBy wr none) := ⟨D, hI, hD.skip (by omega) ev hvl, hg⟩
            clear hI hD hg ev
            have bv : ¬ (lo : Int) ≤ v := by omega
            go_wp2
            go_roundg (j1 - (j + 1))
            case rel => exact ⟨j + 1, by omega, by omega, rfl, by go_num, R.out⟩
            case measure => omega
          · have R : Hid (∃ D', IR (wr.setCell ⟨w.heap.size, v, none⟩ (.int .i64 (D v + 1))) .i64 w.heap.size G.n D' ∧ Deg G lo ns f0 (j + 1) D' ∧ w.grownBy (wr.setCell ⟨w.heap.size, v, none⟩ (.int .i64 (D v + 1))) none) := ⟨_, hI.set v hv _, hD.inc (by omega) (by omega) ev, grown_set hg _ _ (Nat.le_refl _)⟩
            have hlow := hD.low v (by omega) hv
            clear hI hD hg ev
            have bv : (lo : Int) ≤ v := by omega
            generalize D v = y at *
            obtain ⟨y0, y1⟩ := hlow
            go_wp2
            go_roundg (j1 - (j + 1))
            case rel => exact ⟨j + 1, by omega, by omega, rfl, by go_num, R.out⟩
            case measure => omega
        · obtain rfl : j1 = j := by omega
          have R := hidg (And.intro hI (And.intro hD hg))
          clear hI hD hg hgr e0' e1' cf0
          go_wp2
          go_roundg (G.n - (u + 1))
          case rel => exact ⟨u + 1, by omega, by omega, rfl, by go_num, D, j1, R.out.1, EJ.out.2, by omega, R.out.2.1, R.out.2.2⟩
          case measure => omega
    · obtain rfl : u = G.n := by omega
      obtain rfl : ju = f1 := by have := HF.out.2; omega
      have hg1w := hI.lt (by omega : 0 < G.n)
      have hsz := hg.size
      have E := hidg (And.intro hI (And.intro hD hg))
      clear hI hD hg eju
      go_wp2_with (at_make; refine Hid.out ?_)
      refine hidg ?_
      refine wpList_make_own _ rfl _ _ 26 rfl wr.heap.size 3 i0 (.int .i64 0) 1 Try.underlying26 hi0 hz0 hz1 _ _ _ G.n rfl rfl rfl (by rw [hz2]; omega) (by unfold maxLen; omega) (Nat.le_refl _) ?_
      intro w2 hown2 hgrow2
      have K0 : Hid (KS G w.heap.size wr.heap.size w w2 (.slice (some ⟨wr.heap.size, 0, none⟩) 0 G.n) [] D) := ⟨hown2, E.out.1.step hgrow2, grown_step E.out.2.2 hgrow2, Nat.le_refl _, hg1w, hgrow2.size⟩
      have HD := hidg E.out.2.1
      clear hown2 hgrow2 E
      generalize hB : wr.heap.size = B at *
      clear hB
      go_wp2
      go_loopg [12, 13] (G.n - lo) (fun q vs kv wr => ∃ k : Nat, lo ≤ k ∧ k ≤ G.n ∧ q = G.n - k ∧ kv = .int .i64 k ∧ Hid (∃ Q, KS G w.heap.size B w wr vs Q D ∧ Roots G lo k D Q))
      case atStart => exact ⟨lo, Nat.le_refl _, by omega, rfl, rfl, [], K0.out, Roots.init⟩
      case round =>
        clear K0
        obtain ⟨k, hk0, hk1, rfl, rfl, HX⟩ := hrel
        obtain ⟨Q, hS, hR⟩ := HX.out
        clear HX
        obtain ⟨qao, qcap, rfl, _⟩ := owns_shape hS.own
        have hQl := hR.len
        by_cases hkn : k < G.n
        · have ck := hS.row.cell k hkn
          have hkl : (k : Int) < G.n := by omega
          by_cases hd0 : D k = 0
          · rw [hd0] at ck
            have E := hidg (And.intro hS (hR.add hk0 hd0))
            clear hS hR hd0
            go_wp2_with (at_builtin; refine Hid.out ?_)
            refine hidg ?_
            refine wpList_app1 wr rfl _ _ 26 rfl B 3 i0 (.int .i64 0) 8 Try.underlying26 hi0 hz0 hz1 hz2 rfl _ Q.length (I64 Q) E.out.1.own _ rfl rfl rfl (by unfold maxLen; omega) (by omega) E.out.1.sz ?_
            intro v6 w6 hown6 hgr6
            have S6 := hidg (E.out.1.app k hown6 hgr6)
            clear hown6 hgr6
            go_wp2
            go_roundg (G.n - (k + 1))
            case rel => exact ⟨k + 1, by omega, by omega, rfl, by go_num, _, S6.out, E.out.2⟩
            case measure => omega
          · have E := hidg (And.intro hS (hR.skip hd0))
            have bd : (D k == 0) = false := by rw [beq_eq_false_iff_ne]; exact hd0
            clear hS hR hd0
            generalize D k = y at *
            go_wp2
            go_roundg (G.n - (k + 1))
            case rel => exact ⟨k + 1, by omega, by omega, rfl, by go_num, _, E.out.1, E.out.2⟩
            case measure => omega
        · obtain rfl : k = G.n := by omega
          have E := hidg (And.intro hS (Kh.init HG.out.ok (by omega) HF.out.1 HF.out.2 hf1 HD.out hR))
          clear hS hR HD
          go_wp2
          go_loopg [12, 14] G.n (fun q vs hv wr => ∃ h : Nat, h ≤ G.n ∧ q = G.n - h ∧ hv = .int .i64 h ∧ Hid (∃ Q D al, KS G w.heap.size B w wr vs Q D ∧ Kh G lo ns h G.n 0 Q D al))
          case atStart => exact ⟨0, Nat.zero_le _, rfl, rfl, _, _, _, E.out.1, E.out.2⟩
          case round =>
            clear E
            obtain ⟨h, hh, rfl, rfl, HX⟩ := hrel
            obtain ⟨Q, D, al, hS, hK⟩ := HX.out
            clear HX
            have hQl := hK.len
            by_cases hhq : h < Q.length
            · obtain ⟨qb, qcap, rfl, hqb1, hqb2, hqc⟩ := owns_ao hS.own (by omega)
              obtain ⟨u, hu⟩ : ∃ u, Q[h]? = some u := ⟨_, List.getElem?_eq_getElem hhq⟩
              have hur := hK.rng u (List.mem_of_getElem? hu)
              have hun : u < G.n := hur.2
              have cq : wr.cell? ⟨qb, h, none⟩ = some (.int .i64 (u : Int)) := by
                have := owns_cell hS.own h _ (I64_get Q h hhq)
                rw [List.getD_eq_getElem?_getD, hu] at this
                exact this
              have hhl : (h : Int) < Q.length := by omega
              have hul : (u : Int) < G.n := by omega
              have hgr := HG.out.step0 hS.fr
              obtain ⟨fb, fo, j0, j1, rfl, hj01, hj1, e0, e1, cf0, cf1⟩ := hgr.node u hun
              have E := hidg (And.intro hS (And.intro (hK.enter e0) (And.intro hu (And.intro e0 e1))))
              clear hS hK hu hur e0 e1 hgr hqb1 hqb2 hqc
              have b32a : (j0 : Int) ≤ 4096 := by omega
              have b32b : (j1 : Int) ≤ 4096 := by omega
              go_wp2
              obtain ⟨wu, rfl⟩ : ∃ wu : World, wu = wr := ⟨_, rfl⟩
              go_loopg [12, 16] (j1 - j0) (fun q vs jv wr => ∃ j : Nat, j0 ≤ j ∧ j ≤ j1 ∧ q = j1 - j ∧ jv = .int .i64 j ∧ Hid (∃ Q D al, KS G w.heap.size B w wr vs Q D ∧ Kh G lo ns h u j Q D al ∧ Q[h]? = some u))
              case atStart => exact ⟨j0, Nat.le_refl _, hj01, rfl, rfl, Q, D, al, E.out.1, E.out.2.1, E.out.2.2.1⟩
              case round =>
                have EJ := hidg E.out.2.2.2
                clear E cf0 cf1 cq
                obtain ⟨j, hj0, hjj, rfl, rfl, HX⟩ := hrel
                obtain ⟨Q, D, al, hS, hK, hu⟩ := HX.out
                clear HX
                have hQl := hK.len
                obtain ⟨qao, qcap, rfl, _⟩ := owns_shape hS.own
                have hgr := HG.out.step0 hS.fr
                obtain ⟨fb', fo', j0', j1', efa, _, _, e0', e1', cf0, cf1⟩ := hgr.node u hun
                cases efa
                obtain rfl : j0 = j0' := by have := EJ.out.1; omega
                obtain rfl : j1 = j1' := by have := EJ.out.2; omega
                by_cases hlt : j < j1
                · obtain ⟨xb, xo, v, rfl, hv, ev, hedge, cs⟩ := hgr.succ u j j0 j1 hun e0' e1' hj0 hlt hj1
                  have q1 : (j : Int) < j1 := by omega
                  have q2 : (j : Int) < ns := by omega
                  have q3 : (v : Int) < G.n := by omega
                  have q4 : (v : Int) ≤ 4096 := by omega
                  have hja : G.first.getD u 0 ≤ (j : Int) := by omega
                  have hjb : (j : Int) < G.first.getD (u + 1) 0 := by omega
                  have hal := hK.alive hu hja hjb
                  have hnsf : G.first.getD G.n 0 ≤ (ns : Int) := by have := HF.out.2; omega
                  clear hgr e0' e1' cf0 hedge
                  by_cases hvl : v < lo
                  · have R : Hid (∃ Q D al, KS G w.heap.size B w wr (.slice qao Q.length qcap) Q D ∧ Kh G lo ns h u (j + 1) Q D al ∧ Q[h]? = some u ∧ True) := ⟨Q, D, _, hS, hK.skip HG.out.ok hun hja hjb ev hvl, hu, trivial⟩
                    have R2 := hidg (And.intro hS (And.intro (hK.skip HG.out.ok hun hja hjb ev hvl) hu))
                    clear R hS hK hu ev hja hjb hal hnsf
                    have bv : ¬ (lo : Int) ≤ v := by omega
                    go_wp2
                    go_roundg (j1 - (j + 1))
                    case rel => exact ⟨j + 1, by omega, by omega, rfl, by go_num, Q, D, _, R2.out.1, R2.out.2.1, R2.out.2.2⟩
                    case measure => omega
                  · have hpos := hK.pos (by omega) hal ev (by omega) hv
                    have cv := hS.row.cell v hv
                    have fv := Rw.free hS.row v hv
                    have bv : (lo : Int) ≤ v := by omega
                    have S1 := hidg (hS.set v hv (D v - 1))
                    have cv2 := S1.out.row.cell v hv
                    rw [upd_same] at cv2
                    by_cases hd1 : D v - 1 = 0
                    · have K1 := hidg (And.intro (hK.decA HG.out.ok hu hja hjb (by omega) hnsf hal ev (by omega) hv hd1) hu)
                      rw [hd1] at cv2 S1 K1
                      have hDv : D v = 1 := by omega
                      rw [hDv] at cv
                      have HU := hidg hu
                      clear hS hK hu ev hja hjb hal hnsf hpos hd1 hDv
                      go_wp2_with (at_builtin; refine Hid.out ?_)
                      refine hidg ?_
                      refine wpList_app1g (wr.setCell ⟨w.heap.size, v, none⟩ (.int .i64 0)) rfl _ _ 26 rfl B 3 i0 (.int .i64 0) 8 Try.underlying26 hi0 hz0 hz1 hz2 rfl _ Q.length (I64 Q) S1.out.own _ _ rfl rfl (by simp [World.setCell]) rfl (by unfold maxLen; omega) (by omega) S1.out.sz ?_
                      intro v6 w6 hown6 hgr6
                      have S6 := hidg (S1.out.app v hown6 hgr6)
                      clear hown6 hgr6
                      go_wp2
                      go_roundg (j1 - (j + 1))
                      case rel => exact ⟨j + 1, by omega, by omega, rfl, by go_num, _, _, _, S6.out, K1.out.1, by rw [List.getElem?_append_left (List.getElem?_eq_some_iff.1 HU.out).1]; exact HU.out⟩
                      case measure => omega
                    · have R2 := hidg (And.intro S1.out (And.intro (hK.decK HG.out.ok hun hja hjb (by omega) hal ev (by omega) hv hd1) hu))
                      have bd : (D v - 1 == 0) = false := by rw [beq_eq_false_iff_ne]; exact hd1
                      clear S1 hS hK hu ev hja hjb hal hnsf hd1
                      generalize D v = y at *
                      go_wp2
                      go_roundg (j1 - (j + 1))
                      case rel => exact ⟨j + 1, by omega, by omega, rfl, by go_num, _, _, _, R2.out.1, R2.out.2.1, R2.out.2.2⟩
                      case measure => omega
                · obtain rfl : j1 = j := by omega
                  have hhq2 := (List.getElem?_eq_some_iff.1 hu).1
                  have R := hidg (And.intro hS (hK.next hu EJ.out.2))
                  clear hS hK hu hgr e0' e1' cf0
                  go_wp2
                  go_roundg (G.n - (h + 1))
                  case rel => exact ⟨h + 1, by omega, rfl, by go_num, _, _, _, R.out.1, R.out.2⟩
                  case measure => omega
            · have hhe : h = Q.length := by have := hK.hle; omega
              subst hhe
              obtain ⟨qao, qcap, rfl, _⟩ := owns_shape hS.own
              by_cases hql : Q.length = G.n - lo
              · have R := hidg (And.intro (hK.rank HG.out.ok hql) hS.fr)
                have bq : ((Q.length : Int) == (G.n : Int) - (lo : Int)) = true := by rw [beq_iff_eq]; omega
                clear hS hK hql
                go_wp2
                go_ret
                exact ⟨true, by first | rfl | (rw [bq]) , fun _ => R.out.1, (fun h => by cases h), R.out.2⟩
              · have R := hidg (And.intro (hK.stuck HG.out.ok hql) hS.fr)
                have bq : ((Q.length : Int) == (G.n : Int) - (lo : Int)) = false := by rw [beq_eq_false_iff_ne]; omega
                clear hS hK hql
                go_wp2
                go_ret
                exact ⟨false, by first | rfl | (rw [bq]), (fun h => by cases h), fun _ => R.out.1, R.out.2⟩
end Go.Proofs.Qxb6604255a
