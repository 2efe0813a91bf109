import Derived.Test.Qxb6604255aW10
import Derived.Test.Qxb6604255aPlain5
namespace Go.Proofs.Qxb6604255a
open Go.RowKit
set_option linter.unusedVariables false

structure DS (G : Gr) (g1 g2 : Nat) (w wr : World) (dist : Nat → Int) (dn : Nat → Bool) : Prop where
  rd : IR wr .i64 g1 G.n dist
  rn : BR wr g2 G.n dn
  fr : w.grownBy wr none
  lo1 : w.heap.size ≤ g1
  lo2 : w.heap.size ≤ g2
  ne : g1 ≠ g2
theorem DS.step {G : Gr} {g1 g2 : Nat} {w wr wr' : World} {dist : Nat → Int} {dn : Nat → Bool} (h : DS G g1 g2 w wr dist dn) (hg : wr.grownBy wr' none) : DS G g1 g2 w wr' dist dn := ⟨h.rd.step hg, h.rn.step hg, grown_step h.fr hg, h.lo1, h.lo2, h.ne⟩
theorem DS.setD {G : Gr} {g1 g2 : Nat} {w wr : World} {dist : Nat → Int} {dn : Nat → Bool} (h : DS G g1 g2 w wr dist dn) (v : Nat) (hv : v < G.n) (x : Int) : DS G g1 g2 w (wr.setCell ⟨g1, v, none⟩ (.int .i64 x)) (upd dist v x) dn :=
  ⟨h.rd.set v hv x, h.rn.setO h.ne v _, grown_set h.fr _ _ h.lo1, h.lo1, h.lo2, h.ne⟩
theorem DS.setN {G : Gr} {g1 g2 : Nat} {w wr : World} {dist : Nat → Int} {dn : Nat → Bool} (h : DS G g1 g2 w wr dist dn) (v : Nat) (hv : v < G.n) (x : Bool) : DS G g1 g2 w (wr.setCell ⟨g2, v, none⟩ (.bool x)) dist (upd dn v x) :=
  ⟨h.rd.setO (fun e => h.ne e.symm) v _, h.rn.set v hv x, grown_set h.fr _ _ h.lo2, h.lo1, h.lo2, h.ne⟩
theorem dinit_upd (i o : Nat) : upd (fun v => if v < i then (-1 : Int) else 0) i (-1) o = if o < i + 1 then -1 else 0 := by
  by_cases h1 : o = i
  · subst h1; rw [upd_same, if_pos (by omega)]
  · rw [upd_other _ _ h1]
    by_cases h2 : o < i
    · rw [if_pos h2, if_pos (by omega)]
    · rw [if_neg h2, if_neg (by omega)]
theorem DijU.setR {G : Gr} {s H u j v : Nat} {dist : Nat → Int} {dn : Nat → Bool} (h : DijU G s H u j dist dn) (hu : u < G.n) (hvn : v < G.n) (hv : G.succ.getD j 0 = (v : Int)) (he : G.edge u v) (hr : v < G.nreal) (hup : dist v < 0 ∨ dist u + 1 < dist v) : DijU G s H u (j + 1) (upd dist v (dist u + 1)) dn := by
  have := h.set hu hvn hv he (by rw [Gr.wt_real hr]; omega)
  rw [Gr.wt_real hr] at this
  exact this
theorem DijU.setO {G : Gr} {s H u j v : Nat} {dist : Nat → Int} {dn : Nat → Bool} (h : DijU G s H u j dist dn) (hu : u < G.n) (hvn : v < G.n) (hv : G.succ.getD j 0 = (v : Int)) (he : G.edge u v) (hr : ¬ v < G.nreal) (hup : dist v < 0 ∨ dist u < dist v) : DijU G s H u (j + 1) (upd dist v (dist u)) dn := by
  have := h.set hu hvn hv he (by rw [Gr.wt_other hr]; omega)
  rw [Gr.wt_other hr, show dist u + ((0 : Nat) : Int) = dist u by omega] at this
  exact this
/-- What minCycleCost answers. -/
def MinRes (G : Gr) (s : Nat) (w : World) (e : Ending) (w' : World) : Prop := ∃ b : Int, e = .returned (.int .i64 b) ∧ (0 ≤ b → G.least s b.toNat) ∧ b ≤ 5000 ∧ w.grownBy w' none

set_option maxHeartbeats 12800000 in
set_option maxRecDepth 100000 in
theorem min8 (G : Gr) (s : Nat) (fa sa : Option Addr) (fc ns sc : Nat) (w : World) (hG : GrAt G w fa sa fc ns sc) (hs : s < G.nreal) :
    Calls Try.prog 8 #[.int .i64 s, .int .i64 G.nreal, .slice fa (G.n + 1) fc, .slice sa ns sc] w fun e w' => MinRes G s w e w' := by
  obtain ⟨i0, hi0, hz0, hz1, hz2⟩ := info_parts Try.info3
  obtain ⟨i4, hi4, hy0, hy1, hy2⟩ := info_parts Try.info4
  have hre := hG.ok.real
  have hnn := hG.hn
  have hns := hG.hs
  have hsn : s < G.n := by omega
  have HG := hidg hG
  clear hG
  have hsn1 : (s : Int) < G.n := by omega
  go_enter Try.func8, Try.ntmps8
  go_wp2_with (at_make; refine Hid.out ?_)
  refine hidg ?_
  refine wpList_make_full _ rfl _ _ 26 rfl w.heap.size 3 i0 (.int .i64 0) 1 Try.underlying26 hi0 hz0 hz1 _ _ _ _ G.n rfl rfl rfl rfl (by rw [hz2]; omega) (by unfold maxLen; omega) (Nat.le_refl _) ?_
  intro w1 hown1 hgrow1
  have B1 := hidg (ir_new hown1)
  have HG1 := hidg hgrow1
  clear hown1 hgrow1
  go_wp2
  go_loopg [11] G.n (fun q iv wr => ∃ i : Nat, i ≤ G.n ∧ q = G.n - i ∧ iv = .int .i64 i ∧ Hid (IR wr .i64 w.heap.size G.n (fun v => if v < i then -1 else 0) ∧ w.grownBy wr none))
  case atStart => exact ⟨0, Nat.zero_le _, rfl, rfl, by simpa using B1.out, HG1.out⟩
  case round =>
    clear B1 HG1
    obtain ⟨i, hi, rfl, rfl, HX⟩ := hrel
    by_cases hlt : i < G.n
    · have hc := HX.out.1.cell i hlt
      have hf := Rw.free HX.out.1 i hlt
      have R : Hid (IR (wr.setCell ⟨w.heap.size, i, none⟩ (.int .i64 (-1))) .i64 w.heap.size G.n (fun v => if v < i + 1 then -1 else 0) ∧ w.grownBy (wr.setCell ⟨w.heap.size, i, none⟩ (.int .i64 (-1))) none) := by
        refine ⟨(HX.out.1.set i hlt (-1)).congr (fun o ho => ?_), grown_set HX.out.2 _ _ (Nat.le_refl _)⟩
        exact dinit_upd i o
      have hil : (i : Int) < G.n := by omega
      clear HX
      go_wp2
      go_roundg (G.n - (i + 1))
      case rel => exact ⟨i + 1, by omega, rfl, by go_num, R.out⟩
      case measure => omega
    · obtain rfl : i = G.n := by omega
      have hir := HX.out.1.congr (f' := fun _ => -1) (fun o ho => if_pos ho)
      have hg := HX.out.2
      have hsz := hg.size
      have hcgw : w.heap.size < wr.heap.size := hir.lt (by omega)
      have E := hidg (And.intro hir hg)
      clear hir hg HX
      go_wp2_with (at_make; refine Hid.out ?_)
      refine hidg ?_
      refine wpList_make_full _ rfl _ _ 31 rfl wr.heap.size 4 i4 (.bool false) 1 Try.underlying31 hi4 hy0 hy1 _ _ _ _ G.n rfl rfl rfl rfl (by rw [hy2]; omega) (by unfold maxLen; omega) (Nat.le_refl _) ?_
      intro w2 hown2 hgrow2
      have hrn := br_new hown2
      have hir2 := E.out.1.step hgrow2
      have hg2 := grown_step E.out.2 hgrow2
      have hcs := hir2.cell s hsn
      have hfs := Rw.free hir2 s hsn
      generalize hg2e : wr.heap.size = g2 at *
      have D0 : Hid (DS G w.heap.size g2 w (w2.setCell ⟨w.heap.size, s, none⟩ (.int .i64 0)) (upd (fun _ => -1) s 0) (fun _ => false)) := ⟨hir2.set s hsn 0, hrn.setO (by omega) s _, grown_set hg2 _ _ (Nat.le_refl _), Nat.le_refl _, by omega, by omega⟩
      clear hown2 hgrow2 hrn hir2 hg2 E hg2e
      go_wp2
      go_loopg [13] G.n (fun q iv wr => ∃ H : Nat, H ≤ G.n ∧ q = G.n - H ∧ iv = .int .i64 H ∧ Hid (∃ dist dn, DS G w.heap.size g2 w wr dist dn ∧ Dij G s H dist dn))
      case atStart => exact ⟨0, Nat.zero_le _, rfl, rfl, _, _, D0.out, Dij.init hsn⟩
      case round =>
        clear D0 hcs hfs
        obtain ⟨H, hH, rfl, rfl, HX⟩ := hrel
        obtain ⟨dist, dn, hS, hD⟩ := HX.out
        clear HX
        by_cases hlt : H < G.n
        · have hHl : (H : Int) < G.n := by omega
          have E := hidg (And.intro hS hD)
          clear hS hD
          go_wp2
          obtain ⟨wo, rfl⟩ : ∃ wo : World, wo = wr := ⟨_, rfl⟩
          go_loopg [14, 15] G.n (fun q uv vv wr => ∃ (k : Nat) (u : Int), k ≤ G.n ∧ q = G.n - k ∧ uv = .int .i64 u ∧ vv = .int .i64 k ∧ Hid (Scan dist dn u k ∧ DS G w.heap.size g2 w wr dist dn))
          case atStart => exact ⟨0, -1, Nat.zero_le _, rfl, rfl, rfl, Scan.init, E.out.1⟩
          case round =>
            obtain ⟨k, u, hk, rfl, rfl, rfl, HX⟩ := hrel
            by_cases hkn : k < G.n
            · have cd := HX.out.2.rd.cell k hkn
              have cn := HX.out.2.rn.cell k hkn
              have hkl : (k : Int) < G.n := by omega
              cases hdn : dn k with
              | true =>
                rw [hdn] at cn
                have HS := hidg (HX.out.1.skip (.inl hdn))
                have HX2 := hidg HX.out.2
                clear HX hdn cd
                go_wp2
                go_quiet (fail)
                go_wp2
                go_roundg (G.n - (k + 1))
                case rel => exact ⟨k + 1, u, by omega, rfl, rfl, by go_num, HS.out, HX2.out.step (grown_drewN _ _ none)⟩
                case measure => omega
              | false =>
                rw [hdn] at cn
                by_cases hd0 : 0 ≤ dist k
                · rcases HX.out.1 with ⟨rfl, _⟩ | ⟨x, rfl, hx, _⟩
                  · have HS := hidg (HX.out.1.take hdn hd0 (.inl rfl))
                    have HX2 := hidg HX.out.2
                    clear HX hdn
                    generalize dist k = y at *
                    have by0 : decide (0 ≤ y) = true := decide_eq_true hd0
                    go_wp2
                    go_quiet (fail)
                    go_wp2
                    go_roundg (G.n - (k + 1))
                    case rel => exact ⟨k + 1, k, by omega, rfl, rfl, by go_num, HS.out, HX2.out.step (grown_drewN _ _ none)⟩
                    case measure => omega
                  · have cx := HX.out.2.rd.cell x (by omega)
                    have hxl : (x : Int) < G.n := by omega
                    by_cases hlx : dist k < dist x
                    · have HS := hidg (HX.out.1.take hdn hd0 (.inr ⟨x, rfl, hlx⟩))
                      have HX2 := hidg HX.out.2
                      clear HX hdn
                      generalize dist k = y at *
                      generalize dist x = z at *
                      have by0 : decide (0 ≤ y) = true := decide_eq_true hd0
                      have by1 : decide (y < z) = true := decide_eq_true hlx
                      have by2 : decide ((x : Int) < 0) = false := decide_eq_false (by omega)
                      go_wp2
                      go_quiet (fail)
                      go_wp2
                      go_roundg (G.n - (k + 1))
                      case rel => exact ⟨k + 1, k, by omega, rfl, rfl, by go_num, HS.out, HX2.out.step (grown_drewN _ _ none)⟩
                      case measure => omega
                    · have HS := hidg (HX.out.1.keep hlx)
                      have HX2 := hidg HX.out.2
                      clear HX hdn
                      generalize dist k = y at *
                      generalize dist x = z at *
                      have by0 : decide (0 ≤ y) = true := decide_eq_true hd0
                      have by1 : decide (y < z) = false := decide_eq_false hlx
                      have by2 : decide ((x : Int) < 0) = false := decide_eq_false (by omega)
                      go_wp2
                      go_quiet (fail)
                      go_wp2
                      go_roundg (G.n - (k + 1))
                      case rel => exact ⟨k + 1, x, by omega, rfl, rfl, by go_num, HS.out, HX2.out.step (grown_drewN _ _ none)⟩
                      case measure => omega
                · have HS := hidg (HX.out.1.skip (.inr (by omega)))
                  have HX2 := hidg HX.out.2
                  clear HX hdn
                  generalize dist k = y at *
                  have by0 : decide (0 ≤ y) = false := decide_eq_false hd0
                  go_wp2
                  go_quiet (fail)
                  go_wp2
                  go_roundg (G.n - (k + 1))
                  case rel => exact ⟨k + 1, u, by omega, rfl, rfl, by go_num, HS.out, HX2.out.step (grown_drewN _ _ none)⟩
                  case measure => omega
            · obtain rfl : k = G.n := by omega
              rcases HX.out.1 with ⟨rfl, _⟩ | ⟨x, rfl, hx, _⟩
              · have hE := E.out.2.stop HX.out.1
                have HT := hidg HX.out.2
                clear HX E
                have HE := hidg hE
                clear hE
                go_wp2
                go_loopg [20, 21] G.n (fun q bv uv wr => ∃ (u : Nat) (b : Int), u ≤ G.n ∧ q = G.n - u ∧ bv = .int .i64 b ∧ uv = .int .i64 u ∧ b ≤ 5000 ∧ -1 ≤ b ∧ Hid (Best G s dist u 0 b ∧ DS G w.heap.size g2 w wr dist dn))
                case atStart => exact ⟨0, -1, Nat.zero_le _, rfl, rfl, rfl, by omega, by omega, Best.init, HT.out⟩
                case round =>
                  clear HT
                  obtain ⟨u, b, hu, rfl, rfl, rfl, hb1, hb2, HX⟩ := hrel
                  by_cases hun : u < G.n
                  · have cd := HX.out.2.rd.cell u hun
                    have hul : (u : Int) < G.n := by omega
                    by_cases hd0 : dist u < 0
                    · have R := hidg (And.intro (Best.skip (j' := 0) HX.out.1 hd0) HX.out.2)
                      clear HX
                      generalize dist u = y at *
                      have by0 : decide (y < 0) = true := decide_eq_true hd0
                      go_wp2
                      go_roundg (G.n - (u + 1))
                      case rel => exact ⟨u + 1, b, by omega, rfl, rfl, by go_num, hb1, hb2, R.out⟩
                      case measure => omega
                    · have hgr := HG.out.step0 HX.out.2.fr
                      obtain ⟨fb, fo, j0, j1, rfl, hj01, hj1, e0, e1, cf0, cf1⟩ := hgr.node u hun
                      have E := hidg (And.intro (HX.out.1.enter e0) (And.intro HX.out.2 (And.intro e0 e1)))
                      have hyh := HE.out.high u hun
                      clear HX e0 e1 hgr
                      have by0 : decide (dist u < 0) = false := decide_eq_false hd0
                      have b32a : (j0 : Int) ≤ 4096 := by omega
                      have b32b : (j1 : Int) ≤ 4096 := by omega
                      generalize hyy : dist u = y at *
                      have HYY := hidg hyy
                      clear hyy
                      go_wp2
                      obtain ⟨wu, rfl⟩ : ∃ wu : World, wu = wr := ⟨_, rfl⟩
                      go_loopg [20, 22] (j1 - j0) (fun q bv jv wr => ∃ (j : Nat) (b : Int), j0 ≤ j ∧ j ≤ j1 ∧ q = j1 - j ∧ bv = .int .i64 b ∧ jv = .int .i64 j ∧ b ≤ 5000 ∧ -1 ≤ b ∧ Hid (Best G s dist u j b ∧ DS G w.heap.size g2 w wr dist dn))
                      case atStart => exact ⟨j0, b, Nat.le_refl _, hj01, rfl, rfl, rfl, hb1, hb2, E.out.1, E.out.2.1⟩
                      case round =>
                        have EJ := hidg E.out.2.2
                        clear E cf0 cf1 cd
                        obtain ⟨j, b, hj0, hjj, rfl, rfl, rfl, hb1, hb2, HX⟩ := hrel
                        have hgr := HG.out.step0 HX.out.2.fr
                        obtain ⟨fb', fo', j0', j1', efa, _, _, e0', e1', cf0, cf1⟩ := hgr.node u hun
                        cases efa
                        obtain rfl : j0 = j0' := by have := EJ.out.1; omega
                        obtain rfl : j1 = j1' := by have := EJ.out.2; omega
                        by_cases hlt2 : j < j1
                        · obtain ⟨xb, xo, v, rfl, hv, ev, hedge, cs⟩ := hgr.succ u j j0 j1 hun e0' e1' hj0 hlt2 hj1
                          have cd := HX.out.2.rd.cell u hun
                          rw [HYY.out] at cd
                          have q1 : (j : Int) < j1 := by omega
                          have q2 : (j : Int) < ns := by omega
                          have q4 : (v : Int) ≤ 4096 := by omega
                          clear hgr e0' e1' cf0
                          by_cases hvs : v = s
                          · subst hvs
                            have HED := hidg hedge
                            clear hedge ev
                            by_cases hup : b < 0 ∨ y + 1 < b
                            · have R := hidg (And.intro (HX.out.1.set HE.out hs hun (by rw [HYY.out]; omega) HED.out (by rw [HYY.out]; exact hup)) HX.out.2)
                              rw [HYY.out] at R
                              clear HX
                              have hy5 : y + 1 ≤ 5000 := by omega
                              rcases hup with hup | hup
                              · have bb : decide (b < 0) = true := decide_eq_true hup
                                go_wp2
                                go_roundg (j1 - (j + 1))
                                case rel => exact ⟨j + 1, y + 1, by omega, by omega, rfl, rfl, by go_num, hy5, by omega, R.out⟩
                                case measure => omega
                              · by_cases hb0 : b < 0
                                · have bb : decide (b < 0) = true := decide_eq_true hb0
                                  go_wp2
                                  go_roundg (j1 - (j + 1))
                                  case rel => exact ⟨j + 1, y + 1, by omega, by omega, rfl, rfl, by go_num, hy5, by omega, R.out⟩
                                  case measure => omega
                                · have bb : decide (b < 0) = false := decide_eq_false hb0
                                  have bb2 : decide (y + 1 < b) = true := decide_eq_true hup
                                  go_wp2
                                  go_roundg (j1 - (j + 1))
                                  case rel => exact ⟨j + 1, y + 1, by omega, by omega, rfl, rfl, by go_num, hy5, by omega, R.out⟩
                                  case measure => omega
                            · have R := hidg (And.intro (HX.out.1.other (.inr (by rw [HYY.out]; omega))) HX.out.2)
                              clear HX
                              have bb : decide (b < 0) = false := decide_eq_false (by omega)
                              have bb2 : decide (y + 1 < b) = false := decide_eq_false (by omega)
                              clear hup
                              go_wp2
                              go_roundg (j1 - (j + 1))
                              case rel => exact ⟨j + 1, b, by omega, by omega, rfl, rfl, by go_num, hb1, hb2, R.out⟩
                              case measure => omega
                          · have bvs : ((v : Int) == (s : Int)) = false := by rw [beq_eq_false_iff_ne]; omega
                            have R := hidg (And.intro (HX.out.1.other (.inl (by omega))) HX.out.2)
                            clear HX hvs hedge ev
                            go_wp2
                            go_roundg (j1 - (j + 1))
                            case rel => exact ⟨j + 1, b, by omega, by omega, rfl, rfl, by go_num, hb1, hb2, R.out⟩
                            case measure => omega
                        · obtain rfl : j1 = j := by omega
                          have R := hidg (And.intro (HX.out.1.node (by omega) 0 rfl) HX.out.2)
                          clear HX hgr e0' e1' cf0
                          go_wp2
                          go_roundg (G.n - (u + 1))
                          case rel => exact ⟨u + 1, b, by omega, rfl, rfl, by go_num, hb1, hb2, R.out⟩
                          case measure => omega
                  · obtain rfl : u = G.n := by omega
                    go_wp2
                    go_ret
                    exact ⟨b, rfl, fun h0 => HX.out.1.least HE.out hs h0, by omega, HX.out.2.fr⟩
              · obtain ⟨fb, fo, j0, j1, rfl, hj01, hj1, e0, e1, _, _⟩ := HG.out.node x hx
                have U0 := hidg (E.out.2.pick x j0 hx HX.out.1 e0)
                have hfn := Rw.free HX.out.2.rn x hx
                have hcn := HX.out.2.rn.cell x hx
                have S0 := hidg (HX.out.2.setN x hx true)
                have hgr := HG.out.step0 S0.out.fr
                obtain ⟨fb', fo', j0', j1', efa, _, _, e0', e1', cf0, cf1⟩ := hgr.node x hx
                cases efa
                obtain rfl : j0 = j0' := by omega
                obtain rfl : j1 = j1' := by omega
                have EJ := hidg (And.intro e0 e1)
                have hxl : (x : Int) < G.n := by omega
                have hx0 : ¬ (x : Int) < 0 := by omega
                have b32a : (j0 : Int) ≤ 4096 := by omega
                have b32b : (j1 : Int) ≤ 4096 := by omega
                clear HX E e0 e1 e0' e1' hgr cf1
                go_wp2
                obtain ⟨wv, rfl⟩ : ∃ wv : World, wv = wr := ⟨_, rfl⟩
                go_loopg [16] (j1 - j0) (fun q jv wr => ∃ j : Nat, j0 ≤ j ∧ j ≤ j1 ∧ q = j1 - j ∧ jv = .int .i64 j ∧ Hid (∃ dist, DS G w.heap.size g2 w wr dist (upd dn x true) ∧ DijU G s H x j dist (upd dn x true)))
                case atStart => exact ⟨j0, Nat.le_refl _, hj01, rfl, rfl, _, S0.out, U0.out⟩
                case round =>
                  clear S0 U0 cf0 hcn hfn
                  obtain ⟨j, hj0, hjj, rfl, rfl, HX⟩ := hrel
                  obtain ⟨dist, hS, hU⟩ := HX.out
                  clear HX
                  have hgr := HG.out.step0 hS.fr
                  obtain ⟨fb', fo', j0', j1', efa, _, _, e0', e1', cf0, cf1⟩ := hgr.node x hx
                  cases efa
                  obtain rfl : j0 = j0' := by have := EJ.out.1; omega
                  obtain rfl : j1 = j1' := by have := EJ.out.2; omega
                  by_cases hlt2 : j < j1
                  · obtain ⟨xb, xo, v, rfl, hv, ev, hedge, cs⟩ := hgr.succ x j j0 j1 hx e0' e1' hj0 hlt2 hj1
                    have cx := hS.rd.cell x hx
                    have cv := hS.rd.cell v hv
                    have fv := Rw.free hS.rd v hv
                    have hx0' := (hU.fin x hx hU.self).1
                    have hxH := hU.uH
                    have hxh : dist x ≤ 4096 := by omega
                    have hvlo := hU.low v hv
                    have q1 : (j : Int) < j1 := by omega
                    have q2 : (j : Int) < ns := by omega
                    have q3 : (v : Int) < G.n := by omega
                    have q4 : (v : Int) ≤ 4096 := by omega
                    clear hgr e0' e1' cf0 hxH
                    have E := hidg (And.intro hS (And.intro hU (And.intro ev hedge)))
                    clear hS hU ev hedge
                    by_cases hvr : v < G.nreal
                    · by_cases hup : dist v < 0 ∨ dist x + 1 < dist v
                      · have R := hidg (And.intro (E.out.1.setD v hv (dist x + 1)) (E.out.2.1.setR hx hv E.out.2.2.1 E.out.2.2.2 hvr hup))
                        clear E
                        generalize dist x = zx at *
                        generalize dist v = zv at *
                        by_cases hv0 : zv < 0
                        · have bb : decide (zv < 0) = true := decide_eq_true hv0
                          clear hup
                          go_wp2
                          go_roundg (j1 - (j + 1))
                          case rel => exact ⟨j + 1, by omega, by omega, rfl, by go_num, _, R.out.1, R.out.2⟩
                          case measure => omega
                        · have bb : decide (zv < 0) = false := decide_eq_false hv0
                          have bb2 : decide (zx + 1 < zv) = true := decide_eq_true (by omega)
                          clear hup
                          go_wp2
                          go_roundg (j1 - (j + 1))
                          case rel => exact ⟨j + 1, by omega, by omega, rfl, by go_num, _, R.out.1, R.out.2⟩
                          case measure => omega
                      · have R := hidg (And.intro E.out.1 (E.out.2.1.keep E.out.2.2.1 (by omega) (by rw [Gr.wt_real hvr]; omega)))
                        clear E
                        generalize dist x = zx at *
                        generalize dist v = zv at *
                        have bb : decide (zv < 0) = false := decide_eq_false (by omega)
                        have bb2 : decide (zx + 1 < zv) = false := decide_eq_false (by omega)
                        clear hup
                        go_wp2
                        go_roundg (j1 - (j + 1))
                        case rel => exact ⟨j + 1, by omega, by omega, rfl, by go_num, _, R.out.1, R.out.2⟩
                        case measure => omega
                    · by_cases hup : dist v < 0 ∨ dist x < dist v
                      · have R := hidg (And.intro (E.out.1.setD v hv (dist x)) (E.out.2.1.setO hx hv E.out.2.2.1 E.out.2.2.2 hvr hup))
                        clear E
                        generalize dist x = zx at *
                        generalize dist v = zv at *
                        by_cases hv0 : zv < 0
                        · have bb : decide (zv < 0) = true := decide_eq_true hv0
                          clear hup
                          go_wp2
                          go_roundg (j1 - (j + 1))
                          case rel => exact ⟨j + 1, by omega, by omega, rfl, by go_num, _, R.out.1, R.out.2⟩
                          case measure => omega
                        · have bb : decide (zv < 0) = false := decide_eq_false hv0
                          have bb2 : decide (zx < zv) = true := decide_eq_true (by omega)
                          clear hup
                          go_wp2
                          go_roundg (j1 - (j + 1))
                          case rel => exact ⟨j + 1, by omega, by omega, rfl, by go_num, _, R.out.1, R.out.2⟩
                          case measure => omega
                      · have R := hidg (And.intro E.out.1 (E.out.2.1.keep E.out.2.2.1 (by omega) (by rw [Gr.wt_other hvr]; omega)))
                        clear E
                        generalize dist x = zx at *
                        generalize dist v = zv at *
                        have bb : decide (zv < 0) = false := decide_eq_false (by omega)
                        have bb2 : decide (zx < zv) = false := decide_eq_false (by omega)
                        clear hup
                        go_wp2
                        go_roundg (j1 - (j + 1))
                        case rel => exact ⟨j + 1, by omega, by omega, rfl, by go_num, _, R.out.1, R.out.2⟩
                        case measure => omega
                  · obtain rfl : j1 = j := by omega
                    have R := hidg (And.intro hS (hU.fin' EJ.out.2))
                    clear hS hU hgr e0' e1' cf0
                    go_wp2
                    go_roundg (G.n - (H + 1))
                    case rel => exact ⟨H + 1, by omega, rfl, by go_num, _, _, R.out.1, R.out.2⟩
                    case measure => omega
        · obtain rfl : H = G.n := by omega
          have hE := hD.done
          have HT := hidg hS
          clear hS hD
          have HE := hidg hE
          clear hE
          go_wp2
          go_loopg [20, 21] G.n (fun q bv uv wr => ∃ (u : Nat) (b : Int), u ≤ G.n ∧ q = G.n - u ∧ bv = .int .i64 b ∧ uv = .int .i64 u ∧ b ≤ 5000 ∧ -1 ≤ b ∧ Hid (Best G s dist u 0 b ∧ DS G w.heap.size g2 w wr dist dn))
          case atStart => exact ⟨0, -1, Nat.zero_le _, rfl, rfl, rfl, by omega, by omega, Best.init, HT.out⟩
          case round =>
            clear HT
            obtain ⟨u, b, hu, rfl, rfl, rfl, hb1, hb2, HX⟩ := hrel
            by_cases hun : u < G.n
            · have cd := HX.out.2.rd.cell u hun
              have hul : (u : Int) < G.n := by omega
              by_cases hd0 : dist u < 0
              · have R := hidg (And.intro (Best.skip (j' := 0) HX.out.1 hd0) HX.out.2)
                clear HX
                generalize dist u = y at *
                have by0 : decide (y < 0) = true := decide_eq_true hd0
                go_wp2
                go_roundg (G.n - (u + 1))
                case rel => exact ⟨u + 1, b, by omega, rfl, rfl, by go_num, hb1, hb2, R.out⟩
                case measure => omega
              · have hgr := HG.out.step0 HX.out.2.fr
                obtain ⟨fb, fo, j0, j1, rfl, hj01, hj1, e0, e1, cf0, cf1⟩ := hgr.node u hun
                have E := hidg (And.intro (HX.out.1.enter e0) (And.intro HX.out.2 (And.intro e0 e1)))
                have hyh := HE.out.high u hun
                clear HX e0 e1 hgr
                have by0 : decide (dist u < 0) = false := decide_eq_false hd0
                have b32a : (j0 : Int) ≤ 4096 := by omega
                have b32b : (j1 : Int) ≤ 4096 := by omega
                generalize hyy : dist u = y at *
                have HYY := hidg hyy
                clear hyy
                go_wp2
                obtain ⟨wu, rfl⟩ : ∃ wu : World, wu = wr := ⟨_, rfl⟩
                go_loopg [20, 22] (j1 - j0) (fun q bv jv wr => ∃ (j : Nat) (b : Int), j0 ≤ j ∧ j ≤ j1 ∧ q = j1 - j ∧ bv = .int .i64 b ∧ jv = .int .i64 j ∧ b ≤ 5000 ∧ -1 ≤ b ∧ Hid (Best G s dist u j b ∧ DS G w.heap.size g2 w wr dist dn))
                case atStart => exact ⟨j0, b, Nat.le_refl _, hj01, rfl, rfl, rfl, hb1, hb2, E.out.1, E.out.2.1⟩
                case round =>
                  have EJ := hidg E.out.2.2
                  clear E cf0 cf1 cd
                  obtain ⟨j, b, hj0, hjj, rfl, rfl, rfl, hb1, hb2, HX⟩ := hrel
                  have hgr := HG.out.step0 HX.out.2.fr
                  obtain ⟨fb', fo', j0', j1', efa, _, _, e0', e1', cf0, cf1⟩ := hgr.node u hun
                  cases efa
                  obtain rfl : j0 = j0' := by have := EJ.out.1; omega
                  obtain rfl : j1 = j1' := by have := EJ.out.2; omega
                  by_cases hlt2 : j < j1
                  · obtain ⟨xb, xo, v, rfl, hv, ev, hedge, cs⟩ := hgr.succ u j j0 j1 hun e0' e1' hj0 hlt2 hj1
                    have cd := HX.out.2.rd.cell u hun
                    rw [HYY.out] at cd
                    have q1 : (j : Int) < j1 := by omega
                    have q2 : (j : Int) < ns := by omega
                    have q4 : (v : Int) ≤ 4096 := by omega
                    clear hgr e0' e1' cf0
                    by_cases hvs : v = s
                    · subst hvs
                      have HED := hidg hedge
                      clear hedge ev
                      by_cases hup : b < 0 ∨ y + 1 < b
                      · have R := hidg (And.intro (HX.out.1.set HE.out hs hun (by rw [HYY.out]; omega) HED.out (by rw [HYY.out]; exact hup)) HX.out.2)
                        rw [HYY.out] at R
                        clear HX
                        have hy5 : y + 1 ≤ 5000 := by omega
                        rcases hup with hup | hup
                        · have bb : decide (b < 0) = true := decide_eq_true hup
                          go_wp2
                          go_roundg (j1 - (j + 1))
                          case rel => exact ⟨j + 1, y + 1, by omega, by omega, rfl, rfl, by go_num, hy5, by omega, R.out⟩
                          case measure => omega
                        · by_cases hb0 : b < 0
                          · have bb : decide (b < 0) = true := decide_eq_true hb0
                            go_wp2
                            go_roundg (j1 - (j + 1))
                            case rel => exact ⟨j + 1, y + 1, by omega, by omega, rfl, rfl, by go_num, hy5, by omega, R.out⟩
                            case measure => omega
                          · have bb : decide (b < 0) = false := decide_eq_false hb0
                            have bb2 : decide (y + 1 < b) = true := decide_eq_true hup
                            go_wp2
                            go_roundg (j1 - (j + 1))
                            case rel => exact ⟨j + 1, y + 1, by omega, by omega, rfl, rfl, by go_num, hy5, by omega, R.out⟩
                            case measure => omega
                      · have R := hidg (And.intro (HX.out.1.other (.inr (by rw [HYY.out]; omega))) HX.out.2)
                        clear HX
                        have bb : decide (b < 0) = false := decide_eq_false (by omega)
                        have bb2 : decide (y + 1 < b) = false := decide_eq_false (by omega)
                        clear hup
                        go_wp2
                        go_roundg (j1 - (j + 1))
                        case rel => exact ⟨j + 1, b, by omega, by omega, rfl, rfl, by go_num, hb1, hb2, R.out⟩
                        case measure => omega
                    · have bvs : ((v : Int) == (s : Int)) = false := by rw [beq_eq_false_iff_ne]; omega
                      have R := hidg (And.intro (HX.out.1.other (.inl (by omega))) HX.out.2)
                      clear HX hvs hedge ev
                      go_wp2
                      go_roundg (j1 - (j + 1))
                      case rel => exact ⟨j + 1, b, by omega, by omega, rfl, rfl, by go_num, hb1, hb2, R.out⟩
                      case measure => omega
                  · obtain rfl : j1 = j := by omega
                    have R := hidg (And.intro (HX.out.1.node (by omega) 0 rfl) HX.out.2)
                    clear HX hgr e0' e1' cf0
                    go_wp2
                    go_roundg (G.n - (u + 1))
                    case rel => exact ⟨u + 1, b, by omega, rfl, rfl, by go_num, hb1, hb2, R.out⟩
                    case measure => omega
            · obtain rfl : u = G.n := by omega
              go_wp2
              go_ret
              exact ⟨b, rfl, fun h0 => HX.out.1.least HE.out hs h0, by omega, HX.out.2.fr⟩
end Go.Proofs.Qxb6604255a
