import Derived.Test.Qxb6604255aW10
namespace Go.Proofs.Qxb6604255a
open Go.RowKit
set_option linter.unusedVariables false

theorem init_upd (i o : Nat) : upd (fun v => if v < i then (-1 : Int) else 0) i (-1) o = if o < i + 1 then -1 else 0 := by
  by_cases h1 : o = i
  · subst h1; rw [upd_same, if_pos (by omega)]
  · rw [upd_other _ _ h1]
    by_cases h2 : o < i
    · rw [if_pos h2, if_pos (by omega)]
    · rw [if_neg h2, if_neg (by omega)]

theorem Bfs.addN {G : Gr} {s c i : Nat} {L N : List Nat} {cost frm : Nat → Int} {d : Nat → Nat} (h : Bfs G s c L i N cost frm d) (u v : Nat) (hu : u < G.n) (hcu : cost u = c) (hv : v < G.n) (he : G.edge u v) (hcv : cost v = -1) (hr : v < G.nreal) :
    Bfs G s c L i (N ++ [v]) (upd cost v ((c : Int) + 1)) (upd frm v u) (upd d v (d u + 1)) := by
  have := h.add u v hu hcu hv he hcv L (N ++ [v]) (.inr ⟨rfl, rfl, hr⟩)
  rw [Gr.wt_real hr] at this
  exact this
theorem Bfs.addL {G : Gr} {s c i : Nat} {L N : List Nat} {cost frm : Nat → Int} {d : Nat → Nat} (h : Bfs G s c L i N cost frm d) (u v : Nat) (hu : u < G.n) (hcu : cost u = c) (hv : v < G.n) (he : G.edge u v) (hcv : cost v = -1) (hr : ¬ v < G.nreal) :
    Bfs G s c (L ++ [v]) i N (upd cost v (c : Int)) (upd frm v u) (upd d v (d u + 1)) := by
  have := h.add u v hu hcu hv he hcv (L ++ [v]) N (.inl ⟨rfl, rfl, hr⟩)
  rw [Gr.wt_other hr, show (c : Int) + ((0 : Nat) : Int) = c by omega] at this
  exact this

theorem ss_init {G : Gr} {w w2 : World} {rg s : Nat} (hs : s < G.n) (h1 : IR w2 .i32 rg G.n (fun _ => 0)) (h2 : IR w2 .i32 w.heap.size G.n (fun _ => -1)) (h3 : w.grownBy w2 none) (h4 : w.heap.size < rg) :
    SS G w.heap.size rg w2.heap.size w ((w2.setCell ⟨w.heap.size, s, none⟩ (.int .i32 0)).alloc (.cells #[.int .i32 (s : Int)] 21)) (.slice (some ⟨w2.heap.size, 0, none⟩) 1 1) (.slice none 0 0) [s] [] (upd (fun _ => -1) s 0) (fun _ => 0) := by
  have hn : 0 < G.n := by omega
  have l1 := h1.lt hn
  have l2 := h2.lt hn
  have hz : (w2.setCell ⟨w.heap.size, s, none⟩ (.int .i32 0)).heap.size = w2.heap.size := by simp [World.setCell]
  have hga : (w2.setCell ⟨w.heap.size, s, none⟩ (.int .i32 0)).grownBy ((w2.setCell ⟨w.heap.size, s, none⟩ (.int .i32 0)).alloc (.cells #[.int .i32 (s : Int)] 21)) none := World.grownBy_alloc _ _ _
  refine ⟨?_, owns_nil, (fun g _ => by simp [Value.ownBlock]), ?_, ?_, ?_, ?_, Nat.le_refl _, by omega, l2, l1, by omega⟩
  · have := owns_lit (w2.setCell ⟨w.heap.size, s, none⟩ (.int .i32 0)) (.int .i32 (s : Int)) 21
    rw [hz] at this
    exact this
  · exact (h2.set s hs 0).step hga
  · exact (h1.setO (by omega) s _).step hga
  · exact grown_step (grown_set h3 _ _ (Nat.le_refl _)) hga
  · have := hga.size; omega

set_option maxHeartbeats 12800000 in
set_option maxRecDepth 100000 in
theorem short16 (G : Gr) (s db : Nat) (fa sa : Option Addr) (fc ns sc : Nat) (w : World) (hD : DgAt G w db fa sa fc ns sc) (hG : GrAt G w fa sa fc ns sc) (hP : Plainly sa) (hs : s < G.nreal) (C0 : Nat) (hcl : G.closed s C0) :
    Calls Try.prog 16 #[.pointer (some ⟨db, 0, none⟩), .int .i64 s] w fun e w' => ShortRes G s w e w' := by
  obtain ⟨i0, hi0, hz0, hz1, hz2⟩ := info_parts Try.info21
  have hre := hG.ok.real
  have hnn := hG.hn
  have hns := hG.hs
  have hsn : s < G.n := by omega
  have HD := hidg hD
  have HG := hidg hG
  have HP := hidg hP
  have HCL := hidg hcl
  have d1 := hD.fst
  clear hD hG hP hcl
  have hsn1 : (s : Int) < G.n := by omega
  have hdb : db < w.heap.size := World.block_lt_of_cell? _ _ d1
  go_enter Try.func16, Try.ntmps16
  go_wp2_with (at_make; refine Hid.out ?_)
  refine hidg ?_
  refine wpList_make_full _ rfl _ _ 22 rfl w.heap.size 21 i0 (.int .i32 0) 1 Try.underlying22 hi0 hz0 hz1 _ _ _ _ G.n rfl rfl rfl rfl (by rw [hz2]; omega) (by unfold maxLen; omega) (Nat.le_refl _) ?_
  intro w1 hown1 hgrow1
  have B1 := hidg (ir_new hown1)
  have HG1 := hidg hgrow1
  clear hown1 hgrow1
  go_wp2
  go_loopg [25] G.n (fun q iv wr => ∃ i : Nat, i ≤ G.n ∧ q = G.n - i ∧ iv = .int .i64 i ∧ Hid (IR wr .i32 w.heap.size G.n (fun v => if v < i then -1 else 0) ∧ w.grownBy wr none))
  case atStart => exact ⟨0, Nat.zero_le _, rfl, rfl, by simpa using B1.out, HG1.out⟩
  case round =>
    clear B1 HG1 d1
    obtain ⟨i, hi, rfl, rfl, HX⟩ := hrel
    by_cases hlt : i < G.n
    · have hc := HX.out.1.cell i hlt
      have hf := Rw.free HX.out.1 i hlt
      have R : Hid (IR (wr.setCell ⟨w.heap.size, i, none⟩ (.int .i32 (-1))) .i32 w.heap.size G.n (fun v => if v < i + 1 then -1 else 0) ∧ w.grownBy (wr.setCell ⟨w.heap.size, i, none⟩ (.int .i32 (-1))) none) := by
        refine ⟨(HX.out.1.set i hlt (-1)).congr (fun o ho => ?_), grown_set HX.out.2 _ _ (Nat.le_refl _)⟩
        exact init_upd i o
      have hil : (i : Int) < G.n := by omega
      clear HX
      go_wp2
      go_roundg (G.n - (i + 1))
      case rel => exact ⟨i + 1, by omega, rfl, by go_num, R.out⟩
      case measure => omega
    · obtain rfl : i = G.n := by omega
      have hir := HX.out.1.congr (f' := fun _ => -1) (fun o ho => if_pos ho)
      have hg := HX.out.2
      have d1 := (HD.out.step0 hg).fst
      have hsz := hg.size
      have hcgw : w.heap.size < wr.heap.size := hir.lt (by omega)
      have E := hidg (And.intro hir hg)
      clear hir hg HX
      go_wp2_with (at_make; refine Hid.out ?_)
      refine hidg ?_
      refine wpList_make_full _ rfl _ _ 22 rfl wr.heap.size 21 i0 (.int .i32 0) 1 Try.underlying22 hi0 hz0 hz1 _ _ _ _ G.n rfl rfl rfl rfl (by rw [hz2]; omega) (by unfold maxLen; omega) (Nat.le_refl _) ?_
      intro w2 hown2 hgrow2
      have hrf := ir_new hown2
      have hir2 := E.out.1.step hgrow2
      have hg2 := grown_step E.out.2 hgrow2
      have hcs := hir2.cell s hsn
      have hfs := Rw.free hir2 s hsn
      have hrl := hrf.lt (by omega : 0 < G.n)
      have E2 := hidg (And.intro hrf (And.intro hir2 hg2))
      clear hown2 hgrow2 hrf hir2 hg2 E d1
      generalize hrg : wr.heap.size = rg at *
      clear hrg
      have SI := hidg (ss_init hsn E2.out.1 E2.out.2.1 E2.out.2.2 hcgw)
      clear E2
      have BI := hidg (Bfs.init (G := G) (s := s) hsn hre (fun _ => 0))
      have CI : Hid (cnt (unseen (upd (fun _ => -1) s 0)) G.n + [s].length ≤ G.n + 1) := by have := cnt_le (unseen (upd (fun _ => -1) s 0)) G.n; show _ + 1 ≤ G.n + 1; omega
      go_wp2
      go_loopg [8, 9] (G.n + 1) (fun q vl cv wr => ∃ c : Nat, c ≤ G.n ∧ cv = .int .i32 c ∧ Hid (∃ L cost frm d, SS G w.heap.size rg w2.heap.size w wr vl (.slice none 0 0) L [] cost frm ∧ Bfs G s c L 0 [] cost frm d ∧ cnt (unseen cost) G.n + L.length ≤ q))
      case atStart => exact ⟨0, Nat.zero_le _, rfl, _, _, _, _, SI.out, BI.out, CI.out⟩
      case round =>
        clear SI BI CI hcs hfs
        obtain ⟨c, hcn, rfl, HX⟩ := hrel
        obtain ⟨L, cost, frm, d, hS, hB, hq⟩ := HX.out
        clear HX
        have hL0 : 0 < L.length := by
          cases L with
          | nil => exact (hB.none _ HCL.out).elim
          | cons a l => simp
        obtain ⟨lb, lcap, rfl, hlb1, hlb2, hlcap⟩ := owns_ao hS.ol hL0
        have hsize := hB.size
        have hl1 : decide (0 < L.length) = true := decide_eq_true hL0
        have E := hidg (And.intro hS (And.intro hB (And.intro hq hL0)))
        clear hS hB hq hL0 hlb1 hlb2 hlcap
        go_wp2
        obtain ⟨wo, rfl⟩ : ∃ wo : World, wo = wr := ⟨_, rfl⟩
        obtain ⟨gko, rfl⟩ : ∃ gko : Nat, gko = gk := ⟨_, rfl⟩
        go_loopg [8, 10, 11] (cnt (unseen cost) G.n + L.length) (fun q vl vn iv wr => ∃ i : Nat, i ≤ 5000 ∧ iv = .int .i64 i ∧ Hid (∃ L N cost frm d, SS G w.heap.size rg w2.heap.size w wr vl vn L N cost frm ∧ Bfs G s c L i N cost frm d ∧ cnt (unseen cost) G.n + (L.length - i) ≤ q ∧ 0 < L.length ∧ cnt (unseen cost) G.n + N.length + 1 ≤ gko))
        case atStart => exact ⟨0, by omega, rfl, L, [], cost, frm, d, E.out.1, E.out.2.1, by omega, E.out.2.2.2, by have := E.out.2.2.1; have := E.out.2.2.2; simp; omega⟩
        case round =>
          clear E hsize hl1
          obtain ⟨i, hi5, rfl, HX⟩ := hrel
          obtain ⟨L, N, cost, frm, d, hS, hB, hq, hL0, hqo⟩ := HX.out
          clear HX
          obtain ⟨lb, lcap, rfl, hlb1, hlb2, hlcap⟩ := owns_ao hS.ol hL0
          obtain ⟨nao, ncap, rfl, _⟩ := owns_shape hS.on
          have hsize := hB.size
          have hLn : L.length ≤ 4096 := by omega
          have hLn1 : (L.length : Int) ≤ 4096 := by omega
          by_cases hiL : i < L.length
          · have hiL1 : (i : Int) < L.length := by omega
            obtain ⟨u, huL⟩ : ∃ u, L[i]? = some u := ⟨_, List.getElem?_eq_getElem hiL⟩
            have hlu := hB.lev u (List.mem_of_getElem? huL)
            have hu := hlu.1
            have clu : wr.cell? ⟨lb, i, none⟩ = some (.int .i32 (u : Int)) := by
              have := owns_cell hS.ol i _ (I32_get L i hiL)
              rw [List.getD_eq_getElem?_getD, huL] at this
              exact this
            have ccu := hS.rc.cell u hu
            rw [hlu.2] at ccu
            have hdg := HD.out.step0 hS.fr
            have hgr := HG.out.step0 hS.fr
            obtain ⟨fb, fo, j0, j1, rfl, hj01, hj1, e0, e1, _, _⟩ := hgr.node u hu
            have hun : (u : Int) < G.n := by omega
            have hun2 : (u : Int) < 4096 := by omega
            have E := hidg (And.intro hS (And.intro hB (And.intro hq (And.intro hL0 (And.intro hqo (And.intro huL (And.intro hdg (And.intro hgr (And.intro e0 e1)))))))))
            clear hS hB hq hL0 hqo huL hdg hgr e0 e1 hlu hlb1 hlb2 hlcap hsize
            go_wp2_with fail
            refine (successors19 G u db (some ⟨fb, fo, none⟩) sa fc ns sc wr E.out.2.2.2.2.2.2.1 E.out.2.2.2.2.2.2.2.1 HP.out hu j0 j1 E.out.2.2.2.2.2.2.2.2.1 E.out.2.2.2.2.2.2.2.2.2).mono ?_
            rintro e w3 ⟨ra, rcp, rfl, hra, hg3⟩
            have HRA := hidg hra
            have E3 : Hid (SS G w.heap.size rg w2.heap.size w w3 (.slice (some ⟨lb, 0, none⟩) L.length lcap) (.slice nao N.length ncap) L N cost frm) := E.out.1.step hg3
            clear hra hg3 clu ccu
            go_wp2
            obtain ⟨wm, rfl⟩ : ∃ wm : World, wm = wr := ⟨_, rfl⟩
            obtain ⟨gkm, rfl⟩ : ∃ gkm : Nat, gkm = gk := ⟨_, rfl⟩
            go_loopg [8, 10, 71] (j1 - j0) (fun q vl vn tv wr => ∃ t : Nat, t ≤ j1 - j0 ∧ q = j1 - j0 - t ∧ tv = .int .i64 t ∧ Hid (∃ L N cost frm d, SS G w.heap.size rg w2.heap.size w wr vl vn L N cost frm ∧ Bfs G s c L i N cost frm d ∧ L[i]? = some u ∧ G.bpart s cost c u (j0 + t) ∧ cnt (unseen cost) G.n + (L.length - i) ≤ gkm ∧ 0 < L.length ∧ cnt (unseen cost) G.n + N.length + 1 ≤ gko))
            case atStart => exact ⟨0, Nat.zero_le _, rfl, rfl, L, N, cost, frm, d, E3.out, E.out.2.1, E.out.2.2.2.2.2.1, Gr.bpart_zero E.out.2.2.2.2.2.2.2.2.1, E.out.2.2.1, E.out.2.2.2.1, E.out.2.2.2.2.1⟩
            case round =>
              have EJ := hidg E.out.2.2.2.2.2.2.2.2
              clear E E3
              obtain ⟨t, ht, rfl, rfl, HX⟩ := hrel
              obtain ⟨L, N, cost, frm, d, hS, hB, huL, hP, hq, hL0, hqo⟩ := HX.out
              clear HX
              obtain ⟨lb, lcap, rfl, hlb1, hlb2, hlcap⟩ := owns_ao hS.ol hL0
              obtain ⟨nao, ncap, rfl, _⟩ := owns_shape hS.on
              have hsize := hB.size
              by_cases htj : t < j1 - j0
              · have hgr := HG.out.step0 hS.fr
                obtain ⟨xb, xo, v, rfl, hv, ev, hedge, cs⟩ := hgr.succ u (j0 + t) j0 j1 hu EJ.out.1 EJ.out.2 (by omega) (by omega) hj1
                rw [← Nat.add_assoc] at cs
                have hra := HRA.out (by omega) xb xo rfl
                have hdr := (HD.out.step0 hS.fr).real
                have ccv := hS.rc.cell v hv
                have fcv := Rw.free hS.rc v hv
                have crv := hS.rf.cell v hv
                have q1 : (t : Int) < ((j1 - j0 : Nat) : Int) := by omega
                have q3 : (v : Int) < G.n := by omega
                have q4 : (v : Int) ≤ 4096 := by omega
                have q5 : (c : Int) ≤ 4096 := by omega
                have E := hidg (And.intro hS (And.intro hB (And.intro huL (And.intro hP (And.intro hq (And.intro hL0 (And.intro hqo (And.intro ev hedge))))))))
                subst hra
                clear hS hB huL hP hq hL0 hqo ev hedge hgr hlb1 hlb2 hlcap hsize
                by_cases hvs : v = s
                · subst hvs
                  clear ccv fcv crv
                  go_wp2_with fail
                  refine (rotated20 G v u db rg G.n c (some ⟨fb, fo, none⟩) (some ⟨xb, xo, none⟩) fc ns sc cost frm d wr (HD.out.step0 E.out.1.fr) HG.out.ok hnn E.out.1.rf E.out.2.1.tree hs E.out.2.1.start hu (E.out.2.1.lev u (List.mem_of_getElem? E.out.2.2.1)).2 (by omega) E.out.2.2.2.2.2.2.2.2).mono ?_
                  intro e w6 hres
                  have HRES := hidg (short_of E.out.1.fr hres (E.out.2.1.min hs))
                  obtain ⟨rv, rC, rfl, _⟩ := hres
                  go_wp2
                  go_ret
                  exact HRES.out
                · have bvs : ((v : Int) == (s : Int)) = false := by rw [beq_eq_false_iff_ne]; omega
                  have HVS := hidg hvs
                  clear hvs
                  by_cases hvr : v < G.nreal
                  · by_cases hy : cost v = -1
                    · have hyb : cost v = -1 := hy
                      rw [hy] at ccv
                      have HY := hidg hy
                      clear hy
                      have S1 := hidg (E.out.1.set v hv ((c : Int) + 1) (u : Int))
                      have fr2 : (wr.setCell ⟨w.heap.size, v, none⟩ (.int .i32 ((c : Int) + 1))).frozen? ⟨rg, v, none⟩ = false := Rw.free (E.out.1.rf.setO E.out.1.ne v _) v hv
                      have cr2 : (wr.setCell ⟨w.heap.size, v, none⟩ (.int .i32 ((c : Int) + 1))).cell? ⟨rg, v, none⟩ = some (.int .i32 (frm v)) := (E.out.1.rf.setO E.out.1.ne v _).cell v hv
                      have hNn : N.length ≤ 4096 := by have := E.out.2.1.size; omega
                      clear hyb
                      go_wp2_with (at_builtin; refine Hid.out ?_)
                      refine hidg ?_
                      refine wpList_app1g ((wr.setCell ⟨w.heap.size, v, none⟩ (.int .i32 ((c : Int) + 1))).setCell ⟨rg, v, none⟩ (.int .i32 (u : Int))) rfl _ _ 22 rfl w2.heap.size 21 i0 (.int .i32 0) 4 Try.underlying22 hi0 hz0 hz1 hz2 rfl _ N.length (I32 N) S1.out.on _ _ rfl rfl (by simp [World.setCell]) rfl (by unfold maxLen; omega) (by omega) S1.out.sz ?_
                      intro v6 w6 hown6 hgr6
                      have S6 := hidg (S1.out.appN v hown6 hgr6)
                      clear hown6 hgr6
                      go_wp2
                      go_roundg (j1 - j0 - (t + 1))
                      case rel =>
                        have hlu := E.out.2.1.lev u (List.mem_of_getElem? E.out.2.2.1)
                        refine ⟨t + 1, by omega, rfl, by go_num, _, _, _, _, _, S6.out, E.out.2.1.addN u v hu hlu.2 hv E.out.2.2.2.2.2.2.2.2 HY.out hvr, E.out.2.2.1, Gr.bpart_step (Gr.bpart_upd E.out.2.2.2.1 HY.out _) E.out.2.2.2.2.2.2.2.1 HVS.out (by rw [upd_same]; omega) (by rw [upd_same, Gr.wt_real hvr]; omega), ?_, ?_, ?_⟩
                        · have h1 := unseen_drop (n := G.n) (y := ((c : Int) + 1)) hv HY.out (by omega)
                          have h2 := E.out.2.2.2.2.1
                          simp; omega
                        · have h2 := E.out.2.2.2.2.2.1
                          simp; omega
                        · have h1 := unseen_drop (n := G.n) (y := ((c : Int) + 1)) hv HY.out (by omega)
                          have h2 := E.out.2.2.2.2.2.2.1
                          simp; omega
                      case measure => omega
                    · have hyb := E.out.2.1.bound v hv
                      have hy1 : 0 ≤ cost v ∧ cost v ≤ c + G.wt v := by rcases hyb with h | h; exact absurd h hy; exact h
                      have HY := hidg hy1
                      rw [Gr.wt_real hvr] at hy1
                      obtain ⟨hy2, hy3⟩ := hy1
                      generalize hyy : cost v = y at *
                      have HYY := hidg hyy
                      clear hyy hyb
                      have by1 : (y != -1) = true := by rw [bne_iff_ne]; exact hy
                      have by2 : y ≤ ((c : Int) + 1) := by omega
                      clear hy
                      go_wp2
                      go_roundg (j1 - j0 - (t + 1))
                      case rel => exact ⟨t + 1, by omega, rfl, by go_num, L, N, cost, frm, d, E.out.1, E.out.2.1, E.out.2.2.1, Gr.bpart_step E.out.2.2.2.1 E.out.2.2.2.2.2.2.2.1 HVS.out (by rw [HYY.out]; exact HY.out.1) (by rw [HYY.out]; exact HY.out.2), E.out.2.2.2.2.1, E.out.2.2.2.2.2.1, E.out.2.2.2.2.2.2.1⟩
                      case measure => omega
                  · by_cases hy : cost v = -1
                    · have hyb : cost v = -1 := hy
                      rw [hy] at ccv
                      have HY := hidg hy
                      clear hy
                      have S1 := hidg (E.out.1.set v hv (c : Int) (u : Int))
                      have fr2 : (wr.setCell ⟨w.heap.size, v, none⟩ (.int .i32 (c : Int))).frozen? ⟨rg, v, none⟩ = false := Rw.free (E.out.1.rf.setO E.out.1.ne v _) v hv
                      have cr2 : (wr.setCell ⟨w.heap.size, v, none⟩ (.int .i32 (c : Int))).cell? ⟨rg, v, none⟩ = some (.int .i32 (frm v)) := (E.out.1.rf.setO E.out.1.ne v _).cell v hv
                      have hNn : L.length ≤ 4096 := by have := E.out.2.1.size; omega
                      clear hyb
                      go_wp2_with (at_builtin; refine Hid.out ?_)
                      refine hidg ?_
                      refine wpList_app1g ((wr.setCell ⟨w.heap.size, v, none⟩ (.int .i32 (c : Int))).setCell ⟨rg, v, none⟩ (.int .i32 (u : Int))) rfl _ _ 22 rfl w2.heap.size 21 i0 (.int .i32 0) 4 Try.underlying22 hi0 hz0 hz1 hz2 rfl _ L.length (I32 L) S1.out.ol _ _ rfl rfl (by simp [World.setCell]) rfl (by unfold maxLen; omega) (by omega) S1.out.sz ?_
                      intro v6 w6 hown6 hgr6
                      have S6 := hidg (S1.out.appL v hown6 hgr6)
                      clear hown6 hgr6
                      go_wp2
                      go_roundg (j1 - j0 - (t + 1))
                      case rel =>
                        have hlu := E.out.2.1.lev u (List.mem_of_getElem? E.out.2.2.1)
                        refine ⟨t + 1, by omega, rfl, by go_num, _, _, _, _, _, S6.out, E.out.2.1.addL u v hu hlu.2 hv E.out.2.2.2.2.2.2.2.2 HY.out hvr, by rw [List.getElem?_append_left (List.getElem?_eq_some_iff.1 E.out.2.2.1).1]; exact E.out.2.2.1, Gr.bpart_step (Gr.bpart_upd E.out.2.2.2.1 HY.out _) E.out.2.2.2.2.2.2.2.1 HVS.out (by rw [upd_same]; omega) (by rw [upd_same, Gr.wt_other hvr]; omega), ?_, ?_, ?_⟩
                        · have h1 := unseen_drop (n := G.n) (y := (c : Int)) hv HY.out (by omega)
                          have h2 := E.out.2.2.2.2.1
                          simp; omega
                        · have h2 := E.out.2.2.2.2.2.1
                          simp
                        · have h1 := unseen_drop (n := G.n) (y := (c : Int)) hv HY.out (by omega)
                          have h2 := E.out.2.2.2.2.2.2.1
                          simp; omega
                      case measure => omega
                    · have hyb := E.out.2.1.bound v hv
                      have hy1 : 0 ≤ cost v ∧ cost v ≤ c + G.wt v := by rcases hyb with h | h; exact absurd h hy; exact h
                      have HY := hidg hy1
                      rw [Gr.wt_other hvr] at hy1
                      obtain ⟨hy2, hy3⟩ := hy1
                      generalize hyy : cost v = y at *
                      have HYY := hidg hyy
                      clear hyy hyb
                      have by1 : (y != -1) = true := by rw [bne_iff_ne]; exact hy
                      have by2 : y ≤ (c : Int) := by omega
                      clear hy
                      go_wp2
                      go_roundg (j1 - j0 - (t + 1))
                      case rel => exact ⟨t + 1, by omega, rfl, by go_num, L, N, cost, frm, d, E.out.1, E.out.2.1, E.out.2.2.1, Gr.bpart_step E.out.2.2.2.1 E.out.2.2.2.2.2.2.2.1 HVS.out (by rw [HYY.out]; exact HY.out.1) (by rw [HYY.out]; exact HY.out.2), E.out.2.2.2.2.1, E.out.2.2.2.2.2.1, E.out.2.2.2.2.2.2.1⟩
                      case measure => omega
              · obtain rfl : t = j1 - j0 := by omega
                have hju : j0 + (j1 - j0) = j1 := by omega
                rw [hju] at hP
                have hlu := hB.lev u (List.mem_of_getElem? huL)
                have hil := (List.getElem?_eq_some_iff.1 huL).1
                have hi4 : i + 1 ≤ 5000 := by omega
                have E := hidg (And.intro hS (And.intro (hB.next u huL (Gr.bpart_proc hP EJ.out.2 hlu.2)) (And.intro hq (And.intro hL0 (And.intro hqo hil)))))
                clear hS hB huL hP hq hL0 hqo hlb1 hlb2 hlcap hsize hju hlu hil
                go_wp2
                go_roundg (cnt (unseen cost) G.n + (L.length - (i + 1)))
                case rel => exact ⟨i + 1, hi4, by go_num, L, N, cost, frm, d, E.out.1, E.out.2.1, Nat.le_refl _, E.out.2.2.2.1, E.out.2.2.2.2.1⟩
                case measure => have h1 := E.out.2.2.1; have h2 := E.out.2.2.2.2.2; omega
          · have hiL1 : ¬ (i : Int) < L.length := by omega
            have E := hidg (And.intro hS (And.intro (hB.level (by omega) hL0) hqo))
            have hcn1 : c + 1 ≤ G.n := by have := (hB.level (by omega) hL0).size; omega
            clear hS hB hqo hq hsize
            go_wp2
            go_roundg (cnt (unseen cost) G.n + N.length)
            case rel => exact ⟨c + 1, hcn1, by go_num, N, cost, frm, d, E.out.1.turn, E.out.2.1, Nat.le_refl _⟩
            case measure => have := E.out.2.2; omega
end Go.Proofs.Qxb6604255a
