import Derived.Test.Qxb6604255aW17
namespace Go.Proofs.Qxb6604255a
open Go.RowKit
set_option linter.unusedVariables false

theorem adv_get {K : List (Nat × Nat)} {u j j' i : Nat} {f : Nat × Nat} (h : (K ++ [(u, j)])[i]? = some f) : ∃ g, (K ++ [(u, j')])[i]? = some g ∧ g.1 = f.1 := by
  rcases snoc_old h with ⟨_, h⟩ | ⟨rfl, rfl⟩
  · exact ⟨f, snoc_lt h, rfl⟩
  · exact ⟨(u, j'), snoc_get _ _, rfl⟩
/-- x is the least of nr and the first t of c. -/
def MinSo (nr : Nat) (c : List Nat) (t x : Nat) : Prop := (x = nr ∨ ∃ t', t' < t ∧ c.getD t' 0 = x) ∧ ∀ t', t' < t → x ≤ c.getD t' 0
theorem MinSo.init (nr : Nat) (c : List Nat) : MinSo nr c 0 nr := ⟨.inl rfl, fun t' h => by omega⟩
theorem MinSo.take {nr : Nat} {c : List Nat} {t x y : Nat} (h : MinSo nr c t x) (hy : c.getD t 0 = y) (hlt : y ≤ x) : MinSo nr c (t + 1) y := by
  refine ⟨.inr ⟨t, by omega, hy⟩, fun t' ht' => ?_⟩
  by_cases he : t' = t
  · subst he; omega
  · have := h.2 t' (by omega); omega
theorem MinSo.keep {nr : Nat} {c : List Nat} {t x y : Nat} (h : MinSo nr c t x) (hy : c.getD t 0 = y) (hlt : x ≤ y) : MinSo nr c (t + 1) x := by
  refine ⟨?_, fun t' ht' => ?_⟩
  · rcases h.1 with h1 | ⟨t', h1, h2⟩
    · exact .inl h1
    · exact .inr ⟨t', by omega, h2⟩
  · by_cases he : t' = t
    · subst he; omega
    · exact h.2 t' (by omega)
theorem MinSo.min {nr : Nat} {c : List Nat} {t x y : Nat} (h : MinSo nr c t x) (hy : c.getD t 0 = y) : MinSo nr c (t + 1) (Min.min x y) := by
  by_cases hlt : y ≤ x
  · rw [Nat.min_eq_right hlt]; exact h.take hy hlt
  · rw [Nat.min_eq_left (by omega)]; exact h.keep hy (by omega)
/-- What cycle hands back. -/
def CycleRes (G : Gr) (w : World) (e : Ending) (w' : World) : Prop :=
  (e = .returned (.slice none 0 0) ∧ w.grownBy w' none ∧ ¬ G.Stuck 0) ∨ ∃ s, s < G.nreal ∧ ShortRes G s w e w'

set_option maxHeartbeats 12800000 in
set_option maxRecDepth 100000 in
theorem cycle18 (G : Gr) (db : Nat) (fa sa : Option Addr) (fc ns sc : Nat) (w : World) (hD : DgAt G w db fa sa fc ns sc) (hG : GrAt G w fa sa fc ns sc) (hP : Plainly sa) (hR : G.Ranked G.nreal) :
    Calls Try.prog 18 #[.pointer (some ⟨db, 0, none⟩)] w fun e w' => CycleRes G w e w' := by
  obtain ⟨i0, hi0, hz0, hz1, hz2⟩ := info_parts Try.info43
  obtain ⟨i5, hi5, hy0, hy1, hy2⟩ := info_parts Try.info5
  have hre := hG.ok.real
  have hnn := hG.hn
  have hns := hG.hs
  have HD := hidg hD
  have HG := hidg hG
  have HP := hidg hP
  have HR := hidg hR
  have d1 := hD.fst
  have hdb : db < w.heap.size := World.block_lt_of_cell? _ _ d1
  clear hD hG hP hR
  go_enter Try.func18, Try.ntmps18
  go_wp2_with (at_make; refine Hid.out ?_)
  refine hidg ?_
  refine wpList_make_full _ rfl _ _ 40 rfl w.heap.size 5 i5 (.int .u8 0) 1 Try.underlying40 hi5 hy0 hy1 _ _ _ _ G.n rfl rfl rfl rfl (by rw [hy2]; omega) (by unfold maxLen; omega) (Nat.le_refl _) ?_
  intro w1 hown1 hgrow1
  have hlt1 : w.heap.size < w1.heap.size := owns_lt hown1 rfl
  have P0 : Hid (PS G w.heap.size w1.heap.size w w1 (.slice none 0 0) [] (fun _ => 0)) := ⟨⟨rfl, .inl ⟨rfl, rfl⟩⟩, ir_new hown1, hgrow1, Nat.le_refl _, hlt1, Nat.le_refl _⟩
  have d0 := (HD.out.step0 hgrow1).real
  clear hown1 hgrow1 d1
  go_wp2
  go_loopg [4, 23] G.nreal (fun q vp sv wr => ∃ s : Nat, s ≤ G.nreal ∧ q = G.nreal - s ∧ sv = .int .i64 s ∧ Hid (∃ st fin T wt, PS G w.heap.size w1.heap.size w wr vp [] st ∧ Dfs G st [] fin T wt ∧ ∀ v, v < s → st v = 2))
  case atStart => exact ⟨0, Nat.zero_le _, rfl, rfl, _, _, _, _, P0.out, Dfs.init G, fun v h => by omega⟩
  case round =>
    clear P0 d0
    obtain ⟨s, hs, rfl, rfl, HX⟩ := hrel
    obtain ⟨st, fin, T, wt, hS, hF, hall⟩ := HX.out
    obtain ⟨vp0, hvp0⟩ : ∃ vp0, vp0 = u4 := ⟨_, rfl⟩
    subst hvp0
    clear HX
    by_cases hsr : s < G.nreal
    · have hsn : s < G.n := by omega
      have hsl : (s : Int) < G.nreal := by omega
      have hsl2 : (s : Int) < G.n := by omega
      have cs := hS.row.cell s hsn
      have fs := Rw.free hS.row s hsn
      by_cases hst : st s = 0
      · rw [hst] at cs
        obtain ⟨fb, fo, j0, j1, rfl, hj01, hj1, e0, e1, _, _⟩ := HG.out.node s hsn
        have S1 := hidg (hS.setS s hsn 1)
        have F1 := hidg (hF.start HG.out.ok s j0 hsn hst e0)
        have A1 : Hid (∀ v, v < s → upd st s 1 v = 2) := fun v hv => by rw [upd_other _ _ (by omega)]; exact hall v hv
        have cf := ((HG.out.step0 S1.out.fr).node s hsn)
        obtain ⟨fb', fo', j0', j1', efa, _, _, e0', e1', cf0, _⟩ := cf
        cases efa
        obtain rfl : j0 = j0' := by omega
        have dfst := (HD.out.step0 S1.out.fr).fst
        have hsz := S1.out.sz
        clear hF hall e0 e1 e0' e1' hst
        have b32 : (j0 : Int) ≤ 4096 := by omega
        have b33 : (s : Int) < (G.n : Int) + 1 := by omega
        have b34 : s < G.n + 1 := by omega
        have b35 : (s : Int) ≤ 4096 := by omega
        have hws : IntKind.i32.wrap (s : Int) = (s : Int) := by rw [IntKind.wrap_i32]; omega
        obtain ⟨pa, pcap, rfl, hpm⟩ : ∃ pa pcap, vp0 = .slice pa 0 pcap ∧ pcap ≤ 9223372036854775807 := by
          rcases owns2_shape hS.own with ⟨rfl, _⟩ | ⟨pb, pcap, rfl, hpb1, hpb2, hpc, hpm⟩
          · exact ⟨none, 0, rfl, by omega⟩
          · exact ⟨some ⟨pb, 0, none⟩, pcap, rfl, hpm⟩
        clear hS
        go_wp2
        go_region_law (refine step_app2 (wr.setCell ⟨w.heap.size, s, none⟩ (.int .u8 1)) rfl (.tmp 35) (.tmp 46) 41 rfl w1.heap.size 43 i0 (.agg #[.int .i32 0, .int .i32 0]) 8 Try.underlying41 hi0 hz0 hz1 hz2 rfl _ 0 [] S1.out.own #[.int .i32 (s : Int), .int .i32 (j0 : Int)] _ rfl rfl rfl (by simp [World.setCell]) (F2_one [(s, j0)]) (by unfold maxLen; omega) (by omega) hsz ?_; intro v6 w6 hown6 hgr6)
        have S2 := hidg (S1.out.app (s, j0) hown6 hgr6)
        clear S1 hown6 hgr6 cs fs cf0 dfst hsz hws b32
        go_wp2
        simp only [Act.put]
        simp
        obtain ⟨wo, rfl⟩ : ∃ wo : World, wo = wr := ⟨_, rfl⟩
        go_loopg [4] (sumf (upd wt s (G.deg s + 1)) G.n) (fun q vp wr => Hid (∃ st K fin T wt, PS G w.heap.size w1.heap.size w wr vp K st ∧ Dfs G st K fin T wt ∧ (∀ v, v < s → st v = 2) ∧ st s ≠ 0 ∧ sumf wt G.n ≤ q))
        case atStart => exact ⟨_, _, _, _, _, S2.out, F1.out, A1.out, by rw [upd_same]; omega, Nat.le_refl _⟩
        case round =>
          clear S2 F1 A1
          obtain ⟨st, K, fin, T, wt, hS, hF, hall, hss, hq⟩ := hrel.out
          clear hrel
          by_cases hK0 : K.length = 0
          · obtain rfl : K = [] := List.eq_nil_of_length_eq_zero hK0
            have hs2 : ∀ v, v < s + 1 → st v = 2 := fun v hv => by
              by_cases hvs : v = s
              · subst hvs
                rcases hF.val v hsn with h | h | h
                · exact absurd h hss
                · have := (hF.on v hsn).1 h; simp at this
                · exact h
              · exact hall v (by omega)
            have E := hidg (And.intro hS (And.intro hF hs2))
            obtain ⟨pa2, pcap2, rfl, _⟩ : ∃ pa pcap, u4 = .slice pa 0 pcap ∧ True := by
              rcases owns2_shape hS.own with ⟨rfl, _⟩ | ⟨pb, pcap, rfl, _⟩
              · exact ⟨none, 0, rfl, trivial⟩
              · exact ⟨some ⟨pb, 0, none⟩, pcap, rfl, trivial⟩
            clear hS hF hall hss hq hs2 hK0
            go_wp2
            go_roundg (G.nreal - (s + 1))
            case rel => exact ⟨s + 1, by omega, rfl, by go_num, _, _, _, _, E.out.1, E.out.2.1, E.out.2.2⟩
            case measure => omega
          · obtain ⟨K', ⟨u, j⟩, rfl⟩ : ∃ K' f, K = K' ++ [f] := ⟨K.dropLast, K.getLast (by intro h; simp [h] at hK0), (List.dropLast_concat_getLast _).symm⟩
            have hKl : (K' ++ [(u, j)]).length = K'.length + 1 := by simp
            have hKn : (K' ++ [(u, j)]).length ≤ G.n := by
              have h1 := cnt_list ((K' ++ [(u, j)]).map (·.1)) G.n hF.nod (fun x hx => by
                obtain ⟨f, hf, rfl⟩ := List.mem_map.1 hx
                exact (hF.rng f hf).1)
              rw [List.length_map] at h1
              rw [← h1]; exact cnt_le _ _
            obtain ⟨pb, pcap, rfl, hpb1, hpb2, hpc, hpm⟩ : ∃ pb pcap, u4 = .slice (some ⟨pb, 0, none⟩) (K'.length + 1) pcap ∧ w1.heap.size ≤ pb ∧ pb < wr.heap.size ∧ K'.length + 1 ≤ pcap ∧ pcap ≤ 9223372036854775807 := by
              rcases owns2_shape hS.own with ⟨_, h⟩ | ⟨pb, pcap, h1, h2⟩
              · omega
              · rw [hKl] at h1 h2; exact ⟨pb, pcap, h1, h2⟩
            obtain ⟨c0, c1, f1⟩ := hS.top
            have hrg := hF.rng (u, j) (by simp)
            have hun : u < G.n := hrg.1
            have hgr := HG.out.step0 hS.fr
            have hdg := HD.out.step0 hS.fr
            have dfst := hdg.fst
            have dsuc := hdg.suc
            obtain ⟨fb', fo', ju0, ju1, efa, hju01, hju1, e0, e1, _, cf1⟩ := hgr.node u hun
            cases efa
            have hjle : j ≤ ju1 := by have : (j : Int) ≤ G.first.getD (u + 1) 0 := hrg.2.2; omega
            have hj0le : ju0 ≤ j := by have : G.first.getD u 0 ≤ (j : Int) := hrg.2.1; omega
            have hKn1 : (K'.length : Int) + 1 ≤ 4096 := by omega
            have hun1 : (u : Int) + 1 < (G.n : Int) + 1 := by omega
            have hun2 : (u : Int) ≤ 4096 := by omega
            have b1 : (ju1 : Int) ≤ 4096 := by omega
            have b2 : (j : Int) ≤ 4096 := by omega
            have hpc1 : (K'.length : Int) + 1 ≤ pcap := by omega
            clear hKl hKn hK0 hrg hpb1 hpb2
            by_cases hjj : j = ju1
            · subst hjj
              have cu := hS.row.cell u hun
              have fu := Rw.free hS.row u hun
              have hpop := hF.pop HG.out.ok e1
              have S3 : Hid (∀ nq, PS G w.heap.size w1.heap.size w ((wr.setCell ⟨w.heap.size, u, none⟩ (.int .u8 2)).drewN nq) (.slice (some ⟨pb, 0, none⟩) K'.length pcap) K' (upd st u 2)) := fun nq => (hS.setS u hun 2).pop.step (grown_drewN _ _ none)
              have F3 := hidg hpop
              have A3 : Hid ((∀ v, v < s → upd st u 2 v = 2) ∧ upd st u 2 s ≠ 0) := by
                refine ⟨fun v hv => ?_, ?_⟩
                · by_cases hvu : v = u
                  · subst hvu; exact upd_same _ _ _
                  · rw [upd_other _ _ hvu]; exact hall v hv
                · by_cases hvu : s = u
                  · subst hvu; rw [upd_same]; omega
                  · rw [upd_other _ _ hvu]; exact hss
              have Q3 : Hid (sumf (upd wt u 0) G.n + 1 ≤ gk) := by
                have h1 := sumf_upd wt G.n u 0 hun
                have h2 := hpop.2
                show _ + 1 ≤ gk
                omega
              generalize hstu : st u = y at *
              clear f1 dsuc hS hF hall hss hq hpop hgr hdg e0 e1 hstu
              go_wp2
              go_quiet (fail)
              go_wp2
              go_roundg (sumf (upd wt u 0) G.n)
              case rel => exact ⟨_, _, _, _, _, S3.out _, F3.out.1, A3.out.1, A3.out.2, Nat.le_refl _⟩
              case measure => have := Q3.out; omega
            · have hjlt : j < ju1 := by omega
              have bjj : ((j : Int) == (ju1 : Int)) = false := by rw [beq_eq_false_iff_ne]; omega
              have E4 := hidg (And.intro hS (And.intro hF (And.intro hall (And.intro hss (And.intro hq (And.intro e0 e1))))))
              clear hS hF hall hss hq e0 e1 hgr hdg f1 dsuc hjj
              go_wp2
              go_quiet (fail)
              generalize hwq : wr.drewN nq = wq
              have S4 : PS G w.heap.size w1.heap.size w wq (.slice (some ⟨pb, 0, none⟩) (K'.length + 1) pcap) (K' ++ [(u, j)]) st := by rw [← hwq]; exact E4.out.1.step (grown_drewN _ _ none)
              clear hwq c0 c1 cf1 dfst
              obtain ⟨c0, c1, f1⟩ := S4.top
              have hgr := HG.out.step0 S4.fr
              have dsuc := (HD.out.step0 S4.fr).suc
              obtain ⟨xb, xo, v, rfl, hv, ev, hedge, csv⟩ := hgr.succ u j ju0 ju1 hun E4.out.2.2.2.2.2.1 E4.out.2.2.2.2.2.2 hj0le hjlt hju1
              have H4 := hidg (And.intro S4 (And.intro ev hedge))
              clear S4 hgr ev hedge
              have q2 : (j : Int) < ns := by omega
              have q3 : (v : Int) ≤ 4096 := by omega
              have q4 : (v : Int) < G.n := by omega
              go_wp2
              go_quiet (fail)
              generalize hwz : wq.drewN nq = wz
              have S5 : PS G w.heap.size w1.heap.size w wz (.slice (some ⟨pb, 0, none⟩) (K'.length + 1) pcap) (K' ++ [(u, j)]) st := by rw [← hwz]; exact H4.out.1.step (grown_drewN _ _ none)
              clear hwz c0 c1 f1 dsuc csv
              obtain ⟨_, c1, f1⟩ := S5.top
              have S6 : PS G w.heap.size w1.heap.size w (wz.setCell ⟨pb, K'.length * 2 + 1, none⟩ (.int .i32 ((j : Int) + 1))) (.slice (some ⟨pb, 0, none⟩) (K'.length + 1) pcap) (K' ++ [(u, j + 1)]) st := S5.adv (j + 1)
              have cv := S6.row.cell v hv
              have hjF : (j : Int) < G.first.getD (u + 1) 0 := by have := E4.out.2.2.2.2.2.2; omega
              clear S5
              rcases E4.out.2.1.val v hv with hv0 | hv1 | hv2
              · rw [hv0] at cv
                have fv := Rw.free S6.row v hv
                have S7 := S6.setS v hv 1
                have dfst := (HD.out.step0 S7.fr).fst
                obtain ⟨fb', fo', jv0, jv1, efa, hjv01, hjv1, ev0, ev1, cfv, _⟩ := (HG.out.step0 S7.fr).node v hv
                cases efa
                have hpush := E4.out.2.1.push HG.out.ok hjF H4.out.2.1 hv H4.out.2.2 hv0 ev0
                have hq4 := E4.out.2.2.2.2.1
                have QM : Hid (sumf (upd (upd wt u (wt u - 1)) v (G.deg v + 1)) G.n < gk) := by
                  have h1 := sumf_upd (upd wt u (wt u - 1)) G.n v (G.deg v + 1) hv
                  have h2 := sumf_upd wt G.n u (wt u - 1) hun
                  rw [upd_other _ _ (fun e => hpush.2.2.2 e.symm)] at h1
                  have h3 := hpush.2.1
                  have h4 := hpush.2.2.1
                  show _ < gk
                  omega
                have A7 : Hid ((∀ x, x < s → upd st v 1 x = 2) ∧ upd st v 1 s ≠ 0) := by
                  refine ⟨fun x hx => ?_, ?_⟩
                  · have h1 := E4.out.2.2.1 x hx
                    rw [upd_other _ _ (fun e => by subst e; omega)]; exact h1
                  · by_cases hvs : s = v
                    · subst hvs; rw [upd_same]; omega
                    · rw [upd_other _ _ hvs]; exact E4.out.2.2.2.1
                have H7 := hidg (And.intro S7 hpush.1)
                have own7 : Hid (((wz.setCell ⟨pb, K'.length * 2 + 1, none⟩ (.int .i32 ((j : Int) + 1))).setCell ⟨w.heap.size, v, none⟩ (.int .u8 1)).ownsRow w1.heap.size 43 2 (.slice (some ⟨pb, 0, none⟩) (K'.length + 1) pcap) (K'.length + 1) (F2 (K' ++ [(u, j + 1)]))) := by have := S7.own; rw [List.length_append] at this; exact this
                have b5 : (jv0 : Int) ≤ 4096 := by omega
                have hsz7 := S7.sz
                clear S6 S7 hpush hq4 hv0 ev0 ev1 hjF
                go_wp2_with (at_builtin; refine Hid.out ?_)
                refine hidg ?_
                refine wpList_app2 ((wz.setCell ⟨pb, K'.length * 2 + 1, none⟩ (.int .i32 ((j : Int) + 1))).setCell ⟨w.heap.size, v, none⟩ (.int .u8 1)) rfl _ _ 41 rfl w1.heap.size 43 i0 (.agg #[.int .i32 0, .int .i32 0]) 8 Try.underlying41 hi0 hz0 hz1 hz2 rfl _ (K'.length + 1) (F2 (K' ++ [(u, j + 1)])) own7.out #[.int .i32 (v : Int), .int .i32 (jv0 : Int)] _ rfl rfl rfl (by simp [World.setCell]) (F2_one [(v, jv0)]) (by unfold maxLen; omega) (by omega) hsz7 ?_
                intro v8 w8 hown8 hgr8
                have S8 := hidg (H7.out.1.app (v, jv0) (by rw [List.length_append]; exact hown8) hgr8)
                clear hown8 hgr8
                go_wp2
                go_roundg (sumf (upd (upd wt u (wt u - 1)) v (G.deg v + 1)) G.n)
                case rel => exact ⟨_, _, _, _, _, S8.out, H7.out.2, A7.out.1, A7.out.2, Nat.le_refl _⟩
                case measure => exact QM.out
              · rw [hv1] at cv
                have hmem := (E4.out.2.1.on v hv).1 hv1
                have hdr := (HD.out.step0 S6.fr).real
                have hF4 := E4.out.2.1
                have HF4 := hidg (And.intro hF4 (And.intro hmem H4.out.2.2))
                have hdbz : DgAt G (wz.setCell ⟨pb, K'.length * 2 + 1, none⟩ (.int .i32 ((j : Int) + 1))) db (some ⟨fb, fo, none⟩) (some ⟨xb, xo, none⟩) fc ns sc := HD.out.step0 S6.fr
                have H6 := hidg S6
                obtain ⟨t0, f0, ht0, hf0⟩ : ∃ (t0 : Nat) (f0 : Nat × Nat), (K' ++ [(u, j)])[t0]? = some f0 ∧ f0.1 = v := by
                  obtain ⟨f, hf, hfv⟩ := List.mem_map.1 hmem
                  obtain ⟨t0, h1, h2⟩ := List.getElem_of_mem hf
                  exact ⟨t0, f, by rw [List.getElem?_eq_getElem h1, h2], hfv⟩
                have HT0 := hidg (And.intro ht0 hf0)
                clear S6 hF4 hmem hv1 hjF hdbz ht0 hf0 hdr
                go_wp2
                clear c1 f1 cv
                generalize hwy : wz.setCell ⟨pb, K'.length * 2 + 1, none⟩ (.int .i32 ((j : Int) + 1)) = wy at *
                clear hwy
                obtain ⟨wv, rfl⟩ : ∃ wv : World, wv = wr := ⟨_, rfl⟩
                obtain ⟨gko, rfl⟩ : ∃ gko : Nat, gko = gk := ⟨_, rfl⟩
                go_loopg [8] K'.length (fun q iv wr => q ≤ K'.length ∧ iv = .int .i64 q ∧ wr = wy ∧ Hid (∀ (t : Nat) (g : Nat × Nat), q < t → (K' ++ [(u, j)])[t]? = some g → g.1 ≠ v))
                case atStart => exact ⟨Nat.le_refl _, rfl, rfl, fun t g h1 h2 => by have := (List.getElem?_eq_some_iff.1 h2).1; simp at this; omega⟩
                case round =>
                  obtain ⟨hi, rfl, rfl, HN⟩ := hrel
                  obtain ⟨i, rfl⟩ : ∃ i : Nat, i = gk := ⟨_, rfl⟩
                  obtain ⟨f, hf⟩ : ∃ f, (K' ++ [(u, j)])[i]? = some f := ⟨_, List.getElem?_eq_getElem (by simp; omega)⟩
                  have hil : (i : Int) < (K'.length : Int) + 1 := by omega
                  have ci : wr.cell? ⟨pb, i * 2, none⟩ = some (.int .i32 (f.1 : Int)) := by
                    obtain ⟨g, hg, hgf⟩ := adv_get (j' := j + 1) hf
                    rw [← hgf]
                    exact (H6.out.at (by simp) i g hg).1
                  by_cases hfv : f.1 = v
                  · rw [hfv] at ci
                    have hdr := (HD.out.step0 H6.out.fr).real
                    have RG := hidg (HF4.out.1.ring i f (u, j) hf (by simp) (by rw [hfv]; exact HF4.out.2.2))
                    clear hf hfv HN HT0
                    have hpi : ¬ pcap = i := by omega
                    have hpi1 : (i : Int) ≤ (K'.length : Int) + 1 := by omega
                    have hpi2 : (i : Int) ≤ pcap := by omega
                    have hcl : (((K' ++ [(u, j)]).drop i).map (·.1)).length = K'.length + 1 - i := by simp
                    have HCL := hidg hcl
                    clear hcl
                    go_wp2
                    clear ci
                    obtain ⟨wp, rfl⟩ : ∃ wp : World, wp = wr := ⟨_, rfl⟩
                    go_loopg [9, 143] (K'.length + 1 - i) (fun q xv tv wr => ∃ t x : Nat, t ≤ K'.length + 1 - i ∧ q = K'.length + 1 - i - t ∧ tv = .int .i64 t ∧ xv = .int .i64 x ∧ x ≤ G.nreal ∧ Hid (MinSo G.nreal (((K' ++ [(u, j)]).drop i).map (·.1)) t x ∧ PS G w.heap.size w1.heap.size w wr (.slice (some ⟨pb, 0, none⟩) (K'.length + 1) pcap) (K' ++ [(u, j + 1)]) st))
                    case atStart => exact ⟨0, G.nreal, Nat.zero_le _, rfl, rfl, rfl, Nat.le_refl _, MinSo.init _ _, H6.out⟩
                    case round =>
                      clear hdr H6
                      obtain ⟨t, x, ht, rfl, rfl, rfl, hxn, HX⟩ := hrel
                      by_cases htm : t < K'.length + 1 - i
                      · obtain ⟨g, hg⟩ : ∃ g, (K' ++ [(u, j + 1)])[i + t]? = some g := ⟨_, List.getElem?_eq_getElem (by simp; omega)⟩
                        obtain ⟨k0, k1⟩ := HX.out.2.at (by simp) (i + t) g hg
                        rw [show (i + t) * 2 = i * 2 + t * 2 by omega] at k0 k1
                        have hgc : (((K' ++ [(u, j)]).drop i).map (·.1)).getD t 0 = g.1 := by
                          obtain ⟨f', hf', hff⟩ := adv_get (j' := j) hg
                          rw [List.getD_eq_getElem?_getD, List.getElem?_map, List.getElem?_drop, hf']
                          exact hff
                        have htl : (t : Int) < ((K'.length + 1 - i : Nat) : Int) := by omega
                        have hgn : g.1 < G.n := by
                          obtain ⟨f', hf', hff⟩ := adv_get (j' := j) hg
                          rw [← hff]
                          exact (HF4.out.1.rng f' (List.mem_of_getElem? hf')).1
                        have hgn1 : (g.1 : Int) ≤ 4096 := by omega
                        have HGC := hidg hgc
                        have HXM := hidg HX.out.1
                        have HXS := hidg HX.out.2
                        clear HX hgc hg
                        generalize g.1 = y at *
                        generalize g.2 = z at *
                        have hmn : min x y ≤ G.nreal := by omega
                        have M2 := hidg (HXM.out.min HGC.out)
                        go_wp2
                        go_roundg (K'.length + 1 - i - (t + 1))
                        case rel => exact ⟨t + 1, min x y, by omega, rfl, by go_num, by first | rfl | (congr 1; omega), hmn, M2.out, HXS.out.step (World.grownBy_alloc _ _ _)⟩
                        case measure => omega
                      · obtain rfl : t = K'.length + 1 - i := by omega
                        obtain ⟨hxl, CX, hcx⟩ : x < G.nreal ∧ ∃ CX, G.closed x CX := by
                          obtain ⟨t1, ht1, hlt1⟩ := RG.out.real HR.out
                          have h1 := HX.out.1.2 t1 (by rw [← HCL.out]; exact ht1)
                          have hx1 : x < G.nreal := by omega
                          refine ⟨hx1, ?_⟩
                          rcases HX.out.1.1 with h2 | ⟨t2, h2, h3⟩
                          · omega
                          · have := RG.out.closed t2 (by rw [HCL.out]; exact h2)
                            rw [h3] at this
                            exact this
                        have S9 := hidg HX.out.2
                        have HCX := hidg hcx
                        clear HX hcx
                        go_wp2_with fail
                        refine (short16 G x db (some ⟨fb, fo, none⟩) (some ⟨xb, xo, none⟩) fc ns sc wr (HD.out.step0 S9.out.fr) (HG.out.step0 S9.out.fr) HP.out hxl CX HCX.out).mono ?_
                        intro e w9 hres
                        have HRES : Hid (CycleRes G w e w9) := by
                          obtain ⟨v9, C9, r1, r2, r3, r4, r5, r6⟩ := hres
                          exact .inr ⟨x, hxl, v9, C9, r1, owns_base r2 S9.out.fr.size, r3, r4, r5, grown_step S9.out.fr r6⟩
                        obtain ⟨rv, rC, rfl, _⟩ := hres
                        go_wp2
                        go_ret
                        exact HRES.out
                  · have bfv : ((f.1 : Int) != (v : Int)) = true := by rw [bne_iff_ne]; omega
                    have hi0 : 0 < i := by
                      have h1 : ¬ i < t0 := fun h => HN.out t0 f0 h HT0.out.1 HT0.out.2
                      have h2 : i ≠ t0 := fun h => by
                        subst h
                        have h3 := HT0.out.1
                        rw [hf] at h3
                        cases h3
                        exact hfv HT0.out.2
                      omega
                    have HN2 : Hid (∀ (t : Nat) (g : Nat × Nat), i - 1 < t → (K' ++ [(u, j)])[t]? = some g → g.1 ≠ v) := fun t g h1 h2 => by
                      by_cases hti : t = i
                      · subst hti
                        rw [hf] at h2
                        cases h2
                        exact hfv
                      · exact HN.out t g (by omega) h2
                    clear hf hfv HN
                    generalize f.1 = y at *
                    go_wp2
                    go_roundg (i - 1)
                    case rel => exact ⟨by omega, by go_num, rfl, HN2.out⟩
                    case measure => omega
              · rw [hv2] at cv
                have hadv := E4.out.2.1.adv hjF H4.out.2.1 hv2
                have hq4 := E4.out.2.2.2.2.1
                have QM : Hid (sumf (upd wt u (wt u - 1)) G.n < gk) := by
                  have h2 := sumf_upd wt G.n u (wt u - 1) hun
                  have h3 := hadv.2
                  show _ < gk
                  omega
                have H7 := hidg (And.intro S6 (And.intro hadv.1 (And.intro E4.out.2.2.1 E4.out.2.2.2.1)))
                clear S6 hadv hq4 hv2 hjF
                go_wp2
                go_roundg (sumf (upd wt u (wt u - 1)) G.n)
                case rel => exact ⟨_, _, _, _, _, H7.out.1, H7.out.2.1, H7.out.2.2.1, H7.out.2.2.2, Nat.le_refl _⟩
                case measure => exact QM.out
      · have hs2 : ∀ v, v < s + 1 → st v = 2 := fun v hv => by
          by_cases hvs : v = s
          · subst hvs
            rcases hF.val v hsn with h | h | h
            · exact absurd h hst
            · have := (hF.on v hsn).1 h; simp at this
            · exact h
          · exact hall v (by omega)
        have h2 := hs2 s (by omega)
        rw [h2] at cs
        have E := hidg (And.intro hS (And.intro hF hs2))
        clear hS hF hall hs2 h2 hst fs
        go_wp2
        go_roundg (G.nreal - (s + 1))
        case rel => exact ⟨s + 1, by omega, rfl, by go_num, _, _, _, _, E.out.1, E.out.2.1, E.out.2.2⟩
        case measure => omega
    · obtain rfl : s = G.nreal := by omega
      have E := hidg (And.intro hS.fr (hF.free HR.out hall))
      clear hS hF hall
      go_wp2
      go_ret
      exact .inl ⟨rfl, E.out.1, E.out.2⟩
end Go.Proofs.Qxb6604255a
