import Derived.Test.Qxb6603741aW11
namespace Go.Proofs.Qxb6603741a
open Go.RowKit
set_option linter.unusedSimpArgs false

set_option maxHeartbeats 6400000 in
set_option maxRecDepth 100000 in
theorem read_obj (T : Tree) (hby : ∀ j, 0 ≤ T.names.getD j 0 ∧ T.names.getD j 0 ≤ 255) (m tb : Nat) (A : Lay) (oa : Option Addr) (no oc : Nat) (O : List Int) (f : Nat) (k s e : Int) (hk : k = 123) (hm : m ≤ 1048576) (h0 : 0 ≤ s) (h1 : s ≤ e) (h2 : e ≤ m)
    (hkids : ∀ j, s.toNat ≤ j → j < e.toNat → ReadSaid T m tb A oa no oc O f (T.kinds.getD j 0) (T.st.getD j 0) (T.en.getD j 0))
    (hhead : ∀ j, s.toNat ≤ j → j < e.toNat → outN T f (T.kinds.getD j 0) (T.st.getD j 0) (T.en.getD j 0) ≠ [] ∧ (outN T f (T.kinds.getD j 0) (T.st.getD j 0) (T.en.getD j 0)).getD 0 0 ≠ 93)
    (hnam : k = 123 → ∀ j, s.toNat ≤ j → j < e.toNat → 0 ≤ T.nS.getD j 0 ∧ T.nS.getD j 0 ≤ T.nE.getD j 0 ∧ T.nE.getD j 0 ≤ T.names.length) :
    ReadSaid T m tb A oa no oc O (f + 1) k s e := by
  intro w p post hV hO hdrop hend
  obtain ⟨a, rfl⟩ := Int.eq_ofNat_of_zero_le h0
  obtain ⟨b, rfl⟩ := Int.eq_ofNat_of_zero_le (show (0 : Int) ≤ e by omega)
  simp only [Int.toNat_natCast] at hkids hnam hhead
  rw [outN_cont T f k a b (by omega)] at hdrop ⊢
  simp only [Int.toNat_natCast] at hdrop ⊢
  have hOl := hO.hlen
  have hOm := hO.hlim
  have hOc := hO.hcap
  have hab : a ≤ b := by omega
  have hbm : b ≤ m := by omega
  clear h0 h1 h2
  have hlen := len_drop hdrop (by simp)
  have hd1 : O.drop (p + 1) = kidsTo (kid T f k) a (b - a) ++ (clo k :: post) := by
    rw [← List.drop_drop, hdrop]; simp
  have hv0 : O.getD p 0 = k := by have := at_drop hdrop 0; rw [Nat.add_zero] at this; rw [this]; simp
  generalize hfin : (k :: (kidsTo (kid T f k) a (b - a) ++ [clo k])).length = WL at *
  have hfl : p + WL + post.length = no := by
    rw [← hOl, hlen, List.length_append, hfin]; omega
  have hwl : WL = (kidsTo (kid T f k) a (b - a)).length + 2 := by rw [← hfin]; simp
  obtain ⟨ob, off, rfl, hc⟩ := hO.cells (by omega)
  have cp := hc p (by omega)
  rw [hv0] at cp
  have HV := hidg hV
  have HO := hidg hO
  have HC := hidg hc
  have HK := hidg hkids
  have HH := hidg hhead
  have HN := hidg hnam
  have HBY := hidg hby
  have HD := hidg hd1
  have HOL := hidg hOl
  have HFL := hidg hfl
  have hpn : p + 1 < no := by omega
  have hwn : p + WL ≤ no := by omega
  have HWL := hidg hwl
  have hclk : clo k = 93 ∨ clo k = 125 := by unfold clo; split <;> omega
  clear hV hO hdrop hend hkids hhead hnam hby hd1 hv0 hlen hOl hfl hc hfin hwl
  have dp : decide ((p : Int) < 0) = false := by simp
  have dn : decide ((no : Int) ≤ (p : Int)) = false := by simp; omega
  have dn1 : decide ((p : Int) + 1 < (no : Int)) = true := by simp; omega
  have c1 := HC.out (p + 1) hpn
  by_cases hn0 : b = a
  · subst hn0
    have hv1 : O.getD (p + 1) 0 = clo k := by
      have h := HD.out
      rw [Nat.sub_self] at h
      have := at_drop h 0
      rw [Nat.add_zero] at this
      rw [this]; simp [kidsTo]
    have hwl2 : WL = 2 := by rw [HWL.out, Nat.sub_self]; simp [kidsTo]
    subst hwl2
    rw [hv1] at c1
    have ek : (clo k == clo k) = true := by simp
    subst hk
    go_enter Try.func19, Try.ntmps19
    go_wp2_with (go_at_call 28; refine (close_any _ _).mono ?_; rintro e w' ⟨rfl, rfl⟩; rw [closer_clo])
    go_ret2
    exact ⟨tup_eq (by omega) (by simp), grown_refl _ _⟩
  · have hn1 : a < b := by omega
    have hda : O.drop (p + 1) = kid T f k a ++ restOf (kid T f k) (clo k :: post) a (b - a - 1) := by rw [HD.out]; exact kids_all _ _ _ _ (by omega)
    have HDA := hidg hda
    clear hda
    subst hk
    · have hy : (O.getD (p + 1) 0 == 125) = false := by
        have h := at_drop HDA.out 0
        rw [Nat.add_zero] at h
        rw [h, kid_obj]
        simp [quote]
      generalize O.getD (p + 1) 0 = y1 at *
      have hclo : clo 123 = 125 := rfl
      have HCLO := hidg hclo
      clear hclo hclk
      go_enter Try.func19, Try.ntmps19
      go_wp2_with (go_at_call 28; refine (close_any _ _).mono ?_; rintro e w' ⟨rfl, rfl⟩; rw [show closer 123 = 125 from rfl])
      go_loopw [2, 17] (fun pos cnt wr => ∃ c q : Nat, c < b - a ∧ q < no ∧ pos = .int .i64 q ∧ cnt = .int .i64 c ∧ Hid (O.drop q = kid T f 123 (a + c) ++ restOf (kid T f 123) (clo 123 :: post) (a + c) (b - a - 1 - c)) ∧ w'.grownBy wr none) (fun _ cnt _ => b - a - (intOf cnt).toNat)
      case atStart => exact ⟨0, p + 1, by omega, by omega, by go_num, rfl, HDA.out, grown_refl _ _⟩
      case round =>
        clear HDA cp c1
        obtain ⟨c, q, hcn, hqn, rfl, rfl, HDQ, hg⟩ := hrel
        obtain ⟨j, hj⟩ : ∃ j, j = a + c := ⟨_, rfl⟩
        have hje : (a : Int) + (c : Int) = (j : Int) := by omega
        have HJJ := hidg hj
        have hjm : j < m := by omega
        have hji : (j : Int) < (m : Int) := by omega
        have hg0 := hg
        rw [← hj] at HDQ
        have HK1 := HK.out j (by omega) (by omega)
        have HN1 := HN.out (by first | rfl | trivial) j (by omega) (by omega)
        have hkid := kid_obj T f j
        have HGR := hidg hg0
        have hdq := HDQ.out
        rw [hkid] at hdq
        rw [List.append_assoc, List.append_assoc] at hdq
        clear hkid HDQ hj hg hg0
        have hNm := HV.out.names.hlen
        generalize hkj : T.kinds.getD j 0 = kj at *
        generalize hsj : T.st.getD j 0 = sj at *
        generalize hej : T.en.getD j 0 = ej at *
        generalize hnsj : T.nS.getD j 0 = nsj at *
        generalize hnej : T.nE.getD j 0 = nej at *
        have HCS := hidg (And.intro hkj (And.intro hsj (And.intro hej (And.intro hnsj hnej))))
        clear hkj hsj hej hnsj hnej
        have hsb := sub_bytes T.names nsj nej HBY.out
        have hscan : scanR O q = ((q + (quote (sub T.names nsj nej)).length : Nat) : Int) := scanR_drop_quote hdq (fun x hx => by
          obtain ⟨n, hn, rfl⟩ := List.getElem_of_mem hx
          have := (hsb n).1
          simpa [List.getD, hn] using this)
        have HSC := hidg hscan
        have hql := (quote_len (sub T.names nsj nej)).1
        have hd58 := drop_app hdq
        have hl58 := len_drop hd58 (by simp)
        have hv58 := at_drop hd58 0
        rw [Nat.add_zero] at hv58
        have hv58' : O.getD (q + (quote (sub T.names nsj nej)).length) 0 = 58 := by rw [hv58]; simp
        have hd59 : O.drop (q + (quote (sub T.names nsj nej)).length + 1) = outN T f kj sj ej ++ restOf (kid T f 123) (clo 123 :: post) j (b - a - 1 - c) := by
          rw [← List.drop_drop, hd58]; simp
        have HDQ := hidg hdq
        have HD59 := hidg hd59
        have HSB := hidg hsb
        have HKJ := hidg HK1
        have HNJ := hidg HN1
        have HQS := hidg (rfl : quote (sub T.names nsj nej) = quote (sub T.names nsj nej))
        have c58 := HC.out (q + (quote (sub T.names nsj nej)).length) (by rw [← HOL.out, hl58]; simp)
        rw [hv58'] at c58
        have hqn5 : q + (quote (sub T.names nsj nej)).length + 1 ≤ no := by rw [← HOL.out, hl58]; simp
        clear hscan hd58 hl58 hv58 hv58' hd59 hdq HK1 HN1 hsb HQS
        generalize hQ : quote (sub T.names nsj nej) = Q at *
        have HQ := hidg hQ
        clear hQ
        generalize hqq : Q.length = ql at *
        have HQL := hidg hqq
        clear hqq
        have dc : decide ((b : Int) - (a : Int) ≤ (c : Int)) = false := by simp; omega
        have hpz : ¬ oc = q := by omega
        go_wp2_with (go_at_call 10; refine (scan_nat _ _ _ O q _ (HO.out.step0 HGR.out) (by omega)).mono ?_; rintro e wx ⟨rfl, rfl⟩; rw [HSC.out])
        have hSq := (HO.out.step0 HGR.out).cutN HDQ.out (by rw [HQL.out]; omega)
        rw [HQL.out, ← HQ.out] at hSq
        refine (unq_any _ _ _ (sub T.names nsj nej) _ hSq HSB.out).mono ?_
        rintro e w3 ⟨v3, rfl, hown3, hg3⟩
        obtain ⟨a3, cap3, rfl, hx3, hc3, hn3, hb3⟩ := owns_shape hown3
        have hlm3 : (sub T.names nsj nej).length ≤ 70368744177664 := by have h1 := sub_le T.names nsj nej; have h2 := HV.out.names.hlim; omega
        have HS3 := hidg (Sl.of_owns (zs := sub T.names nsj nej) (k := .u8) hown3 hlm3)
        have hg4 := grown_step HGR.out hg3
        have HG3 := hidg hg4
        have d58 := hg4.cell c58 (by simp)
        have hV3 := HV.out.step hg4
        obtain ⟨kb, ko, hka, ck⟩ := hV3.kinds.cells (by omega)
        obtain ⟨sb, so, hsa, cs⟩ := hV3.st.cells (by omega)
        obtain ⟨eb, eo, hea, ce⟩ := hV3.en.cells (by omega)
        obtain ⟨nb, nof, hna, cns⟩ := hV3.nS.cells (by omega)
        obtain ⟨mb, mo, hma, cne⟩ := hV3.nE.cells (by omega)
        have v1 := hV3.c1
        have v2 := hV3.c2
        have v3 := hV3.c3
        have v4 := hV3.c4
        have v5 := hV3.c5
        have v6 := hV3.c6
        rw [hka] at v2
        rw [hsa] at v5
        rw [hea] at v6
        rw [hna] at v3
        rw [hma] at v4
        have n2 := ck j hjm
        have n5 := cs j hjm
        have n6 := ce j hjm
        have n3 := cns j hjm
        have n4 := cne j hjm
        rw [HCS.out.1] at n2
        rw [HCS.out.2.1] at n5
        rw [HCS.out.2.2.1] at n6
        rw [HCS.out.2.2.2.1] at n3
        rw [HCS.out.2.2.2.2] at n4
        have HVr := hidg hV3
        clear ck cs ce cns cne hka hsa hea hna hma hown3 hg3 hg4 hV3 hSq c58 hx3 hc3 hn3 hb3
        have hnb0 := HNJ.out.1
        have hnb1 := HNJ.out.2.1
        have hnb2 : nej ≤ A.nn := by have h1 := HNJ.out.2.2; have h2 := HVr.out.names.hlen; omega
        have hnb3 : nej ≤ A.nc := by have h2 := HVr.out.names.hcap; omega
        have HSN := hidg (fun nq => (HVr.out.names.step0 (grown_drewN _ nq none)).cutIf nsj nej hnb0 hnb1 hnb2)
        obtain ⟨q2, hq2⟩ : ∃ q2, q2 = q + ql + 1 := ⟨_, rfl⟩
        have hq2e : (q : Int) + (ql : Int) + 1 = (q2 : Int) := by omega
        have HD60 := HD59
        rw [← hq2] at HD60
        have hq2n : q2 ≤ no := by omega
        have dn5 : decide ((no : Int) ≤ (q : Int) + (ql : Int)) = false := by simp; omega
        clear hq2 HD59
        have hdn := drop_app HD60.out
        have HDN := hidg hdn
        clear hdn
        generalize hlj : (outN T f kj sj ej).length = lj at *
        have HLJ := hidg hlj
        clear hlj
        go_wp2
        go_quiet ((go_at_call 9; refine Calls.quiet_of (eq_q _ _ _ (sub T.names nsj nej) _ _ _ (sub T.names nsj nej) _ (HS3.out.step0 (grown_drewN _ _ none)) (HSN.out _))))
        have HG4 := hidg (grown_step HG3.out (grown_drewN w3 nq none))
        have HVr4 := hidg (HVr.out.step (grown_drewN w3 nq none))
        clear v1 v3 v4 n3 n4
        have v2 : (w3.drewN nq).cell? _ = _ := v2
        have v5 : (w3.drewN nq).cell? _ = _ := v5
        have v6 : (w3.drewN nq).cell? _ = _ := v6
        have n2 : (w3.drewN nq).cell? _ = _ := n2
        have n5 : (w3.drewN nq).cell? _ = _ := n5
        have n6 : (w3.drewN nq).cell? _ = _ := n6
        have d58 : (w3.drewN nq).cell? _ = _ := d58
        have HVr := HVr4
        clear HG3 HSN HS3 HVr4
        generalize w3.drewN nq = w4 at *
        generalize (if A.nc = nsj.toNat then A.na else Option.map (fun x => x.add nsj.toNat) A.na) = na5
        go_wp2
        go_region_held (fun W => W.cell? ⟨tb, 2, none⟩ = some (.slice (some ⟨kb, ko, none⟩) m A.kc) ∧ W.cell? ⟨tb, 5, none⟩ = some (.slice (some ⟨sb, so, none⟩) m A.sc) ∧ W.cell? ⟨tb, 6, none⟩ = some (.slice (some ⟨eb, eo, none⟩) m A.ec) ∧ W.cell? ⟨kb, ko + j, none⟩ = some (.int .u8 kj) ∧ W.cell? ⟨sb, so + j, none⟩ = some (.int .i64 sj) ∧ W.cell? ⟨eb, eo + j, none⟩ = some (.int .i64 ej)) (go_keep)
          (first | (go_at_call 19; refine (HKJ.out _ q2 _ (HVr.out.step (grown_drew _ _)) ((HO.out.step0 HG4.out).step0 (grown_drew _ _)) HD60.out (end_rest _ _ _ _ _)).mono ?_; rintro e w2 ⟨rfl, hg2⟩; rw [HLJ.out]; have t2 := hg2.cell (show w4.drew.cell? _ = _ from v2) (by simp); have t5 := hg2.cell (show w4.drew.cell? _ = _ from v5) (by simp); have t6 := hg2.cell (show w4.drew.cell? _ = _ from v6) (by simp); have r2 := hg2.cell (show w4.drew.cell? _ = _ from n2) (by simp); have r5 := hg2.cell (show w4.drew.cell? _ = _ from n5) (by simp); have r6 := hg2.cell (show w4.drew.cell? _ = _ from n6) (by simp)))
        have hgw := grown_step (grown_step HG4.out (grown_drew _ _)) hg2
        have HGW := hidg hgw
        clear t2 t5 t6 r2 r5 r6 v2 v5 v6 n2 n5 n6 hg2 hgw HVr HG4 HKJ HD60 d58
        by_cases hlast : c + 1 < b - a
        · have hdn := HDN.out
          rw [show b - a - 1 - c = (b - a - 1 - (c + 1)) + 1 by omega, restOf] at hdn
          have hl2 := len_drop hdn (by simp)
          have hv := at_drop hdn 0
          rw [Nat.add_zero] at hv
          simp only [List.getD_cons_zero] at hv
          have hqn2 : q2 + lj < no := by rw [← HOL.out, hl2]; simp
          have cq := HGW.out.cell (HC.out (q2 + lj) hqn2) (by simp)
          rw [hv] at cq
          have hd2 : O.drop (q2 + lj + 1) = kid T f 123 (a + (c + 1)) ++ restOf (kid T f 123) (clo 123 :: post) (a + (c + 1)) (b - a - 1 - (c + 1)) := by
            rw [← List.drop_drop, hdn]
            simp only [List.drop_succ_cons, List.drop_zero]
            rw [HJJ.out, show a + c + 1 = a + (c + 1) by omega]
          have hqn3 : q2 + lj + 1 < no := by
            rw [← HOL.out, hl2]
            simp only [List.length_cons, List.length_append]
            have := kid_pos T f 123 (a + (c + 1)) (HH.out _ (by omega) (by omega)).1
            rw [HJJ.out, show a + c + 1 = a + (c + 1) by omega]
            omega
          have HD2 := hidg hd2
          clear hdn hl2 hv hd2 HDN
          go_wp2
          go_roundw
          case rel => exact ⟨c + 1, q2 + lj + 1, hlast, hqn3, by go_num, by go_num, HD2.out, HGW.out⟩
          case measure => simp [intOf]; omega
        · have hdn := HDN.out
          rw [show b - a - 1 - c = 0 by omega, restOf] at hdn
          have hl2 := len_drop hdn (by simp)
          have hv := at_drop hdn 0
          rw [Nat.add_zero] at hv
          simp only [List.getD_cons_zero, HCLO.out] at hv
          have hqn2 : q2 + lj < no := by rw [← HOL.out, hl2]; simp
          have cq := HGW.out.cell (HC.out (q2 + lj) hqn2) (by simp)
          rw [hv] at cq
          have hpos : q2 + lj + 1 = p + WL := by
            have h1 := HFL.out
            have h2 := HOL.out
            rw [hl2] at h2
            simp only [List.length_cons] at h2
            omega
          have HPOS := hidg hpos
          have hcb : ((c : Int) + 1 == (b : Int) - (a : Int)) = true := by simp; omega
          clear hdn hl2 hv hpos HDN
          go_wp2
          go_ret2
          exact ⟨tup_eq (by have := HPOS.out; omega) rfl, HGW.out⟩
end Go.Proofs.Qxb6603741a
