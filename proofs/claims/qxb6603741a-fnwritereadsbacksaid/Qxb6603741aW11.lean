import Derived.Test.Qxb6603741aW10
import Derived.Deep.RegionHeld
namespace Go.Proofs.Qxb6603741a
open Go.RowKit
set_option linter.unusedSimpArgs false

theorem closer_clo (k : Int) : closer k = clo k := rfl
theorem Sl.cutIf {w : World} {k : IntKind} {ao : Option Addr} {n cap : Nat} {zs : List Int} (h : Sl w k ao n cap zs) (s e : Int) (h0 : 0 ≤ s) (h1 : s ≤ e) (h2 : e ≤ n) :
    Sl w k (if cap = s.toNat then ao else ao.map (·.add s.toNat)) (e.toNat - s.toNat) (cap - s.toNat) (sub zs s e) := by
  split
  · rename_i hz
    have := h.cut0 s e h0 h1 h2 hz
    rwa [show cap - s.toNat = 0 by omega]
  · exact h.cut s e h0 h1 h2

theorem kid_pos (T : Tree) (f : Nat) (k : Int) (j : Nat) (h : outN T f (T.kinds.getD j 0) (T.st.getD j 0) (T.en.getD j 0) ≠ []) : 0 < (kid T f k j).length := by
  have := List.length_pos_iff.2 h
  unfold kid mem
  rw [List.length_append]
  omega

set_option maxHeartbeats 6400000 in
set_option maxRecDepth 100000 in
theorem read_arr (T : Tree) (hby : ∀ j, 0 ≤ T.names.getD j 0 ∧ T.names.getD j 0 ≤ 255) (m tb : Nat) (A : Lay) (oa : Option Addr) (no oc : Nat) (O : List Int) (f : Nat) (k s e : Int) (hk : k = 91) (hm : m ≤ 1048576) (h0 : 0 ≤ s) (h1 : s ≤ e) (h2 : e ≤ m)
    (hkids : ∀ j, s.toNat ≤ j → j < e.toNat → ReadSaid T m tb A oa no oc O f (T.kinds.getD j 0) (T.st.getD j 0) (T.en.getD j 0))
    (hhead : ∀ j, s.toNat ≤ j → j < e.toNat → outN T f (T.kinds.getD j 0) (T.st.getD j 0) (T.en.getD j 0) ≠ [] ∧ (outN T f (T.kinds.getD j 0) (T.st.getD j 0) (T.en.getD j 0)).getD 0 0 ≠ 93)
    (hnam : k = 123 → ∀ j, s.toNat ≤ j → j < e.toNat → 0 ≤ T.nS.getD j 0 ∧ T.nS.getD j 0 ≤ T.nE.getD j 0 ∧ T.nE.getD j 0 ≤ T.names.length) :
    ReadSaid T m tb A oa no oc O (f + 1) k s e := by
  intro w p post hV hO hdrop hend
  obtain ⟨a, rfl⟩ := Int.eq_ofNat_of_zero_le h0
  obtain ⟨b, rfl⟩ := Int.eq_ofNat_of_zero_le (show (0 : Int) ≤ e by omega)
  simp only [Int.toNat_natCast] at hkids hnam hhead
  rw [outN_cont T f k a b (by omega)] at hdrop ⊢
  simp only [Int.toNat_natCast] at hdrop ⊢
  have hOl := hO.hlen
  have hOm := hO.hlim
  have hOc := hO.hcap
  have hab : a ≤ b := by omega
  have hbm : b ≤ m := by omega
  clear h0 h1 h2
  have hlen := len_drop hdrop (by simp)
  have hd1 : O.drop (p + 1) = kidsTo (kid T f k) a (b - a) ++ (clo k :: post) := by
    rw [← List.drop_drop, hdrop]; simp
  have hv0 : O.getD p 0 = k := by have := at_drop hdrop 0; rw [Nat.add_zero] at this; rw [this]; simp
  generalize hfin : (k :: (kidsTo (kid T f k) a (b - a) ++ [clo k])).length = WL at *
  have hfl : p + WL + post.length = no := by
    rw [← hOl, hlen, List.length_append, hfin]; omega
  have hwl : WL = (kidsTo (kid T f k) a (b - a)).length + 2 := by rw [← hfin]; simp
  obtain ⟨ob, off, rfl, hc⟩ := hO.cells (by omega)
  have cp := hc p (by omega)
  rw [hv0] at cp
  have HV := hidg hV
  have HO := hidg hO
  have HC := hidg hc
  have HK := hidg hkids
  have HH := hidg hhead
  have HN := hidg hnam
  have HBY := hidg hby
  have HD := hidg hd1
  have HOL := hidg hOl
  have HFL := hidg hfl
  have hpn : p + 1 < no := by omega
  have hwn : p + WL ≤ no := by omega
  have HWL := hidg hwl
  have hclk : clo k = 93 ∨ clo k = 125 := by unfold clo; split <;> omega
  clear hV hO hdrop hend hkids hhead hnam hby hd1 hv0 hlen hOl hfl hc hfin hwl
  have dp : decide ((p : Int) < 0) = false := by simp
  have dn : decide ((no : Int) ≤ (p : Int)) = false := by simp; omega
  have dn1 : decide ((p : Int) + 1 < (no : Int)) = true := by simp; omega
  have c1 := HC.out (p + 1) hpn
  by_cases hn0 : b = a
  · subst hn0
    have hv1 : O.getD (p + 1) 0 = clo k := by
      have h := HD.out
      rw [Nat.sub_self] at h
      have := at_drop h 0
      rw [Nat.add_zero] at this
      rw [this]; simp [kidsTo]
    have hwl2 : WL = 2 := by rw [HWL.out, Nat.sub_self]; simp [kidsTo]
    subst hwl2
    rw [hv1] at c1
    have ek : (clo k == clo k) = true := by simp
    subst hk
    go_enter Try.func19, Try.ntmps19
    go_wp2_with (go_at_call 28; refine (close_any _ _).mono ?_; rintro e w' ⟨rfl, rfl⟩; rw [closer_clo])
    go_ret2
    exact ⟨tup_eq (by omega) (by simp), grown_refl _ _⟩
  · have hn1 : a < b := by omega
    have hda : O.drop (p + 1) = kid T f k a ++ restOf (kid T f k) (clo k :: post) a (b - a - 1) := by rw [HD.out]; exact kids_all _ _ _ _ (by omega)
    have HDA := hidg hda
    clear hda
    subst hk
    · have hkid := kid_arr T f 91 a (by decide)
      have hhd := HH.out a (Nat.le_refl _) hn1
      rw [← hkid] at hhd
      have hy : (O.getD (p + 1) 0 == 93) = false := by
        have h := at_drop HDA.out 0
        rw [Nat.add_zero] at h
        rw [h]
        unfold List.getD
        rw [List.getElem?_append_left (List.length_pos_iff.2 hhd.1)]
        simpa [List.getD] using hhd.2
      clear hkid hhd
      generalize O.getD (p + 1) 0 = y1 at *
      have hclo : clo 91 = 93 := rfl
      have HCLO := hidg hclo
      clear hclo hclk
      go_enter Try.func19, Try.ntmps19
      go_wp2_with (go_at_call 28; refine (close_any _ _).mono ?_; rintro e w' ⟨rfl, rfl⟩; rw [show closer 91 = 93 from rfl])
      go_loopw [2, 17] (fun pos cnt wr => ∃ c q : Nat, c < b - a ∧ q < no ∧ pos = .int .i64 q ∧ cnt = .int .i64 c ∧ Hid (O.drop q = kid T f 91 (a + c) ++ restOf (kid T f 91) (clo 91 :: post) (a + c) (b - a - 1 - c)) ∧ w'.grownBy wr none) (fun _ cnt _ => b - a - (intOf cnt).toNat)
      case atStart => exact ⟨0, p + 1, by omega, by omega, by go_num, rfl, HDA.out, grown_refl _ _⟩
      case round =>
        clear HDA cp c1
        obtain ⟨c, q, hcn, hqn, rfl, rfl, HDQ, hg⟩ := hrel
        have hVr := HV.out.step hg
        obtain ⟨kb, ko, hka, ck⟩ := hVr.kinds.cells (by omega)
        obtain ⟨sb, so, hsa, cs⟩ := hVr.st.cells (by omega)
        obtain ⟨eb, eo, hea, ce⟩ := hVr.en.cells (by omega)
        have v2 := hVr.c2
        have v5 := hVr.c5
        have v6 := hVr.c6
        rw [hka] at v2
        rw [hsa] at v5
        rw [hea] at v6
        obtain ⟨j, hj⟩ : ∃ j, j = a + c := ⟨_, rfl⟩
        have hje : (a : Int) + (c : Int) = (j : Int) := by omega
        have HJJ := hidg hj
        have hjm : j < m := by omega
        have hji : (j : Int) < (m : Int) := by omega
        have n2 := ck j hjm
        have n5 := cs j hjm
        have n6 := ce j hjm
        have HVr := hidg hVr
        have HG := hidg hg
        rw [← hj] at HDQ
        have HK1 := HK.out j (by omega) (by omega)
        have hkid := kid_arr T f 91 j (by decide)
        clear hVr ck cs ce hg hka hsa hea hj
        generalize hkj : T.kinds.getD j 0 = kj at *
        generalize hsj : T.st.getD j 0 = sj at *
        generalize hej : T.en.getD j 0 = ej at *
        clear hkj hsj hej
        have hdq := HDQ.out
        rw [hkid] at hdq
        have HKJ := hidg HK1
        have hdn := drop_app hdq
        have HDJ := hidg hdq
        have HDN := hidg hdn
        clear hdq hdn hkid HDQ HK1
        generalize hlj : (outN T f kj sj ej).length = lj at *
        have HLJ := hidg hlj
        clear hlj
        have dc : decide ((b : Int) - (a : Int) ≤ (c : Int)) = false := by simp; omega
        go_wp2
        go_region_held (fun W => W.cell? ⟨tb, 2, none⟩ = some (.slice (some ⟨kb, ko, none⟩) m A.kc) ∧ W.cell? ⟨tb, 5, none⟩ = some (.slice (some ⟨sb, so, none⟩) m A.sc) ∧ W.cell? ⟨tb, 6, none⟩ = some (.slice (some ⟨eb, eo, none⟩) m A.ec) ∧ W.cell? ⟨kb, ko + j, none⟩ = some (.int .u8 kj) ∧ W.cell? ⟨sb, so + j, none⟩ = some (.int .i64 sj) ∧ W.cell? ⟨eb, eo + j, none⟩ = some (.int .i64 ej)) (go_keep)
          (first | (go_at_call 19; refine (HKJ.out _ q _ (HVr.out.step (grown_drew _ _)) ((HO.out.step0 HG.out).step0 (grown_drew _ _)) HDJ.out (end_rest _ _ _ _ _)).mono ?_; rintro e w2 ⟨rfl, hg2⟩; rw [HLJ.out]; have t2 := hg2.cell (show wr.drew.cell? _ = _ from v2) (by simp); have t5 := hg2.cell (show wr.drew.cell? _ = _ from v5) (by simp); have t6 := hg2.cell (show wr.drew.cell? _ = _ from v6) (by simp); have r2 := hg2.cell (show wr.drew.cell? _ = _ from n2) (by simp); have r5 := hg2.cell (show wr.drew.cell? _ = _ from n5) (by simp); have r6 := hg2.cell (show wr.drew.cell? _ = _ from n6) (by simp)))
        have hgw := grown_step (grown_step HG.out (grown_drew _ _)) hg2
        have HGW := hidg hgw
        clear t2 t5 t6 r2 r5 r6 v2 v5 v6 n2 n5 n6 hg2 hgw HVr HG HKJ HDJ
        by_cases hlast : c + 1 < b - a
        · have hdn := HDN.out
          rw [show b - a - 1 - c = (b - a - 1 - (c + 1)) + 1 by omega, restOf] at hdn
          have hl2 := len_drop hdn (by simp)
          have hv := at_drop hdn 0
          rw [Nat.add_zero] at hv
          simp only [List.getD_cons_zero] at hv
          have hqn2 : q + lj < no := by rw [← HOL.out, hl2]; simp
          have cq := HGW.out.cell (HC.out (q + lj) hqn2) (by simp)
          rw [hv] at cq
          have hd2 : O.drop (q + lj + 1) = kid T f 91 (a + (c + 1)) ++ restOf (kid T f 91) (clo 91 :: post) (a + (c + 1)) (b - a - 1 - (c + 1)) := by
            rw [← List.drop_drop, hdn]
            simp only [List.drop_succ_cons, List.drop_zero]
            rw [HJJ.out, show a + c + 1 = a + (c + 1) by omega]
          have hqn3 : q + lj + 1 < no := by
            rw [← HOL.out, hl2]
            simp only [List.length_cons, List.length_append]
            have := kid_pos T f 91 (a + (c + 1)) (HH.out _ (by omega) (by omega)).1
            rw [HJJ.out, show a + c + 1 = a + (c + 1) by omega]
            omega
          have HD2 := hidg hd2
          clear hdn hl2 hv hd2 HDN
          go_wp2
          go_roundw
          case rel => exact ⟨c + 1, q + lj + 1, hlast, hqn3, by go_num, by go_num, HD2.out, HGW.out⟩
          case measure => simp [intOf]; omega
        · have hdn := HDN.out
          rw [show b - a - 1 - c = 0 by omega, restOf] at hdn
          have hl2 := len_drop hdn (by simp)
          have hv := at_drop hdn 0
          rw [Nat.add_zero] at hv
          simp only [List.getD_cons_zero, HCLO.out] at hv
          have hqn2 : q + lj < no := by rw [← HOL.out, hl2]; simp
          have cq := HGW.out.cell (HC.out (q + lj) hqn2) (by simp)
          rw [hv] at cq
          have hpos : q + lj + 1 = p + WL := by
            have h1 := HFL.out
            have h2 := HOL.out
            rw [hl2] at h2
            simp only [List.length_cons] at h2
            omega
          have HPOS := hidg hpos
          have hcb : ((c : Int) + 1 == (b : Int) - (a : Int)) = true := by simp; omega
          clear hdn hl2 hv hpos HDN
          go_wp2
          go_ret2
          exact ⟨tup_eq (by have := HPOS.out; omega) rfl, HGW.out⟩
end Go.Proofs.Qxb6603741a
