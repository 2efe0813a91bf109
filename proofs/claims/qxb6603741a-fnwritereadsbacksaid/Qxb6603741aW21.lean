import Derived.Test.Qxb6603741aW13
import Derived.Test.Qxb6603741aW14
import Derived.Test.Qxb6603741aW19
import Derived.Test.Qxb6603741aW20
namespace Go.Proofs.Qxb6603741a
open Go.RowKit

theorem node_of {T : Tree} {m : Nat} {k s e : Int} (hR : Root T m k s e) (ht : k = 0 → s < e) : NodeOK T m (m + 1) k s e := by
  refine ⟨hR.kind, by omega, fun h => ?_, fun h => ?_, fun h j h1 h2 => hR.nam h j (by simp only [inR, decide_eq_true_eq]; exact ⟨h1, h2⟩)⟩
  · have := hR.scal h; have := ht h; omega
  · have := hR.cont h; omega

theorem at_lt {w : World} {base : Nat} {e : TypeId} {ao : Option Addr} {n cap : Nat} {xs : List Value} (h : w.ownsRow base e 1 (.slice ao n cap) n xs) : ∀ g, At ao g → g < w.heap.size := by
  obtain ⟨ao', cap', hv, _, _, _, hb⟩ := owns_shape h
  injection hv with h1 h2 h3
  subst h1
  rintro g ⟨⟨b, off, sp⟩, hx, rfl⟩
  exact (hb b off sp hx).2.1
theorem own_ge {w : World} {base : Nat} {e : TypeId} {v : Value} {n : Nat} {xs : List Value} (h : w.ownsRow base e 1 v n xs) : ∀ g, v.ownBlock = some g → base ≤ g := by
  rcases h.2 with ⟨rfl, _⟩ | ⟨g', cap, cur, rfl, hg, _⟩
  · intro g hg; cases hg
  · intro g hh; cases hh; exact hg
theorem Sl.head {w : World} {k : IntKind} {ao : Option Addr} {n cap : Nat} {A B : List Int} (h : Sl w k ao n cap (A ++ B)) : Sl w k ao A.length cap A := by
  have hl := h.hlen
  have hc := h.hcap
  have hm := h.hlim
  rw [List.length_append] at hl
  refine ⟨rfl, by omega, h.hnil, by omega, fun hp => ?_⟩
  obtain ⟨b, off, hao, hcell⟩ := h.cells (by omega)
  refine ⟨b, off, hao, fun j hj => ?_⟩
  have := hcell j (by omega)
  rwa [show (A ++ B).getD j 0 = A.getD j 0 by simp [List.getD, List.getElem?_append_left hj]] at this
theorem grew_none {e : TypeId} {a w w' : World} {v v' : Value} {n base : Nat} {xs : List Value} (h : a.grownBy w none) (k : Grew e w v n w' v') (ho : w.ownsRow base e 1 v n xs) (hb : a.heap.size ≤ base) : a.grownBy w' none := by
  have hk := k.frame
  cases hv : v.ownBlock with
  | none => rw [hv] at hk; exact grown_step h hk
  | some g => rw [hv] at hk; exact grown_trans h hk (.inr (.inr ⟨g, rfl, Nat.le_trans hb (own_ge ho g hv)⟩))

theorem tok_lt {l : List Int} {s e : Int} (h : Tok (sub l s e)) (hb : 0 ≤ s ∧ s ≤ e ∧ e ≤ l.length) : s < e := by
  have := h.pos
  rw [sub_len l s e hb.1 hb.2.1 hb.2.2] at this
  omega
theorem Sl.grew {kd : IntKind} {ao : Option Addr} {m cap : Nat} {zs : List Int} {e : TypeId} {w w' : World} {v v' : Value} {n base : Nat} {xs : List Value} (h : Sl w kd ao m cap zs) (k : Grew e w v n w' v') (ho : w.ownsRow base e 1 v n xs) (hb : ∀ g, At ao g → g < base) : Sl w' kd ao m cap zs :=
  h.step k.frame (fun g hg b off hao hbg => by
    have h1 := own_ge ho g hg
    have h2 := hb b ⟨_, hao, rfl⟩
    omega)

theorem new_cell (w : World) (c : Array Value) (t : TypeId) (j : Nat) (v : Value) (h : c[j]? = some v) : (w.alloc (.cells c t)).cell? ⟨w.heap.size, j, none⟩ = some v := by
  have hh : (w.alloc (.cells c t)).heap[w.heap.size]? = some (.cells c t) := by
    show (w.heap.push (.cells c t))[w.heap.size]? = _
    exact Array.getElem?_push_size
  unfold World.cell?
  rw [hh]
  simpa using h
theorem vw_new {w : World} {T : Tree} {m : Nat} (A : Lay) (h1 : Sl w .u8 A.ta A.nt A.tc T.text) (h2 : Sl w .u8 A.na A.nn A.nc T.names) (h3 : Sl w .u8 A.ka m A.kc T.kinds) (h4 : Sl w .i64 A.nsa m A.nsc T.nS) (h5 : Sl w .i64 A.nea m A.nec T.nE) (h6 : Sl w .i64 A.sa m A.sc T.st) (h7 : Sl w .i64 A.ea m A.ec T.en) :
    Vw (w.alloc (.cells #[.slice A.ta A.nt A.tc, .slice A.na A.nn A.nc, .slice A.ka m A.kc, .slice A.nsa m A.nsc, .slice A.nea m A.nec, .slice A.sa m A.sc, .slice A.ea m A.ec] 37)) T m w.heap.size A := by
  have hg := World.grownBy_alloc w (.cells #[.slice A.ta A.nt A.tc, .slice A.na A.nn A.nc, .slice A.ka m A.kc, .slice A.nsa m A.nsc, .slice A.nea m A.nec, .slice A.sa m A.sc, .slice A.ea m A.ec] 37) none
  exact ⟨new_cell _ _ _ _ _ rfl, new_cell _ _ _ _ _ rfl, new_cell _ _ _ _ _ rfl, new_cell _ _ _ _ _ rfl, new_cell _ _ _ _ _ rfl, new_cell _ _ _ _ _ rfl, new_cell _ _ _ _ _ rfl,
    h1.step0 hg, h2.step0 hg, h3.step0 hg, h4.step0 hg, h5.step0 hg, h6.step0 hg, h7.step0 hg⟩

set_option maxHeartbeats 3200000 in
set_option maxRecDepth 100000 in
theorem law_long (m m1 m2 m3 m4 : Nat) (ta : Option Addr) (nt ct : Nat) (an : Option Addr) (nn cn : Nat) (ka : Option Addr) (kc : Nat) (nsa : Option Addr) (nsc : Nat) (nea : Option Addr) (nec : Nat) (sa : Option Addr) (sc : Nat) (ea : Option Addr) (ec : Nat) (da : Option Addr) (nd dc : Nat)
    (k s e : Int) (w : World) (l1 : nt ≤ 9223372036854775807) (l2 : nn ≤ 9223372036854775807) (l3 : m ≤ 9223372036854775807) (l4 : m1 ≤ 9223372036854775807) (l5 : m2 ≤ 9223372036854775807) (l6 : m3 ≤ 9223372036854775807) (l7 : m4 ≤ 9223372036854775807) (l8 : nd ≤ 9223372036854775807)
    (hbig : ¬ (nt ≤ 1048576 ∧ nn ≤ 1048576 ∧ m ≤ 1048576 ∧ nd ≤ 1048576 ∧ m1 ≤ 131072 ∧ m2 ≤ 131072 ∧ m3 ≤ 131072 ∧ m4 ≤ 131072)) :
    Calls Try.prog 5 #[.slice ta nt ct, .slice an nn cn, .slice ka m kc, .slice nsa m1 nsc, .slice nea m2 nec, .slice sa m3 sc, .slice ea m4 ec, .slice da nd dc, .int .u8 k, .int .i64 s, .int .i64 e] w fun e' w' => e' = .returned (.bool true) ∧ w.grownBy w' none := by
  go_enter Try.func5, Try.ntmps5
  go_wp2_with fail
  refine (bytes_any _ _ _ _ _ _ _ _ _ _ _ _ _ _ _ _ _ _ _ _ _ _ _ _ _ _ _ _ (by omega) (by omega) (by omega) (by omega) (by omega) (by omega) (by omega) (by omega)).mono ?_
  rintro e' w' ⟨⟨b, rfl, -⟩, rfl⟩
  cases b with
  | false =>
    go_wp2
    go_ret
    exact ⟨rfl, grown_refl _ _⟩
  | true =>
    go_wp2_with fail
    all_goals first | (exfalso; omega) | (go_ret; exact ⟨rfl, grown_refl _ _⟩)

set_option maxHeartbeats 6400000 in
set_option maxRecDepth 100000 in
theorem law_any (T : Tree) (D : List Int) (m m1 m2 m3 m4 : Nat) (ta : Option Addr) (nt ct : Nat) (an : Option Addr) (nn cn : Nat) (ka : Option Addr) (kc : Nat) (nsa : Option Addr) (nsc : Nat) (nea : Option Addr) (nec : Nat) (sa : Option Addr) (sc : Nat) (ea : Option Addr) (ec : Nat) (da : Option Addr) (nd dc : Nat)
    (k s e : Int) (w : World) (hta : Sl w .u8 ta nt ct T.text) (han : Sl w .u8 an nn cn T.names) (hka : Sl w .u8 ka m kc T.kinds) (hnsa : Sl w .i64 nsa m1 nsc T.nS) (hnea : Sl w .i64 nea m2 nec T.nE) (hsa : Sl w .i64 sa m3 sc T.st) (hea : Sl w .i64 ea m4 ec T.en) (hda : Sl w .u8 da nd dc D)
    (hby : ∀ j, 0 ≤ T.names.getD j 0 ∧ T.names.getD j 0 ≤ 255) :
    Calls Try.prog 5 #[.slice ta nt ct, .slice an nn cn, .slice ka m kc, .slice nsa m1 nsc, .slice nea m2 nec, .slice sa m3 sc, .slice ea m4 ec, .slice da nd dc, .int .u8 k, .int .i64 s, .int .i64 e] w fun e' w' => e' = .returned (.bool true) ∧ w.grownBy w' none := by
  have l1 := hta.hlim
  have l2 := han.hlim
  have l3 := hka.hlim
  have l4 := hnsa.hlim
  have l5 := hnea.hlim
  have l6 := hsa.hlim
  have l7 := hea.hlim
  have l8 := hda.hlim
  have H1 := hidg hta
  have H2 := hidg han
  have H3 := hidg hka
  have H4 := hidg hnsa
  have H5 := hidg hnea
  have H6 := hidg hsa
  have H7 := hidg hea
  have H8 := hidg hda
  have HBY := hidg hby
  clear hta han hka hnsa hnea hsa hea hda hby
  go_enter Try.func5, Try.ntmps5
  go_wp2_with fail
  refine (bytes_any _ _ _ _ _ _ _ _ _ _ _ _ _ _ _ _ _ _ _ _ _ _ _ _ _ _ _ _ (by omega) (by omega) (by omega) (by omega) (by omega) (by omega) (by omega) (by omega)).mono ?_
  rintro e' w' ⟨⟨b, rfl, -⟩, rfl⟩
  cases b with
  | false =>
    go_wp2
    go_ret
    exact ⟨rfl, grown_refl _ _⟩
  | true =>
  by_cases hsum : nt ≤ 1048576 ∧ nn ≤ 1048576 ∧ m ≤ 1048576 ∧ nd ≤ 1048576 ∧ m1 ≤ 131072 ∧ m2 ≤ 131072 ∧ m3 ≤ 131072 ∧ m4 ≤ 131072 ∧ nt + nn + m + nd + 8 * (m1 + m2 + m3 + m4) ≤ 1048576
  · obtain ⟨b1, b2, b3, b4, b5, b6, b7, b8, b9⟩ := hsum
    go_wp2_with fail
    refine (wf_any T m m1 m2 m3 m4 _ _ _ _ _ _ _ _ _ _ _ _ _ _ _ _ _ _ _ _ b5 H1.out H2.out H3.out H4.out H5.out H6.out H7.out b1 b2).mono ?_
    rintro e' w1 ⟨⟨b, rfl, hwf⟩, hg1⟩
    have G1 := hidg hg1
    have HW := hidg hwf
    clear hg1 hwf
    cases b with
    | false =>
      go_wp2
      go_ret
      exact ⟨rfl, G1.out⟩
    | true =>
    obtain ⟨e1, e2, e3, e4, hS, hR⟩ := HW.out rfl
    clear HW
    subst e1 e2 e3 e4
    have HS := hidg hS
    have HR := hidg hR
    clear hS hR
    go_wp2_with fail
    refine (toks_any T m4 _ _ _ _ _ _ _ _ _ _ _ _ _ (H1.out.step0 G1.out) (H3.out.step0 G1.out) (H6.out.step0 G1.out) (H7.out.step0 G1.out) HR.out.scal HS.out.scal).mono ?_
    rintro e' w2 ⟨⟨b, rfl, htk⟩, hg2⟩
    have G2 := hidg (grown_step G1.out hg2)
    have HT := hidg htk
    clear hg2 htk G1
    cases b with
    | false =>
      go_wp2
      go_ret
      exact ⟨rfl, G2.out⟩
    | true =>
    go_wp2_with fail
    refine (clone_any _ _ _ _ _ (H1.out.step0 G2.out) (by omega)).mono ?_
    rintro _ w3 ⟨ta', ct', rfl, ho, hg⟩
    have O1 := hidg ho
    have F1 := hidg hg
    clear ho hg
    go_wp2_with fail
    refine (clone_any _ _ _ _ _ ((H2.out.step0 G2.out).step0 F1.out) (by omega)).mono ?_
    rintro _ w4 ⟨an', cn', rfl, ho, hg⟩
    have O2 := hidg ho
    have F2 := hidg (grown_step F1.out hg)
    have D2 := hidg hg
    clear ho hg
    go_wp2_with fail
    refine (clone_any _ _ _ _ _ ((H3.out.step0 G2.out).step0 F2.out) (by omega)).mono ?_
    rintro _ w5 ⟨ka', kc', rfl, ho, hg⟩
    have O3 := hidg ho
    have F3 := hidg (grown_step F2.out hg)
    have D3 := hidg hg
    clear ho hg
    go_wp2_with fail
    refine (cloneI_any _ _ _ _ _ ((H4.out.step0 G2.out).step0 F3.out) (by omega)).mono ?_
    rintro _ w6 ⟨nsa', nsc', rfl, ho, hg⟩
    have O4 := hidg ho
    have F4 := hidg (grown_step F3.out hg)
    have D4 := hidg hg
    clear ho hg
    go_wp2_with fail
    refine (cloneI_any _ _ _ _ _ ((H5.out.step0 G2.out).step0 F4.out) (by omega)).mono ?_
    rintro _ w7 ⟨nea', nec', rfl, ho, hg⟩
    have O5 := hidg ho
    have F5 := hidg (grown_step F4.out hg)
    have D5 := hidg hg
    clear ho hg
    go_wp2_with fail
    refine (cloneI_any _ _ _ _ _ ((H6.out.step0 G2.out).step0 F5.out) (by omega)).mono ?_
    rintro _ w8 ⟨sa', sc', rfl, ho, hg⟩
    have O6 := hidg ho
    have F6 := hidg (grown_step F5.out hg)
    have D6 := hidg hg
    clear ho hg
    go_wp2_with fail
    refine (cloneI_any _ _ _ _ _ ((H7.out.step0 G2.out).step0 F6.out) (by omega)).mono ?_
    rintro _ w9 ⟨ea', ec', rfl, ho, hg⟩
    have O7 := hidg ho
    have F7 := hidg (grown_step F6.out hg)
    have D7 := hidg hg
    clear ho hg
    go_wp2_with fail
    refine (clone_any _ _ _ _ _ ((H8.out.step0 G2.out).step0 F7.out) (by omega)).mono ?_
    rintro _ w10 ⟨da', dc', rfl, ho, hg⟩
    have O8 := hidg ho
    have F8 := hidg (grown_step F7.out hg)
    have D8 := hidg hg
    clear ho hg
    go_wp2_with fail
    have E7 := hidg (grown_step D7.out D8.out)
    have E6 := hidg (grown_step D6.out E7.out)
    have E5 := hidg (grown_step D5.out E6.out)
    have E4 := hidg (grown_step D4.out E5.out)
    have E3 := hidg (grown_step D3.out E4.out)
    have E2 := hidg (grown_step D2.out E3.out)
    have S1 := hidg ((Sl.of_owns O1.out (by omega)).step0 E2.out)
    have S2 := hidg ((Sl.of_owns O2.out (by omega)).step0 E3.out)
    have S3 := hidg ((Sl.of_owns O3.out (by omega)).step0 E4.out)
    have S4 := hidg ((Sl.of_owns O4.out (by omega)).step0 E5.out)
    have S5 := hidg ((Sl.of_owns O5.out (by omega)).step0 E6.out)
    have S6 := hidg ((Sl.of_owns O6.out (by omega)).step0 E7.out)
    have S7 := hidg ((Sl.of_owns O7.out (by omega)).step0 D8.out)
    have A1 : Hid (∀ g, At ta' g → g < w9.heap.size) := fun g hg => by
      have := at_lt O1.out g hg; have := D2.out.size; have := D3.out.size; have := D4.out.size; have := D5.out.size; have := D6.out.size; have := D7.out.size; omega
    have A2 : Hid (∀ g, At an' g → g < w9.heap.size) := fun g hg => by
      have := at_lt O2.out g hg; have := D3.out.size; have := D4.out.size; have := D5.out.size; have := D6.out.size; have := D7.out.size; omega
    have A3 : Hid (∀ g, At ka' g → g < w9.heap.size) := fun g hg => by
      have := at_lt O3.out g hg; have := D4.out.size; have := D5.out.size; have := D6.out.size; have := D7.out.size; omega
    have A4 : Hid (∀ g, At nsa' g → g < w9.heap.size) := fun g hg => by
      have := at_lt O4.out g hg; have := D5.out.size; have := D6.out.size; have := D7.out.size; omega
    have A5 : Hid (∀ g, At nea' g → g < w9.heap.size) := fun g hg => by
      have := at_lt O5.out g hg; have := D6.out.size; have := D7.out.size; omega
    have A6 : Hid (∀ g, At sa' g → g < w9.heap.size) := fun g hg => by
      have := at_lt O6.out g hg; have := D7.out.size; omega
    have A7 : Hid (∀ g, At ea' g → g < w9.heap.size) := fun g hg => at_lt O7.out g hg
    have htk := HT.out trivial
    have HTN : Hid (∀ j, j < m4 → T.kinds.getD j 0 = 0 → Tok (sub T.text (T.st.getD j 0) (T.en.getD j 0))) := htk.node
    have HTR : Hid (k = 0 → Tok (sub T.text s e)) := htk.root
    have HNE : Hid (∀ j, j < m4 → T.kinds.getD j 0 = 0 → T.st.getD j 0 < T.en.getD j 0) := fun j hj h0 => tok_lt (htk.node j hj h0) (HS.out.scal j hj h0)
    have HN : Hid (NodeOK T m4 (m4 + 1) k s e) := node_of HR.out (fun h0 => tok_lt (htk.root h0) (HR.out.scal h0))
    have hlt : (outN T (m4 + 1) k s e).length ≤ 240525770760 := root_len T m4 k s e HS.out HR.out (by rw [H1.out.hlen]; omega) (by rw [H2.out.hlen]; omega) (by omega)
    have hsz0 : w'.heap.size ≤ w9.heap.size := (grown_step G2.out F7.out).size
    clear htk HT D2 D3 D4 D5 D6 D7 E2 E3 E4 E5 E6 E7 F1 F2 F3 F4 F5 F6 F7 O1 O2 O3 O4 O5 O6 O7
    have hsz := D8.out.size
    refine (zzwrite_any T m4 _ _ _ _ _ _ _ _ _ _ _ _ _ _ _ _ w9.heap.size _ nd _ k s e w10 (by omega) HS.out HBY.out HNE.out HN.out S1.out S2.out S3.out S4.out S5.out S6.out S7.out (fun g h => Nat.lt_of_lt_of_le (A1.out g h) hsz) (fun g h => Nat.lt_of_lt_of_le (A2.out g h) hsz) O8.out hsz (fun g h => ⟨fun h1 => ?_, fun h1 => ?_⟩) (by omega)).mono ?_
    · have := own_ge O8.out g h; have := A1.out g h1; omega
    · have := own_ge O8.out g h; have := A2.out g h1; omega
    rintro _ w11 ⟨v', rfl, ho, hgr⟩
    have HDO := hidg (Sl.of_owns (hgr.old O8.out) (by omega))
    have HG := hidg (grew_none (grown_step G2.out F8.out) hgr O8.out hsz0)
    have R1 := hidg (S1.out.grew hgr O8.out A1.out)
    have R2 := hidg (S2.out.grew hgr O8.out A2.out)
    have R3 := hidg (S3.out.grew hgr O8.out A3.out)
    have R4 := hidg (S4.out.grew hgr O8.out A4.out)
    have R5 := hidg (S5.out.grew hgr O8.out A5.out)
    have R6 := hidg (S6.out.grew hgr O8.out A6.out)
    have R7 := hidg (S7.out.grew hgr O8.out A7.out)
    obtain ⟨oa, oc, rfl, -⟩ := owns_shape ho
    have ho' : w11.ownsRow w9.heap.size 5 1 (.slice oa (nd + (outN T (m4 + 1) k s e).length) oc) (nd + (outN T (m4 + 1) k s e).length) ((D ++ outN T (m4 + 1) k s e).map (Value.int .u8)) := by
      rw [List.map_append]; exact ho
    have HO := hidg (Sl.of_owns ho' (by omega))
    have hdl : D.length = nd := H8.out.hlen
    have HH := hidg (hdl ▸ HO.out.head)
    have hoc := HO.out.hcap
    clear ho ho' hgr S1 S2 S3 S4 S5 S6 S7 A1 A2 A3 A4 A5 A6 A7 O8 F8 D8 G2 H1 H2 H3 H4 H5 H6 H7 H8 hsz hsz0
    have HL : Hid (∃ L, L = (outN T (m4 + 1) k s e).length) := ⟨_, rfl⟩
    generalize hLe : (outN T (m4 + 1) k s e).length = L at *
    have HLE := hidg hLe
    clear hLe HL
    have hc1 : (nd : Int) ≤ ((nd + L : Nat) : Int) := by omega
    go_wp2_with fail
    refine (eq_any _ _ _ D _ _ _ D _ HH.out HDO.out).mono ?_
    rintro _ w12 ⟨rfl, hg⟩
    have X1 := hidg (R1.out.step0 hg)
    have X2 := hidg (R2.out.step0 hg)
    have X3 := hidg (R3.out.step0 hg)
    have X4 := hidg (R4.out.step0 hg)
    have X5 := hidg (R5.out.step0 hg)
    have X6 := hidg (R6.out.step0 hg)
    have X7 := hidg (R7.out.step0 hg)
    have X8 := hidg (HO.out.step0 hg)
    have Y := hidg (grown_step HG.out hg)
    have hdd : decide (D = D) = true := decide_eq_true rfl
    clear hg R1 R2 R3 R4 R5 R6 R7 HO HDO HH HG
    go_wp2_with fail
    have hdrop : (D ++ outN T (m4 + 1) k s e).drop nd = outN T (m4 + 1) k s e ++ [] := by rw [List.append_nil, ← hdl, List.drop_left]
    refine (read_all T m4 _ ⟨ta', nt, ct', an', nn, cn', ka', kc', nsa', nsc', nea', nec', sa', sc', ea', ec'⟩ oa (nd + L) oc (D ++ outN T (m4 + 1) k s e) (by omega) HS.out HBY.out HTN.out HNE.out (m4 + 1) k s e HN.out HTR.out _ nd []
      (vw_new ⟨ta', nt, ct', an', nn, cn', ka', kc', nsa', nsc', nea', nec', sa', sc', ea', ec'⟩ X1.out X2.out X3.out X4.out X5.out X6.out X7.out) (X8.out.step0 (World.grownBy_alloc _ _ _)) hdrop (.inl rfl)).mono ?_
    rintro e' w13 ⟨he, hg⟩
    rw [HLE.out] at he
    subst he
    have Z := hidg (grown_step (grown_step Y.out (World.grownBy_alloc _ _ _)) hg)
    clear hg Y X1 X2 X3 X4 X5 X6 X7 X8 hdrop
    have heq : ((nd : Int) + (L : Int) == ((nd + L : Nat) : Int)) = true := by simp
    go_wp2_with fail
    go_ret
    exact ⟨rfl, Z.out⟩
  · go_wp2_with fail
    all_goals first | (exfalso; omega) | (go_ret; exact ⟨rfl, grown_refl _ _⟩)
end Go.Proofs.Qxb6603741a
