import Derived.Test.Qxb6604255aW12
import Derived.Test.Qxb6604255aW13
import Derived.Laws.Cover3
namespace Go.Proofs.Qxb6604255a
open Go.RowKit
set_option linter.unusedVariables false

set_option maxHeartbeats 3200000 in
set_option maxRecDepth 100000 in
theorem law4_long (fa sa : Option Addr) (fn fc ns sc : Nat) (r s : Int) (w : World) (l1 : fn ≤ 9223372036854775807) (l2 : ns ≤ 9223372036854775807) (hbig : ¬ (fn ≤ 4097 ∧ ns ≤ 4096)) :
    Calls Try.prog 4 #[.int .i64 r, .slice fa fn fc, .slice sa ns sc, .int .i64 s] w fun e' w' => e' = .returned (.bool true) ∧ w.grownBy w' none := by
  go_enter Try.func4, Try.ntmps4
  go_wp2_with fail
  refine (bytes12 _ _ _ _ _ _ _ _ _ l1 l2).mono ?_
  rintro e' w' ⟨⟨b, rfl, -⟩, rfl⟩
  cases b with
  | false =>
    go_wp2
    go_ret
    exact ⟨rfl, grown_refl _ _⟩
  | true =>
    go_wp2_with fail
    all_goals first | (exfalso; omega) | (go_ret; exact ⟨rfl, grown_refl _ _⟩)

set_option maxHeartbeats 12800000 in
set_option maxRecDepth 100000 in
theorem law4_any (fa sa : Option Addr) (fn fc ns sc : Nat) (F S : List Int) (r s : Int) (w : World) (hF : Sl w .i32 fa fn fc F) (hS : Sl w .i32 sa ns sc S) (hFr : ∀ j, In32 (F.getD j 0)) (hSr : ∀ j, In32 (S.getD j 0)) (h1 : fn ≤ 4097) (h2 : ns ≤ 4096) :
    Calls Try.prog 4 #[.int .i64 r, .slice fa fn fc, .slice sa ns sc, .int .i64 s] w fun e' w' => e' = .returned (.bool true) ∧ w.grownBy w' none := by
  obtain ⟨i0, hi0, hz0, hz1, hz2⟩ := info_parts Try.info21
  have hq := fun w a l c => run_neq_slice_nil (P := Try.prog) w 22 21 a l c Try.underlying22
  have HF := hidg hF
  have HS := hidg hS
  have HFR := hidg hFr
  have HSR := hidg hSr
  clear hF hS hFr hSr
  go_enter Try.func4, Try.ntmps4
  go_wp2_with fail
  refine (bytes12 _ _ _ _ _ _ _ _ _ (by omega) (by omega)).mono ?_
  rintro e' w' ⟨⟨b, rfl, -⟩, rfl⟩
  cases b with
  | false =>
    go_wp2
    go_ret
    exact ⟨rfl, grown_refl _ _⟩
  | true =>
  go_wp2_with fail
  refine (wf7 r fa sa fn fc ns sc F S w' HF.out HS.out h1 h2 HFR.out HSR.out).mono ?_
  rintro e' w1 ⟨⟨b, rfl, hwf⟩, hg1⟩
  have G1 := hidg hg1
  have HW := hidg hwf
  clear hg1 hwf
  cases b with
  | false =>
    go_wp2
    go_ret
    exact ⟨rfl, G1.out⟩
  | true =>
  obtain ⟨w1l, w1r0, w1r1, w1ok⟩ := HW.out rfl
  clear HW
  obtain ⟨n, rfl⟩ : ∃ n, fn = n + 1 := ⟨fn - 1, by omega⟩
  rw [Nat.add_sub_cancel] at w1r1 w1ok
  obtain ⟨nr, rfl⟩ := Int.eq_ofNat_of_zero_le w1r0
  have hok : (Gr.mk nr n F S).OK := w1ok
  have hGr : GrAt (Gr.mk nr n F S) w1 fa sa fc ns sc := ⟨hok, HF.out.step0 G1.out, HS.out.step0 G1.out, by show n ≤ 4096; omega, h2, HFR.out, HSR.out⟩
  have hnr : nr ≤ n := by omega
  have HGr := hidg hGr
  have HOK := hidg hok
  clear w1l w1r0 w1r1 w1ok hok hGr
  by_cases hs0 : s < 0
  · go_wp2
    go_ret
    exact ⟨rfl, G1.out⟩
  obtain ⟨sn, rfl⟩ := Int.eq_ofNat_of_zero_le (by omega : 0 ≤ s)
  by_cases hsr : sn < nr
  · have hsr1 : (sn : Int) < nr := by omega
    go_wp2_with fail
    refine (min8 (Gr.mk nr n F S) sn fa sa fc ns sc w1 HGr.out hsr).mono ?_
    rintro e' w2 ⟨b, rfl, hmin, hb5, hg2⟩
    have G2 := hidg (grown_step G1.out hg2)
    have G12 := hidg hg2
    have HM := hidg hmin
    clear hg2 hmin
    by_cases hb0 : b < 0
    · go_wp2
      go_ret
      exact ⟨rfl, G2.out⟩
    have hle := HM.out (by omega)
    have HL := hidg hle
    clear hle HM
    obtain ⟨fb, fo, rfl, _⟩ := HF.out.cells (by omega)
    have hbb : decide (b < 0) = false := decide_eq_false hb0
    go_wp2_with (at_make; refine Hid.out ?_)
    refine hidg ?_
    refine wpList_make_full _ rfl _ _ 22 rfl w2.heap.size 21 i0 (.int .i32 0) 1 Try.underlying22 hi0 hz0 hz1 .i64 .i64 ((n : Int) + 1) ((n : Int) + 1) (n + 1) rfl rfl (by omega) (by omega) (by rw [hz2]; omega) (by unfold maxLen; omega) (Nat.le_refl _) ?_
    intro w3 hown3 hg3
    have O3 := hidg hown3
    have G3 := hidg (grown_step G2.out hg3)
    have hs3 := hg3.size
    clear hown3 hg3
    go_wp2_with (refine wpList_copied w3 rfl (.tmp 49) (.tmp 50) 22 rfl w2.heap.size 21 i0 Try.underlying22 hi0 hz1 w2.heap.size (n + 1) (n + 1) _ O3.out (some ⟨fb, fo, none⟩) fc (F.map (Value.int .i32)) rfl rfl (by rw [List.length_map]; exact HF.out.hlen) (sl_src (HF.out.step0 G3.out)) (fun h => by cases h) (i32_one F) ?_)
    intro w4 hown4 hg4
    have HF4 := hidg (copy_sl hown4 (by omega))
    have hlt4 : w2.heap.size < w4.heap.size := by
      have := owns_lt hown4 (g := w2.heap.size) rfl
      exact this
    have G4 := hidg (grown_new G3.out hg4 (by have := G2.out.size; omega))
    clear O3 G3 hown4 hg4
    generalize hgf : w2.heap.size = gf at *
    have HGF := hidg hgf
    clear hgf
    cases sa with
    | none =>
      have hns0 : ns = 0 := by have h3 := HS.out.hnil rfl; have h4 := HS.out.hcap; omega
      subst hns0
      have hsc0 : sc = 0 := HS.out.hnil rfl
      subst hsc0
      have HGR4 : Hid (GrAt (Gr.mk nr n F S) w4 (some ⟨gf, 0, none⟩) none (n + 1) 0 0) := ⟨HOK.out, HF4.out, HS.out.step0 G4.out, by show n ≤ 4096; omega, h2, HFR.out, HSR.out⟩
      have HPL : Hid (Plainly none) := .inl rfl
      have HSB : Hid (∀ b off, (none : Option Addr) = some ⟨b, off, none⟩ → b < w4.heap.size) := fun b off h => by cases h
      have hsaid : True := trivial
      go_wp2_with fail
      refine (zz9 (Gr.mk nr n F S) sn (some ⟨gf, 0, none⟩) none (n + 1) 0 0 w4 HGR4.out HPL.out hsr b.toNat HL.out.1).mono ?_
      rintro e' w7 ⟨v, C, rfl, hown7, hV, hsC, hle7, hg7⟩
      obtain ⟨cb, cc, rfl, _, hcb2, _⟩ := owns_ao hown7 hV.pos
      have hCl : C.length ≤ 5000 := by have h3 := hle7.2 _ HL.out.1; omega
      have E7 := hidg (And.intro (owns_list hown7).1 (And.intro hV (And.intro hle7 (HGR4.out.step0 hg7))))
      have G7 := hidg (And.intro (grown_step G4.out hg7) hg7)
      clear hown7 hV hsC hle7 hg7 hcb2
      go_wp2_with fail
      refine (valid11 (Gr.mk nr n F S) C cb cc (some ⟨gf, 0, none⟩) none (n + 1) 0 0 w7 E7.out.2.2.2 E7.out.1 E7.out.2.1 (fun b off h => Nat.lt_of_lt_of_le (HSB.out b off h) G7.out.2.size) hCl).mono ?_
      rintro e' w8 ⟨rfl, hg8⟩
      have G8 := hidg (And.intro (grown_step G7.out.1 hg8) hg8)
      clear hg8
      go_wp2
      go_loopg [12] C.length (fun q iv wr => ∃ i : Nat, i ≤ C.length ∧ q = C.length - i ∧ iv = .int .i64 i ∧ Hid (w'.grownBy wr none ∧ w7.grownBy wr none))
      case atStart => exact ⟨0, Nat.zero_le _, rfl, rfl, G8.out⟩
      case round =>
        clear G8
        obtain ⟨i, hi, rfl, rfl, HX⟩ := hrel
        by_cases hlt : i < C.length
        · have cx := HX.out.2.cell (E7.out.1 i hlt) (by simp)
          have hxr := E7.out.2.1.real _ (getD_mem hlt)
          have hcl := E7.out.2.1.closed _ (getD_mem hlt)
          have hil : (i : Int) < C.length := by omega
          have HCL := hidg hcl
          clear hcl
          generalize C.getD i 0 = x at *
          go_wp2_with fail
          refine (zz9 (Gr.mk nr n F S) x (some ⟨gf, 0, none⟩) none (n + 1) 0 0 wr (E7.out.2.2.2.step0 HX.out.2) HPL.out hxr C.length HCL.out).mono ?_
          rintro e' w9 ⟨v9, D, rfl, hown9, hV9, _, hle9, hg9⟩
          obtain ⟨db9, dc9, rfl, _, _, _⟩ := owns_ao hown9 hV9.pos
          have hDl : D.length ≤ C.length := hle9.2 _ HCL.out
          have hDl1 : ¬ (C.length : Int) < D.length := by omega
          have G9 := hidg (And.intro (grown_step HX.out.1 hg9) (grown_step HX.out.2 hg9))
          clear hown9 hV9 hle9 hg9 HX
          go_wp2
          go_roundg (C.length - (i + 1))
          case rel => exact ⟨i + 1, by omega, rfl, by go_num, G9.out⟩
          case measure => omega
        · obtain rfl : i = C.length := by omega
          go_wp2
          go_ret
          exact ⟨rfl, HX.out.1⟩
    | some sad =>
      go_wp2_with (at_make; refine Hid.out ?_)
      refine hidg ?_
      refine wpList_make_full _ rfl _ _ 22 rfl w4.heap.size 21 i0 (.int .i32 0) 1 Try.underlying22 hi0 hz0 hz1 _ _ _ _ ns rfl rfl rfl rfl (by rw [hz2]; omega) (by unfold maxLen; omega) (Nat.le_refl _) ?_
      intro w5 hown5 hg5
      have O5 := hidg hown5
      have G5 := hidg (grown_step G4.out hg5)
      have G45 := hidg hg5
      clear hown5 hg5
      go_wp2_with (refine wpList_copied w5 rfl (.tmp 58) (.tmp 59) 22 rfl w4.heap.size 21 i0 Try.underlying22 hi0 hz1 w4.heap.size ns ns _ O5.out (some sad) sc (S.map (Value.int .i32)) rfl rfl (by rw [List.length_map]; exact HS.out.hlen) (sl_src (HS.out.step0 G5.out)) (fun h => by cases h) (i32_one S) ?_)
      intro w6 hown6 hg6
      have HS6 := hidg (copy_sl hown6 (by omega))
      have hlt6 : w4.heap.size < w6.heap.size := owns_lt hown6 (g := w4.heap.size) rfl
      have hg46 := grown_new G45.out hg6 (Nat.le_refl _)
      have G6 := hidg (grown_step G4.out hg46)
      have HGR4 : Hid (GrAt (Gr.mk nr n F S) w6 (some ⟨gf, 0, none⟩) (some ⟨w4.heap.size, 0, none⟩) (n + 1) ns ns) := ⟨HOK.out, HF4.out.step0 hg46, HS6.out, by show n ≤ 4096; omega, h2, HFR.out, HSR.out⟩
      clear O5 G5 G45 hown6 hg6 hg46 HS6
      have HPL : Hid (Plainly (some ⟨w4.heap.size, 0, none⟩)) := .inr ⟨_, _, rfl⟩
      have HSB : Hid (∀ b off, (some (⟨w4.heap.size, 0, none⟩ : Addr)) = some ⟨b, off, none⟩ → b < w6.heap.size) := fun b off h => by cases h; exact hlt6
      go_wp2_with fail
      refine (zz9 (Gr.mk nr n F S) sn (some ⟨gf, 0, none⟩) (some ⟨w4.heap.size, 0, none⟩) (n + 1) ns ns w6 HGR4.out HPL.out hsr b.toNat HL.out.1).mono ?_
      rintro e' w7 ⟨v, C, rfl, hown7, hV, hsC, hle7, hg7⟩
      obtain ⟨cb, cc, rfl, _, hcb2, _⟩ := owns_ao hown7 hV.pos
      have hCl : C.length ≤ 5000 := by have h3 := hle7.2 _ HL.out.1; omega
      have E7 := hidg (And.intro (owns_list hown7).1 (And.intro hV (And.intro hle7 (HGR4.out.step0 hg7))))
      have G7 := hidg (And.intro (grown_step G6.out hg7) hg7)
      clear hown7 hV hsC hle7 hg7 hcb2
      go_wp2_with fail
      refine (valid11 (Gr.mk nr n F S) C cb cc (some ⟨gf, 0, none⟩) (some ⟨w4.heap.size, 0, none⟩) (n + 1) ns ns w7 E7.out.2.2.2 E7.out.1 E7.out.2.1 (fun b off h => Nat.lt_of_lt_of_le (HSB.out b off h) G7.out.2.size) hCl).mono ?_
      rintro e' w8 ⟨rfl, hg8⟩
      have G8 := hidg (And.intro (grown_step G7.out.1 hg8) hg8)
      clear hg8
      go_wp2
      go_loopg [12] C.length (fun q iv wr => ∃ i : Nat, i ≤ C.length ∧ q = C.length - i ∧ iv = .int .i64 i ∧ Hid (w'.grownBy wr none ∧ w7.grownBy wr none))
      case atStart => exact ⟨0, Nat.zero_le _, rfl, rfl, G8.out⟩
      case round =>
        clear G8
        obtain ⟨i, hi, rfl, rfl, HX⟩ := hrel
        by_cases hlt : i < C.length
        · have cx := HX.out.2.cell (E7.out.1 i hlt) (by simp)
          have hxr := E7.out.2.1.real _ (getD_mem hlt)
          have hcl := E7.out.2.1.closed _ (getD_mem hlt)
          have hil : (i : Int) < C.length := by omega
          have HCL := hidg hcl
          clear hcl
          generalize C.getD i 0 = x at *
          go_wp2_with fail
          refine (zz9 (Gr.mk nr n F S) x (some ⟨gf, 0, none⟩) (some ⟨w4.heap.size, 0, none⟩) (n + 1) ns ns wr (E7.out.2.2.2.step0 HX.out.2) HPL.out hxr C.length HCL.out).mono ?_
          rintro e' w9 ⟨v9, D, rfl, hown9, hV9, _, hle9, hg9⟩
          obtain ⟨db9, dc9, rfl, _, _, _⟩ := owns_ao hown9 hV9.pos
          have hDl : D.length ≤ C.length := hle9.2 _ HCL.out
          have hDl1 : ¬ (C.length : Int) < D.length := by omega
          have G9 := hidg (And.intro (grown_step HX.out.1 hg9) (grown_step HX.out.2 hg9))
          clear hown9 hV9 hle9 hg9 HX
          go_wp2
          go_roundg (C.length - (i + 1))
          case rel => exact ⟨i + 1, by omega, rfl, by go_num, G9.out⟩
          case measure => omega
        · obtain rfl : i = C.length := by omega
          go_wp2
          go_ret
          exact ⟨rfl, HX.out.1⟩
  · have hsr1 : ¬ (sn : Int) < nr := by omega
    go_wp2
    go_ret
    exact ⟨rfl, G1.out⟩
end Go.Proofs.Qxb6604255a
