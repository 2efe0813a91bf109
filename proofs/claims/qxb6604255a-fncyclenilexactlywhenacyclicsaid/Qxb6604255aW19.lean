import Derived.Test.Qxb6604255aW13
import Derived.Test.Qxb6604255aW16
import Derived.Test.Qxb6604255aW18
import Derived.Laws.Cover3
namespace Go.Proofs.Qxb6604255a
open Go.RowKit
set_option linter.unusedVariables false

set_option maxHeartbeats 3200000 in
set_option maxRecDepth 100000 in
theorem zz15 (G : Gr) (fa sa : Option Addr) (fc ns sc : Nat) (w : World) (hG : GrAt G w fa sa fc ns sc) (hP : Plainly sa) (hR : G.Ranked G.nreal) :
    Calls Try.prog 15 #[.int .i64 G.nreal, .slice fa (G.n + 1) fc, .slice sa ns sc] w fun e w' => CycleRes G w e w' := by
  have hg : w.grownBy (w.alloc (.cells #[.int .i64 G.nreal, .slice fa (G.n + 1) fc, .slice sa ns sc] 34)) none := World.grownBy_alloc _ _ _
  have hD : DgAt G (w.alloc (.cells #[.int .i64 G.nreal, .slice fa (G.n + 1) fc, .slice sa ns sc] 34)) w.heap.size fa sa fc ns sc := ⟨new_cell _ _ _ _ _ rfl, new_cell _ _ _ _ _ rfl, new_cell _ _ _ _ _ rfl⟩
  have H := hidg (cycle18 G w.heap.size fa sa fc ns sc _ hD (hG.step0 hg) hP hR)
  have HG := hidg hg
  clear hg hD hG hP hR
  go_enter Try.func15, Try.ntmps15
  go_wp2_with fail
  refine H.out.mono ?_
  intro e w' hres
  obtain ⟨v, rfl, E⟩ : ∃ v, e = .returned v ∧ Hid (CycleRes G w (.returned v) w') := by
    rcases hres with ⟨rfl, h2, h3⟩ | ⟨s, hs, v, C, rfl, h2, h3, h4, h5, h6⟩
    · exact ⟨_, rfl, .inl ⟨rfl, grown_step HG.out h2, h3⟩⟩
    · exact ⟨v, rfl, .inr ⟨s, hs, v, C, rfl, owns_base h2 HG.out.size, h3, h4, h5, grown_step HG.out h6⟩⟩
  clear hres H HG
  go_wp2
  go_ret
  exact E.out

theorem kahn0 (G : Gr) (fa sa : Option Addr) (fc ns sc : Nat) (w : World) (hG : GrAt G w fa sa fc ns sc) :
    Calls Try.prog 14 #[.int .i64 0, .slice fa (G.n + 1) fc, .slice sa ns sc] w fun e w' => KahnRes G 0 w e w' := kahn14 G 0 fa sa fc ns sc w hG (Nat.zero_le _)

theorem Gr.Valid.len {G : Gr} {C : List Nat} (h : G.Valid C) (ok : G.OK) : C.length ≤ G.n := by
  have hr := ok.real
  rw [← cnt_list C G.n h.nodup (fun x hx => by have := h.real x hx; omega)]
  exact cnt_le _ _

set_option maxHeartbeats 3200000 in
set_option maxRecDepth 100000 in
theorem law5_long (fa sa : Option Addr) (fn fc ns sc : Nat) (r : Int) (w : World) (l1 : fn ≤ 9223372036854775807) (l2 : ns ≤ 9223372036854775807) (hbig : ¬ (fn ≤ 4097 ∧ ns ≤ 4096)) :
    Calls Try.prog 5 #[.int .i64 r, .slice fa fn fc, .slice sa ns sc] w fun e' w' => e' = .returned (.bool true) ∧ w.grownBy w' none := by
  go_enter Try.func5, Try.ntmps5
  go_wp2_with fail
  refine (bytes13 _ _ _ _ _ _ _ _ l1 l2).mono ?_
  rintro e' w' ⟨⟨b, rfl, -⟩, rfl⟩
  cases b with
  | false =>
    go_wp2
    go_ret
    exact ⟨rfl, grown_refl _ _⟩
  | true =>
    go_wp2_with fail
    all_goals first | (exfalso; omega) | (go_ret; exact ⟨rfl, grown_refl _ _⟩)

set_option maxHeartbeats 12800000 in
set_option maxRecDepth 100000 in
theorem law5_any (fa sa : Option Addr) (fn fc ns sc : Nat) (F S : List Int) (r : Int) (w : World) (hF : Sl w .i32 fa fn fc F) (hS : Sl w .i32 sa ns sc S) (hFr : ∀ j, In32 (F.getD j 0)) (hSr : ∀ j, In32 (S.getD j 0)) (h1 : fn ≤ 4097) (h2 : ns ≤ 4096) :
    Calls Try.prog 5 #[.int .i64 r, .slice fa fn fc, .slice sa ns sc] w fun e' w' => e' = .returned (.bool true) ∧ w.grownBy w' none := by
  obtain ⟨i0, hi0, hz0, hz1, hz2⟩ := info_parts Try.info21
  have hq := fun w a l c => run_neq_slice_nil (P := Try.prog) w 22 21 a l c Try.underlying22
  have hq2 := fun w a n c => Lib.run_eql_slice_nil (P := Try.prog) w 26 3 a n c 0 0 Try.underlying26
  have HF := hidg hF
  have HS := hidg hS
  have HFR := hidg hFr
  have HSR := hidg hSr
  clear hF hS hFr hSr
  go_enter Try.func5, Try.ntmps5
  go_wp2_with fail
  refine (bytes13 _ _ _ _ _ _ _ _ (by omega) (by omega)).mono ?_
  rintro e' w' ⟨⟨b, rfl, -⟩, rfl⟩
  cases b with
  | false =>
    go_wp2
    go_ret
    exact ⟨rfl, grown_refl _ _⟩
  | true =>
  go_wp2_with fail
  refine (wf7 r fa sa fn fc ns sc F S w' HF.out HS.out h1 h2 HFR.out HSR.out).mono ?_
  rintro e' w1 ⟨⟨b, rfl, hwf⟩, hg1⟩
  have G1 := hidg hg1
  have HW := hidg hwf
  clear hg1 hwf
  cases b with
  | false =>
    go_wp2
    go_ret
    exact ⟨rfl, G1.out⟩
  | true =>
  obtain ⟨w1l, w1r0, w1r1, w1ok⟩ := HW.out rfl
  clear HW
  obtain ⟨n, rfl⟩ : ∃ n, fn = n + 1 := ⟨fn - 1, by omega⟩
  rw [Nat.add_sub_cancel] at w1r1 w1ok
  obtain ⟨nr, rfl⟩ := Int.eq_ofNat_of_zero_le w1r0
  have hok : (Gr.mk nr n F S).OK := w1ok
  have hGr : GrAt (Gr.mk nr n F S) w1 fa sa fc ns sc := ⟨hok, HF.out.step0 G1.out, HS.out.step0 G1.out, by show n ≤ 4096; omega, h2, HFR.out, HSR.out⟩
  have hnr : nr ≤ n := by omega
  have HGr := hidg hGr
  have HOK := hidg hok
  clear w1l w1r0 w1r1 w1ok hok hGr
  go_wp2_with fail
  refine (kahn14 (Gr.mk nr n F S) nr fa sa fc ns sc w1 HGr.out hnr).mono ?_
  rintro e' w2 ⟨b, rfl, hrank, _, hg2⟩
  have G2 := hidg (grown_step G1.out hg2)
  have HRK := hidg hrank
  clear hg2 hrank
  cases b with
  | false =>
    go_wp2
    go_ret
    exact ⟨rfl, G2.out⟩
  | true =>
    have hrk := HRK.out rfl
    have HRN := hidg hrk
    clear hrk HRK
    obtain ⟨fb, fo, rfl, _⟩ := HF.out.cells (by omega)
    go_wp2_with (at_make; refine Hid.out ?_)
    refine hidg ?_
    refine wpList_make_full _ rfl _ _ 22 rfl w2.heap.size 21 i0 (.int .i32 0) 1 Try.underlying22 hi0 hz0 hz1 .i64 .i64 ((n : Int) + 1) ((n : Int) + 1) (n + 1) rfl rfl (by omega) (by omega) (by rw [hz2]; omega) (by unfold maxLen; omega) (Nat.le_refl _) ?_
    intro w3 hown3 hg3
    have O3 := hidg hown3
    have G3 := hidg (grown_step G2.out hg3)
    have hs3 := hg3.size
    clear hown3 hg3
    go_wp2_with (refine wpList_copied w3 rfl (.tmp 36) (.tmp 37) 22 rfl w2.heap.size 21 i0 Try.underlying22 hi0 hz1 w2.heap.size (n + 1) (n + 1) _ O3.out (some ⟨fb, fo, none⟩) fc (F.map (Value.int .i32)) rfl rfl (by rw [List.length_map]; exact HF.out.hlen) (sl_src (HF.out.step0 G3.out)) (fun h => by cases h) (i32_one F) ?_)
    intro w4 hown4 hg4
    have HF4 := hidg (copy_sl hown4 (by omega))
    have hlt4 : w2.heap.size < w4.heap.size := by
      have := owns_lt hown4 (g := w2.heap.size) rfl
      exact this
    have G4 := hidg (grown_new G3.out hg4 (by have := G2.out.size; omega))
    clear O3 G3 hown4 hg4
    generalize hgf : w2.heap.size = gf at *
    have HGF := hidg hgf
    clear hgf
    cases sa with
    | none =>
      have hns0 : ns = 0 := by have h3 := HS.out.hnil rfl; have h4 := HS.out.hcap; omega
      subst hns0
      have hsc0 : sc = 0 := HS.out.hnil rfl
      subst hsc0
      have HGR4 : Hid (GrAt (Gr.mk nr n F S) w4 (some ⟨gf, 0, none⟩) none (n + 1) 0 0) := ⟨HOK.out, HF4.out, HS.out.step0 G4.out, by show n ≤ 4096; omega, h2, HFR.out, HSR.out⟩
      have HPL : Hid (Plainly none) := .inl rfl
      have HSB : Hid (∀ b off, (none : Option Addr) = some ⟨b, off, none⟩ → b < w4.heap.size) := fun b off h => by cases h
      go_wp2_with fail
      refine (zz15 (Gr.mk nr n F S) (some ⟨gf, 0, none⟩) none (n + 1) 0 0 w4 HGR4.out HPL.out HRN.out).mono ?_
      intro e' w7 hres
      rcases hres with ⟨rfl, hg7, hfree⟩ | ⟨sx, hsx, v, C, rfl, hown7, hV, hsC, hle7, hg7⟩
      · have G7 := hidg (grown_step G4.out hg7)
        have HGR7 := hidg (HGR4.out.step0 hg7)
        have HFR := hidg hfree
        clear hg7 hfree
        go_wp2_with fail
        refine (kahn0 (Gr.mk nr n F S) (some ⟨gf, 0, none⟩) none (n + 1) 0 0 w7 HGR7.out).mono ?_
        rintro e' w8 ⟨b, rfl, _, hstuck, hg8⟩
        have G8 := hidg (grown_step G7.out hg8)
        cases b with
        | false => exact absurd (hstuck rfl) HFR.out
        | true =>
          clear hstuck hg8
          go_wp2
          go_ret
          exact ⟨rfl, G8.out⟩
      · obtain ⟨cb, cc, rfl, _, hcb2, _⟩ := owns_ao hown7 hV.pos
        have hCl : C.length ≤ 5000 := by have h3 := hV.len HOK.out; have h4 : C.length ≤ n := h3; omega
        have E7 := hidg (And.intro (owns_list hown7).1 (And.intro hV (And.intro hle7 (HGR4.out.step0 hg7))))
        have G7 := hidg (And.intro (grown_step G4.out hg7) hg7)
        clear hown7 hV hsC hle7 hg7 hcb2
        go_wp2_with fail
        refine (kahn0 (Gr.mk nr n F S) (some ⟨gf, 0, none⟩) none (n + 1) 0 0 w7 E7.out.2.2.2).mono ?_
        rintro e' w8 ⟨b, rfl, hrank, _, hg8⟩
        have G8 := hidg (And.intro (grown_step G7.out.1 hg8) hg8)
        cases b with
        | true => exact ((hrank rfl).open_ sx _ E7.out.2.2.1.1).elim
        | false =>
          clear hrank hg8
          go_wp2_with fail
          refine (valid11 (Gr.mk nr n F S) C cb cc (some ⟨gf, 0, none⟩) none (n + 1) 0 0 w8 (E7.out.2.2.2.step0 G8.out.2) (E7.out.1.step G8.out.2) E7.out.2.1 (fun b off h => Nat.lt_of_lt_of_le (Nat.lt_of_lt_of_le (HSB.out b off h) G7.out.2.size) G8.out.2.size) hCl).mono ?_
          rintro e' w9 ⟨rfl, hg9⟩
          have G9 := hidg (grown_step G8.out.1 hg9)
          clear hg9
          go_wp2
          go_ret
          exact ⟨rfl, G9.out⟩
    | some sad =>
      go_wp2_with (at_make; refine Hid.out ?_)
      refine hidg ?_
      refine wpList_make_full _ rfl _ _ 22 rfl w4.heap.size 21 i0 (.int .i32 0) 1 Try.underlying22 hi0 hz0 hz1 _ _ _ _ ns rfl rfl rfl rfl (by rw [hz2]; omega) (by unfold maxLen; omega) (Nat.le_refl _) ?_
      intro w5 hown5 hg5
      have O5 := hidg hown5
      have G5 := hidg (grown_step G4.out hg5)
      have G45 := hidg hg5
      clear hown5 hg5
      go_wp2_with (refine wpList_copied w5 rfl (.tmp 45) (.tmp 46) 22 rfl w4.heap.size 21 i0 Try.underlying22 hi0 hz1 w4.heap.size ns ns _ O5.out (some sad) sc (S.map (Value.int .i32)) rfl rfl (by rw [List.length_map]; exact HS.out.hlen) (sl_src (HS.out.step0 G5.out)) (fun h => by cases h) (i32_one S) ?_)
      intro w6 hown6 hg6
      have HS6 := hidg (copy_sl hown6 (by omega))
      have hlt6 : w4.heap.size < w6.heap.size := owns_lt hown6 (g := w4.heap.size) rfl
      have hg46 := grown_new G45.out hg6 (Nat.le_refl _)
      have G6 := hidg (grown_step G4.out hg46)
      have HGR4 : Hid (GrAt (Gr.mk nr n F S) w6 (some ⟨gf, 0, none⟩) (some ⟨w4.heap.size, 0, none⟩) (n + 1) ns ns) := ⟨HOK.out, HF4.out.step0 hg46, HS6.out, by show n ≤ 4096; omega, h2, HFR.out, HSR.out⟩
      clear O5 G5 G45 hown6 hg6 hg46 HS6
      have HPL : Hid (Plainly (some ⟨w4.heap.size, 0, none⟩)) := .inr ⟨_, _, rfl⟩
      have HSB : Hid (∀ b off, (some (⟨w4.heap.size, 0, none⟩ : Addr)) = some ⟨b, off, none⟩ → b < w6.heap.size) := fun b off h => by cases h; exact hlt6
      go_wp2_with fail
      refine (zz15 (Gr.mk nr n F S) (some ⟨gf, 0, none⟩) (some ⟨w4.heap.size, 0, none⟩) (n + 1) ns ns w6 HGR4.out HPL.out HRN.out).mono ?_
      intro e' w7 hres
      rcases hres with ⟨rfl, hg7, hfree⟩ | ⟨sx, hsx, v, C, rfl, hown7, hV, hsC, hle7, hg7⟩
      · have G7 := hidg (grown_step G6.out hg7)
        have HGR7 := hidg (HGR4.out.step0 hg7)
        have HFR := hidg hfree
        clear hg7 hfree
        go_wp2_with fail
        refine (kahn0 (Gr.mk nr n F S) (some ⟨gf, 0, none⟩) (some ⟨w4.heap.size, 0, none⟩) (n + 1) ns ns w7 HGR7.out).mono ?_
        rintro e' w8 ⟨b, rfl, _, hstuck, hg8⟩
        have G8 := hidg (grown_step G7.out hg8)
        cases b with
        | false => exact absurd (hstuck rfl) HFR.out
        | true =>
          clear hstuck hg8
          go_wp2
          go_ret
          exact ⟨rfl, G8.out⟩
      · obtain ⟨cb, cc, rfl, _, hcb2, _⟩ := owns_ao hown7 hV.pos
        have hCl : C.length ≤ 5000 := by have h3 := hV.len HOK.out; have h4 : C.length ≤ n := h3; omega
        have E7 := hidg (And.intro (owns_list hown7).1 (And.intro hV (And.intro hle7 (HGR4.out.step0 hg7))))
        have G7 := hidg (And.intro (grown_step G6.out hg7) hg7)
        clear hown7 hV hsC hle7 hg7 hcb2
        go_wp2_with fail
        refine (kahn0 (Gr.mk nr n F S) (some ⟨gf, 0, none⟩) (some ⟨w4.heap.size, 0, none⟩) (n + 1) ns ns w7 E7.out.2.2.2).mono ?_
        rintro e' w8 ⟨b, rfl, hrank, _, hg8⟩
        have G8 := hidg (And.intro (grown_step G7.out.1 hg8) hg8)
        cases b with
        | true => exact ((hrank rfl).open_ sx _ E7.out.2.2.1.1).elim
        | false =>
          clear hrank hg8
          go_wp2_with fail
          refine (valid11 (Gr.mk nr n F S) C cb cc (some ⟨gf, 0, none⟩) (some ⟨w4.heap.size, 0, none⟩) (n + 1) ns ns w8 (E7.out.2.2.2.step0 G8.out.2) (E7.out.1.step G8.out.2) E7.out.2.1 (fun b off h => Nat.lt_of_lt_of_le (Nat.lt_of_lt_of_le (HSB.out b off h) G7.out.2.size) G8.out.2.size) hCl).mono ?_
          rintro e' w9 ⟨rfl, hg9⟩
          have G9 := hidg (grown_step G8.out.1 hg9)
          clear hg9
          go_wp2
          go_ret
          exact ⟨rfl, G9.out⟩
end Go.Proofs.Qxb6604255a
