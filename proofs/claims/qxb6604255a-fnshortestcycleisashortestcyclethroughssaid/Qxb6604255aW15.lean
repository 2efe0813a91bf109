import Derived.Test.Qxb6604255aW12
import Derived.Test.Qxb6604255aW13
import Derived.Laws.Cover3
namespace Go.Proofs.Qxb6604255a
open Go.RowKit
set_option linter.unusedVariables false

set_option maxHeartbeats 3200000 in
set_option maxRecDepth 100000 in
theorem contains10 (C : List Nat) (cb cc x : Nat) (w : World) (hC : ListAt w cb C) (hx : x ∈ C) (hl : C.length ≤ 5000) :
    Calls Try.prog 10 #[.slice (some ⟨cb, 0, none⟩) C.length cc, .int .i64 x] w fun e w' => e = .returned (.bool true) ∧ w' = w := by
  have HC := hidg hC
  have HX := hidg hx
  clear hC hx
  go_enter Try.func10, Try.ntmps10
  go_wp2
  go_loopg [5] C.length (fun q iv wr => ∃ i : Nat, i ≤ C.length ∧ q = C.length - i ∧ iv = .int .i64 i ∧ wr = w ∧ Hid (∀ j, j < i → C.getD j 0 ≠ x))
  case atStart => exact ⟨0, Nat.zero_le _, rfl, rfl, rfl, fun j h => by omega⟩
  case round =>
    obtain ⟨i, hi, rfl, rfl, rfl, HN⟩ := hrel
    by_cases hlt : i < C.length
    · have ci := HC.out i hlt
      have hil : (i : Int) < C.length := by omega
      by_cases hxi : C.getD i 0 = x
      · rw [hxi] at ci
        clear hxi
        go_wp2
        go_ret
        exact ⟨rfl, rfl⟩
      · have HXI := hidg hxi
        have bx : (((C.getD i 0 : Nat) : Int) == (x : Int)) = false := by rw [beq_eq_false_iff_ne]; omega
        have HN2 : Hid (∀ j, j < i + 1 → C.getD j 0 ≠ x) := fun j hj => by
          by_cases hji : j = i
          · subst hji; exact HXI.out
          · exact HN.out j (by omega)
        clear hxi HXI HN
        generalize C.getD i 0 = y at ci bx
        go_wp2
        go_roundg (C.length - (i + 1))
        case rel => exact ⟨i + 1, by omega, rfl, by go_num, rfl, HN2.out⟩
        case measure => omega
    · exfalso
      obtain ⟨j, hj, hjx⟩ := List.getElem_of_mem HX.out
      exact HN.out j (by omega) (by rw [List.getD_eq_getElem?_getD, List.getElem?_eq_getElem hj]; exact hjx)

set_option maxHeartbeats 3200000 in
set_option maxRecDepth 100000 in
theorem law3_long (fa sa : Option Addr) (fn fc ns sc : Nat) (r s : Int) (w : World) (l1 : fn ≤ 9223372036854775807) (l2 : ns ≤ 9223372036854775807) (hbig : ¬ (fn ≤ 4097 ∧ ns ≤ 4096)) :
    Calls Try.prog 3 #[.int .i64 r, .slice fa fn fc, .slice sa ns sc, .int .i64 s] w fun e' w' => e' = .returned (.bool true) ∧ w.grownBy w' none := by
  go_enter Try.func3, Try.ntmps3
  go_wp2_with fail
  refine (bytes6 _ _ _ _ _ _ _ _ _ l1 l2).mono ?_
  rintro e' w' ⟨⟨b, rfl, -⟩, rfl⟩
  cases b with
  | false =>
    go_wp2
    go_ret
    exact ⟨rfl, grown_refl _ _⟩
  | true =>
    go_wp2_with fail
    all_goals first | (exfalso; omega) | (go_ret; exact ⟨rfl, grown_refl _ _⟩)

set_option maxHeartbeats 12800000 in
set_option maxRecDepth 100000 in
theorem law3_any (fa sa : Option Addr) (fn fc ns sc : Nat) (F S : List Int) (r s : Int) (w : World) (hF : Sl w .i32 fa fn fc F) (hS : Sl w .i32 sa ns sc S) (hFr : ∀ j, In32 (F.getD j 0)) (hSr : ∀ j, In32 (S.getD j 0)) (h1 : fn ≤ 4097) (h2 : ns ≤ 4096) :
    Calls Try.prog 3 #[.int .i64 r, .slice fa fn fc, .slice sa ns sc, .int .i64 s] w fun e' w' => e' = .returned (.bool true) ∧ w.grownBy w' none := by
  obtain ⟨i0, hi0, hz0, hz1, hz2⟩ := info_parts Try.info21
  have hq := fun w a l c => run_neq_slice_nil (P := Try.prog) w 22 21 a l c Try.underlying22
  have HF := hidg hF
  have HS := hidg hS
  have HFR := hidg hFr
  have HSR := hidg hSr
  clear hF hS hFr hSr
  go_enter Try.func3, Try.ntmps3
  go_wp2_with fail
  refine (bytes6 _ _ _ _ _ _ _ _ _ (by omega) (by omega)).mono ?_
  rintro e' w' ⟨⟨b, rfl, -⟩, rfl⟩
  cases b with
  | false =>
    go_wp2
    go_ret
    exact ⟨rfl, grown_refl _ _⟩
  | true =>
  go_wp2_with fail
  refine (wf7 r fa sa fn fc ns sc F S w' HF.out HS.out h1 h2 HFR.out HSR.out).mono ?_
  rintro e' w1 ⟨⟨b, rfl, hwf⟩, hg1⟩
  have G1 := hidg hg1
  have HW := hidg hwf
  clear hg1 hwf
  cases b with
  | false =>
    go_wp2
    go_ret
    exact ⟨rfl, G1.out⟩
  | true =>
  obtain ⟨w1l, w1r0, w1r1, w1ok⟩ := HW.out rfl
  clear HW
  obtain ⟨n, rfl⟩ : ∃ n, fn = n + 1 := ⟨fn - 1, by omega⟩
  rw [Nat.add_sub_cancel] at w1r1 w1ok
  obtain ⟨nr, rfl⟩ := Int.eq_ofNat_of_zero_le w1r0
  have hok : (Gr.mk nr n F S).OK := w1ok
  have hGr : GrAt (Gr.mk nr n F S) w1 fa sa fc ns sc := ⟨hok, HF.out.step0 G1.out, HS.out.step0 G1.out, by show n ≤ 4096; omega, h2, HFR.out, HSR.out⟩
  have hnr : nr ≤ n := by omega
  have HGr := hidg hGr
  have HOK := hidg hok
  clear w1l w1r0 w1r1 w1ok hok hGr
  by_cases hs0 : s < 0
  · go_wp2
    go_ret
    exact ⟨rfl, G1.out⟩
  obtain ⟨sn, rfl⟩ := Int.eq_ofNat_of_zero_le (by omega : 0 ≤ s)
  by_cases hsr : sn < nr
  · have hsr1 : (sn : Int) < nr := by omega
    obtain ⟨fb, fo, rfl, _⟩ := HF.out.cells (by omega)
    obtain ⟨w2, rfl⟩ : ∃ w2 : World, w2 = w1 := ⟨_, rfl⟩
    have G2 := hidg G1.out
    go_wp2_with (at_make; refine Hid.out ?_)
    refine hidg ?_
    refine wpList_make_full _ rfl _ _ 22 rfl w2.heap.size 21 i0 (.int .i32 0) 1 Try.underlying22 hi0 hz0 hz1 .i64 .i64 ((n : Int) + 1) ((n : Int) + 1) (n + 1) rfl rfl (by omega) (by omega) (by rw [hz2]; omega) (by unfold maxLen; omega) (Nat.le_refl _) ?_
    intro w3 hown3 hg3
    have O3 := hidg hown3
    have G3 := hidg (grown_step G2.out hg3)
    have hs3 := hg3.size
    clear hown3 hg3
    go_wp2_with (refine wpList_copied w3 rfl (.tmp 42) (.tmp 43) 22 rfl w2.heap.size 21 i0 Try.underlying22 hi0 hz1 w2.heap.size (n + 1) (n + 1) _ O3.out (some ⟨fb, fo, none⟩) fc (F.map (Value.int .i32)) rfl rfl (by rw [List.length_map]; exact HF.out.hlen) (sl_src (HF.out.step0 G3.out)) (fun h => by cases h) (i32_one F) ?_)
    intro w4 hown4 hg4
    have HF4 := hidg (copy_sl hown4 (by omega))
    have hlt4 : w2.heap.size < w4.heap.size := by
      have := owns_lt hown4 (g := w2.heap.size) rfl
      exact this
    have G4 := hidg (grown_new G3.out hg4 (by have := G2.out.size; omega))
    clear O3 G3 hown4 hg4
    generalize hgf : w2.heap.size = gf at *
    have HGF := hidg hgf
    clear hgf
    cases sa with
    | none =>
      have hns0 : ns = 0 := by have h3 := HS.out.hnil rfl; have h4 := HS.out.hcap; omega
      subst hns0
      have hsc0 : sc = 0 := HS.out.hnil rfl
      subst hsc0
      have HGR4 : Hid (GrAt (Gr.mk nr n F S) w4 (some ⟨gf, 0, none⟩) none (n + 1) 0 0) := ⟨HOK.out, HF4.out, HS.out.step0 G4.out, by show n ≤ 4096; omega, h2, HFR.out, HSR.out⟩
      have HPL : Hid (Plainly none) := .inl rfl
      have HSB : Hid (∀ b off, (none : Option Addr) = some ⟨b, off, none⟩ → b < w4.heap.size) := fun b off h => by cases h
      go_wp2_with fail
      refine (min8 (Gr.mk nr n F S) sn (some ⟨gf, 0, none⟩) none (n + 1) 0 0 w4 HGR4.out hsr).mono ?_
      rintro e' w6b ⟨b, rfl, hmin, hb5, hg6b⟩
      have HGRb := hidg (HGR4.out.step0 hg6b)
      have HSBb := hidg (fun b off h => Nat.lt_of_lt_of_le (HSB.out b off h) hg6b.size)
      have G6b := hidg (grown_step G4.out hg6b)
      have HM := hidg hmin
      clear hg6b hmin
      by_cases hb0 : b < 0
      · go_wp2
        go_ret
        exact ⟨rfl, G6b.out⟩
      obtain ⟨bn, rfl⟩ := Int.eq_ofNat_of_zero_le (by omega : 0 ≤ b)
      have hle := HM.out (by omega)
      rw [Int.toNat_natCast] at hle
      have HL := hidg hle
      clear hle HM
      go_wp2_with fail
      refine (zz9 (Gr.mk nr n F S) sn (some ⟨gf, 0, none⟩) none (n + 1) 0 0 w6b HGRb.out HPL.out hsr bn HL.out.1).mono ?_
      rintro e' w7 ⟨v, C, rfl, hown7, hV, hsC, hle7, hg7⟩
      obtain rfl : bn = C.length := lawtail_len HL.out hle7
      obtain ⟨cb, cc, rfl, _, hcb2, _⟩ := owns_ao hown7 hV.pos
      have hCl : C.length ≤ 5000 := by omega
      have E7 := hidg (And.intro (owns_list hown7).1 (And.intro hV (And.intro hsC (HGRb.out.step0 hg7))))
      have G7 := hidg (And.intro (grown_step G6b.out hg7) hg7)
      clear hown7 hV hsC hle7 hg7 hcb2
      go_wp2_with fail
      refine (contains10 C cb cc sn w7 E7.out.1 E7.out.2.2.1 hCl).mono ?_
      rintro e' w7b ⟨rfl, rfl⟩
      go_wp2_with fail
      refine (valid11 (Gr.mk nr n F S) C cb cc (some ⟨gf, 0, none⟩) none (n + 1) 0 0 w7b E7.out.2.2.2 E7.out.1 E7.out.2.1 (fun b off h => Nat.lt_of_lt_of_le (HSBb.out b off h) G7.out.2.size) hCl).mono ?_
      rintro e' w8 ⟨rfl, hg8⟩
      have G8 := hidg (grown_step G7.out.1 hg8)
      clear hg8
      go_wp2
      go_ret
      exact ⟨rfl, G8.out⟩
    | some sad =>
      go_wp2_with (at_make; refine Hid.out ?_)
      refine hidg ?_
      refine wpList_make_full _ rfl _ _ 22 rfl w4.heap.size 21 i0 (.int .i32 0) 1 Try.underlying22 hi0 hz0 hz1 _ _ _ _ ns rfl rfl rfl rfl (by rw [hz2]; omega) (by unfold maxLen; omega) (Nat.le_refl _) ?_
      intro w5 hown5 hg5
      have O5 := hidg hown5
      have G5 := hidg (grown_step G4.out hg5)
      have G45 := hidg hg5
      clear hown5 hg5
      go_wp2_with (refine wpList_copied w5 rfl (.tmp 51) (.tmp 52) 22 rfl w4.heap.size 21 i0 Try.underlying22 hi0 hz1 w4.heap.size ns ns _ O5.out (some sad) sc (S.map (Value.int .i32)) rfl rfl (by rw [List.length_map]; exact HS.out.hlen) (sl_src (HS.out.step0 G5.out)) (fun h => by cases h) (i32_one S) ?_)
      intro w6 hown6 hg6
      have HS6 := hidg (copy_sl hown6 (by omega))
      have hlt6 : w4.heap.size < w6.heap.size := owns_lt hown6 (g := w4.heap.size) rfl
      have hg46 := grown_new G45.out hg6 (Nat.le_refl _)
      have G6 := hidg (grown_step G4.out hg46)
      have HGR4 : Hid (GrAt (Gr.mk nr n F S) w6 (some ⟨gf, 0, none⟩) (some ⟨w4.heap.size, 0, none⟩) (n + 1) ns ns) := ⟨HOK.out, HF4.out.step0 hg46, HS6.out, by show n ≤ 4096; omega, h2, HFR.out, HSR.out⟩
      clear O5 G5 G45 hown6 hg6 hg46 HS6
      have HPL : Hid (Plainly (some ⟨w4.heap.size, 0, none⟩)) := .inr ⟨_, _, rfl⟩
      have HSB : Hid (∀ b off, (some (⟨w4.heap.size, 0, none⟩ : Addr)) = some ⟨b, off, none⟩ → b < w6.heap.size) := fun b off h => by cases h; exact hlt6
      go_wp2_with fail
      refine (min8 (Gr.mk nr n F S) sn (some ⟨gf, 0, none⟩) (some ⟨w4.heap.size, 0, none⟩) (n + 1) ns ns w6 HGR4.out hsr).mono ?_
      rintro e' w6b ⟨b, rfl, hmin, hb5, hg6b⟩
      have HGRb := hidg (HGR4.out.step0 hg6b)
      have HSBb := hidg (fun b off h => Nat.lt_of_lt_of_le (HSB.out b off h) hg6b.size)
      have G6b := hidg (grown_step G6.out hg6b)
      have HM := hidg hmin
      clear hg6b hmin
      by_cases hb0 : b < 0
      · go_wp2
        go_ret
        exact ⟨rfl, G6b.out⟩
      obtain ⟨bn, rfl⟩ := Int.eq_ofNat_of_zero_le (by omega : 0 ≤ b)
      have hle := HM.out (by omega)
      rw [Int.toNat_natCast] at hle
      have HL := hidg hle
      clear hle HM
      go_wp2_with fail
      refine (zz9 (Gr.mk nr n F S) sn (some ⟨gf, 0, none⟩) (some ⟨w4.heap.size, 0, none⟩) (n + 1) ns ns w6b HGRb.out HPL.out hsr bn HL.out.1).mono ?_
      rintro e' w7 ⟨v, C, rfl, hown7, hV, hsC, hle7, hg7⟩
      obtain rfl : bn = C.length := lawtail_len HL.out hle7
      obtain ⟨cb, cc, rfl, _, hcb2, _⟩ := owns_ao hown7 hV.pos
      have hCl : C.length ≤ 5000 := by omega
      have E7 := hidg (And.intro (owns_list hown7).1 (And.intro hV (And.intro hsC (HGRb.out.step0 hg7))))
      have G7 := hidg (And.intro (grown_step G6b.out hg7) hg7)
      clear hown7 hV hsC hle7 hg7 hcb2
      go_wp2_with fail
      refine (contains10 C cb cc sn w7 E7.out.1 E7.out.2.2.1 hCl).mono ?_
      rintro e' w7b ⟨rfl, rfl⟩
      go_wp2_with fail
      refine (valid11 (Gr.mk nr n F S) C cb cc (some ⟨gf, 0, none⟩) (some ⟨w4.heap.size, 0, none⟩) (n + 1) ns ns w7b E7.out.2.2.2 E7.out.1 E7.out.2.1 (fun b off h => Nat.lt_of_lt_of_le (HSBb.out b off h) G7.out.2.size) hCl).mono ?_
      rintro e' w8 ⟨rfl, hg8⟩
      have G8 := hidg (grown_step G7.out.1 hg8)
      clear hg8
      go_wp2
      go_ret
      exact ⟨rfl, G8.out⟩
  · have hsr1 : ¬ (sn : Int) < nr := by omega
    go_wp2
    go_ret
    exact ⟨rfl, G1.out⟩
end Go.Proofs.Qxb6604255a
