import Derived.Test.Qxb6603636aWA
namespace Go.Proofs.Qxb6603636a
open Go.RowKit

set_option maxHeartbeats 400000 in
set_option maxRecDepth 100000 in
theorem walkA_some (live data : Int) (ks : Nat) (by_ : Int) (w : World) (hk : ks ≤ 1073741824) (x : Addr) (len cap : Nat) (zs : List Int) (hlen : len ≤ 1048576) (hcap : len ≤ zs.length)
    (hc : ∀ i, i < zs.length → w.cell? (x.add i) = some (.int .u8 (zs.getD i 0))) :
    Calls Try.prog 3 #[.int .i64 live, .int .i64 data, .int .i64 ks, .slice (some x) len cap, .int .i64 by_] w fun e w' => e = .returned (.bool true) ∧ Below w.heap.size w w' := by
  have hq := fun w a n c => Lib.run_eql_slice_nil (P := Try.prog) w 22 5 a n c 0 0 Try.underlying22
  have hq2 := fun w a n c => run_neq_slice_nil_any (P := Try.prog) w 22 5 a n c 0 0 Try.underlying22
  obtain ⟨i0, hi, hz0, hz1, hz2⟩ := info_parts Try.info5
  have hp := uvl_pos ks
  have hp2 := uvl_pos (len + 1)
  have E1 : wrap64 (wrap64 (live + wrap64 ↑(ws false ks len)) - live) = ↑(uvl ks) + ↑ks + ↑(uvl (len + 1)) + ↑len := by rw [wr_sub, wr_id _ (by omega) (by simp [ws]; omega)]; simp [ws]
  have E2 : wrap64 (wrap64 (data + wrap64 (↑ks + ↑len)) - data) = ↑ks + ↑len := by rw [wr_sub, wr_id _ (by omega) (by omega)]
  have E3 : wrap64 (wrap64 (live + wrap64 (by_ * ↑(ws false ks len))) - live) = wrap64 (by_ * (↑(uvl ks) + ↑ks + ↑(uvl (len + 1)) + ↑len)) := by rw [wr_sub]; simp [ws]
  have E4 : wrap64 (wrap64 (data + wrap64 (by_ * (↑ks + ↑len))) - data) = wrap64 (by_ * (↑ks + ↑len)) := wr_sub _ _
  have HC := hidg hc
  clear hc
  go_enter Try.func3, Try.ntmps3
  go_wp2_with (first
    | (go_at_call 5; refine (bytes1_any _ _ _ _ _ _ _ _ (by omega)).mono ?_; rintro e w' ⟨rfl, rfl⟩)
    | (at_builtin; refine Hid.out ?_))
  refine hidg ?_
  refine wpList_clone w' rfl _ _ 22 rfl 5 i0 (.int .u8 0) 1 Try.underlying22 hi hz0 hz1 hz2 rfl x len cap ((zs.take len).map (Value.int .u8)) rfl rfl (by simp; omega) ?_ (ints_oneCell _ _) (by unfold maxLen; omega) (by omega) ?_
  · intro j u hu
    have hj : j < len := by
      have := (List.getElem?_eq_some_iff.1 hu).1
      simp at this; omega
    rw [HC.out j (by omega)]
    rw [← hu]
    simp [hj, show j < zs.length by omega, List.getD]
  intro g capv w0 hownV hgV hB0
  clear HC
  have HV := hidg hownV
  have zv0 := hB0.size
  clear hownV
  go_wp2_with (at_make; refine Hid.out ?_)
  refine hidg ?_
  refine wpList_make_own _ rfl _ _ 22 rfl w0.heap.size 5 i0 (.int .u8 0) 1 Try.underlying22 hi hz0 hz1 _ _ _ 10 rfl rfl rfl ?_ ?_ (Nat.le_refl _) ?_
  · rw [hz2]; omega
  · unfold maxLen; omega
  intro w1 hown1 hgrow1
  go_wp2_with fail
  refine (uv_any w0.heap.size _ 0 [] ks _ (by omega) (by omega) hgrow1.size hown1).mono ?_
  rintro e w2 ⟨v2, ys2, rfl, hown2, hb2⟩
  rw [Nat.zero_add] at hown2
  obtain ⟨g2, cap2, rfl, hg2, -⟩ := owns_shape hown2 (by omega)
  have hz12 := hgrow1.size
  have hz22 := hb2.size
  have hB2 : Below w0.heap.size w0 w2 := ((Below.refl _ _).grown hgrow1 (Nat.le_refl _) (fun _ h => by cases h)).trans hb2
  clear hown1 hgrow1 hg2 hb2 hown2
  go_wp2_with (at_make; refine Hid.out ?_)
  refine hidg ?_
  refine wpList_make_own _ rfl _ _ 22 rfl w2.heap.size 5 i0 (.int .u8 0) 1 Try.underlying22 hi hz0 hz1 _ _ _ (len + 10) rfl rfl (by omega) ?_ ?_ (Nat.le_refl _) ?_
  · rw [hz2]; omega
  · unfold maxLen; omega
  intro w3 hown3 hgrow3
  have hz23 := hgrow3.size
  have hB3 : Below w2.heap.size w2 w3 := (Below.refl _ _).grown hgrow3 (Nat.le_refl _) (fun _ h => by cases h)
  go_wp2_with fail
  refine (uv_any w2.heap.size _ 0 [] (len + 1) _ (by omega) (by omega) hgrow3.size hown3).mono ?_
  rintro e w4 ⟨v4, ys4, rfl, hown4, hb4⟩
  rw [Nat.zero_add] at hown4
  have hz34 := hb4.size
  have hB4 : Below w2.heap.size w2 w4 := hB3.trans hb4
  have HV4 := hidg (owns_below HV.out (hB2.trans (hB4.mono (by omega))) (Nat.le_refl _))
  clear hown3 hgrow3 hB3 hb4 HV
  go_wp2_with (at_builtin; refine Hid.out ?_)
  refine hidg ?_
  refine wpList_append_own _ rfl _ _ 22 rfl w2.heap.size 5 i0 (.int .u8 0) 1 1 Try.underlying22 hi hz0 hz1 hz2 rfl (by decide) _ _ _ rfl hown4 ⟨g, 0, none⟩ len capv ((zs.take len).map (Value.int .u8)) rfl (by simp; omega) (HV4.out.cells rfl) (ints_oneCell _ _) (by unfold maxLen; omega) (by omega) (by omega) ?_
  intro v5 w5 hown5 hgrow5 _
  have hz45 := hgrow5.size
  have hB5 : Below w2.heap.size w2 w5 := hB4.grown hgrow5 (by omega) (fun k hk => (hown4.lt k hk).1)
  obtain ⟨g5, cap5, rfl, hg5, -⟩ := owns_shape hown5 (by omega)
  have hBB := hB0.trans ((hB2.mono (by omega)).trans (hB5.mono (by omega)))
  clear hown4 hgrow5 hown5 hB0 hB2 hB4 hB5 HV4
  go_wp2_with fail
  refine (new_any live data w5).mono ?_
  rintro e w6 ⟨rfl, hv6, hb6, hs6⟩
  go_wp2_with fail
  refine (zcount_any _ ks (some ⟨g, 0, none⟩) len capv 1 w6 live data (by omega) (by omega) (fun h => by cases h) hv6).mono ?_
  rintro e w7 ⟨rfl, hv7, hb7⟩
  go_wp2_with (first
    | (go_at_call 9; refine (live_any _ _ _ _ hv7).mono ?_; rintro e w8 ⟨rfl, rfl⟩)
    | (go_at_call 10; refine (data_any _ _ _ _ hv7).mono ?_; rintro e w8 ⟨rfl, rfl⟩))
  refine (new_any live data w8).mono ?_
  rintro e w9 ⟨rfl, hv9, hb9, hs9⟩
  go_wp2_with fail
  refine (zcount_any _ ks (some ⟨g, 0, none⟩) len capv by_ w9 live data (by omega) (by omega) (fun h => by cases h) hv9).mono ?_
  rintro e w10 ⟨rfl, hv10, hb10⟩
  go_wp2_with (first
    | (go_at_call 9; refine (live_any _ _ _ _ hv10).mono ?_; rintro e w11 ⟨rfl, rfl⟩)
    | (go_at_call 10; refine (data_any _ _ _ _ hv10).mono ?_; rintro e w11 ⟨rfl, rfl⟩))
  go_ret
  refine ⟨rfl, ?_⟩
  have z1 := hBB.size
  have z7 := hb7.size
  exact hBB.trans ((hb6.mono z1).trans ((hb7.mono z1).trans ((hb9.mono (by omega)).trans (hb10.mono (by omega)))))
end Go.Proofs.Qxb6603636a
