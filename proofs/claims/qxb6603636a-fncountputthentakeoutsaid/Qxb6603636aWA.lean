import Derived.Test.Qxb6603636aW8
import Derived.Test.Qxb6603636aW6
namespace Go.Proofs.Qxb6603636a
open Go.RowKit

theorem wr_sub (a x : Int) : wrap64 (wrap64 (a + wrap64 x) - a) = wrap64 x := by unfold wrap64; omega
theorem wr_id (x : Int) (h : 0 ≤ x) (h2 : x < 4611686018427387904) : wrap64 x = x := by unfold wrap64; omega

set_option maxHeartbeats 400000 in
set_option maxRecDepth 100000 in
theorem walkA_nil (live data : Int) (ks : Nat) (by_ : Int) (w : World) (hk : ks ≤ 1073741824) :
    Calls Try.prog 3 #[.int .i64 live, .int .i64 data, .int .i64 ks, .slice none 0 0, .int .i64 by_] w fun e w' => e = .returned (.bool true) ∧ Below w.heap.size w w' := by
  have hq := fun w a n c => Lib.run_eql_slice_nil (P := Try.prog) w 22 5 a n c 0 0 Try.underlying22
  have hq2 := fun w a n c => run_neq_slice_nil_any (P := Try.prog) w 22 5 a n c 0 0 Try.underlying22
  obtain ⟨i0, hi, hz0, hz1, hz2⟩ := info_parts Try.info5
  have hp := uvl_pos ks
  have E1 : wrap64 (wrap64 (live + wrap64 ↑(ws true ks 0)) - live) = ↑(uvl ks) + ↑ks + 1 := by rw [wr_sub, wr_id _ (by omega) (by simp [ws]; omega)]; simp [ws]
  have E2 : wrap64 (wrap64 (data + wrap64 ↑ks) - data) = ↑ks := by rw [wr_sub, wr_id _ (by omega) (by omega)]
  have E3 : wrap64 (wrap64 (live + wrap64 (by_ * ↑(ws true ks 0))) - live) = wrap64 (by_ * (↑(uvl ks) + ↑ks + 1)) := by rw [wr_sub]; simp [ws]
  have E4 : wrap64 (wrap64 (data + wrap64 (by_ * ↑ks)) - data) = wrap64 (by_ * ↑ks) := wr_sub _ _
  go_enter Try.func3, Try.ntmps3
  go_wp2_with (first
    | (go_at_call 5; refine (bytes1_any _ _ _ _ _ _ _ _ (by omega)).mono ?_; rintro e w' ⟨rfl, rfl⟩)
    | (at_make; refine Hid.out ?_))
  refine hidg ?_
  refine wpList_make_own _ rfl _ _ 22 rfl w'.heap.size 5 i0 (.int .u8 0) 1 Try.underlying22 hi hz0 hz1 _ _ _ 10 rfl rfl rfl ?_ ?_ (Nat.le_refl _) ?_
  · rw [hz2]; omega
  · unfold maxLen; omega
  intro w1 hown1 hgrow1
  go_wp2_with fail
  refine (uv_any w'.heap.size _ 0 [] ks _ (by omega) (by omega) hgrow1.size hown1).mono ?_
  rintro e w2 ⟨v2, ys2, rfl, hown2, hb2⟩
  obtain ⟨hxl2, hshape2⟩ := hown2
  rw [Nat.zero_add] at hxl2 hshape2
  rcases hshape2 with ⟨rfl, hbad⟩ | ⟨g2, cap2, cur2, rfl, hg2, -⟩
  · have := uvl_pos ks; omega
  have hp := uvl_pos ks
  have hz12 := hgrow1.size
  have hz22 := hb2.size
  have hB2 : Below w'.heap.size w' w2 := ((Below.refl _ _).grown hgrow1 (Nat.le_refl _) (fun _ h => by cases h)).trans hb2
  clear hown1 hgrow1 hxl2 hg2 hb2
  go_wp2_with (at_make; refine Hid.out ?_)
  refine hidg ?_
  refine wpList_make_own _ rfl _ _ 22 rfl w2.heap.size 5 i0 (.int .u8 0) 1 Try.underlying22 hi hz0 hz1 _ _ _ 10 rfl rfl rfl ?_ ?_ (Nat.le_refl _) ?_
  · rw [hz2]; omega
  · unfold maxLen; omega
  intro w3 hown3 hgrow3
  go_wp2_with (at_builtin; refine Hid.out ?_)
  refine hidg ?_
  refine wpList_append1 w3 rfl _ _ 22 rfl w2.heap.size 5 i0 (.int .u8 0) 1 Try.underlying22 hi hz0 hz1 hz2 rfl _ 0 _ hown3 _ rfl rfl rfl ?_ ?_ hgrow3.size ?_
  · unfold maxLen; omega
  · omega
  intro v4 w4 hown4 hgrow4
  obtain ⟨hxl4, hshape4⟩ := hown4
  rw [Nat.zero_add] at hshape4
  rcases hshape4 with ⟨rfl, hbad⟩ | ⟨g4, cap4, cur4, rfl, hg4, -⟩
  · omega
  have hz23 := hgrow3.size
  have hz34 := hgrow4.size
  have hB4 : Below w2.heap.size w2 w4 := (((Below.refl _ _).grown hgrow3 (Nat.le_refl _) (fun _ h => by cases h))).grown hgrow4 hgrow3.size (fun g hg => (hown3.lt g hg).1)
  have hBB := hB2.trans (hB4.mono (by omega))
  clear hown3 hgrow3 hgrow4 hxl4 hB2 hB4
  go_wp2_with fail
  refine (new_any live data w4).mono ?_
  rintro e w5 ⟨rfl, hv5, hb5, hs5⟩
  go_wp2_with fail
  refine (zcount_any _ ks none 0 0 1 w5 live data (by omega) (by omega) (fun _ => ⟨rfl, rfl⟩) hv5).mono ?_
  rintro e w6 ⟨rfl, hv6, hb6⟩
  go_wp2_with (first
    | (go_at_call 9; refine (live_any _ _ _ _ hv6).mono ?_; rintro e w7 ⟨rfl, rfl⟩)
    | (go_at_call 10; refine (data_any _ _ _ _ hv6).mono ?_; rintro e w7 ⟨rfl, rfl⟩))
  refine (new_any live data w7).mono ?_
  rintro e w8 ⟨rfl, hv8, hb8, hs8⟩
  go_wp2_with fail
  refine (zcount_any _ ks none 0 0 by_ w8 live data (by omega) (by omega) (fun _ => ⟨rfl, rfl⟩) hv8).mono ?_
  rintro e w9 ⟨rfl, hv9, hb9⟩
  go_wp2_with (first
    | (go_at_call 9; refine (live_any _ _ _ _ hv9).mono ?_; rintro e w10 ⟨rfl, rfl⟩)
    | (go_at_call 10; refine (data_any _ _ _ _ hv9).mono ?_; rintro e w10 ⟨rfl, rfl⟩))
  go_ret
  refine ⟨rfl, ?_⟩
  have z1 := hBB.size
  have z6 := hb6.size
  exact hBB.trans ((hb5.mono z1).trans ((hb6.mono z1).trans ((hb8.mono (by omega)).trans (hb9.mono (by omega)))))
end Go.Proofs.Qxb6603636a
