import Derived.Test.Qxb6603636aWP
namespace Go.Proofs.Qxb6603636a
open Go.RowKit

set_option maxHeartbeats 800000 in
set_option maxRecDepth 100000 in
theorem walkP_some (live data : Int) (s : ByteArray) (w : World) (x : Addr) (len cap : Nat) (zs : List Int) (hs : s.size + len ≤ 1048576) (hcap : len ≤ zs.length)
    (hc : ∀ i, i < zs.length → w.cell? (x.add i) = some (.int .u8 (zs.getD i 0))) (hl0 : -9223372036854775808 ≤ live) (hl1 : live ≤ 9223372036854775807) (hd0 : -9223372036854775808 ≤ data) (hd1 : data ≤ 9223372036854775807) :
    Calls Try.prog 4 #[.int .i64 live, .int .i64 data, .string s, .slice (some x) len cap] w fun e w' => e = .returned (.bool true) ∧ Below w.heap.size w w' := by
  have hq := fun w a n c => Lib.run_eql_slice_nil (P := Try.prog) w 22 5 a n c 0 0 Try.underlying22
  have hq2 := fun w a n c => run_neq_slice_nil_any (P := Try.prog) w 22 5 a n c 0 0 Try.underlying22
  obtain ⟨i0, hi, hz0, hz1, hz2⟩ := info_parts Try.info5
  have hp := uvl_pos s.size
  have hp2 := uvl_pos (len + 1)
  have HC := hidg hc
  clear hc
  go_enter Try.func4, Try.ntmps4
  go_wp2_with (first
    | (go_at_call 11; refine (bytes2_yes _ _ _ _ _ _ _ (by omega)).mono ?_; rintro e w' ⟨rfl, rfl⟩)
    | (at_builtin; refine Hid.out ?_))
  refine hidg ?_
  refine wpList_clone w' rfl _ _ 22 rfl 5 i0 (.int .u8 0) 1 Try.underlying22 hi hz0 hz1 hz2 rfl x len cap ((zs.take len).map (Value.int .u8)) rfl rfl (by simp; omega) ?_ (ints_oneCell _ _) (by unfold maxLen; omega) (by omega) ?_
  · intro j u hu
    have hj : j < len := by
      have := (List.getElem?_eq_some_iff.1 hu).1
      simp at this; omega
    rw [HC.out j (by omega)]
    rw [← hu]
    simp [hj, show j < zs.length by omega, List.getD]
  intro g capv w0 hownV hgV hB0
  clear HC
  have zv0 := hB0.size
  have hgl : g < w0.heap.size := (hownV.lt g rfl).2
  have HV : Hid (∀ j, j < len → ∃ n : Int, w0.cell? ⟨g, j, none⟩ = some (.int .u8 n)) := by
    intro j hj
    refine ⟨zs.getD j 0, ?_⟩
    have h1 := hownV.cells (g := g) rfl j (.int .u8 (zs.getD j 0)) (by simp [hj, show j < zs.length by omega, List.getD])
    rw [Addr.add_lit, Nat.zero_add] at h1
    exact h1
  clear hownV
  go_wp2_with (at_make; refine Hid.out ?_)
  refine hidg ?_
  refine wpList_make_own _ rfl _ _ 22 rfl w0.heap.size 5 i0 (.int .u8 0) 1 Try.underlying22 hi hz0 hz1 _ _ _ (s.size + len + 20) rfl rfl (by omega) ?_ ?_ (Nat.le_refl _) ?_
  · rw [hz2]; omega
  · unfold maxLen; omega
  intro w1 hown1 hgrow1
  have hz12 := hgrow1.size
  go_wp2_with fail
  refine (uv_any w0.heap.size _ 0 [] s.size _ (by omega) (by omega) hgrow1.size hown1).mono ?_
  rintro e w2 ⟨v2, ys2, rfl, hown2, hb2⟩
  rw [Nat.zero_add] at hown2
  have hB2 : Below w0.heap.size w0 w2 := ((Below.refl _ _).grown hgrow1 (Nat.le_refl _) (fun _ h => by cases h)).trans hb2
  clear hown1 hgrow1 hb2
  go_wp2
  go_loopw [9, 10] (fun v i wr => ∃ (k : Nat) (xs : List Value), k ≤ s.size ∧ i = .int .i64 k ∧ wr.ownsRow w0.heap.size 5 1 v (uvl s.size + k) xs ∧ Below w0.heap.size w0 wr)
    (fun _ i _ => s.size - (intOf i).toNat)
  case atStart => exact ⟨0, _, Nat.zero_le _, rfl, hown2, hB2⟩
  case round =>
    obtain ⟨k, xs, hk, rfl, hown, hB⟩ := hrel
    have hbs : w0.heap.size ≤ wr.heap.size := hB.size
    by_cases hlt : k < s.size
    · go_wp2_with (at_builtin; refine Hid.out ?_)
      refine hidg ?_
      refine wpList_append1 wr rfl _ _ 22 rfl w0.heap.size 5 i0 (.int .u8 0) 1 Try.underlying22 hi hz0 hz1 hz2 rfl _ (uvl s.size + k) _ hown _ rfl rfl rfl ?_ ?_ hbs ?_
      · unfold maxLen; omega
      · omega
      intro v4 w4 hown4 hgrow4
      go_wp2
      go_roundw
      case rel => exact ⟨k + 1, _, by omega, by go_num, hown4, hB.grown hgrow4 hbs (fun g hg => (hown.lt g hg).1)⟩
      case measure => simp [intOf]; omega
    · obtain rfl : k = s.size := by omega
      clear hown2 hB2
      go_wp2_with fail
      refine (uv_any w0.heap.size _ _ _ (len + 1) _ (by omega) (by omega) hbs hown).mono ?_
      rintro e w4 ⟨v4, ys4, rfl, hown4, hb4⟩
      have hB4 := hB.trans hb4
      clear hown hB hb4
      go_wp2
      go_loopw [9, 11] (fun v i wr => ∃ (k : Nat) (xs : List Value), k ≤ len ∧ i = .int .i64 k ∧ wr.ownsRow w0.heap.size 5 1 v (uvl s.size + s.size + uvl (len + 1) + k) xs ∧ Below w0.heap.size w0 wr)
        (fun _ i _ => len - (intOf i).toNat)
      case atStart => exact ⟨0, _, Nat.zero_le _, rfl, hown4, hB4⟩
      case round =>
        clear hown4 hB4
        obtain ⟨k, xs, hk, rfl, hown, hB⟩ := hrel
        have hbs2 : w0.heap.size ≤ wr.heap.size := hB.size
        by_cases hlt2 : k < len
        · obtain ⟨nv, hnv⟩ := HV.out k hlt2
          have hcv : wr.cell? ⟨g, k, none⟩ = some (.int .u8 nv) := (hB.cell (p := ⟨g, k, none⟩) hgl).trans hnv
          clear hnv
          go_wp2_with (at_builtin; refine Hid.out ?_)
          refine hidg ?_
          refine wpList_append1 wr rfl _ _ 22 rfl w0.heap.size 5 i0 (.int .u8 0) 1 Try.underlying22 hi hz0 hz1 hz2 rfl _ _ _ hown _ rfl rfl rfl ?_ ?_ hbs2 ?_
          · unfold maxLen; omega
          · omega
          intro v5 w5 hown5 hgrow5
          go_wp2
          go_roundw
          case rel => exact ⟨k + 1, _, by omega, by go_num, hown5, hB.grown hgrow5 hbs2 (fun g hg => (hown.lt g hg).1)⟩
          case measure => simp [intOf]; omega
        · obtain rfl : len = k := by omega
          obtain ⟨g5, cap5, rfl, hg5, -⟩ := owns_shape hown (by omega)
          have hBB := hB0.trans (hB.mono zv0)
          clear hown hB hB0 HV
          generalize hw14 : wr = w14 at *
          clear hw14 wr
          go_wp2_with fail
          refine (new_any live data w14).mono ?_
          rintro e w5 ⟨rfl, hv5, hb5, hs5⟩
          go_wp2_with fail
          refine (zcount_h _ s.size (some ⟨g, 0, none⟩) len capv 1 w5 live data (by omega) (by omega) (fun h => by cases h) hv5).mono ?_
          rintro e w6 ⟨L6, D6, rfl, hv6, hb6, HL6, HD6⟩
          have B1 : (wrap64 (L6 - live) == ↑(uvl s.size) + ↑s.size + ↑(uvl (len + 1)) + ↑len) = true := by rw [HL6.out, Int.one_mul, wr_sub, wr_id _ (by omega) (by simp [ws]; omega)]; simp [ws]
          have B2 : (wrap64 (D6 - data) == ↑s.size + ↑len) = true := by rw [HD6.out, Int.one_mul, wr_sub, wr_id _ (by omega) (by omega)]; simp
          go_wp2_with (first
            | (go_at_call 9; refine (live_any _ _ _ _ hv6).mono ?_; rintro e w7 ⟨rfl, rfl⟩)
            | (go_at_call 10; refine (data_any _ _ _ _ hv6).mono ?_; rintro e w7 ⟨rfl, rfl⟩))
          refine (zcount_h _ s.size (some ⟨g, 0, none⟩) len capv (-1) w7 L6 D6 (by omega) (by omega) (fun h => by cases h) hv6).mono ?_
          rintro e w8 ⟨L8, D8, rfl, hv8, hb8, HL8, HD8⟩
          have e1 : L8 = live := by rw [HL8.out, HL6.out]; exact wr_back _ _ hl0 hl1
          have e2 : D8 = data := by rw [HD8.out, HD6.out]; exact wr_back _ _ hd0 hd1
          subst e1 e2
          clear HL8 HD8 HL6 HD6 B1 B2 hv5 hv6
          go_wp2_with (first
            | (go_at_call 9; refine (live_any _ _ _ _ hv8).mono ?_; rintro e w9 ⟨rfl, rfl⟩)
            | (go_at_call 10; refine (data_any _ _ _ _ hv8).mono ?_; rintro e w9 ⟨rfl, rfl⟩))
          go_ret
          refine ⟨rfl, ?_⟩
          have z1 := hBB.size
          exact hBB.trans ((hb5.mono z1).trans ((hb6.mono z1).trans (hb8.mono z1)))
end Go.Proofs.Qxb6603636a
