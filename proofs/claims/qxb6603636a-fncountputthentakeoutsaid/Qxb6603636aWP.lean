import Derived.Test.Qxb6603636aWA
namespace Go.Proofs.Qxb6603636a
open Go.RowKit

theorem zcount_h (b : Nat) (ks : Nat) (ao : Option Addr) (len cap : Nat) (by_ : Int) (w : World) (live data : Int) (h1 : ks < 4294967296) (h2 : len < 4294967296) (h3 : ao = none → len = 0 ∧ cap = 0)
    (hv : Vals w b live data) :
    Calls Try.prog 8 #[.pointer (some ⟨b, 0, none⟩), .int .i64 ks, .slice ao len cap, .int .i64 by_] w fun e w' => ∃ L D, e = .returned (.tuple #[]) ∧
      Vals w' b L D ∧ Below b w w' ∧ Hid (L = wrap64 (live + wrap64 (by_ * (ws ao.isNone ks len)))) ∧ Hid (D = wrap64 (data + wrap64 (by_ * (ks + len)))) :=
  (zcount_any b ks ao len cap by_ w live data h1 h2 h3 hv).mono fun _ _ ⟨h1, h2, h3⟩ => ⟨_, _, h1, h2, h3, rfl, rfl⟩

set_option maxHeartbeats 400000 in
theorem bytes2_yes (a b : Int) (s : ByteArray) (ao : Option Addr) (len cap : Nat) (w : World) (hl : s.size + len ≤ 1048576) :
    Calls Try.prog 11 #[.int .i64 a, .int .i64 b, .string s, .slice ao len cap] w fun e w' => e = .returned (.bool true) ∧ w' = w := by
  go_enter Try.func11, Try.ntmps11
  go_wp2
  go_ret
  exact ⟨rfl, rfl⟩

set_option maxHeartbeats 400000 in
theorem bytes2_no (a b : Int) (s : ByteArray) (ao : Option Addr) (len cap : Nat) (w : World) (hs : s.size ≤ 9223372036854775807) (hm : len ≤ 9223372036854775807) (hl : ¬ s.size + len ≤ 1048576) :
    Calls Try.prog 11 #[.int .i64 a, .int .i64 b, .string s, .slice ao len cap] w fun e w' => e = .returned (.bool false) ∧ w' = w := by
  by_cases h1 : s.size ≤ 1048576
  · by_cases h2 : len ≤ 1048576
    · go_enter Try.func11, Try.ntmps11
      go_wp2
      go_ret
      exact ⟨rfl, rfl⟩
    · go_enter Try.func11, Try.ntmps11
      go_wp2
      go_ret
      exact ⟨rfl, rfl⟩
  · go_enter Try.func11, Try.ntmps11
    go_wp2
    go_ret
    exact ⟨rfl, rfl⟩

theorem walkP_long (live data : Int) (s : ByteArray) (w : World) (ao : Option Addr) (len cap : Nat) (hs : s.size ≤ 9223372036854775807) (hm : len ≤ 9223372036854775807) (hl : ¬ s.size + len ≤ 1048576) :
    Calls Try.prog 4 #[.int .i64 live, .int .i64 data, .string s, .slice ao len cap] w fun e w' => e = .returned (.bool true) ∧ Below w.heap.size w w' := by
  have HL := hidg hl
  clear hl
  go_enter Try.func4, Try.ntmps4
  go_wp2_with (go_at_call 11; refine (bytes2_no _ _ _ _ _ _ _ hs hm HL.out).mono ?_; rintro e w' ⟨rfl, rfl⟩)
  go_ret
  exact ⟨rfl, Below.refl _ _⟩

theorem wr_back (a x : Int) (h0 : -9223372036854775808 ≤ a) (h1 : a ≤ 9223372036854775807) : wrap64 (wrap64 (a + wrap64 (1 * x)) + wrap64 (-1 * x)) = a := by unfold wrap64; omega

set_option maxHeartbeats 400000 in
set_option maxRecDepth 100000 in
theorem walkP_nil (live data : Int) (s : ByteArray) (w : World) (hs : s.size ≤ 1048576) (hl0 : -9223372036854775808 ≤ live) (hl1 : live ≤ 9223372036854775807) (hd0 : -9223372036854775808 ≤ data) (hd1 : data ≤ 9223372036854775807) :
    Calls Try.prog 4 #[.int .i64 live, .int .i64 data, .string s, .slice none 0 0] w fun e w' => e = .returned (.bool true) ∧ Below w.heap.size w w' := by
  have hq := fun w a n c => Lib.run_eql_slice_nil (P := Try.prog) w 22 5 a n c 0 0 Try.underlying22
  have hq2 := fun w a n c => run_neq_slice_nil_any (P := Try.prog) w 22 5 a n c 0 0 Try.underlying22
  obtain ⟨i0, hi, hz0, hz1, hz2⟩ := info_parts Try.info5
  have hp := uvl_pos s.size
  go_enter Try.func4, Try.ntmps4
  go_wp2_with (first
    | (go_at_call 11; refine (bytes2_yes _ _ _ _ _ _ _ (by omega)).mono ?_; rintro e w' ⟨rfl, rfl⟩)
    | (at_make; refine Hid.out ?_))
  refine hidg ?_
  refine wpList_make_own _ rfl _ _ 22 rfl w'.heap.size 5 i0 (.int .u8 0) 1 Try.underlying22 hi hz0 hz1 _ _ _ (s.size + 20) rfl rfl (by omega) ?_ ?_ (Nat.le_refl _) ?_
  · rw [hz2]; omega
  · unfold maxLen; omega
  intro w1 hown1 hgrow1
  have hz12 := hgrow1.size
  go_wp2_with fail
  refine (uv_any w'.heap.size _ 0 [] s.size _ (by omega) (by omega) hgrow1.size hown1).mono ?_
  rintro e w2 ⟨v2, ys2, rfl, hown2, hb2⟩
  rw [Nat.zero_add] at hown2
  have hB2 : Below w'.heap.size w' w2 := ((Below.refl _ _).grown hgrow1 (Nat.le_refl _) (fun _ h => by cases h)).trans hb2
  clear hown1 hgrow1 hb2
  go_wp2
  go_loopw [9, 10] (fun v i wr => ∃ (k : Nat) (xs : List Value), k ≤ s.size ∧ i = .int .i64 k ∧ wr.ownsRow w'.heap.size 5 1 v (uvl s.size + k) xs ∧ Below w'.heap.size w' wr)
    (fun _ i _ => s.size - (intOf i).toNat)
  case atStart => exact ⟨0, _, Nat.zero_le _, rfl, hown2, hB2⟩
  case round =>
    obtain ⟨k, xs, hk, rfl, hown, hB⟩ := hrel
    have hbs : w'.heap.size ≤ wr.heap.size := hB.size
    by_cases hlt : k < s.size
    · go_wp2_with (at_builtin; refine Hid.out ?_)
      refine hidg ?_
      refine wpList_append1 wr rfl _ _ 22 rfl w'.heap.size 5 i0 (.int .u8 0) 1 Try.underlying22 hi hz0 hz1 hz2 rfl _ (uvl s.size + k) _ hown _ rfl rfl rfl ?_ ?_ hbs ?_
      · unfold maxLen; omega
      · omega
      intro v4 w4 hown4 hgrow4
      go_wp2
      go_roundw
      case rel => exact ⟨k + 1, _, by omega, by go_num, hown4, hB.grown hgrow4 hbs (fun g hg => (hown.lt g hg).1)⟩
      case measure => simp [intOf]; omega
    · obtain rfl : k = s.size := by omega
      go_wp2_with (at_builtin; refine Hid.out ?_)
      refine hidg ?_
      refine wpList_append1 wr rfl _ _ 22 rfl w'.heap.size 5 i0 (.int .u8 0) 1 Try.underlying22 hi hz0 hz1 hz2 rfl _ _ _ hown _ rfl rfl rfl ?_ ?_ hbs ?_
      · unfold maxLen; omega
      · omega
      intro v4 w4 hown4 hgrow4
      obtain ⟨g4, cap4, rfl, hg4, -⟩ := owns_shape hown4 (by omega)
      have hBB := hB.grown hgrow4 hbs (fun g hg => (hown.lt g hg).1)
      clear hown hB hown4 hgrow4 hB2
      go_wp2_with fail
      refine (new_any live data w4).mono ?_
      rintro e w5 ⟨rfl, hv5, hb5, hs5⟩
      go_wp2_with fail
      refine (zcount_h _ s.size none 0 0 1 w5 live data (by omega) (by omega) (fun _ => ⟨rfl, rfl⟩) hv5).mono ?_
      rintro e w6 ⟨L6, D6, rfl, hv6, hb6, HL6, HD6⟩
      have B1 : (wrap64 (L6 - live) == ↑(uvl s.size) + ↑s.size + 1) = true := by rw [HL6.out, Int.one_mul, wr_sub, wr_id _ (by omega) (by simp [ws]; omega)]; simp [ws]
      have B2 : (wrap64 (D6 - data) == ↑s.size) = true := by rw [HD6.out, Int.one_mul, wr_sub, wr_id _ (by omega) (by omega)]; simp
      go_wp2_with (first
        | (go_at_call 9; refine (live_any _ _ _ _ hv6).mono ?_; rintro e w7 ⟨rfl, rfl⟩)
        | (go_at_call 10; refine (data_any _ _ _ _ hv6).mono ?_; rintro e w7 ⟨rfl, rfl⟩))
      refine (zcount_h _ s.size none 0 0 (-1) w7 L6 D6 (by omega) (by omega) (fun _ => ⟨rfl, rfl⟩) hv6).mono ?_
      rintro e w8 ⟨L8, D8, rfl, hv8, hb8, HL8, HD8⟩
      have e1 : L8 = live := by rw [HL8.out, HL6.out]; exact wr_back _ _ hl0 hl1
      have e2 : D8 = data := by rw [HD8.out, HD6.out]; exact wr_back _ _ hd0 hd1
      subst e1 e2
      clear HL8 HD8 HL6 HD6 B1 B2 hv5 hv6
      go_wp2_with (first
        | (go_at_call 9; refine (live_any _ _ _ _ hv8).mono ?_; rintro e w9 ⟨rfl, rfl⟩)
        | (go_at_call 10; refine (data_any _ _ _ _ hv8).mono ?_; rintro e w9 ⟨rfl, rfl⟩))
      go_ret
      refine ⟨rfl, ?_⟩
      have z1 := hBB.size
      exact hBB.trans ((hb5.mono z1).trans ((hb6.mono z1).trans (hb8.mono z1)))
end Go.Proofs.Qxb6603636a
