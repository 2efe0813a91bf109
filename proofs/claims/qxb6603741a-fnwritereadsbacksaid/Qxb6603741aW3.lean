import Derived.Test.Qxb6603741aW2
namespace Go.Proofs.Qxb6603741a
open Go.RowKit

theorem Try.info5 : (Try.prog.info? 5).map (fun i => (i.zero, i.size, i.bytes)) = some (some (.int .u8 0), 1, 1) := by kernel_rfl
theorem Try.info3 : (Try.prog.info? 3).map (fun i => (i.zero, i.size, i.bytes)) = some (some (.int .i64 0), 1, 8) := by kernel_rfl

theorem Sl.src {w : World} {k : IntKind} {ao : Option Addr} {n cap : Nat} {zs : List Int} (h : Sl w k ao n cap zs) : ∀ ad, ao = some ad → ∀ j v, (zs.map (Value.int k))[j]? = some v → w.cell? (ad.add j) = some v := by
  intro ad had j v hv
  have hj : j < n := by
    have := (List.getElem?_eq_some_iff.1 hv).1
    have := h.hlen
    simp at *; omega
  obtain ⟨b, off, hao, hc⟩ := h.cells (by omega)
  rw [had] at hao
  cases hao
  rw [Addr.add_lit, hc j hj, ← hv]
  have := h.hlen
  simp [List.getD, show j < zs.length by omega]

set_option maxHeartbeats 800000 in
theorem clone_any (a : Option Addr) (n cap : Nat) (Z : List Int) (w : World) (hZ : Sl w .u8 a n cap Z) (hn : n ≤ 1048576) :
    Calls Try.prog 7 #[.slice a n cap] w fun e w' => ∃ a' cap', e = .returned (.slice a' n cap') ∧ w'.ownsRow w.heap.size 5 1 (.slice a' n cap') n (Z.map (Value.int .u8)) ∧ w.grownBy w' none := by
  have hq := fun w a n c => Lib.run_eql_slice_nil (P := Try.prog) w 22 5 a n c 0 0 Try.underlying22
  obtain ⟨i0, hi, hz0, hz1, hz2⟩ := info_parts Try.info5
  cases a with
  | none =>
    have hc := hZ.hnil rfl
    have h1 := hZ.hcap
    have h2 := hZ.hlen
    obtain rfl : n = 0 := by omega
    obtain rfl : Z = [] := List.eq_nil_of_length_eq_zero h2
    go_enter Try.func7, Try.ntmps7
    go_wp2
    go_ret
    exact ⟨none, 0, rfl, World.ownsRow_nil _ _ _ _, grown_refl _ _⟩
  | some x =>
    have HZ := hidg hZ
    clear hZ
    go_enter Try.func7, Try.ntmps7
    go_wp2_with (at_make; refine Hid.out ?_)
    refine hidg ?_
    refine wpList_make_full _ rfl _ _ 22 rfl w.heap.size 5 i0 (.int .u8 0) 1 Try.underlying22 hi hz0 hz1 _ _ _ _ n rfl rfl rfl rfl ?_ ?_ (Nat.le_refl _) ?_
    · rw [hz2]; omega
    · unfold maxLen; omega
    intro w1 hown1 hgrow1
    go_wp2_with (refine wpList_copied _ rfl (.tmp 9) (.tmp 10) 22 rfl w.heap.size 5 i0 Try.underlying22 hi hz1 w.heap.size n n _ hown1 (some x) cap (Z.map (Value.int .u8)) rfl rfl (by rw [List.length_map]; exact HZ.out.hlen) (HZ.out.step0 hgrow1).src (fun h => by cases h) (ints_oneCell _ _) ?_)
    intro w2 hown2 hgrow2
    go_wp2
    go_ret
    exact ⟨_, _, rfl, hown2, grown_trans hgrow1 hgrow2 (.inr (.inr ⟨_, rfl, Nat.le_refl _⟩))⟩

set_option maxHeartbeats 800000 in
theorem cloneI_any (a : Option Addr) (n cap : Nat) (Z : List Int) (w : World) (hZ : Sl w .i64 a n cap Z) (hn : n ≤ 1048576) :
    Calls Try.prog 17 #[.slice a n cap] w fun e w' => ∃ a' cap', e = .returned (.slice a' n cap') ∧ w'.ownsRow w.heap.size 3 1 (.slice a' n cap') n (Z.map (Value.int .i64)) ∧ w.grownBy w' none := by
  have hq := fun w a n c => Lib.run_eql_slice_nil (P := Try.prog) w 29 3 a n c 0 0 Try.underlying29
  obtain ⟨i0, hi, hz0, hz1, hz2⟩ := info_parts Try.info3
  cases a with
  | none =>
    have hc := hZ.hnil rfl
    have h1 := hZ.hcap
    have h2 := hZ.hlen
    obtain rfl : n = 0 := by omega
    obtain rfl : Z = [] := List.eq_nil_of_length_eq_zero h2
    go_enter Try.func17, Try.ntmps17
    go_wp2
    go_ret
    exact ⟨none, 0, rfl, World.ownsRow_nil _ _ _ _, grown_refl _ _⟩
  | some x =>
    have HZ := hidg hZ
    clear hZ
    go_enter Try.func17, Try.ntmps17
    go_wp2_with (at_make; refine Hid.out ?_)
    refine hidg ?_
    refine wpList_make_full _ rfl _ _ 29 rfl w.heap.size 3 i0 (.int .i64 0) 1 Try.underlying29 hi hz0 hz1 _ _ _ _ n rfl rfl rfl rfl ?_ ?_ (Nat.le_refl _) ?_
    · rw [hz2]; omega
    · unfold maxLen; omega
    intro w1 hown1 hgrow1
    go_wp2_with (refine wpList_copied _ rfl (.tmp 9) (.tmp 10) 29 rfl w.heap.size 3 i0 Try.underlying29 hi hz1 w.heap.size n n _ hown1 (some x) cap (Z.map (Value.int .i64)) rfl rfl (by rw [List.length_map]; exact HZ.out.hlen) (HZ.out.step0 hgrow1).src (fun h => by cases h) (ints_oneCell _ _) ?_)
    intro w2 hown2 hgrow2
    go_wp2
    go_ret
    exact ⟨_, _, rfl, hown2, grown_trans hgrow1 hgrow2 (.inr (.inr ⟨_, rfl, Nat.le_refl _⟩))⟩

/-- isToken, plainly. -/
def free (c : Int) : Prop := c ≠ 34 ∧ c ≠ 91 ∧ c ≠ 93 ∧ c ≠ 123 ∧ c ≠ 125 ∧ c ≠ 44
structure Tok (A : List Int) : Prop where
  pos : 0 < A.length
  str : A.getD 0 0 = 34 → scanR A 0 = A.length
  other : A.getD 0 0 ≠ 34 → ∀ j, j < A.length → free (A.getD j 0)

set_option maxHeartbeats 1600000 in
theorem tok_any (a : Option Addr) (n cap : Nat) (Z : List Int) (w : World) (hZ : Sl w .u8 a n cap Z) :
    Calls Try.prog 26 #[.slice a n cap] w fun e w' => BoolRes (Tok Z) e ∧ w.grownBy w' none := by
  have lz := hZ.hlen
  have mz := hZ.hlim
  have HZ := hidg hZ.cells
  have HS := hidg hZ
  have LZ := hidg lz
  clear hZ lz
  by_cases h0 : n = 0
  · subst h0
    go_enter Try.func26, Try.ntmps26
    go_wp2
    go_ret
    exact ⟨boolRes_false _, grown_refl _ _⟩
  · obtain ⟨b, off, rfl, hc⟩ := HZ.out (by omega)
    have c0 : w.cell? ⟨b, off, none⟩ = some (.int .u8 (Z.getD 0 0)) := by simpa using hc 0 (by omega)
    have HC := hidg hc
    clear hc HZ
    generalize hx : Z.getD 0 0 = x at *
    have HX := hidg hx
    clear hx
    have hn0 : 0 < n := by omega
    by_cases hq : x = 34
    · subst hq
      go_enter Try.func26, Try.ntmps26
      go_wp2_with (go_at_call 10; refine (scan_any _ _ _ Z _ _ HS.out (by omega) (by omega)).mono ?_; rintro e w' ⟨rfl, rfl⟩)
      go_ret
      refine ⟨⟨_, rfl, fun h => ?_⟩, grown_refl _ _⟩
      refine ⟨by have := LZ.out; omega, fun _ => ?_, fun h2 => absurd HX.out h2⟩
      rw [LZ.out]
      simpa using h
    · have e1 : (x == 34) = false := by simp [hq]
      have HQ := hidg hq
      clear hq
      have en : ((n : Int) == 0) = false := by simp; omega
      clear h0
      go_enter Try.func26, Try.ntmps26
      go_wp2
      go_loop [3] (fun i => ∃ k : Nat, k ≤ n ∧ i = .int .i64 k ∧ Hid (∀ j, j < k → free (Z.getD j 0))) (fun i => n - (intOf i).toNat)
      case atStart => exact ⟨0, Nat.zero_le _, rfl, fun j h => by omega⟩
      case round =>
        obtain ⟨k, hk, rfl, HF⟩ := hrel
        by_cases hlt : k < n
        · have ck := HC.out k hlt
          generalize hy : Z.getD k 0 = y at *
          have HY := hidg hy
          clear hy
          by_cases hf : free y
          · have HFY := hidg hf
            obtain ⟨f1, f2, f3, f4, f5, f6⟩ := hf
            have g1 : (y == 34) = false := by simp [f1]
            have g2 : (y == 91) = false := by simp [f2]
            have g3 : (y == 93) = false := by simp [f3]
            have g4 : (y == 123) = false := by simp [f4]
            have g5 : (y == 125) = false := by simp [f5]
            have g6 : (y == 44) = false := by simp [f6]
            clear f1 f2 f3 f4 f5 f6
            go_wp2
            go_round
            case rel =>
              refine ⟨k + 1, by omega, by go_num, fun j hj => ?_⟩
              by_cases hjk : j = k
              · rw [hjk, HY.out]; exact HFY.out
              · exact HF.out j (by omega)
            case measure => simp [intOf]; omega
          · have hor : y = 34 ∨ y = 91 ∨ y = 93 ∨ y = 123 ∨ y = 125 ∨ y = 44 := by unfold free at hf; omega
            clear hf HY
            rcases hor with rfl | rfl | rfl | rfl | rfl | rfl
            all_goals
              go_wp2
              go_ret
              exact ⟨boolRes_false _, grown_refl _ _⟩
        · go_wp2
          go_ret
          refine ⟨boolRes_true ⟨by have := LZ.out; omega, fun h => absurd h (by rw [HX.out]; exact HQ.out), fun _ j hj => HF.out j (by have := LZ.out; omega)⟩, grown_refl _ _⟩
end Go.Proofs.Qxb6603741a
