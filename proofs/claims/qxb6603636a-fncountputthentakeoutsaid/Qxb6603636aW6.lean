import Derived.Test.Qxb6603636aProg
import Derived.WalkKit
import Derived.Test.Qxb6603636aKit
import Derived.Test.Qxb6603636aPlain
namespace Go.Proofs.Qxb6603636a
open Go.RowKit
theorem Try.info5 : (Try.prog.info? 5).map (fun i => (i.zero, i.size, i.bytes)) = some (some (.int .u8 0), 1, 1) := by kernel_rfl

set_option maxHeartbeats 1600000 in
set_option maxRecDepth 1000000 in
theorem uv_any (B : Nat) (v : Value) (k : Nat) (xs : List Value) (n : Nat) (w : World) (hn : n < 34359738368) (hk : k < 4294967296) (hB : B ≤ w.heap.size)
    (hown : w.ownsRow B 5 1 v k xs) :
    Calls Try.prog 6 #[v, .int .u64 n] w fun e w' => ∃ v' ys, e = .returned v' ∧ w'.ownsRow B 5 1 v' (k + uvl n) (xs ++ ys) ∧ Below B w w' := by
  obtain ⟨i0, hi, hz0, hz1, hz2⟩ := info_parts Try.info5
  go_enter Try.func6, Try.ntmps6
  go_wp2
  go_loopw [0, 1] (fun b s wr => ∃ (j m : Nat) (ys : List Value), m < 34359738368 ∧ s = .int .u64 m ∧ j + uvl m = k + uvl n ∧ wr.ownsRow B 5 1 b j (xs ++ ys) ∧ Below B w wr)
    (fun _ s _ => (intOf s).toNat)
  case atStart => exact ⟨k, n, [], hn, rfl, rfl, by simpa using hown, Below.refl _ _⟩
  case round =>
    obtain ⟨j, m, ys, hm, rfl, hj, hownr, hnx⟩ := hrel
    have hp := uvl_pos n
    have hpm := uvl_pos m
    have hbs' : B ≤ wr.heap.size := Nat.le_trans hB hnx.size
    by_cases hlt : m < 128
    · go_wp2_with (at_builtin; refine Hid.out ?_)
      refine hidg ?_
      refine wpList_append1 wr rfl _ _ 22 rfl B 5 i0 (.int .u8 0) 1 Try.underlying22 hi hz0 hz1 hz2 rfl _ j _ hownr _ rfl rfl rfl ?_ ?_ hbs' ?_
      · unfold maxLen; omega
      · omega
      intro v' w1 hown1 hgrow1
      go_wp2
      go_ret
      rw [show j + 1 = k + uvl n from by have := uvl_small m hlt; omega, List.append_assoc] at hown1
      exact ⟨v', _, rfl, hown1, hnx.grown hgrow1 hbs' (fun g hg => (hownr.lt g hg).1)⟩
    · go_wp2_with (at_builtin; refine Hid.out ?_)
      refine hidg ?_
      refine wpList_append1 wr rfl _ _ 22 rfl B 5 i0 (.int .u8 0) 1 Try.underlying22 hi hz0 hz1 hz2 rfl _ j _ hownr _ rfl rfl rfl ?_ ?_ hbs' ?_
      · unfold maxLen; omega
      · omega
      intro v' w1 hown1 hgrow1
      go_wp2
      rw [List.append_assoc] at hown1
      go_roundw
      case rel => exact ⟨j + 1, m / 128, _, by omega, by go_num, by have := uvl_step m (by omega) hm; omega, hown1, hnx.grown hgrow1 hbs' (fun g hg => (hownr.lt g hg).1)⟩
      case measure => simp [intOf]; omega
end Go.Proofs.Qxb6603636a
