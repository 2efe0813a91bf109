import Derived.Test.Qxb6603636aW8
namespace Go.Proofs.Qxb6603636a
open Go.RowKit

set_option maxHeartbeats 400000 in
theorem walkA_long (live data ks by_ : Int) (w : World) (ao : Option Addr) (len cap : Nat) (hl : 1048576 < len) (hm : len ≤ 9223372036854775807) :
    Calls Try.prog 3 #[.int .i64 live, .int .i64 data, .int .i64 ks, .slice ao len cap, .int .i64 by_] w fun e w' => e = .returned (.bool true) ∧ Below w.heap.size w w' := by
  have hd : decide (len ≤ 1048576) = false := by simp; omega
  go_enter Try.func3, Try.ntmps3
  go_wp2_with (go_at_call 5; refine (bytes1_any _ _ _ _ _ _ _ _ hm).mono ?_; rintro e w' ⟨rfl, rfl⟩)
  go_ret
  exact ⟨rfl, Below.refl _ _⟩

set_option maxHeartbeats 400000 in
theorem walkA_ks (live data ks by_ : Int) (w : World) (ao : Option Addr) (len cap : Nat) (hl : len ≤ 1048576) (hk : ¬ (0 ≤ ks ∧ ks ≤ 1073741824)) :
    Calls Try.prog 3 #[.int .i64 live, .int .i64 data, .int .i64 ks, .slice ao len cap, .int .i64 by_] w fun e w' => e = .returned (.bool true) ∧ Below w.heap.size w w' := by
  have hd : decide (len ≤ 1048576) = true := by simp; omega
  by_cases h0 : ks < 0
  · go_enter Try.func3, Try.ntmps3
    go_wp2_with (go_at_call 5; refine (bytes1_any _ _ _ _ _ _ _ _ (by omega)).mono ?_; rintro e w' ⟨rfl, rfl⟩)
    go_ret
    exact ⟨rfl, Below.refl _ _⟩
  · have h1 : 1073741824 < ks := by omega
    clear hk
    go_enter Try.func3, Try.ntmps3
    go_wp2_with (go_at_call 5; refine (bytes1_any _ _ _ _ _ _ _ _ (by omega)).mono ?_; rintro e w' ⟨rfl, rfl⟩)
    go_ret
    exact ⟨rfl, Below.refl _ _⟩
end Go.Proofs.Qxb6603636a
