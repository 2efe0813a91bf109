import Derived.Test.Qxb6603636aW12
namespace Go.Proofs.Qxb6603636a
open Go.RowKit

set_option maxHeartbeats 400000 in
theorem new_any (live data : Int) (w : World) :
    Calls Try.prog 7 #[.int .i64 live, .int .i64 data] w fun e w' => e = .returned (.pointer (some ⟨w.heap.size, 0, none⟩)) ∧ Vals w' w.heap.size live data ∧ Below w.heap.size w w' ∧ w.heap.size < w'.heap.size := by
  go_enter Try.func7, Try.ntmps7
  go_wp2
  go_ret
  refine ⟨rfl, ⟨by simp, by simp, by simp, by simp⟩, (Below.refl _ _).alloc (Nat.le_refl _) _, by simp⟩

set_option maxHeartbeats 400000 in
theorem zcount_any (b : Nat) (ks : Nat) (ao : Option Addr) (len cap : Nat) (by_ : Int) (w : World) (live data : Int) (h1 : ks < 4294967296) (h2 : len < 4294967296) (h3 : ao = none → len = 0 ∧ cap = 0)
    (hv : Vals w b live data) :
    Calls Try.prog 8 #[.pointer (some ⟨b, 0, none⟩), .int .i64 ks, .slice ao len cap, .int .i64 by_] w fun e w' => e = .returned (.tuple #[]) ∧
      Vals w' b (wrap64 (live + wrap64 (by_ * (ws ao.isNone ks len)))) (wrap64 (data + wrap64 (by_ * (ks + len)))) ∧ Below b w w' := by
  go_enter Try.func8, Try.ntmps8
  go_wp2_with (go_at_call 12; refine (count_any _ _ _ _ _ _ _ _ _ h1 h2 h3 hv).mono ?_; rintro e w' ⟨rfl, hw⟩)
  go_end0
  exact ⟨rfl, hw⟩

set_option maxHeartbeats 400000 in
theorem live_any (b : Nat) (w : World) (live data : Int) (hv : Vals w b live data) :
    Calls Try.prog 9 #[.pointer (some ⟨b, 0, none⟩)] w fun e w' => e = .returned (.int .i64 live) ∧ w' = w := by
  obtain ⟨c1, c2, f1, f2⟩ := hv
  go_enter Try.func9, Try.ntmps9
  go_wp2
  go_ret
  exact ⟨rfl, rfl⟩

set_option maxHeartbeats 400000 in
theorem data_any (b : Nat) (w : World) (live data : Int) (hv : Vals w b live data) :
    Calls Try.prog 10 #[.pointer (some ⟨b, 0, none⟩)] w fun e w' => e = .returned (.int .i64 data) ∧ w' = w := by
  obtain ⟨c1, c2, f1, f2⟩ := hv
  go_enter Try.func10, Try.ntmps10
  go_wp2
  go_ret
  exact ⟨rfl, rfl⟩

set_option maxHeartbeats 400000 in
theorem bytes1_any (a b c : Int) (ao : Option Addr) (len cap : Nat) (d : Int) (w : World) (hl : len ≤ 9223372036854775807) :
    Calls Try.prog 5 #[.int .i64 a, .int .i64 b, .int .i64 c, .slice ao len cap, .int .i64 d] w fun e w' => e = .returned (.bool (decide (len ≤ 1048576))) ∧ w' = w := by
  by_cases h : len ≤ 1048576
  · go_enter Try.func5, Try.ntmps5
    go_wp2
    go_ret
    exact ⟨by simp [h], rfl⟩
  · go_enter Try.func5, Try.ntmps5
    go_wp2
    go_ret
    exact ⟨by simp [h], rfl⟩
end Go.Proofs.Qxb6603636a
