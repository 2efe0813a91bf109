import Derived.Test.Qxb6603636aProg
import Derived.WalkKit
import Derived.WalkSpells
import Derived.Test.Qxb6603636aKit
import Derived.Test.Qxb6603636aPlain
import Derived.Test.Qxb6603636aShelf
namespace Go.Proofs.Qxb6603636a
open Go.RowKit

theorem ret_int {k : IntKind} {a b : Int} (h : a = b) : Ending.returned (.int k a) = .returned (.int k b) := by rw [h]
theorem or_one_int (n : Int) (h0 : 0 ≤ n) (h1 : n < 34359738368) : bits .or .u64 n 1 = ((n.toNat ||| 1 : Nat) : Int) := by
  exact u64_or n 1 h0 (by omega) (by omega) (by omega)

set_option maxHeartbeats 400000 in
theorem uvarint_any (n : Int) (w : World) (h0 : 0 ≤ n) (h1 : n < 34359738368) :
    Calls Try.prog 14 #[.int .i64 n] w fun e w' => e = .returned (.int .i64 (uvl n.toNat)) ∧ w' = w := by
  have e1 := or_one_int n h0 h1
  have e2 := or_one n.toNat
  have e3 := bitLen_uvl n.toNat (by omega)
  have e4 := bitLen_bound n.toNat (by omega)
  generalize (n.toNat ||| 1) = x at *
  have E3 := hidg e3
  have hx : x < 34359738370 := by omega
  clear e2 e3
  go_enter Try.func14, Try.ntmps14
  go_wp2_with (go_at_call 15; refine (Try.bits_Len64 _ _ (by omega) (by omega)).mono ?_; rintro e w' ⟨rfl, rfl⟩)
  go_ret
  exact ⟨ret_int (by rw [← E3.out]; omega), rfl⟩

/-- What writeSize returns, nil told apart. -/
def ws (nil : Bool) (ks len : Nat) : Nat := if nil then uvl ks + ks + 1 else uvl ks + ks + uvl (len + 1) + len

set_option maxHeartbeats 400000 in
theorem ws_nil (ks : Nat) (w : World) (h1 : ks < 4294967296) :
    Calls Try.prog 13 #[.int .i64 ks, .slice none 0 0] w fun e w' => e = .returned (.int .i64 (ws true ks 0)) ∧ w' = w := by
  have hp := uvl_pos ks
  have hq := fun w a n c => Lib.run_eql_slice_nil (P := Try.prog) w 22 5 a n c 0 0 Try.underlying22
  go_enter Try.func13, Try.ntmps13
  go_wp2_with (go_at_call 14; refine (uvarint_any _ _ (by omega) (by omega)).mono ?_; rintro e w' ⟨rfl, rfl⟩)
  go_ret
  exact ⟨ret_int (by simp [ws]), rfl⟩

set_option maxHeartbeats 400000 in
theorem ws_some (ks : Nat) (a : Addr) (len cap : Nat) (w : World) (h1 : ks < 4294967296) (h2 : len < 4294967296) :
    Calls Try.prog 13 #[.int .i64 ks, .slice (some a) len cap] w fun e w' => e = .returned (.int .i64 (ws false ks len)) ∧ w' = w := by
  have hp := uvl_pos ks
  have hp2 := uvl_pos (len + 1)
  have hq := fun w a n c => Lib.run_eql_slice_nil (P := Try.prog) w 22 5 a n c 0 0 Try.underlying22
  go_enter Try.func13, Try.ntmps13
  go_wp2_with (go_at_call 14; refine (uvarint_any _ _ (by omega) (by omega)).mono ?_; rintro e w' ⟨rfl, rfl⟩)
  go_ret
  exact ⟨ret_int (by simp [ws]), rfl⟩

theorem ws_any (ks : Nat) (ao : Option Addr) (len cap : Nat) (w : World) (h1 : ks < 4294967296) (h2 : len < 4294967296) (h3 : ao = none → len = 0 ∧ cap = 0) :
    Calls Try.prog 13 #[.int .i64 ks, .slice ao len cap] w fun e w' => e = .returned (.int .i64 (ws ao.isNone ks len)) ∧ w' = w := by
  cases ao with
  | none => obtain ⟨rfl, rfl⟩ := h3 rfl; exact ws_nil ks w h1
  | some a => exact ws_some ks a len cap w h1 h2
end Go.Proofs.Qxb6603636a
