import Derived.Test.Qxb6604255aRows
import Derived.Test.Qxb6604255aKit
import Derived.Test.Qxb6604255aPlain
namespace Go.Proofs.Qxb6604255a
open Go.RowKit

set_option maxHeartbeats 1600000 in
theorem bytes12 (a1 a2 : Option Addr) (n1 n2 c1 c2 : Nat) (r s : Int) (w : World) (h1 : n1 ≤ 9223372036854775807) (h2 : n2 ≤ 9223372036854775807) :
    Calls Try.prog 12 #[.int .i64 r, .slice a1 n1 c1, .slice a2 n2 c2, .int .i64 s] w fun e' w' => BoolRes True e' ∧ w' = w := by
  go_enter Try.func12, Try.ntmps12
  go_wp2
  all_goals (go_ret; exact ⟨⟨_, rfl, fun _ => trivial⟩, rfl⟩)
set_option maxHeartbeats 1600000 in
theorem bytes6 (a1 a2 : Option Addr) (n1 n2 c1 c2 : Nat) (r s : Int) (w : World) (h1 : n1 ≤ 9223372036854775807) (h2 : n2 ≤ 9223372036854775807) :
    Calls Try.prog 6 #[.int .i64 r, .slice a1 n1 c1, .slice a2 n2 c2, .int .i64 s] w fun e' w' => BoolRes True e' ∧ w' = w := by
  go_enter Try.func6, Try.ntmps6
  go_wp2
  all_goals (go_ret; exact ⟨⟨_, rfl, fun _ => trivial⟩, rfl⟩)
set_option maxHeartbeats 1600000 in
theorem bytes13 (a1 a2 : Option Addr) (n1 n2 c1 c2 : Nat) (r : Int) (w : World) (h1 : n1 ≤ 9223372036854775807) (h2 : n2 ≤ 9223372036854775807) :
    Calls Try.prog 13 #[.int .i64 r, .slice a1 n1 c1, .slice a2 n2 c2] w fun e' w' => BoolRes True e' ∧ w' = w := by
  go_enter Try.func13, Try.ntmps13
  go_wp2
  all_goals (go_ret; exact ⟨⟨_, rfl, fun _ => trivial⟩, rfl⟩)
end Go.Proofs.Qxb6604255a
