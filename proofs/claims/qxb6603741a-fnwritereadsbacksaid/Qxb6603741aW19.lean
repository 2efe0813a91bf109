import Derived.Test.Qxb6603741aW1
import Derived.Test.Qxb6603741aKit
namespace Go.Proofs.Qxb6603741a
open Go.RowKit

set_option maxHeartbeats 3200000 in
set_option maxRecDepth 100000 in
theorem bytes_any (a1 a2 a3 a4 a5 a6 a7 a8 : Option Addr) (n1 n2 n3 n4 n5 n6 n7 n8 c1 c2 c3 c4 c5 c6 c7 c8 : Nat) (k s e : Int) (w : World)
    (h1 : n1 ≤ 9223372036854775807) (h2 : n2 ≤ 9223372036854775807) (h3 : n3 ≤ 9223372036854775807) (h4 : n4 ≤ 9223372036854775807) (h5 : n5 ≤ 9223372036854775807) (h6 : n6 ≤ 9223372036854775807) (h7 : n7 ≤ 9223372036854775807) (h8 : n8 ≤ 9223372036854775807) :
    Calls Try.prog 14 #[.slice a1 n1 c1, .slice a2 n2 c2, .slice a3 n3 c3, .slice a4 n4 c4, .slice a5 n5 c5, .slice a6 n6 c6, .slice a7 n7 c7, .slice a8 n8 c8, .int .u8 k, .int .i64 s, .int .i64 e] w fun e' w' => BoolRes True e' ∧ w' = w := by
  go_enter Try.func14, Try.ntmps14
  go_wp2
  all_goals (go_ret; exact ⟨⟨_, rfl, fun _ => trivial⟩, rfl⟩)
end Go.Proofs.Qxb6603741a
