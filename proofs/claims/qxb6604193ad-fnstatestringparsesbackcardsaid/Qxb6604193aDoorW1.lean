import Derived.Test.Qxb6604193aDoorShelf
import Derived.Test.Qxb6604193aDoorRows
import Derived.WalkKit
import Derived.Lib.ItoaLen
import Derived.ProofKit
namespace Go.Proofs.Qxb6604193aDoor
open Go.RowKit
theorem below_grow (w : World) (k : Nat) (os : Array Obj) : Below w.heap.size w (Go.Sort.grow (w.drewN k) os) := by
  refine ⟨rfl, rfl, rfl, ?_, fun i hi => ?_⟩
  · show w.heap.size ≤ (w.heap ++ os).size
    simp
  · show (w.heap ++ os)[i]? = _
    exact Array.getElem?_append_left hi
/-- What State(n).String() is. -/
def name (n : Int) : List UInt8 :=
  if n = 0 then [99, 108, 111, 115, 101, 100] else if n = 1 then [111, 112, 101, 110] else if n = 2 then [104, 97, 108, 102, 45, 111, 112, 101, 110]
  else [83, 116, 97, 116, 101, 40] ++ Lib.itoa n ++ [41]

set_option maxHeartbeats 1600000 in
theorem str_0 (w : World) : Calls Tryd.prog 5 #[.int .i64 0] w fun e w' => e = .returned (.string ⟨(name 0).toArray⟩) ∧ Below w.heap.size w w' := by
  go_enter Tryd.func5, Tryd.ntmps5
  go_wp2
  go_ret
  exact ⟨by kernel_rfl, Below.refl _ _⟩
set_option maxHeartbeats 1600000 in
theorem str_1 (w : World) : Calls Tryd.prog 5 #[.int .i64 1] w fun e w' => e = .returned (.string ⟨(name 1).toArray⟩) ∧ Below w.heap.size w w' := by
  go_enter Tryd.func5, Tryd.ntmps5
  go_wp2
  go_ret
  exact ⟨by kernel_rfl, Below.refl _ _⟩
set_option maxHeartbeats 1600000 in
theorem str_2 (w : World) : Calls Tryd.prog 5 #[.int .i64 2] w fun e w' => e = .returned (.string ⟨(name 2).toArray⟩) ∧ Below w.heap.size w w' := by
  go_enter Tryd.func5, Tryd.ntmps5
  go_wp2
  go_ret
  exact ⟨by kernel_rfl, Below.refl _ _⟩
set_option maxHeartbeats 1600000 in
theorem str_n (n : Int) (h0 : -9223372036854775808 ≤ n) (h1 : n ≤ 9223372036854775807) (n0 : n ≠ 0) (n1 : n ≠ 1) (n2 : n ≠ 2) (w : World) (htab : Lib.TabIs Tryd.prog w "internal/strconv.uint64pow10" .u64 Lib.pow10Tab) :
    Calls Tryd.prog 5 #[.int .i64 n] w fun e w' => e = .returned (.string ⟨(name n).toArray⟩) ∧ Below w.heap.size w w' := by
  have e0 : (n == 0) = false := by simp [n0]
  have e1 : (n == 1) = false := by simp [n1]
  have e2 : (n == 2) = false := by simp [n2]
  go_enter Tryd.func5, Tryd.ntmps5
  go_wp2_with fail
  refine (Tryd.strconv_Itoa n h0 h1 w htab).mono ?_
  rintro e w' ⟨rfl, k, os, hw⟩
  have HW := hw
  clear hw
  have hln : (Lib.itoa n).length ≤ 21 := Lib.itoa_length_le n h0 h1
  generalize hi : Lib.itoa n = L at *
  go_wp2_with fail
  go_ret
  refine ⟨?_, below_grow w k os⟩
  have hN : name n = [83, 116, 97, 116, 101, 40] ++ L ++ [41] := by unfold name; rw [if_neg n0, if_neg n1, if_neg n2, hi]
  rw [hN]
  congr 2
theorem str_any (n : Int) (h0 : -9223372036854775808 ≤ n) (h1 : n ≤ 9223372036854775807) (w : World) (htab : Lib.TabIs Tryd.prog w "internal/strconv.uint64pow10" .u64 Lib.pow10Tab) :
    Calls Tryd.prog 5 #[.int .i64 n] w fun e w' => e = .returned (.string ⟨(name n).toArray⟩) ∧ Below w.heap.size w w' := by
  by_cases n0 : n = 0
  · subst n0; exact str_0 w
  by_cases n1 : n = 1
  · subst n1; exact str_1 w
  by_cases n2 : n = 2
  · subst n2; exact str_2 w
  exact str_n n h0 h1 n0 n1 n2 w htab
end Go.Proofs.Qxb6604193aDoor
