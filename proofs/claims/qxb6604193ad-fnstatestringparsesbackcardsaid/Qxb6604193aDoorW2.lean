import Derived.Test.Qxb6604193aDoorRows
import Derived.WalkKit
import Derived.ProofKit
namespace Go.Proofs.Qxb6604193aDoor
open Go.RowKit
theorem tup_eq {a b : Int} (h : a = b) : Ending.returned (.tuple #[.int .i64 a, .bool true]) = .returned (.tuple #[.int .i64 b, .bool true]) := by rw [h]
theorem wrap_min : wrap64 (-wrap64 9223372036854775808) = -9223372036854775808 := by
  first | kernel_rfl | (unfold wrap64; omega) | simp [wrap64]
theorem hidg {p : Prop} (h : p) : Hid p := h
set_option maxHeartbeats 1600000 in
theorem parse_pos (t b : ByteArray) (M N : Nat) (w : World) (dgt V : Nat → Nat) (ht : t.size = M + 1) (hN1 : 7 ≤ M) (hN2 : M ≤ 26)
    (c1 : (t.toList == [99, 108, 111, 115, 101, 100]) = false) (c2 : (t.toList == [111, 112, 101, 110]) = false) (c3 : (t.toList == [104, 97, 108, 102, 45, 111, 112, 101, 110]) = false)
    (hp : (t.extract 0 6).toList = [83, 116, 97, 116, 101, 40]) (hl : ∀ i (h : i < t.size), i = M → t[i] = 41) (hb : t.extract 6 M = b) (hbs : b.size = N) (n1 : 1 ≤ N) (n2 : N ≤ 19) (h0 : 0 < b.size) (e0 : (((b[0]'h0).toNat : Int) == 45) = false)
    (hd : ∀ j (h : j < b.size), (b[j].toNat : Int) = 48 + (dgt j : Int)) (hd9 : ∀ j, dgt j ≤ 9) (hV0 : V 0 = 0) (hVs : ∀ j, j < N → V (j + 1) = V j * 10 + dgt j) (hVm : ∀ j, j ≤ N → V j ≤ 9223372036854775807) :
    Calls Tryd.prog 4 #[.string t] w fun e w' => e = .returned (.tuple #[.int .i64 (V N), .bool true]) ∧ w' = w := by
  have q1 : (6 : Int) ≤ (M : Int) := by omega
  have q2 : (M : Int) ≤ (M : Int) + 1 := by omega
  have q3 : M ≤ t.size := by omega
  have q4 : 6 ≤ M := by omega
  have z1 : ((N : Int) == 0) = false := by simp; omega
  have z2 : (decide ((19 : Int) < (N : Int))) = false := by simp; omega
  have HD := hidg hd
  have HV0 := hidg hV0
  have HVS := hidg hVs
  have HVM := hidg hVm
  clear hd hV0 hVs hVm
  go_enter Tryd.func4, Tryd.ntmps4
  go_wp2_with fail
  go_loopw [6, 7] (fun u idx wr => ∃ j : Nat, j ≤ N ∧ idx = .int .i64 j ∧ u = .int .u64 (V j) ∧ wr = w) (fun _ idx _ => N - (intOf idx).toNat)
  case atStart => exact ⟨0, by omega, rfl, by rw [HV0.out]; rfl, rfl⟩
  case round =>
    obtain ⟨j, hj, rfl, rfl, rfl⟩ := hrel
    by_cases hlt : j < N
    · have hdj := HD.out j (by omega)
      have h9 := hd9 j
      have hvj := HVM.out (j + 1) (by omega)
      rw [HVS.out j hlt] at hvj
      have hjn : (j : Int) < (N : Int) := by omega
      generalize hge : dgt j = g at *
      generalize hve : V j = vj at *
      have HE := hidg (And.intro hge hve)
      clear hge hve
      go_wp2_with fail
      go_roundw
      case rel => exact ⟨j + 1, by omega, by go_num, by rw [HVS.out j hlt, HE.out.1, HE.out.2]; simp; omega, trivial⟩
      case measure => simp [intOf]; omega
    · obtain rfl : N = j := by omega
      have hv := HVM.out N (Nat.le_refl _)
      go_wp2_with fail
      go_ret2
      exact ⟨rfl, rfl⟩
set_option maxHeartbeats 1600000 in
theorem parse_neg (t b c : ByteArray) (M K N : Nat) (w : World) (dgt V : Nat → Nat) (ht : t.size = M + 1) (hN1 : 7 ≤ M) (hN2 : M ≤ 27)
    (c1 : (t.toList == [99, 108, 111, 115, 101, 100]) = false) (c2 : (t.toList == [111, 112, 101, 110]) = false) (c3 : (t.toList == [104, 97, 108, 102, 45, 111, 112, 101, 110]) = false)
    (hp : (t.extract 0 6).toList = [83, 116, 97, 116, 101, 40]) (hl : ∀ i (h : i < t.size), i = M → t[i] = 41) (hb : t.extract 6 M = b) (hbs : b.size = K) (hK : 1 ≤ K) (hc : b.extract 1 K = c) (hcs : c.size = N) (n1 : 1 ≤ N) (n2 : N ≤ 19) (h0 : 0 < b.size) (e0 : (((b[0]'h0).toNat : Int) == 45) = true)
    (hd : ∀ j (h : j < c.size), (c[j].toNat : Int) = 48 + (dgt j : Int)) (hd9 : ∀ j, dgt j ≤ 9) (hV0 : V 0 = 0) (hVs : ∀ j, j < N → V (j + 1) = V j * 10 + dgt j) (hVm : ∀ j, j ≤ N → V j ≤ 9223372036854775808) :
    Calls Tryd.prog 4 #[.string t] w fun e w' => e = .returned (.tuple #[.int .i64 (-(V N : Int)), .bool true]) ∧ w' = w := by
  have q1 : (6 : Int) ≤ (M : Int) := by omega
  have q2 : (M : Int) ≤ (M : Int) + 1 := by omega
  have q3 : M ≤ t.size := by omega
  have q4 : 6 ≤ M := by omega
  have z1 : ((N : Int) == 0) = false := by simp; omega
  have z2 : (decide ((19 : Int) < (N : Int))) = false := by simp; omega
  have q5 : (1 : Int) ≤ (K : Int) := by omega
  have q6 : 1 ≤ K := hK
  have q7 : K ≤ b.size := by omega
  have HD := hidg hd
  have HV0 := hidg hV0
  have HVS := hidg hVs
  have HVM := hidg hVm
  clear hd hV0 hVs hVm
  go_enter Tryd.func4, Tryd.ntmps4
  go_wp2_with fail
  go_loopw [6, 7] (fun u idx wr => ∃ j : Nat, j ≤ N ∧ idx = .int .i64 j ∧ u = .int .u64 (V j) ∧ wr = w) (fun _ idx _ => N - (intOf idx).toNat)
  case atStart => exact ⟨0, by omega, rfl, by rw [HV0.out]; rfl, rfl⟩
  case round =>
    obtain ⟨j, hj, rfl, rfl, rfl⟩ := hrel
    by_cases hlt : j < N
    · have hdj := HD.out j (by omega)
      have h9 := hd9 j
      have hvj := HVM.out (j + 1) (by omega)
      rw [HVS.out j hlt] at hvj
      have hjn : (j : Int) < (N : Int) := by omega
      generalize hge : dgt j = g at *
      generalize hve : V j = vj at *
      have HE := hidg (And.intro hge hve)
      clear hge hve
      go_wp2_with fail
      go_roundw
      case rel => exact ⟨j + 1, by omega, by go_num, by rw [HVS.out j hlt, HE.out.1, HE.out.2]; simp; omega, trivial⟩
      case measure => simp [intOf]; omega
    · obtain rfl : N = j := by omega
      have hv := HVM.out N (Nat.le_refl _)
      by_cases hbig : V N = 9223372036854775808
      · have hbi : ((V N : Nat) : Int) = 9223372036854775808 := by rw [hbig]; rfl
        go_wp2_with fail
        go_ret2
        refine ⟨tup_eq ?_, rfl⟩
        rw [hbi]
        exact wrap_min
      · have hbi : ((V N : Nat) : Int) ≤ 9223372036854775807 := by omega
        go_wp2_with fail
        go_ret2
        exact ⟨rfl, rfl⟩
end Go.Proofs.Qxb6604193aDoor
