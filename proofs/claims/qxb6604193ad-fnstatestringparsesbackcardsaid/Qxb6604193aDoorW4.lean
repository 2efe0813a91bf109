import Derived.Test.Qxb6604193aDoorW3
namespace Go.Proofs.Qxb6604193aDoor
open Go.RowKit Go.Lib
theorem ba_size (l : List UInt8) : (⟨l.toArray⟩ : ByteArray).size = l.length := rfl
theorem ba_get (l : List UInt8) (i : Nat) (h : i < (⟨l.toArray⟩ : ByteArray).size) : (⟨l.toArray⟩ : ByteArray)[i] = l[i]'h := rfl
theorem ba_ext (l : List UInt8) (a b : Nat) : (⟨l.toArray⟩ : ByteArray).extract a b = ⟨((l.drop a).take (b - a)).toArray⟩ := by
  apply ByteArray.ext
  simp [ByteArray.data_extract]
theorem ba_list (l : List UInt8) : (⟨l.toArray⟩ : ByteArray).toList = l := by
  simp
set_option maxHeartbeats 1600000 in
theorem parse_0 (w : World) : Calls Tryd.prog 4 #[.string ⟨(name 0).toArray⟩] w fun e w' => e = .returned (.tuple #[.int .i64 0, .bool true]) ∧ w' = w := by
  show Calls Tryd.prog 4 #[.string ⟨#[99, 108, 111, 115, 101, 100]⟩] w _
  have h := ba_list [99, 108, 111, 115, 101, 100]
  go_enter Tryd.func4, Tryd.ntmps4
  go_wp2
  go_ret2
  exact ⟨rfl, rfl⟩
set_option maxHeartbeats 1600000 in
theorem parse_1 (w : World) : Calls Tryd.prog 4 #[.string ⟨(name 1).toArray⟩] w fun e w' => e = .returned (.tuple #[.int .i64 1, .bool true]) ∧ w' = w := by
  show Calls Tryd.prog 4 #[.string ⟨#[111, 112, 101, 110]⟩] w _
  have h := ba_list [111, 112, 101, 110]
  go_enter Tryd.func4, Tryd.ntmps4
  go_wp2
  go_ret2
  exact ⟨rfl, rfl⟩
set_option maxHeartbeats 1600000 in
theorem parse_2 (w : World) : Calls Tryd.prog 4 #[.string ⟨(name 2).toArray⟩] w fun e w' => e = .returned (.tuple #[.int .i64 2, .bool true]) ∧ w' = w := by
  show Calls Tryd.prog 4 #[.string ⟨#[104, 97, 108, 102, 45, 111, 112, 101, 110]⟩] w _
  have h := ba_list [104, 97, 108, 102, 45, 111, 112, 101, 110]
  go_enter Tryd.func4, Tryd.ntmps4
  go_wp2
  go_ret2
  exact ⟨rfl, rfl⟩
def L6 (D : List UInt8) : List UInt8 := [83, 116, 97, 116, 101, 40] ++ D ++ [41]
theorem L6_len (D : List UInt8) : (L6 D).length = D.length + 6 + 1 := by simp [L6]
theorem L6_cut (D : List UInt8) : ((L6 D).drop 6).take (D.length + 6 - 6) = D := by simp [L6]
theorem L6_pre (D : List UInt8) : ((L6 D).drop 0).take (6 - 0) = [83, 116, 97, 116, 101, 40] := by simp [L6]
theorem L6_last (D : List UInt8) (i : Nat) (h : i < (L6 D).length) (hi : i = D.length + 6) : (L6 D)[i] = 41 := by
  subst hi
  simp [L6]
theorem parse_ge (u : Nat) (hu : u ≤ 9223372036854775807) (w : World) : Calls Tryd.prog 4 #[.string ⟨(L6 (decDigits u)).toArray⟩] w fun e w' => e = .returned (.tuple #[.int .i64 u, .bool true]) ∧ w' = w := by
  have hl := decDigits_length u
  have h1 := nDigits_pos u
  have h2 := nd_le u (by omega)
  have hz : 0 < (decDigits u).length := by omega
  have := parse_pos ⟨(L6 (decDigits u)).toArray⟩ ⟨(decDigits u).toArray⟩ ((decDigits u).length + 6) (decDigits u).length w (Dg u) (Vl u) (L6_len _) (by omega) (by omega)
    (by rw [ba_list]; simp [L6]) (by rw [ba_list]; simp [L6]) (by rw [ba_list]; simp [L6]) (by rw [ba_ext, ba_list]; exact L6_pre _) (fun i h hi => L6_last _ i h hi) (by rw [ba_ext, L6_cut]) rfl (by omega) (by omega) hz
    (by have h3 := digit_at u 0 hz; rw [ba_get, h3]; simp; omega)
    (fun j h => digit_at u j h) (Dg_le u) (Vl_zero u) (fun j h => Vl_succ u j (by omega)) (fun j _ => Nat.le_trans (Vl_le u j) hu)
  rw [hl, Vl_end] at this
  exact this
theorem parse_lt (u : Nat) (hu : u ≤ 9223372036854775808) (w : World) : Calls Tryd.prog 4 #[.string ⟨(L6 (45 :: decDigits u)).toArray⟩] w fun e w' => e = .returned (.tuple #[.int .i64 (-(u : Int)), .bool true]) ∧ w' = w := by
  have hl := decDigits_length u
  have h1 := nDigits_pos u
  have h2 := nd_le u (by omega)
  have hz : 0 < (45 :: decDigits u).length := by simp
  have := parse_neg ⟨(L6 (45 :: decDigits u)).toArray⟩ ⟨(45 :: decDigits u).toArray⟩ ⟨(decDigits u).toArray⟩ ((45 :: decDigits u).length + 6) (45 :: decDigits u).length (decDigits u).length w (Dg u) (Vl u) (L6_len _) (by simp only [List.length_cons]; omega) (by simp only [List.length_cons]; omega)
    (by rw [ba_list]; simp [L6]) (by rw [ba_list]; simp [L6]) (by rw [ba_list]; simp [L6]) (by rw [ba_ext, ba_list]; exact L6_pre _) (fun i h hi => L6_last _ i h hi) (by rw [ba_ext, L6_cut]) rfl (by simp) (by rw [ba_ext]; simp) rfl (by omega) (by omega) hz
    (by rw [ba_get]; rfl)
    (fun j h => digit_at u j h) (Dg_le u) (Vl_zero u) (fun j h => Vl_succ u j (by omega)) (fun j _ => Nat.le_trans (Vl_le u j) hu)
  rw [hl, Vl_end] at this
  exact this
theorem parse_name (n : Int) (h0 : -9223372036854775808 ≤ n) (h1 : n ≤ 9223372036854775807) (w : World) : Calls Tryd.prog 4 #[.string ⟨(name n).toArray⟩] w fun e w' => e = .returned (.tuple #[.int .i64 n, .bool true]) ∧ w' = w := by
  by_cases n0 : n = 0
  · subst n0; exact parse_0 w
  by_cases n1 : n = 1
  · subst n1; exact parse_1 w
  by_cases n2 : n = 2
  · subst n2; exact parse_2 w
  have hN : name n = L6 (itoa n) := by unfold name; rw [if_neg n0, if_neg n1, if_neg n2]; rfl
  rw [hN]
  by_cases hn : n < 0
  · obtain ⟨u, rfl⟩ : ∃ u : Nat, n = -(u : Int) := ⟨n.natAbs, by omega⟩
    rw [itoa_neg u (by omega)]
    exact parse_lt u (by omega) w
  · obtain ⟨u, rfl⟩ : ∃ u : Nat, n = (u : Int) := ⟨n.toNat, by omega⟩
    rw [itoa_nonneg u]
    exact parse_ge u (by omega) w
set_option maxHeartbeats 1600000 in
theorem law_any (n : Int) (h0 : -9223372036854775808 ≤ n) (h1 : n ≤ 9223372036854775807) (w : World) (htab : Lib.TabIs Tryd.prog w "internal/strconv.uint64pow10" .u64 Lib.pow10Tab) :
    Calls Tryd.prog 3 #[.int .i64 n] w fun e w' => e = .returned (.bool true) ∧ Below w.heap.size w w' := by
  have hnn : (n == n) = true := by simp
  go_enter Tryd.func3, Tryd.ntmps3
  go_wp2_with fail
  refine (str_any n h0 h1 w htab).mono ?_
  rintro _ w1 ⟨rfl, hb⟩
  have HB := hidg hb
  clear hb
  generalize hS : (⟨(name n).toArray⟩ : ByteArray) = S
  have HS := hidg hS
  clear hS
  go_wp2_with fail
  rw [← HS.out]
  refine (parse_name n h0 h1 w1).mono ?_
  rintro _ w2 ⟨rfl, rfl⟩
  go_wp2_with fail
  go_ret
  exact ⟨rfl, HB.out⟩
end Go.Proofs.Qxb6604193aDoor
