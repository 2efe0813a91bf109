import Derived.Test.Qxb6603741aProg
import Derived.Test.Qxb6603741aKit
import Derived.Test.Qxb6603741aPlain
namespace Go.Proofs.Qxb6603741a
open Go.RowKit

def kindB (k : Int) : Bool := decide (k = 0 ∨ k = 91 ∨ k = 123)
def spanB (s e lim : Int) : Bool := decide (0 ≤ s ∧ s ≤ e ∧ e ≤ lim)

set_option maxHeartbeats 400000 in
theorem kind_any (k : Int) (w : World) : Calls Try.prog 22 #[.int .u8 k] w fun e w' => e = .returned (.bool (kindB k)) ∧ w' = w := by
  by_cases h0 : k = 0
  · subst h0
    go_enter Try.func22, Try.ntmps22
    go_wp2
    go_ret
    exact ⟨rfl, rfl⟩
  · by_cases h1 : k = 91
    · subst h1
      go_enter Try.func22, Try.ntmps22
      go_wp2
      go_ret
      exact ⟨rfl, rfl⟩
    · have e0 : (k == 0) = false := by simp [h0]
      have e1 : (k == 91) = false := by simp [h1]
      have H0 := hidg h0
      have H1 := hidg h1
      clear h0 h1
      go_enter Try.func22, Try.ntmps22
      go_wp2
      all_goals (go_ret; exact ⟨ret_bool (by have := H0.out; have := H1.out; simp only [kindB, *, false_or]; rw [Bool.eq_iff_iff]; simp), rfl⟩)

set_option maxHeartbeats 400000 in
theorem span_any (s e lim : Int) (w : World) : Calls Try.prog 23 #[.int .i64 s, .int .i64 e, .int .i64 lim] w fun e' w' => e' = .returned (.bool (spanB s e lim)) ∧ w' = w := by
  by_cases h0 : 0 ≤ s
  · by_cases h1 : s ≤ e
    · by_cases h2 : e ≤ lim
      · go_enter Try.func23, Try.ntmps23
        go_wp2
        go_ret
        exact ⟨ret_bool (by simp [spanB, *]), rfl⟩
      · go_enter Try.func23, Try.ntmps23
        go_wp2
        go_ret
        exact ⟨ret_bool (by simp [spanB, *]), rfl⟩
    · go_enter Try.func23, Try.ntmps23
      go_wp2
      go_ret
      exact ⟨ret_bool (by simp [spanB]; omega), rfl⟩
  · go_enter Try.func23, Try.ntmps23
    go_wp2
    go_ret
    exact ⟨ret_bool (by simp [spanB]; omega), rfl⟩

def closer (k : Int) : Int := if k = 123 then 125 else 93
set_option maxHeartbeats 400000 in
theorem close_any (k : Int) (w : World) : Calls Try.prog 28 #[.int .u8 k] w fun e w' => e = .returned (.int .u8 (closer k)) ∧ w' = w := by
  by_cases h : k = 123
  · subst h
    go_enter Try.func28, Try.ntmps28
    go_wp2
    go_ret
    exact ⟨rfl, rfl⟩
  · go_enter Try.func28, Try.ntmps28
    go_wp2
    go_ret
    exact ⟨ret_int (by simp [closer, h]), rfl⟩

/-- hexValue at a digit that the quoting writes. -/
theorem hex_any (d : Int) (h0 : 0 ≤ d) (h1 : d < 16) (w : World) : Calls Try.prog 21 #[.int .u8 (hexd d)] w fun e w' => e = .returned (.tuple #[.int .i64 d, .bool true]) ∧ w' = w := by
  unfold hexd
  by_cases h : d < 10
  · rw [if_pos h]
    go_enter Try.func21, Try.ntmps21
    go_wp2
    go_ret2
    exact ⟨by go_num, rfl⟩
  · rw [if_neg h]
    go_enter Try.func21, Try.ntmps21
    go_wp2
    go_ret2
    exact ⟨by go_num, rfl⟩

set_option maxHeartbeats 1600000 in
theorem eq_any (a : Option Addr) (na ca : Nat) (A : List Int) (b : Option Addr) (nb cb : Nat) (B : List Int) (w : World) (hA : Sl w .u8 a na ca A) (hB : Sl w .u8 b nb cb B) :
    Calls Try.prog 9 #[.slice a na ca, .slice b nb cb] w fun e w' => e = .returned (.bool (decide (A = B))) ∧ w.grownBy w' none := by
  have la := hA.hlen
  have lb := hB.hlen
  have ma := hA.hlim
  have HA := hidg hA.cells
  have HB := hidg hB.cells
  have LA := hidg la
  have LB := hidg lb
  clear hA hB la lb
  by_cases hn : na = nb
  · subst hn
    go_enter Try.func9, Try.ntmps9
    go_wp2
    go_loopw [5] (fun i wr => ∃ k : Nat, k ≤ na ∧ i = .int .i64 k ∧ (∀ j, j < k → A.getD j 0 = B.getD j 0) ∧ w.grownBy wr none) (fun i _ => na - (intOf i).toNat)
    case atStart => exact ⟨0, Nat.zero_le _, rfl, fun j h => by omega, grown_refl _ _⟩
    case round =>
      obtain ⟨k, hk, rfl, hall, hg⟩ := hrel
      have HALL := hidg hall
      clear hall
      by_cases hlt : k < na
      · obtain ⟨ba, oa, rfl, hca⟩ := HA.out (by omega)
        obtain ⟨bb, ob, rfl, hcb⟩ := HB.out (by omega)
        have c1 : wr.cell? ⟨ba, oa + k, none⟩ = some (.int .u8 (A.getD k 0)) := hg.cell (hca k hlt) (by simp)
        have c2 : wr.cell? ⟨bb, ob + k, none⟩ = some (.int .u8 (B.getD k 0)) := hg.cell (hcb k hlt) (by simp)
        clear hca hcb HA HB
        have l1 : (k : Int) < (na : Int) := by omega
        generalize hx : A.getD k 0 = x at *
        generalize hy : B.getD k 0 = y at *
        have HX := hidg hx
        have HY := hidg hy
        clear hx hy
        by_cases hxy : x = y
        · have hb : (x != y) = false := by simp [hxy]
          have HXY := hidg hxy
          clear hxy
          go_wp2
          go_quiet (fail)
          go_wp2
          go_roundw
          case rel =>
            refine ⟨k + 1, by omega, by go_num, fun j hj => ?_, grown_step hg (grown_drewN _ _ _)⟩
            by_cases hjk : j = k
            · rw [hjk, HX.out, HY.out]; exact HXY.out
            · exact HALL.out j (by omega)
          case measure => simp [intOf]; omega
        · have hb : (x != y) = true := by simp [hxy]
          have HXY := hidg hxy
          clear hxy
          go_wp2
          go_quiet (fail)
          go_wp2
          go_ret
          refine ⟨ret_bool ?_, grown_step hg (grown_drewN _ _ _)⟩
          symm
          rw [decide_eq_false_iff_not]
          intro hAB
          apply HXY.out
          rw [← HX.out, ← HY.out, hAB]
      · go_wp2
        go_ret
        refine ⟨ret_bool ?_, hg⟩
        symm
        rw [decide_eq_true_eq]
        refine ext_getD _ _ (by rw [LA.out, LB.out]) (fun j hj => HALL.out j (by have := LA.out; omega))
  · go_enter Try.func9, Try.ntmps9
    go_wp2
    go_ret
    refine ⟨ret_bool ?_, grown_refl _ _⟩
    symm
    rw [decide_eq_false_iff_not]
    intro hAB
    apply hn
    rw [← LA.out, ← LB.out, hAB]
end Go.Proofs.Qxb6603741a
