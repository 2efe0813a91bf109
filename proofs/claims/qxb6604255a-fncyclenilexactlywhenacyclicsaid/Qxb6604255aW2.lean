import Derived.Test.Qxb6604255aW1
import Derived.Deep.LoopGhost
namespace Go.Proofs.Qxb6604255a
open Go.RowKit

def In32 (z : Int) : Prop := -2147483648 ≤ z ∧ z ≤ 2147483647
/-- What wellFormed finds. -/
structure WF (r : Int) (F S : List Int) (fn : Nat) : Prop where
  len : 1 ≤ fn
  r0 : 0 ≤ r
  r1 : r ≤ ((fn - 1 : Nat) : Int)
  ok : Gr.OK ⟨r.toNat, fn - 1, F, S⟩

theorem Gr.le_of_mono {F : List Int} {n : Nat} (h : ∀ j, j < n → F.getD j 0 ≤ F.getD (j + 1) 0) (u d : Nat) : u + d ≤ n → F.getD u 0 ≤ F.getD (u + d) 0 := by
  induction d with
  | zero => intro _; exact Int.le_refl _
  | succ d ih =>
    intro hd
    have h1 := ih (by omega)
    have h2 := h (u + d) (by omega)
    rw [← Nat.add_assoc]
    omega

set_option maxHeartbeats 3200000 in
theorem wf7 (r : Int) (fa sa : Option Addr) (fn fc ns sc : Nat) (F S : List Int) (w : World) (hF : Sl w .i32 fa fn fc F) (hS : Sl w .i32 sa ns sc S) (h1 : fn ≤ 4097) (h2 : ns ≤ 4096) (hFr : ∀ j, In32 (F.getD j 0)) (hSr : ∀ j, In32 (S.getD j 0)) :
    Calls Try.prog 7 #[.int .i64 r, .slice fa fn fc, .slice sa ns sc] w fun e' w' => BoolRes (WF r F S fn) e' ∧ w.grownBy w' none := by
  have HF := hidg hF
  have HS := hidg hS
  have HFR := hidg hFr
  have HSR := hidg hSr
  clear hF hS hFr hSr
  by_cases h0 : fn = 0
  · subst h0
    go_enter Try.func7, Try.ntmps7
    go_wp2
    go_ret
    exact ⟨boolRes_false _, grown_refl _ _⟩
  obtain ⟨n, rfl⟩ : ∃ n, fn = n + 1 := ⟨fn - 1, by omega⟩
  obtain ⟨fb, fo, rfl, cf⟩ := HF.out.cells (by omega)
  have CF := hidg cf
  have c0 := cf 0 (by omega)
  have cn := cf n (by omega)
  rw [Nat.add_zero] at c0
  clear cf h0
  by_cases hr : 0 ≤ r ∧ r ≤ n
  · obtain ⟨r0, r1⟩ := hr
    have f0 := HFR.out 0
    have f1 := HFR.out n
    unfold In32 at f0 f1
    have HZ : Hid (∃ z0 zn, z0 = F.getD 0 0 ∧ zn = F.getD n 0) := ⟨_, _, rfl, rfl⟩
    generalize hz0 : F.getD 0 0 = z0 at *
    generalize hzn : F.getD n 0 = zn at *
    have E0 := hidg (And.intro hz0 hzn)
    clear hz0 hzn HZ
    by_cases hz : 0 ≤ z0
    · go_enter Try.func7, Try.ntmps7
      go_wp2
      go_loopw [8] (fun u wr => ∃ i : Nat, i ≤ n ∧ u = .int .i64 i ∧ Hid (∀ j, j < i → F.getD j 0 ≤ F.getD (j + 1) 0) ∧ Hid (w.grownBy wr none)) (fun u _ => n - (intOf u).toNat)
      case atStart => exact ⟨0, Nat.zero_le _, rfl, (fun j h => by omega), grown_refl _ _⟩
      case round =>
        obtain ⟨i, hi, rfl, HM, HG⟩ := hrel
        by_cases hlt : i < n
        · have ci := HG.out.cell (CF.out i (by omega)) (by simp)
          have ci1 := HG.out.cell (CF.out (i + 1) (by omega)) (by simp)
          have g1 := HFR.out i
          have g2 := HFR.out (i + 1)
          unfold In32 at g1 g2
          generalize hx : F.getD i 0 = x at *
          generalize hy : F.getD (i + 1) 0 = y at *
          have E1 := hidg (And.intro hx hy)
          clear hx hy
          have q1 : (i : Int) < n := by omega
          by_cases hxy : x ≤ y
          · go_wp2
            go_quiet (fail)
            go_wp2
            go_roundw
            case rel =>
              refine ⟨i + 1, by omega, by go_num, fun j hj => ?_, grown_step HG.out (grown_drewN _ _ none)⟩
              by_cases hji : j = i
              · subst hji; rw [E1.out.1, E1.out.2]; exact hxy
              · exact HM.out j (by omega)
            case measure => simp [intOf]; omega
          · go_wp2
            go_quiet (fail)
            go_wp2
            go_ret
            exact ⟨boolRes_false _, grown_step HG.out (grown_drewN _ _ none)⟩
        · obtain rfl : n = i := by omega
          have d0 := HG.out.cell c0 (by simp)
          have dn := HG.out.cell cn (by simp)
          have E2 : Hid (z0 ≤ zn) := by
            have := (Gr.le_of_mono (F := F) (n := n) HM.out 0 n (by omega))
            rw [Nat.zero_add] at this
            rw [← E0.out.1, ← E0.out.2]; exact this
          have e2 := E2.out
          by_cases hh : zn ≤ ns
          · obtain ⟨m, rfl⟩ := Int.eq_ofNat_of_zero_le hz
            obtain ⟨k, rfl⟩ := Int.eq_ofNat_of_zero_le (show (0 : Int) ≤ zn by omega)
            have hk : k ≤ ns := by omega
            have hmk : m ≤ k := by omega
            clear hz hh e2 E2 f0 f1 c0 cn
            have b1 : decide (ns < k) = false := decide_eq_false (by omega)
            go_wp2
            go_loopg [9] (k - m) (fun q u wr => ∃ i : Nat, m ≤ i ∧ i ≤ k ∧ q = k - i ∧ u = .int .i64 i ∧ Hid (∀ j, m ≤ j → j < i → 0 ≤ S.getD j 0 ∧ S.getD j 0 < n) ∧ Hid (w.grownBy wr none))
            case atStart => exact ⟨m, Nat.le_refl _, hmk, rfl, rfl, (fun j h1 h2 => by omega), HG.out⟩
            case round =>
              clear d0 dn HG
              obtain ⟨i, hmi, hi, rfl, rfl, HN, HG⟩ := hrel
              have dn := HG.out.cell (CF.out n (by omega)) (by simp)
              rw [E0.out.2] at dn
              by_cases hlt : i < k
              · obtain ⟨sb, so, rfl, cs⟩ := HS.out.cells (by omega)
                have ci := HG.out.cell (cs i (by omega)) (by simp)
                have g1 := HSR.out i
                unfold In32 at g1
                clear cs
                generalize hx : S.getD i 0 = x at *
                have E1 := hidg hx
                clear hx
                have q1 : (i : Int) < k := by omega
                have q2 : (i : Int) < ns := by omega
                by_cases hx0 : 0 ≤ x
                · by_cases hxn : x < n
                  · go_wp2
                    go_roundg (k - (i + 1))
                    case rel =>
                      refine ⟨i + 1, by omega, by omega, rfl, by go_num, fun j hj1 hj2 => ?_, HG.out⟩
                      by_cases hji : j = i
                      · subst hji; rw [E1.out]; exact ⟨hx0, hxn⟩
                      · exact HN.out j hj1 (by omega)
                    case measure => omega
                  · go_wp2
                    go_ret
                    exact ⟨boolRes_false _, HG.out⟩
                · go_wp2
                  go_ret
                  exact ⟨boolRes_false _, HG.out⟩
              · obtain rfl : k = i := by omega
                go_wp2
                go_ret
                refine ⟨boolRes_true ⟨by omega, r0, by simpa using r1, ?_⟩, HG.out⟩
                have hl := HF.out.hlen
                have hsl := HS.out.hlen
                refine ⟨by simpa using hl, by show r.toNat ≤ _; simp; omega, by show 0 ≤ F.getD 0 0; rw [E0.out.1]; omega, HM.out, ?_, ?_⟩
                · show F.getD (n + 1 - 1) 0 ≤ _
                  rw [Nat.add_sub_cancel, E0.out.2]
                  show _ ≤ ((S.length : Nat) : Int)
                  omega
                · intro j hj1 hj2
                  have hj1' : F.getD 0 0 ≤ j := hj1
                  have hj2' : (j : Int) < F.getD (n + 1 - 1) 0 := hj2
                  rw [Nat.add_sub_cancel, E0.out.2] at hj2'
                  rw [E0.out.1] at hj1'
                  have := HN.out j (by omega) (by omega)
                  simpa using this
          · go_wp2
            go_ret
            exact ⟨boolRes_false _, HG.out⟩
    · go_enter Try.func7, Try.ntmps7
      go_wp2
      go_ret
      exact ⟨boolRes_false _, grown_refl _ _⟩
  · by_cases r0 : 0 ≤ r
    · have r1 : (n : Int) < r := by omega
      clear hr
      go_enter Try.func7, Try.ntmps7
      go_wp2
      go_ret
      exact ⟨boolRes_false _, grown_refl _ _⟩
    · have r1 : r < 0 := by omega
      clear hr
      go_enter Try.func7, Try.ntmps7
      go_wp2
      go_ret
      exact ⟨boolRes_false _, grown_refl _ _⟩
end Go.Proofs.Qxb6604255a
