import Derived.Test.Qxb6603741aW1
namespace Go.Proofs.Qxb6603741a
open Go.RowKit

theorem getD_nat (zs : List Int) (i : Nat) : zs[i]?.getD 0 = zs.getD i 0 := rfl

set_option maxHeartbeats 1600000 in
theorem scan_nat (a : Option Addr) (n cap : Nat) (Z : List Int) (pos : Nat) (w : World) (hZ : Sl w .u8 a n cap Z) (hp : pos ≤ 70368744177664) :
    Calls Try.prog 10 #[.slice a n cap, .int .i64 pos] w fun e w' => e = .returned (.int .i64 (scanR Z pos)) ∧ w' = w := by
  have lz := hZ.hlen
  have mz := hZ.hlim
  have HZ := hidg hZ.cells
  have LZ := hidg lz
  clear hZ lz
  by_cases hpn : pos < n
  · obtain ⟨b, off, rfl, hc⟩ := HZ.out (by omega)
    have c0 := hc pos hpn
    have HC := hidg hc
    clear hc HZ
    generalize hx : Z.getD pos 0 = x at *
    by_cases hq : x = 34
    · have hres : scanR Z pos = optI (scanAt Z (pos + 1)) := by rw [scanR_eq, if_pos ⟨by have := LZ.out; omega, by rw [hx, hq]⟩]
      have HR := hidg hres
      clear hres hx
      subst hq
      go_enter Try.func10, Try.ntmps10
      go_wp2
      clear c0
      go_loop [5] (fun i => ∃ k : Nat, pos < k ∧ k ≤ n + 1 ∧ i = .int .i64 k ∧ Hid (scanAt Z k = scanAt Z (pos + 1))) (fun i => n + 2 - (intOf i).toNat)
      case atStart => exact ⟨pos + 1, by omega, by omega, by go_num, rfl⟩
      case round =>
        obtain ⟨k, hk1, hk2, rfl, hrel⟩ := hrel
        by_cases hlt : k < n
        · have ck := HC.out k hlt
          generalize hx : Z.getD k 0 = x at *
          have HX := hidg hx
          clear hx
          have hlz : k < Z.length := by have := LZ.out; omega
          by_cases h34 : x = 34
          · subst h34
            have HF : Hid (scanAt Z k = some (k + 1)) := scanAt_quote Z k hlz HX.out
            clear hlz
            go_wp2
            go_ret
            exact ⟨ret_int (by rw [HR.out, ← hrel.out, HF.out]; simp [optI]), rfl⟩
          · by_cases h92 : x = 92
            · subst h92
              have HF : Hid (scanAt Z (k + 2) = scanAt Z (pos + 1)) := by have := scanAt_back Z k hlz HX.out; rw [← this]; exact hrel.out
              clear hlz
              go_wp2
              go_round
              case rel => exact ⟨k + 2, by omega, by omega, by go_num, HF⟩
              case measure => simp [intOf]; omega
            · have HF : Hid (scanAt Z (k + 1) = scanAt Z (pos + 1)) := by have := scanAt_other Z k hlz (by rw [HX.out]; exact h34) (by rw [HX.out]; exact h92); rw [← this]; exact hrel.out
              have e1 : (x == 34) = false := by simp [h34]
              have e2 : (x == 92) = false := by simp [h92]
              clear hlz h34 h92
              go_wp2
              go_round
              case rel => exact ⟨k + 1, by omega, by omega, by go_num, HF⟩
              case measure => simp [intOf]; omega
        · have HF : Hid (scanAt Z k = none) := scanAt_end Z k (by have := LZ.out; omega)
          go_wp2
          go_ret
          exact ⟨ret_int (by rw [HR.out, ← hrel.out, HF.out]; rfl), rfl⟩
    · have hres : scanR Z pos = -1 := by rw [scanR_eq, if_neg (by rw [hx]; exact fun h => hq h.2)]
      have HR := hidg hres
      have e1 : (x != 34) = true := by simp [hq]
      clear hres hx hq
      go_enter Try.func10, Try.ntmps10
      go_wp2
      go_ret
      exact ⟨ret_int HR.out.symm, rfl⟩
  · have hres : scanR Z pos = -1 := by rw [scanR_eq, if_neg (by have := LZ.out; omega)]
    have HR := hidg hres
    clear hres
    go_enter Try.func10, Try.ntmps10
    go_wp2
    go_ret
    exact ⟨ret_int HR.out.symm, rfl⟩

theorem scan_any (a : Option Addr) (n cap : Nat) (Z : List Int) (p : Int) (w : World) (hZ : Sl w .u8 a n cap Z) (h0 : 0 ≤ p) (hp : p ≤ 70368744177664) :
    Calls Try.prog 10 #[.slice a n cap, .int .i64 p] w fun e w' => e = .returned (.int .i64 (scanR Z p.toNat)) ∧ w' = w := by
  obtain ⟨q, rfl⟩ := Int.eq_ofNat_of_zero_le h0
  exact scan_nat a n cap Z q w hZ (by omega)
end Go.Proofs.Qxb6603741a
