import Derived.Test.Qxb6603741aW4
namespace Go.Proofs.Qxb6603741a
open Go.RowKit

theorem unq_step {base : Nat} {w wr w1 : World} {vr v1 : Value} {S : List Int} {k : Nat} {x : Int} (hk : k < S.length) (hx : S.getD k 0 = x)
    (hown1 : w1.ownsRow base 5 1 v1 (k + 1) (I8 (S.take k) ++ [.int .u8 x])) (hg1 : Grew 5 wr vr k w1 v1) (hb : base = w.heap.size) (hg : w.grownBy wr none) (hr : wr.ownsRow base 5 1 vr k (I8 (S.take k))) :
    w1.ownsRow base 5 1 v1 (k + 1) (I8 (S.take (k + 1))) ∧ w.grownBy w1 none := by
  refine ⟨?_, ?_⟩
  · rw [take_snoc S k hk, I8_app, hx]; exact hown1
  · refine grown_trans hg hg1.frame ?_
    cases hv : vr.ownBlock with
    | none => exact .inl rfl
    | some g => exact .inr (.inr ⟨g, rfl, by have := (hr.lt g hv).1; omega⟩)

theorem esc_cases (x : Int) : x = 34 ∨ x = 92 ∨ x = 8 ∨ x = 12 ∨ x = 10 ∨ x = 13 ∨ x = 9 ∨ (32 ≤ x ∧ esc x = [x] ∧ x ≠ 34 ∧ x ≠ 92) ∨ (x < 32 ∧ esc x = [92, 117, 48, 48, hexd (x / 16), hexd (x % 16)]) := by
  by_cases h1 : x = 34 ∨ x = 92
  · omega
  by_cases h2 : x = 8
  · omega
  by_cases h3 : x = 12
  · omega
  by_cases h4 : x = 10
  · omega
  by_cases h5 : x = 13
  · omega
  by_cases h6 : x = 9
  · omega
  by_cases h7 : x < 32
  · have : esc x = [92, 117, 48, 48, hexd (x / 16), hexd (x % 16)] := by unfold esc; rw [if_neg h1, if_neg h2, if_neg h3, if_neg h4, if_neg h5, if_neg h6, if_pos h7]
    simp [this, h7]
  · have : esc x = [x] := by unfold esc; rw [if_neg h1, if_neg h2, if_neg h3, if_neg h4, if_neg h5, if_neg h6, if_neg h7]
    refine Or.inr (Or.inr (Or.inr (Or.inr (Or.inr (Or.inr (Or.inr (Or.inl ⟨by omega, this, by omega, by omega⟩)))))))
def dg (q r : Int) : Nat → Int
  | 0 => 0
  | 1 => 0
  | 2 => q
  | _ => r
def vv (q r : Int) : Nat → Int
  | 0 => 0
  | 1 => 0
  | 2 => 0
  | 3 => q
  | _ => q * 16 + r
theorem vv_step (q r : Int) (j : Nat) (h : j < 4) : vv q r (j + 1) = vv q r j * 16 + dg q r j := by
  rcases (show j = 0 ∨ j = 1 ∨ j = 2 ∨ j = 3 by omega) with rfl | rfl | rfl | rfl <;> simp [vv, dg]
theorem dg_bd (x : Int) (h0 : 0 ≤ x) (h1 : x < 32) (j : Nat) : 0 ≤ dg (x / 16) (x % 16) j ∧ dg (x / 16) (x % 16) j < 16 := by
  unfold dg; split <;> omega
theorem vv_bd (x : Int) (h0 : 0 ≤ x) (h1 : x < 32) (j : Nat) : 0 ≤ vv (x / 16) (x % 16) j ∧ vv (x / 16) (x % 16) j < 32 := by
  unfold vv; split <;> omega
theorem k_le (S : List Int) (k : Nat) : min k S.length ≤ (pre S k).length := by
  induction k with
  | zero => simp
  | succ k ih =>
    by_cases h : k < S.length
    · have h1 := pre_succ S k h
      have h2 := esc_len (S.getD k 0)
      rw [h1, List.length_append]
      omega
    · have h1 : pre S (k + 1) = pre S k := by unfold pre; rw [List.take_of_length_le (by omega), List.take_of_length_le (by omega)]
      rw [h1]; omega

set_option maxHeartbeats 3200000 in
set_option maxRecDepth 100000 in
theorem unq_any (a : Option Addr) (n cap : Nat) (S : List Int) (w : World) (hS : Sl w .u8 a n cap (quote S)) (hb : ∀ j, 0 ≤ S.getD j 0 ∧ S.getD j 0 ≤ 255) :
    Calls Try.prog 11 #[.slice a n cap] w fun e w' => ∃ v', e = .returned (.tuple #[v', .bool true]) ∧ w'.ownsRow w.heap.size 5 1 v' S.length (I8 S) ∧ w.grownBy w' none := by
  obtain ⟨i0, hi, hz0, hz1, hz2⟩ := info_parts Try.info5
  have LZ := hidg hS.hlen
  have mz := hS.hlim
  have hq2 := (quote_len S).1
  have hn2 : 2 ≤ n := by have := LZ.out; omega
  obtain ⟨b, off, rfl, hc⟩ := hS.cells (by omega)
  have HC := hidg hc
  have c0 : w.cell? ⟨b, off, none⟩ = some (.int .u8 34) := by have := hc 0 (by omega); rw [quote_first] at this; simpa using this
  have cl : w.cell? ⟨b, off + (n - 1), none⟩ = some (.int .u8 34) := by have := hc (n - 1) (by omega); rwa [← LZ.out, quote_last, LZ.out] at this
  have HBY := hidg hb
  have en : ((n : Int) - 1).toNat = n - 1 := by omega
  clear hS hc hb hq2
  go_enter Try.func11, Try.ntmps11
  go_wp2_with (at_make; refine Hid.out ?_)
  refine hidg ?_
  refine wpList_make_own _ rfl _ _ 22 rfl w.heap.size 5 i0 (.int .u8 0) 1 Try.underlying22 hi hz0 hz1 _ _ _ n rfl rfl rfl ?_ ?_ (Nat.le_refl _) ?_
  · rw [hz2]; omega
  · unfold maxLen; omega
  intro w0 hown0 hgrow0
  go_wp2
  go_loopw [4, 6] (fun vr i wr => ∃ k p : Nat, k ≤ S.length ∧ i = .int .i64 p ∧ p < n ∧ Hid ((pre S k).length = p) ∧ Hid (wr.ownsRow w.heap.size 5 1 vr k (I8 (S.take k)) ∧ w.grownBy wr none)) (fun _ i _ => n - (intOf i).toNat)
  case atStart => exact ⟨0, 1, Nat.zero_le _, rfl, by omega, by rw [pre_zero]; rfl, hown0, hgrow0⟩
  case round =>
    clear hown0 hgrow0 c0 cl
    obtain ⟨k, p, hk, rfl, hpn, HP, HO⟩ := hrel
    have hbs : w.heap.size ≤ wr.heap.size := HO.out.2.size
    by_cases hlt : k < S.length
    · have hkl := hidg hlt
      have HPE : Hid ((pre S (k + 1)).length = (pre S k).length + (esc (S.getD k 0)).length) := by have h := pre_succ S k hlt; rw [Hid, h, List.length_append]
      have HLN : Hid (p + (esc (S.getD k 0)).length + 1 ≤ n) := by have h1 := pre_le S (k + 1); have h2 := HPE.out; have h3 := HP.out; have h4 := LZ.out; exact (show p + (esc (S.getD k 0)).length + 1 ≤ n by omega)
      have HT : Hid (∀ j, j < (esc (S.getD k 0)).length → wr.cell? ⟨b, off + (p + j), none⟩ = some (.int .u8 ((esc (S.getD k 0)).getD j 0))) := by
        intro j hj
        have h1 := HC.out (p + j) (by have := HLN.out; omega)
        have h2 := quote_at S k hlt j hj
        rw [HP.out] at h2
        rw [h2] at h1
        exact HO.out.2.cell h1 (by simp)
      have hkn : k < 70368744177664 := by have h1 := k_le S k; have h3 := HP.out; omega
      have hc0 := HBY.out k
      clear hlt
      generalize hx : S.getD k 0 = x at *
      have HX := hidg hx
      clear hx
      rcases esc_cases x with rfl | rfl | rfl | rfl | rfl | rfl | rfl | ⟨hx1, hx2, hx3, hx4⟩ | ⟨hx1, hx2⟩
      · have t0 := HT.out 0 (by decide)
        have t1 := HT.out 1 (by decide)
        have e0 : (esc 34).getD 0 0 = 92 := rfl
        have e1 : (esc 34).getD 1 0 = 34 := rfl
        have hl2 : p + 2 < n := by have := HLN.out; have : (esc 34).length = 2 := rfl; omega
        rw [e0, Nat.add_zero] at t0
        rw [e1] at t1
        clear e0 e1
        go_wp2_with (at_builtin; refine Hid.out ?_)
        refine hidg ?_
        refine wpList_app1 wr rfl _ _ 22 rfl w.heap.size 5 i0 (.int .u8 0) 1 Try.underlying22 hi hz0 hz1 hz2 rfl _ k _ HO.out.1 _ rfl rfl rfl (by unfold maxLen; omega) (by omega) hbs ?_
        intro v1 w1 hown1 hg1
        have R := hidg (unq_step hkl.out HX.out hown1 hg1 rfl HO.out.2 HO.out.1)
        have HP2 : Hid ((pre S (k + 1)).length = p + 2) := by rw [Hid, HPE.out, HP.out]; rfl
        clear hown1 hg1 HO t0 t1
        go_wp2
        go_roundw
        case rel => exact ⟨k + 1, p + 2, hkl.out, by go_num, by omega, HP2, R⟩
        case measure => simp [intOf]; omega
      · have t0 := HT.out 0 (by decide)
        have t1 := HT.out 1 (by decide)
        have e0 : (esc 92).getD 0 0 = 92 := rfl
        have e1 : (esc 92).getD 1 0 = 92 := rfl
        have hl2 : p + 2 < n := by have := HLN.out; have : (esc 92).length = 2 := rfl; omega
        rw [e0, Nat.add_zero] at t0
        rw [e1] at t1
        clear e0 e1
        go_wp2_with (at_builtin; refine Hid.out ?_)
        refine hidg ?_
        refine wpList_app1 wr rfl _ _ 22 rfl w.heap.size 5 i0 (.int .u8 0) 1 Try.underlying22 hi hz0 hz1 hz2 rfl _ k _ HO.out.1 _ rfl rfl rfl (by unfold maxLen; omega) (by omega) hbs ?_
        intro v1 w1 hown1 hg1
        have R := hidg (unq_step hkl.out HX.out hown1 hg1 rfl HO.out.2 HO.out.1)
        have HP2 : Hid ((pre S (k + 1)).length = p + 2) := by rw [Hid, HPE.out, HP.out]; rfl
        clear hown1 hg1 HO t0 t1
        go_wp2
        go_roundw
        case rel => exact ⟨k + 1, p + 2, hkl.out, by go_num, by omega, HP2, R⟩
        case measure => simp [intOf]; omega
      · have t0 := HT.out 0 (by decide)
        have t1 := HT.out 1 (by decide)
        have e0 : (esc 8).getD 0 0 = 92 := rfl
        have e1 : (esc 8).getD 1 0 = 98 := rfl
        have hl2 : p + 2 < n := by have := HLN.out; have : (esc 8).length = 2 := rfl; omega
        rw [e0, Nat.add_zero] at t0
        rw [e1] at t1
        clear e0 e1
        go_wp2_with (at_builtin; refine Hid.out ?_)
        refine hidg ?_
        refine wpList_app1 wr rfl _ _ 22 rfl w.heap.size 5 i0 (.int .u8 0) 1 Try.underlying22 hi hz0 hz1 hz2 rfl _ k _ HO.out.1 _ rfl rfl rfl (by unfold maxLen; omega) (by omega) hbs ?_
        intro v1 w1 hown1 hg1
        have R := hidg (unq_step hkl.out HX.out hown1 hg1 rfl HO.out.2 HO.out.1)
        have HP2 : Hid ((pre S (k + 1)).length = p + 2) := by rw [Hid, HPE.out, HP.out]; rfl
        clear hown1 hg1 HO t0 t1
        go_wp2
        go_roundw
        case rel => exact ⟨k + 1, p + 2, hkl.out, by go_num, by omega, HP2, R⟩
        case measure => simp [intOf]; omega
      · have t0 := HT.out 0 (by decide)
        have t1 := HT.out 1 (by decide)
        have e0 : (esc 12).getD 0 0 = 92 := rfl
        have e1 : (esc 12).getD 1 0 = 102 := rfl
        have hl2 : p + 2 < n := by have := HLN.out; have : (esc 12).length = 2 := rfl; omega
        rw [e0, Nat.add_zero] at t0
        rw [e1] at t1
        clear e0 e1
        go_wp2_with (at_builtin; refine Hid.out ?_)
        refine hidg ?_
        refine wpList_app1 wr rfl _ _ 22 rfl w.heap.size 5 i0 (.int .u8 0) 1 Try.underlying22 hi hz0 hz1 hz2 rfl _ k _ HO.out.1 _ rfl rfl rfl (by unfold maxLen; omega) (by omega) hbs ?_
        intro v1 w1 hown1 hg1
        have R := hidg (unq_step hkl.out HX.out hown1 hg1 rfl HO.out.2 HO.out.1)
        have HP2 : Hid ((pre S (k + 1)).length = p + 2) := by rw [Hid, HPE.out, HP.out]; rfl
        clear hown1 hg1 HO t0 t1
        go_wp2
        go_roundw
        case rel => exact ⟨k + 1, p + 2, hkl.out, by go_num, by omega, HP2, R⟩
        case measure => simp [intOf]; omega
      · have t0 := HT.out 0 (by decide)
        have t1 := HT.out 1 (by decide)
        have e0 : (esc 10).getD 0 0 = 92 := rfl
        have e1 : (esc 10).getD 1 0 = 110 := rfl
        have hl2 : p + 2 < n := by have := HLN.out; have : (esc 10).length = 2 := rfl; omega
        rw [e0, Nat.add_zero] at t0
        rw [e1] at t1
        clear e0 e1
        go_wp2_with (at_builtin; refine Hid.out ?_)
        refine hidg ?_
        refine wpList_app1 wr rfl _ _ 22 rfl w.heap.size 5 i0 (.int .u8 0) 1 Try.underlying22 hi hz0 hz1 hz2 rfl _ k _ HO.out.1 _ rfl rfl rfl (by unfold maxLen; omega) (by omega) hbs ?_
        intro v1 w1 hown1 hg1
        have R := hidg (unq_step hkl.out HX.out hown1 hg1 rfl HO.out.2 HO.out.1)
        have HP2 : Hid ((pre S (k + 1)).length = p + 2) := by rw [Hid, HPE.out, HP.out]; rfl
        clear hown1 hg1 HO t0 t1
        go_wp2
        go_roundw
        case rel => exact ⟨k + 1, p + 2, hkl.out, by go_num, by omega, HP2, R⟩
        case measure => simp [intOf]; omega
      · have t0 := HT.out 0 (by decide)
        have t1 := HT.out 1 (by decide)
        have e0 : (esc 13).getD 0 0 = 92 := rfl
        have e1 : (esc 13).getD 1 0 = 114 := rfl
        have hl2 : p + 2 < n := by have := HLN.out; have : (esc 13).length = 2 := rfl; omega
        rw [e0, Nat.add_zero] at t0
        rw [e1] at t1
        clear e0 e1
        go_wp2_with (at_builtin; refine Hid.out ?_)
        refine hidg ?_
        refine wpList_app1 wr rfl _ _ 22 rfl w.heap.size 5 i0 (.int .u8 0) 1 Try.underlying22 hi hz0 hz1 hz2 rfl _ k _ HO.out.1 _ rfl rfl rfl (by unfold maxLen; omega) (by omega) hbs ?_
        intro v1 w1 hown1 hg1
        have R := hidg (unq_step hkl.out HX.out hown1 hg1 rfl HO.out.2 HO.out.1)
        have HP2 : Hid ((pre S (k + 1)).length = p + 2) := by rw [Hid, HPE.out, HP.out]; rfl
        clear hown1 hg1 HO t0 t1
        go_wp2
        go_roundw
        case rel => exact ⟨k + 1, p + 2, hkl.out, by go_num, by omega, HP2, R⟩
        case measure => simp [intOf]; omega
      · have t0 := HT.out 0 (by decide)
        have t1 := HT.out 1 (by decide)
        have e0 : (esc 9).getD 0 0 = 92 := rfl
        have e1 : (esc 9).getD 1 0 = 116 := rfl
        have hl2 : p + 2 < n := by have := HLN.out; have : (esc 9).length = 2 := rfl; omega
        rw [e0, Nat.add_zero] at t0
        rw [e1] at t1
        clear e0 e1
        go_wp2_with (at_builtin; refine Hid.out ?_)
        refine hidg ?_
        refine wpList_app1 wr rfl _ _ 22 rfl w.heap.size 5 i0 (.int .u8 0) 1 Try.underlying22 hi hz0 hz1 hz2 rfl _ k _ HO.out.1 _ rfl rfl rfl (by unfold maxLen; omega) (by omega) hbs ?_
        intro v1 w1 hown1 hg1
        have R := hidg (unq_step hkl.out HX.out hown1 hg1 rfl HO.out.2 HO.out.1)
        have HP2 : Hid ((pre S (k + 1)).length = p + 2) := by rw [Hid, HPE.out, HP.out]; rfl
        clear hown1 hg1 HO t0 t1
        go_wp2
        go_roundw
        case rel => exact ⟨k + 1, p + 2, hkl.out, by go_num, by omega, HP2, R⟩
        case measure => simp [intOf]; omega
      · have t0 := HT.out 0 (by rw [hx2]; simp)
        have e0 : (esc x).getD 0 0 = x := by rw [hx2]; rfl
        rw [e0, Nat.add_zero] at t0
        have hl2 : p + 1 < n := by have := HLN.out; rw [hx2] at this; simp at this; omega
        have g1 : (x == 34) = false := by simp [hx3]
        have g2 : (x != 92) = true := by simp [hx4]
        have HX2 := hidg hx2
        clear e0 hx3 hx4 hx2
        go_wp2_with (at_builtin; refine Hid.out ?_)
        refine hidg ?_
        refine wpList_app1 wr rfl _ _ 22 rfl w.heap.size 5 i0 (.int .u8 0) 1 Try.underlying22 hi hz0 hz1 hz2 rfl _ k _ HO.out.1 _ rfl rfl rfl (by unfold maxLen; omega) (by omega) hbs ?_
        intro v1 w1 hown1 hg1
        have R := hidg (unq_step hkl.out HX.out hown1 hg1 rfl HO.out.2 HO.out.1)
        have HP2 : Hid ((pre S (k + 1)).length = p + 1) := by rw [Hid, HPE.out, HP.out, HX2.out]; rfl
        clear hown1 hg1 HO t0
        go_wp2
        go_roundw
        case rel => exact ⟨k + 1, p + 1, hkl.out, by go_num, by omega, HP2, R⟩
        case measure => simp [intOf]; omega
      · have HX2 := hidg hx2
        have hlx : (esc x).length = 6 := by rw [hx2]; rfl
        have t0 := HT.out 0 (by omega)
        have t1 := HT.out 1 (by omega)
        have e0 : (esc x).getD 0 0 = 92 := by rw [hx2]; rfl
        have e1 : (esc x).getD 1 0 = 117 := by rw [hx2]; rfl
        rw [e0, Nat.add_zero] at t0
        rw [e1] at t1
        have hl2 : p + 6 < n := by have := HLN.out; omega
        have HD : Hid (∀ j, j < 4 → wr.cell? ⟨b, off + (p + 2 + j), none⟩ = some (.int .u8 (hexd (dg (x / 16) (x % 16) j)))) := by
          intro j hj
          have h1 := HT.out (2 + j) (by omega)
          rw [hx2] at h1
          rw [Nat.add_assoc p 2 j, h1]
          rcases (show j = 0 ∨ j = 1 ∨ j = 2 ∨ j = 3 by omega) with rfl | rfl | rfl | rfl <;> rfl
        have HLX := hidg hlx
        clear e0 e1 hx2 hlx HT
        have d1 : decide ((p : Int) < (n : Int) - 1) = true := by simp; omega
        have d2 : decide ((n : Int) - 1 ≤ (p : Int) + 1) = false := by simp; omega
        have d3 : decide ((n : Int) - 1 < (p : Int) + 6) = false := by simp; omega
        go_wp2
        go_loop [9, 10] (fun v kk => ∃ (j q : Nat) (V : Int), j ≤ 4 ∧ Hid (q = p + 2 + j) ∧ p + 2 ≤ q ∧ q ≤ p + 6 ∧ kk = .int .i64 q ∧ v = .int .i64 V ∧ 0 ≤ V ∧ V < 4096 ∧ Hid (V = vv (x / 16) (x % 16) j)) (fun _ kk => p + 6 - (intOf kk).toNat)
        case atStart => exact ⟨0, p + 2, 0, by omega, rfl, by omega, by omega, by go_num, rfl, by omega, by omega, rfl⟩
        case round =>
          clear t0 t1
          obtain ⟨j, q, V, hj, HQ, hq1, hq2, rfl, rfl, hV0, hV1, HV⟩ := hrel
          by_cases hj4 : q < p + 6
          · have hjl : j < 4 := by have := HQ.out; omega
            have ck := HD.out j hjl
            rw [← HQ.out] at ck
            have hd := dg_bd x (by omega) (by omega) j
            have HVS : Hid (vv (x / 16) (x % 16) (j + 1) = V * 16 + dg (x / 16) (x % 16) j) := by rw [Hid, HV.out]; exact vv_step _ _ j hjl
            have HVB := vv_bd x (by omega) (by omega) (j + 1)
            rw [HVS.out] at HVB
            have HJ := hidg hjl
            clear hjl
            generalize dg (x / 16) (x % 16) j = d at *
            go_wp2_with (go_at_call 21; refine (hex_any d (by omega) (by omega) _).mono ?_; rintro e w' ⟨rfl, rfl⟩)
            go_round
            case rel => exact ⟨j + 1, q + 1, V * 16 + d, HJ.out, (show q + 1 = p + 2 + (j + 1) by have := HQ.out; omega), by omega, by omega, by go_num, by go_num, by omega, by omega, HVS.out.symm⟩
            case measure => simp [intOf]; omega
          · have hj5 : j = 4 := by have := HQ.out; omega
            have hVx : V = x := by rw [HV.out, hj5]; show x / 16 * 16 + x % 16 = x; omega
            subst hVx
            clear HV HD HQ hj5
            go_wp2_with (at_builtin; refine Hid.out ?_)
            refine hidg ?_
            refine wpList_app1 wr rfl _ _ 22 rfl w.heap.size 5 i0 (.int .u8 0) 1 Try.underlying22 hi hz0 hz1 hz2 rfl _ k _ HO.out.1 _ rfl rfl rfl (by unfold maxLen; omega) (by omega) hbs ?_
            intro v1 w1 hown1 hg1
            have R := hidg (unq_step hkl.out HX.out hown1 hg1 rfl HO.out.2 HO.out.1)
            have HP2 : Hid ((pre S (k + 1)).length = p + 6) := by rw [Hid, HPE.out, HP.out, HLX.out]
            clear hown1 hg1 HO
            go_wp2
            go_roundw
            case rel => exact ⟨k + 1, p + 6, hkl.out, by go_num, by omega, HP2, R⟩
            case measure => simp [intOf]; omega
    · have hks : k = S.length := by omega
      have hpl : p + 1 = n := by have h := pre_all S k (by omega); have h2 := congrArg List.length h; have h3 := LZ.out; have h4 := HP.out; simp only [List.length_append, List.length_cons, List.length_nil] at h2; omega
      subst hks
      have R : wr.ownsRow w.heap.size 5 1 u4 S.length (I8 S) := by have := HO.out.1; rwa [List.take_of_length_le (Nat.le_refl _)] at this
      have hg := HO.out.2
      clear HO
      go_wp2
      go_ret2
      exact ⟨_, rfl, R, hg⟩
end Go.Proofs.Qxb6603741a
