import Derived.Test.Qxb6603741aW3
import Derived.Deep.RegionLaw
namespace Go.Proofs.Qxb6603741a
open Go.RowKit

def I8 (l : List Int) : List Value := l.map (Value.int .u8)
theorem I8_len (l : List Int) : (I8 l).length = l.length := by simp [I8]
theorem I8_app (a b : List Int) : I8 (a ++ b) = I8 a ++ I8 b := by simp [I8]

/-- One more piece is written: the loop's relation. -/
theorem str_step {B n : Nat} {w wr w1 : World} {v vr v1 : Value} {xs : List Value} {S p : List Int} {k m : Nat} (hk : k < S.length) (he : esc (S.getD k 0) = p) (hm : p.length = m)
    (hown1 : w1.ownsRow B 5 1 v1 (n + (pre S k).length + m) (xs ++ I8 (pre S k) ++ I8 p)) (hg1 : Grew 5 wr vr (n + (pre S k).length) w1 v1) (hg : Grew 5 w v n wr vr) :
    w1.ownsRow B 5 1 v1 (n + (pre S (k + 1)).length) (xs ++ I8 (pre S (k + 1))) ∧ Grew 5 w v n w1 v1 := by
  rw [pre_succ S k hk, he, I8_app, List.length_append, hm, ← List.append_assoc, ← Nat.add_assoc]
  exact ⟨hown1, hg.trans hg1 (by omega)⟩

theorem and15 (x : Int) (h0 : 0 ≤ x) (h1 : x ≤ 255) : bits .and .u8 x 15 = x % 16 := by
  rw [u8_and x 15 h0 (by omega) (by omega) (by omega)]
  have : x.toNat &&& (15 : Int).toNat = x.toNat % 16 := Nat.and_two_pow_sub_one_eq_mod x.toNat 4
  rw [this]
  omega
theorem hextab : ∀ i : Fin 16, ((((⟨#[48, 49, 50, 51, 52, 53, 54, 55, 56, 57, 97, 98, 99, 100, 101, 102]⟩ : ByteArray)[i.val]'i.isLt).toNat : Nat) : Int) = hexd i.val := by decide
theorem hextab' (x : Int) (h0 : 0 ≤ x) (h1 : x < 16) (h : x.toNat < (⟨#[48, 49, 50, 51, 52, 53, 54, 55, 56, 57, 97, 98, 99, 100, 101, 102]⟩ : ByteArray).size) :
    ((((⟨#[48, 49, 50, 51, 52, 53, 54, 55, 56, 57, 97, 98, 99, 100, 101, 102]⟩ : ByteArray)[x.toNat]'h).toNat : Nat) : Int) = hexd x := by
  have := hextab ⟨x.toNat, by omega⟩
  simp only at this
  rw [this]
  congr 1
  omega

set_option maxHeartbeats 3200000 in
set_option maxRecDepth 100000 in
theorem str_any (B : Nat) (v : Value) (n : Nat) (xs : List Value) (a : Option Addr) (ns cap : Nat) (S : List Int) (w : World) (hown : w.ownsRow B 5 1 v n xs) (hS : Sl w .u8 a ns cap S)
    (hne : ∀ g, v.ownBlock = some g → ∀ b off, a = some ⟨b, off, none⟩ → b ≠ g) (hb : ∀ j, 0 ≤ S.getD j 0 ∧ S.getD j 0 ≤ 255) (hlim : n + (quote S).length ≤ 70368744177664) (hB : B ≤ w.heap.size) :
    Calls Try.prog 20 #[v, .slice a ns cap] w fun e w' => ∃ v', e = .returned v' ∧ w'.ownsRow B 5 1 v' (n + (quote S).length) (xs ++ I8 (quote S)) ∧ Grew 5 w v n w' v' := by
  obtain ⟨i0, hi, hz0, hz1, hz2⟩ := info_parts Try.info5
  have HS := hidg hS
  have LZ := hidg hS.hlen
  have mz := hS.hlim
  have HNE := hidg hne
  have HBY := hidg hb
  have hq2 := (quote_len S).1
  clear hS hne hb
  go_enter Try.func20, Try.ntmps20
  go_wp2_with (at_builtin; refine Hid.out ?_)
  refine hidg ?_
  refine wpList_app1 w rfl _ _ 22 rfl B 5 i0 (.int .u8 0) 1 Try.underlying22 hi hz0 hz1 hz2 rfl _ n xs hown _ rfl rfl rfl ?_ ?_ hB ?_
  · unfold maxLen; omega
  · omega
  intro v0 w0 hown0 hg0
  go_wp2
  go_loopw [0, 12] (fun vr i wr => ∃ k : Nat, k ≤ ns ∧ i = .int .i64 k ∧ Hid (wr.ownsRow B 5 1 vr (n + (pre S k).length) (xs ++ I8 (pre S k)) ∧ Grew 5 w v n wr vr)) (fun _ i _ => ns - (intOf i).toNat)
  case atStart => exact ⟨0, Nat.zero_le _, rfl, by rw [pre_zero]; exact hown0, hg0⟩
  case round =>
    clear hown0 hg0
    obtain ⟨k, hk, rfl, HR⟩ := hrel
    by_cases hlt : k < ns
    · have hSr : Sl wr .u8 a ns cap S := HS.out.step HR.out.2.frame HNE.out
      obtain ⟨b, off, rfl, hc⟩ := hSr.cells (by omega)
      have ck := hc k hlt
      clear hc hSr
      have hc0 := HBY.out k
      have hkl : Hid (k < S.length) := by have := LZ.out; exact (show k < S.length by omega)
      have hpl := pre_le S k
      have hpl1 := pre_le S (k + 1)
      have hps := pre_succ S k hkl.out
      have hpe := congrArg List.length hps
      rw [List.length_append] at hpe
      have HPE := hidg hpe
      have hbs : B ≤ wr.heap.size := Nat.le_trans hB HR.out.2.frame.size
      clear hps hpe
      generalize hx : S.getD k 0 = x at *
      have HX := hidg hx
      clear hx
      have hpe2 := HPE.out
      have hel := esc_len x
      by_cases hA : x = 34 ∨ x = 92
      · have hel2 : (esc x).length = 2 := by simp [esc, hA]
        have HEX : Hid (esc x = [92, x]) := (show esc x = [92, x] by simp [esc, hA])
        clear hel hc0
        have hlim2 : n + (pre S k).length + 2 ≤ 70368744177664 := by omega
        clear hpe2 hel2
        rcases hA with rfl | rfl
        all_goals
          go_wp2_with (at_builtin; refine Hid.out ?_)
          refine hidg ?_
          refine wpList_appK wr rfl _ _ 22 rfl B 5 i0 (.int .u8 0) 1 Try.underlying22 hi hz0 hz1 hz2 rfl _ _ _ HR.out.1 2 _ rfl rfl rfl ?_ ?_ ?_ hbs ?_
          · exact ints_oneCell .u8 [92, _]
          · unfold maxLen; omega
          · omega
          intro v1 w1 hown1 hg1
          have R := hidg (str_step (m := 2) hkl.out ((congrArg esc HX.out).trans HEX.out) rfl hown1 hg1 HR.out.2)
          clear hown1 hg1 HR
          go_wp2
          go_roundw
          case rel => exact ⟨k + 1, by omega, by go_num, R⟩
          case measure => simp [intOf]; omega
      · by_cases h8 : x = 8
        · subst h8
          clear hc0
          go_wp2_with (at_builtin; refine Hid.out ?_)
          refine hidg ?_
          refine wpList_appS wr rfl _ _ 22 9 rfl B 5 i0 Try.underlying22 Try.underlying9 hi hz0 hz1 hz2 _ _ _ HR.out.1 _ rfl rfl (by decide) (by unfold maxLen; show n + (pre S k).length + 2 ≤ _; omega) (by show n + (pre S k).length + 2 ≤ _; omega) hbs ?_
          intro v1 w1 hown1 hg1
          have R := hidg (str_step (p := [92, 98]) (m := 2) hkl.out (by rw [HX.out]; rfl) rfl hown1 hg1 HR.out.2)
          clear hown1 hg1 HR
          go_wp2
          go_roundw
          case rel => exact ⟨k + 1, by omega, by go_num, R⟩
          case measure => simp [intOf]; omega
        · by_cases h12 : x = 12
          · subst h12
            clear hc0
            go_wp2_with (at_builtin; refine Hid.out ?_)
            refine hidg ?_
            refine wpList_appS wr rfl _ _ 22 9 rfl B 5 i0 Try.underlying22 Try.underlying9 hi hz0 hz1 hz2 _ _ _ HR.out.1 _ rfl rfl (by decide) (by unfold maxLen; show n + (pre S k).length + 2 ≤ _; omega) (by show n + (pre S k).length + 2 ≤ _; omega) hbs ?_
            intro v1 w1 hown1 hg1
            have R := hidg (str_step (p := [92, 102]) (m := 2) hkl.out (by rw [HX.out]; rfl) rfl hown1 hg1 HR.out.2)
            clear hown1 hg1 HR
            go_wp2
            go_roundw
            case rel => exact ⟨k + 1, by omega, by go_num, R⟩
            case measure => simp [intOf]; omega
          · by_cases h10 : x = 10
            · subst h10
              clear hc0
              go_wp2_with (at_builtin; refine Hid.out ?_)
              refine hidg ?_
              refine wpList_appS wr rfl _ _ 22 9 rfl B 5 i0 Try.underlying22 Try.underlying9 hi hz0 hz1 hz2 _ _ _ HR.out.1 _ rfl rfl (by decide) (by unfold maxLen; show n + (pre S k).length + 2 ≤ _; omega) (by show n + (pre S k).length + 2 ≤ _; omega) hbs ?_
              intro v1 w1 hown1 hg1
              have R := hidg (str_step (p := [92, 110]) (m := 2) hkl.out (by rw [HX.out]; rfl) rfl hown1 hg1 HR.out.2)
              clear hown1 hg1 HR
              go_wp2
              go_roundw
              case rel => exact ⟨k + 1, by omega, by go_num, R⟩
              case measure => simp [intOf]; omega
            · by_cases h13 : x = 13
              · subst h13
                clear hc0
                go_wp2_with (at_builtin; refine Hid.out ?_)
                refine hidg ?_
                refine wpList_appS wr rfl _ _ 22 9 rfl B 5 i0 Try.underlying22 Try.underlying9 hi hz0 hz1 hz2 _ _ _ HR.out.1 _ rfl rfl (by decide) (by unfold maxLen; show n + (pre S k).length + 2 ≤ _; omega) (by show n + (pre S k).length + 2 ≤ _; omega) hbs ?_
                intro v1 w1 hown1 hg1
                have R := hidg (str_step (p := [92, 114]) (m := 2) hkl.out (by rw [HX.out]; rfl) rfl hown1 hg1 HR.out.2)
                clear hown1 hg1 HR
                go_wp2
                go_roundw
                case rel => exact ⟨k + 1, by omega, by go_num, R⟩
                case measure => simp [intOf]; omega
              · by_cases h9 : x = 9
                · subst h9
                  clear hc0
                  go_wp2_with (at_builtin; refine Hid.out ?_)
                  refine hidg ?_
                  refine wpList_appS wr rfl _ _ 22 9 rfl B 5 i0 Try.underlying22 Try.underlying9 hi hz0 hz1 hz2 _ _ _ HR.out.1 _ rfl rfl (by decide) (by unfold maxLen; show n + (pre S k).length + 2 ≤ _; omega) (by show n + (pre S k).length + 2 ≤ _; omega) hbs ?_
                  intro v1 w1 hown1 hg1
                  have R := hidg (str_step (p := [92, 116]) (m := 2) hkl.out (by rw [HX.out]; rfl) rfl hown1 hg1 HR.out.2)
                  clear hown1 hg1 HR
                  go_wp2
                  go_roundw
                  case rel => exact ⟨k + 1, by omega, by go_num, R⟩
                  case measure => simp [intOf]; omega
                · have e34 : (x == 34) = false := by simp; omega
                  have e92 : (x == 92) = false := by simp; omega
                  have e8 : (x == 8) = false := by simp; omega
                  have e12 : (x == 12) = false := by simp; omega
                  have e10 : (x == 10) = false := by simp; omega
                  have e13 : (x == 13) = false := by simp; omega
                  have e9 : (x == 9) = false := by simp; omega
                  by_cases h32 : x < 32
                  · have HEX : Hid (esc x = [92, 117, 48, 48, hexd (x / 16), hexd (x % 16)]) := (show esc x = _ by unfold esc; rw [if_neg hA, if_neg h8, if_neg h12, if_neg h10, if_neg h13, if_neg h9, if_pos h32])
                    have hel2 : (esc x).length = 6 := by rw [HEX.out]; rfl
                    have hlim2 : n + (pre S k).length + 6 ≤ 70368744177664 := by omega
                    clear hpe2 hel2 hel hA h8 h12 h10 h13 h9
                    have eand := and15 x (by omega) (by omega)
                    have q0 : 0 ≤ x / 16 := by omega
                    have q1 : x / 16 < 16 := by omega
                    have r0 : 0 ≤ x % 16 := by omega
                    have r1 : x % 16 < 16 := by omega
                    have t1 := hextab' (x / 16) q0 q1
                    have t2 := hextab' (x % 16) r0 r1
                    go_wp2
                    go_region_law (refine step_appK wr rfl (.tmp 22) (.tmp 29) 22 rfl B 5 i0 (.int .u8 0) 1 Try.underlying22 hi hz0 hz1 hz2 rfl _ _ _ HR.out.1 6 _ rfl rfl rfl (ints_oneCell .u8 [92, 117, 48, 48, hexd (x / 16), hexd (x % 16)]) (by unfold maxLen; omega) (by omega) hbs ?_; intro v1 w1 hown1 hg1)
                    all_goals
                      have R := hidg (str_step (p := [92, 117, 48, 48, hexd (x / 16), hexd (x % 16)]) (m := 6) hkl.out ((congrArg esc HX.out).trans HEX.out) rfl hown1 hg1 HR.out.2)
                      clear hown1 hg1 HR t1 t2
                      go_wp2
                      go_roundw
                      case rel => exact ⟨k + 1, by omega, by go_num, R⟩
                      case measure => simp [intOf]; omega
                  · have HEX : Hid (esc x = [x]) := (show esc x = _ by unfold esc; rw [if_neg hA, if_neg h8, if_neg h12, if_neg h10, if_neg h13, if_neg h9, if_neg h32])
                    clear hel hA h8 h12 h10 h13 h9
                    go_wp2_with (at_builtin; refine Hid.out ?_)
                    refine hidg ?_
                    refine wpList_app1 wr rfl _ _ 22 rfl B 5 i0 (.int .u8 0) 1 Try.underlying22 hi hz0 hz1 hz2 rfl _ _ _ HR.out.1 _ rfl rfl rfl (by unfold maxLen; omega) (by omega) hbs ?_
                    intro v1 w1 hown1 hg1
                    have R := hidg (str_step (m := 1) hkl.out ((congrArg esc HX.out).trans HEX.out) rfl hown1 hg1 HR.out.2)
                    clear hown1 hg1 HR
                    go_wp2
                    go_roundw
                    case rel => exact ⟨k + 1, by omega, by go_num, R⟩
                    case measure => simp [intOf]; omega
    · obtain rfl : k = ns := by omega
      go_wp2_with (at_builtin; refine Hid.out ?_)
      refine hidg ?_
      have hbs : B ≤ wr.heap.size := Nat.le_trans hB HR.out.2.frame.size
      have hpl := pre_le S k
      refine wpList_app1 wr rfl _ _ 22 rfl B 5 i0 (.int .u8 0) 1 Try.underlying22 hi hz0 hz1 hz2 rfl _ _ _ HR.out.1 _ rfl rfl rfl ?_ ?_ hbs ?_
      · unfold maxLen; omega
      · omega
      intro v1 w1 hown1 hg1
      have hqs := pre_all S k (by have := LZ.out; omega)
      have hql := congrArg List.length hqs
      have R : w1.ownsRow B 5 1 v1 (n + (quote S).length) (xs ++ I8 (quote S)) := by
        rw [← hqs, I8_app, List.length_append, ← List.append_assoc, ← Nat.add_assoc]; exact hown1
      have hgg := HR.out.2.trans hg1 (by omega)
      clear hown1 hg1 HR hqs hql
      go_wp2
      go_ret
      exact ⟨v1, rfl, R, hgg⟩
end Go.Proofs.Qxb6603741a
