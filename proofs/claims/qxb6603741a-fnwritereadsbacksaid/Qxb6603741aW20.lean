import Derived.Test.Qxb6603741aW17
import Derived.Test.Qxb6603741aW18
namespace Go.Proofs.Qxb6603741a
open Go.RowKit

set_option maxHeartbeats 3200000 in
set_option maxRecDepth 100000 in
theorem wf_any (T : Tree) (m m1 m2 m3 m4 : Nat) (ta : Option Addr) (nt ct : Nat) (an : Option Addr) (nn cn : Nat) (ka : Option Addr) (kc : Nat) (nsa : Option Addr) (nsc : Nat) (nea : Option Addr) (nec : Nat) (sa : Option Addr) (sc : Nat) (ea : Option Addr) (ec : Nat)
    (k s e : Int) (w : World) (hm : m1 ≤ 131072) (hta : Sl w .u8 ta nt ct T.text) (han : Sl w .u8 an nn cn T.names) (hka : Sl w .u8 ka m kc T.kinds) (hnsa : Sl w .i64 nsa m1 nsc T.nS) (hnea : Sl w .i64 nea m2 nec T.nE) (hsa : Sl w .i64 sa m3 sc T.st) (hea : Sl w .i64 ea m4 ec T.en)
    (hnt : nt ≤ 1048576) (hnn : nn ≤ 1048576) :
    Calls Try.prog 15 #[.slice ta nt ct, .slice an nn cn, .slice ka m kc, .slice nsa m1 nsc, .slice nea m2 nec, .slice sa m3 sc, .slice ea m4 ec, .int .u8 k, .int .i64 s, .int .i64 e] w fun e' w' => BoolRes (WF T m m1 m2 m3 m4 k s e) e' ∧ w.grownBy w' none := by
  by_cases h1 : m1 = m
  · subst h1
    by_cases h2 : m2 = m1
    · subst h2
      by_cases h3 : m3 = m2
      · subst h3
        by_cases h4 : m4 = m3
        · subst h4
          by_cases k0 : k = 0
          · subst k0; exact wf_zero T m4 ta nt ct an nn cn ka kc nsa nsc nea nec sa sc ea ec s e w hm hta han hka hnsa hnea hsa hea hnt hnn
          by_cases k1 : k = 91
          · subst k1; exact wf_arr T m4 ta nt ct an nn cn ka kc nsa nsc nea nec sa sc ea ec s e w hm hta han hka hnsa hnea hsa hea hnt hnn
          by_cases k2 : k = 123
          · subst k2; exact wf_obj T m4 ta nt ct an nn cn ka kc nsa nsc nea nec sa sc ea ec s e w hm hta han hka hnsa hnea hsa hea hnt hnn
          have hkb : kindB k = false := decide_eq_false (fun h => h.elim k0 (fun h => h.elim k1 k2))
          clear hta han hka hnsa hnea hsa hea k0 k1 k2
          go_enter Try.func15, Try.ntmps15
          go_wp2_with (first | (go_at_call 22; refine (kind_any _ _).mono ?_; rintro e w' ⟨rfl, rfl⟩))
          go_ret
          exact ⟨boolRes_false _, grown_refl _ _⟩
        · have b4 : ((m4 : Int) != (m3 : Int)) = true := by simp; omega
          have l4 := hea.hlim
          clear hta han hka hnsa hnea hsa hea
          go_enter Try.func15, Try.ntmps15
          go_wp2
          go_ret
          exact ⟨boolRes_false _, grown_refl _ _⟩
      · have b3 : ((m3 : Int) != (m2 : Int)) = true := by simp; omega
        have l3 := hsa.hlim
        clear hta han hka hnsa hnea hsa hea
        go_enter Try.func15, Try.ntmps15
        go_wp2
        go_ret
        exact ⟨boolRes_false _, grown_refl _ _⟩
    · have b2 : ((m2 : Int) != (m1 : Int)) = true := by simp; omega
      have l2 := hnea.hlim
      clear hta han hka hnsa hnea hsa hea
      go_enter Try.func15, Try.ntmps15
      go_wp2
      go_ret
      exact ⟨boolRes_false _, grown_refl _ _⟩
  · have b1 : ((m1 : Int) != (m : Int)) = true := by simp; omega
    have l1 := hnsa.hlim
    have l0 := hka.hlim
    clear hta han hka hnsa hnea hsa hea
    go_enter Try.func15, Try.ntmps15
    go_wp2
    go_ret
    exact ⟨boolRes_false _, grown_refl _ _⟩
end Go.Proofs.Qxb6603741a
