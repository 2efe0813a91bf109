import Derived.Test.Qxb6603741aW9
import Derived.Test.Qxb6603741aPlain3
namespace Go.Proofs.Qxb6603741a
open Go.RowKit

/-- Where the seven slices of a tree lie. -/
structure Lay where
  ta : Option Addr
  nt : Nat
  tc : Nat
  na : Option Addr
  nn : Nat
  nc : Nat
  ka : Option Addr
  kc : Nat
  nsa : Option Addr
  nsc : Nat
  nea : Option Addr
  nec : Nat
  sa : Option Addr
  sc : Nat
  ea : Option Addr
  ec : Nat

/-- The treeView in block tb. -/
structure Vw (w : World) (T : Tree) (m tb : Nat) (A : Lay) : Prop where
  c0 : w.cell? ⟨tb, 0, none⟩ = some (.slice A.ta A.nt A.tc)
  c1 : w.cell? ⟨tb, 1, none⟩ = some (.slice A.na A.nn A.nc)
  c2 : w.cell? ⟨tb, 2, none⟩ = some (.slice A.ka m A.kc)
  c3 : w.cell? ⟨tb, 3, none⟩ = some (.slice A.nsa m A.nsc)
  c4 : w.cell? ⟨tb, 4, none⟩ = some (.slice A.nea m A.nec)
  c5 : w.cell? ⟨tb, 5, none⟩ = some (.slice A.sa m A.sc)
  c6 : w.cell? ⟨tb, 6, none⟩ = some (.slice A.ea m A.ec)
  text : Sl w .u8 A.ta A.nt A.tc T.text
  names : Sl w .u8 A.na A.nn A.nc T.names
  kinds : Sl w .u8 A.ka m A.kc T.kinds
  nS : Sl w .i64 A.nsa m A.nsc T.nS
  nE : Sl w .i64 A.nea m A.nec T.nE
  st : Sl w .i64 A.sa m A.sc T.st
  en : Sl w .i64 A.ea m A.ec T.en
theorem Vw.step {w w' : World} {T : Tree} {m tb : Nat} {A : Lay} (h : Vw w T m tb A) (hg : w.grownBy w' none) : Vw w' T m tb A :=
  ⟨hg.cell h.c0 (by simp), hg.cell h.c1 (by simp), hg.cell h.c2 (by simp), hg.cell h.c3 (by simp), hg.cell h.c4 (by simp), hg.cell h.c5 (by simp), hg.cell h.c6 (by simp),
    h.text.step0 hg, h.names.step0 hg, h.kinds.step0 hg, h.nS.step0 hg, h.nE.step0 hg, h.st.step0 hg, h.en.step0 hg⟩

def ReadSaid (T : Tree) (m tb : Nat) (A : Lay) (oa : Option Addr) (no oc : Nat) (O : List Int) (f : Nat) (k s e : Int) : Prop :=
  ∀ (w : World) (p : Nat) (rest : List Int), Vw w T m tb A → Sl w .u8 oa no oc O → O.drop p = outN T f k s e ++ rest → EndOK rest →
    Calls Try.prog 19 #[.pointer (some ⟨tb, 0, none⟩), .slice oa no oc, .int .i64 p, .int .u8 k, .int .i64 s, .int .i64 e] w fun e' w' => e' = .returned (.tuple #[.int .i64 (p + (outN T f k s e).length), .bool true]) ∧ w.grownBy w' none

theorem tup_eq {a b : Int} {c : Bool} (h : a = b) (hc : c = true) : Ending.returned (.tuple #[.int .i64 a, .bool c]) = .returned (.tuple #[.int .i64 b, .bool true]) := by rw [h, hc]

set_option maxHeartbeats 1600000 in
theorem eq_q (a : Option Addr) (na ca : Nat) (A : List Int) (b : Option Addr) (nb cb : Nat) (B : List Int) (w : World) (hA : Sl w .u8 a na ca A) (hB : Sl w .u8 b nb cb B) :
    Calls Try.prog 9 #[.slice a na ca, .slice b nb cb] w fun e w' => e = .returned (.bool (decide (A = B))) ∧ ∃ m, w' = w.drewN m := by
  have la := hA.hlen
  have lb := hB.hlen
  have ma := hA.hlim
  have HA := hidg hA.cells
  have HB := hidg hB.cells
  have LA := hidg la
  have LB := hidg lb
  clear hA hB la lb
  by_cases hn : na = nb
  · subst hn
    go_enter Try.func9, Try.ntmps9
    go_wp2
    go_loopw [5] (fun i wr => ∃ k : Nat, k ≤ na ∧ i = .int .i64 k ∧ (∀ j, j < k → A.getD j 0 = B.getD j 0) ∧ ∃ nq, wr = w.drewN nq) (fun i _ => na - (intOf i).toNat)
    case atStart => exact ⟨0, Nat.zero_le _, rfl, fun j h => by omega, 0, rfl⟩
    case round =>
      obtain ⟨k, hk, rfl, hall, nq0, rfl⟩ := hrel
      have HALL := hidg hall
      clear hall
      by_cases hlt : k < na
      · obtain ⟨ba, oa, rfl, hca⟩ := HA.out (by omega)
        obtain ⟨bb, ob, rfl, hcb⟩ := HB.out (by omega)
        have c1 := hca k hlt
        have c2 := hcb k hlt
        clear hca hcb HA HB
        have l1 : (k : Int) < (na : Int) := by omega
        generalize hx : A.getD k 0 = x at *
        generalize hy : B.getD k 0 = y at *
        have HX := hidg hx
        have HY := hidg hy
        clear hx hy
        by_cases hxy : x = y
        · have hb : (x != y) = false := by simp [hxy]
          have HXY := hidg hxy
          clear hxy
          go_wp2
          go_quiet (fail)
          go_wp2
          go_roundw
          case rel =>
            refine ⟨k + 1, by omega, by go_num, fun j hj => ?_, nq0 + nq, by first | rfl | rw [World.drewN_drewN]⟩
            by_cases hjk : j = k
            · rw [hjk, HX.out, HY.out]; exact HXY.out
            · exact HALL.out j (by omega)
          case measure => simp [intOf]; omega
        · have hb : (x != y) = true := by simp [hxy]
          have HXY := hidg hxy
          clear hxy
          go_wp2
          go_quiet (fail)
          go_wp2
          go_ret
          refine ⟨ret_bool ?_, nq0 + nq, by first | rfl | rw [World.drewN_drewN]⟩
          symm
          rw [decide_eq_false_iff_not]
          intro hAB
          apply HXY.out
          rw [← HX.out, ← HY.out, hAB]
      · go_wp2
        go_ret
        refine ⟨ret_bool ?_, nq0, rfl⟩
        symm
        rw [decide_eq_true_eq]
        refine ext_getD _ _ (by rw [LA.out, LB.out]) (fun j hj => HALL.out j (by have := LA.out; omega))
  · go_enter Try.func9, Try.ntmps9
    go_wp2
    go_ret
    refine ⟨ret_bool ?_, 0, rfl⟩
    symm
    rw [decide_eq_false_iff_not]
    intro hAB
    apply hn
    rw [← LA.out, ← LB.out, hAB]

theorem Sl.cutN {w : World} {k : IntKind} {b off n cap : Nat} {zs W rest : List Int} {p : Nat} (h : Sl w k (some ⟨b, off, none⟩) n cap zs) (hd : zs.drop p = W ++ rest) (hp : p + W.length ≤ n) : Sl w k (some ⟨b, off + p, none⟩) W.length (cap - p) W := by
  have hc := h.hcap
  have hm := h.hlim
  refine ⟨rfl, by omega, (fun hh => by cases hh), by omega, fun hpos => ⟨b, off + p, rfl, fun j hj => ?_⟩⟩
  obtain ⟨b', off', hao, hcell⟩ := h.cells (by omega)
  cases hao
  have h1 := hcell (p + j) (by omega)
  rw [at_drop hd j] at h1
  rw [Nat.add_assoc, h1]
  unfold List.getD
  rw [List.getElem?_append_left hj]

set_option maxHeartbeats 3200000 in
set_option maxRecDepth 100000 in
theorem read_scalar (T : Tree) (m tb : Nat) (A : Lay) (oa : Option Addr) (no oc : Nat) (O : List Int) (f : Nat) (s e : Int) (h0 : 0 ≤ s) (h1 : s < e) (h2 : e ≤ T.text.length) (htok : Tok (sub T.text s e)) : ReadSaid T m tb A oa no oc O (f + 1) 0 s e := by
  intro w p rest hV hO hdrop hend
  rw [outN_scalar] at hdrop ⊢
  have hsl := sub_len T.text s e h0 (by omega) h2
  have htl := hV.text.hlen
  have htc := hV.text.hcap
  have hOl := hO.hlen
  have hOm := hO.hlim
  have hOc := hO.hcap
  generalize hW : sub T.text s e = W at *
  have hWpos := htok.pos
  have hne : W ++ rest ≠ [] := by intro hh; have := congrArg List.length hh; simp at this; rw [this.1] at hWpos; simp at hWpos
  have hlen := len_drop hdrop hne
  rw [List.length_append] at hlen
  obtain ⟨b, off, rfl, hc⟩ := hO.cells (by omega)
  have hpn : p < no := by omega
  have cp := hc p hpn
  have hW0 : O.getD p 0 = W.getD 0 0 := by
    have := at_drop hdrop 0
    rw [Nat.add_zero] at this
    rw [this]; unfold List.getD; rw [List.getElem?_append_left hWpos]
  rw [hW0] at cp
  have ct := hV.c0
  have HV := hidg hV
  have HO := hidg hO
  have HD := hidg hdrop
  have HE := hidg hend
  have HT := hidg htok
  have HC := hidg hc
  have HL := hidg hlen
  have HSL := hidg hsl
  have HWW := hidg hW
  have HOL := hidg hOl
  have HTL := hidg htl
  have h1' : s ≤ e := by omega
  have het : e ≤ A.nt := by omega
  have hetc : e ≤ A.tc := by omega
  have hWn : W.length ≤ no := by omega
  have hq1 : (p : Int) + W.length ≤ no := by omega
  have hq2 : (p : Int) + W.length ≤ oc := by omega
  have hsz : ¬ A.tc = s.toNat := by omega
  have hpz : ¬ oc = p := by omega
  generalize hx : W.getD 0 0 = x at *
  have HX := hidg hx
  clear hx hV hO hdrop hend htok hc hlen hsl hW hOl htl hW0 hne h2
  by_cases h34 : x = 34
  · subst h34
    have hscan : scanR O p = ((p + W.length : Nat) : Int) := scanR_drop_tok HD.out hWpos HX.out (HT.out.str HX.out)
    have HSC := hidg hscan
    clear hscan
    go_enter Try.func19, Try.ntmps19
    go_wp2_with (go_at_call 10; refine (scan_nat _ _ _ O p _ HO.out (by omega)).mono ?_; rintro e w' ⟨rfl, rfl⟩; rw [HSC.out])
    have hs1 := fun nq => (HO.out.step0 (grown_drewN _ nq none)).cutN HD.out (by omega)
    have hs2 := fun nq => (HV.out.text.step0 (grown_drewN _ nq none)).cut s e h0 h1' het
    rw [HWW.out] at hs2
    have HS1 := hidg hs1
    have HS2 := hidg hs2
    clear hs1 hs2
    go_quiet ((go_at_call 9; refine Calls.quiet_of (eq_q _ _ _ W _ _ _ W _ (HS1.out _) (HS2.out _))))
    go_wp2
    go_ret2
    exact ⟨tup_eq rfl rfl, grown_drewN _ _ _⟩
  · have hfree : ∀ j, j < W.length → free (W.getD j 0) := HT.out.other (by rw [HX.out]; exact h34)
    have hfx := hfree 0 hWpos
    rw [HX.out] at hfx
    obtain ⟨g1, g2, g3, g4, g5, g6⟩ := hfx
    have e1 : (x != 91) = true := by simp [g2]
    have e2 : (x != 123) = true := by simp [g4]
    have e3 : (x == 34) = false := by simp [h34]
    have HF := hidg hfree
    clear hfree g1 g2 g3 g4 g5 g6 h34
    have dp : decide ((p : Int) < 0) = false := by simp
    have dn : decide ((no : Int) ≤ (p : Int)) = false := by simp; omega
    go_enter Try.func19, Try.ntmps19
    go_wp2
    go_loop [15] (fun q => ∃ i : Nat, i ≤ W.length ∧ q = .int .i64 ((p + i : Nat) : Int)) (fun q => p + W.length - (intOf q).toNat)
    case atStart => exact ⟨0, Nat.zero_le _, rfl⟩
    case round =>
      obtain ⟨i, hi, rfl⟩ := hrel
      generalize hq : p + i = q at *
      have HQ := hidg hq
      have hq0 : p ≤ q := by omega
      have hq3 : q ≤ p + W.length := by omega
      clear hq
      by_cases hlt : q < p + W.length
      · have hqn : q < no := by omega
        have cq := HC.out q hqn
        have hv : O.getD q 0 = W.getD i 0 := by
          rw [← HQ.out, at_drop HD.out i]; unfold List.getD; rw [List.getElem?_append_left (by have := HQ.out; omega)]
        have hfr := HF.out i (by have := HQ.out; omega)
        rw [hv] at cq
        generalize W.getD i 0 = y at *
        obtain ⟨g1, g2, g3, g4, g5, g6⟩ := hfr
        have f1 : (y != 44) = true := by simp [g6]
        have f2 : (y != 93) = true := by simp [g3]
        have f3 : (y != 125) = true := by simp [g5]
        clear hv g1 g2 g3 g4 g5 g6
        go_wp2
        go_round
        case rel => exact ⟨i + 1, by have := HQ.out; omega, by have := HQ.out; go_num⟩
        case measure => simp [intOf]; omega
      · obtain rfl : q = p + W.length := by omega
        have hs1 := fun nq => (HO.out.step0 (grown_drewN _ nq none)).cutN HD.out (by omega)
        have hs2 := fun nq => (HV.out.text.step0 (grown_drewN _ nq none)).cut s e h0 h1' het
        rw [HWW.out] at hs2
        have HS1 := hidg hs1
        have HS2 := hidg hs2
        have hcast : ((p + W.length : Nat) : Int) = (p : Int) + (W.length : Int) := by omega
        clear hs1 hs2 HQ
        have hstop : (p + W.length < no → ∃ y, w.cell? ⟨b, off + (p + W.length), none⟩ = some (.int .u8 y) ∧ (y = 44 ∨ y = 93 ∨ y = 125)) := by
          intro hlt2
          refine ⟨O.getD (p + W.length) 0, HC.out _ hlt2, ?_⟩
          have hdr := drop_app HD.out
          have hv := at_drop hdr 0
          rw [Nat.add_zero] at hv
          rw [hv]
          rcases HE.out with h | h
          · have hl1 := HL.out; have hl2 := HOL.out; have hl3 : rest.length = 0 := by rw [h]; rfl
            omega
          · exact h
        have HST := hidg hstop
        clear hstop
        by_cases hend : p + W.length < no
        · obtain ⟨y, cy, hy⟩ := HST.out hend
          rcases hy with rfl | rfl | rfl
          all_goals
            go_wp2
            go_quiet ((go_at_call 9; refine Calls.quiet_of (eq_q _ _ _ W _ _ _ W _ (HS1.out _) (HS2.out _))))
            go_wp2
            go_ret2
            exact ⟨tup_eq (by first | rfl | omega) rfl, grown_drewN _ _ _⟩
        · go_wp2
          go_quiet ((go_at_call 9; refine Calls.quiet_of (eq_q _ _ _ W _ _ _ W _ (HS1.out _) (HS2.out _))))
          go_wp2
          go_ret2
          exact ⟨tup_eq (by first | rfl | omega) rfl, grown_drewN _ _ _⟩
end Go.Proofs.Qxb6603741a
