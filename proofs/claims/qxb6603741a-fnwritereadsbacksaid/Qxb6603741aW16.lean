import Derived.Test.Qxb6603741aW15
import Derived.Test.Qxb6603741aPlain2
namespace Go.Proofs.Qxb6603741a
open Go.RowKit
set_option linter.unusedSimpArgs false

/-- The first loop's finds. -/
def P1 (T : Tree) (i : Nat) : Prop := ∀ j, j < i → (T.kinds.getD j 0 = 0 ∨ T.kinds.getD j 0 = 91 ∨ T.kinds.getD j 0 = 123) ∧ (T.kinds.getD j 0 = 0 → 0 ≤ T.st.getD j 0 ∧ T.st.getD j 0 ≤ T.en.getD j 0 ∧ T.en.getD j 0 ≤ T.text.length) ∧ (T.kinds.getD j 0 ≠ 0 → 0 ≤ T.st.getD j 0 ∧ T.st.getD j 0 ≤ T.en.getD j 0 ∧ T.en.getD j 0 ≤ j)
/-- The second loop's finds: what is not marked lies in no range so far; the ranges so far are apart. -/
structure P2 (T : Tree) (m : Nat) (k s e : Int) (B : Nat → Bool) (i : Nat) : Prop where
  out : ∀ x, B x = false → ∀ j, j < i → T.kinds.getD j 0 ≠ 0 → inR (T.st.getD j 0) (T.en.getD j 0) x = false
  root : k ≠ 0 → ∀ x, B x = false → inR s e x = false
  disj : ∀ a b, a < b → b < i → T.kinds.getD a 0 ≠ 0 → T.kinds.getD b 0 ≠ 0 → ∀ x, ¬ (inR (T.st.getD a 0) (T.en.getD a 0) x = true ∧ inR (T.st.getD b 0) (T.en.getD b 0) x = true)
  rdis : k ≠ 0 → ∀ a, a < i → T.kinds.getD a 0 ≠ 0 → ∀ x, ¬ (inR (T.st.getD a 0) (T.en.getD a 0) x = true ∧ inR s e x = true)
theorem P2.skip {T : Tree} {m : Nat} {k s e : Int} {B : Nat → Bool} {i : Nat} (h : P2 T m k s e B i) (hk : T.kinds.getD i 0 = 0) : P2 T m k s e B (i + 1) := by
  refine ⟨fun x hx j hj hkj => ?_, h.root, fun a b hab hb ha hkb => ?_, fun hk0 a ha hka => ?_⟩
  · by_cases hji : j = i
    · subst hji; exact absurd hk hkj
    · exact h.out x hx j (by omega) hkj
  · by_cases hbi : b = i
    · subst hbi; exact absurd hk hkb
    · exact h.disj a b hab (by omega) ha hkb
  · by_cases hai : a = i
    · subst hai; exact absurd hk hka
    · exact h.rdis hk0 a (by omega) hka
theorem P2.claim {T : Tree} {m : Nat} {k s e : Int} {B : Nat → Bool} {i : Nat} (h : P2 T m k s e B i) (sn en : Nat) (hs : T.st.getD i 0 = sn) (he : T.en.getD i 0 = en) (hfree : ∀ j, sn ≤ j → j < en → B j = false) :
    P2 T m k s e (fun j => decide (sn ≤ j ∧ j < en) || B j) (i + 1) := by
  have hin : ∀ x, inR (T.st.getD i 0) (T.en.getD i 0) x = decide (sn ≤ x ∧ x < en) := fun x => by rw [hs, he]; rfl
  refine ⟨fun x hx j hj hkj => ?_, fun hk0 x hx => ?_, fun a b hab hb ha hkb x hx => ?_, fun hk0 a ha hka x hx => ?_⟩
  · rw [Bool.or_eq_false_iff] at hx
    by_cases hji : j = i
    · subst hji; rw [hin]; exact hx.1
    · exact h.out x hx.2 j (by omega) hkj
  · rw [Bool.or_eq_false_iff] at hx; exact h.root hk0 x hx.2
  · by_cases hbi : b = i
    · subst hbi
      rw [hin, decide_eq_true_eq] at hx
      have := h.out x (hfree x hx.2.1 hx.2.2) a hab ha
      rw [this] at hx; exact absurd hx.1 (by simp)
    · exact h.disj a b hab (by omega) ha hkb x hx
  · by_cases hai : a = i
    · subst hai
      rw [hin, decide_eq_true_eq] at hx
      have := h.root hk0 x (hfree x hx.1.1 hx.1.2)
      rw [this] at hx; exact absurd hx.2 (by simp)
    · exact h.rdis hk0 a (by omega) hka x hx
/-- The third loop's finds. -/
def P3 (T : Tree) (i : Nat) : Prop := ∀ j, j < i → T.kinds.getD j 0 = 123 → NamesOK T (T.st.getD j 0).toNat (T.en.getD j 0).toNat
theorem shape_of {T : Tree} {m : Nat} {k s e : Int} {B : Nat → Bool} (lk : T.kinds.length = m) (h1 : P1 T m) (h2 : P2 T m k s e B m) (h3 : P3 T m) : Shape T m := by
  refine ⟨lk, fun j hj => (h1 j hj).1, fun j hj => (h1 j hj).2.1, fun j hj => (h1 j hj).2.2, fun i j hij hj => h2.disj i j hij hj, fun i hi hk j hj => ?_⟩
  simp only [inR, decide_eq_true_eq] at hj
  exact h3 i hi hk j hj.1 hj.2
/-- What wellFormed finds. -/
structure WF (T : Tree) (m m1 m2 m3 m4 : Nat) (k s e : Int) : Prop where
  e1 : m1 = m
  e2 : m2 = m
  e3 : m3 = m
  e4 : m4 = m
  shape : Shape T m
  root : Root T m k s e

theorem marks_new {w : World} {base g m cap : Nat} {xs : List Value} (h : w.ownsRow base 4 1 (.slice (some ⟨g, 0, none⟩) m cap) m xs) (hx : ∀ j, j < m → xs[j]? = some (.bool false)) : Marks w g m (fun _ => false) := by
  refine ⟨fun o ho => ?_, fun o ho => ?_⟩
  · have := h.cells (g := g) rfl o _ (hx o ho)
    rwa [Addr.add_lit, Nat.zero_add] at this
  · rcases h.2 with ⟨hv, _⟩ | ⟨g', cap', cur, hv, _, hh, _⟩
    · cases hv
    · cases hv
      simp [World.frozen?, hh]
theorem made_false (m j : Nat) (h : j < m) : (madeCells (Value.bool false).cells (m * 1)).toList[j]? = some (.bool false) := by
  have : (Value.bool false).cells = #[.bool false] := rfl
  rw [this]
  simp [madeCells, h, Nat.mod_one]
theorem grown_new {a b c : World} {g : Nat} (h : a.grownBy b none) (k : b.grownBy c (some g)) (hg : a.heap.size ≤ g) : a.grownBy c none := grown_trans h k (.inr (.inr ⟨g, rfl, hg⟩))

set_option maxHeartbeats 6400000 in
set_option maxRecDepth 100000 in
theorem wf_zero (T : Tree) (m : Nat) (ta : Option Addr) (nt ct : Nat) (an : Option Addr) (nn cn : Nat) (ka : Option Addr) (kc : Nat) (nsa : Option Addr) (nsc : Nat) (nea : Option Addr) (nec : Nat) (sa : Option Addr) (sc : Nat) (ea : Option Addr) (ec : Nat)
    (s e : Int) (w : World) (hm : m ≤ 131072) (hta : Sl w .u8 ta nt ct T.text) (han : Sl w .u8 an nn cn T.names) (hka : Sl w .u8 ka m kc T.kinds) (hnsa : Sl w .i64 nsa m nsc T.nS) (hnea : Sl w .i64 nea m nec T.nE) (hsa : Sl w .i64 sa m sc T.st) (hea : Sl w .i64 ea m ec T.en)
    (hnt : nt ≤ 1048576) (hnn : nn ≤ 1048576) :
    Calls Try.prog 15 #[.slice ta nt ct, .slice an nn cn, .slice ka m kc, .slice nsa m nsc, .slice nea m nec, .slice sa m sc, .slice ea m ec, .int .u8 0, .int .i64 s, .int .i64 e] w fun e' w' => BoolRes (WF T m m m m m 0 s e) e' ∧ w.grownBy w' none := by
  obtain ⟨i0, hi0, hz0, hz1, hz2⟩ := info_parts Try.info4
  have H1 := hidg hta
  have H2 := hidg han
  have H3 := hidg hka
  have H4 := hidg hnsa
  have H5 := hidg hnea
  have H6 := hidg hsa
  have H7 := hidg hea
  have HTL := hidg hta.hlen
  clear hta han hka hnsa hnea hsa hea
  have hkb0 : kindB 0 = true := rfl
  by_cases hsp0 : 0 ≤ s ∧ s ≤ e ∧ e ≤ nt
  · have hb0 : spanB s e nt = true := decide_eq_true hsp0
    have HSP0 := hidg hsp0
    obtain ⟨q0, q1, q2⟩ := hsp0
    go_enter Try.func15, Try.ntmps15
    go_wp2_with (first | (go_at_call 22; refine (kind_any _ _).mono ?_; rintro e w' ⟨rfl, rfl⟩) | (go_at_call 23; refine (span_any _ _ _ _).mono ?_; rintro e w' ⟨rfl, rfl⟩))
    go_loopw [22] (fun idx wr => ∃ i : Nat, i ≤ m ∧ idx = .int .i64 i ∧ Hid (P1 T i) ∧ Hid (w'.grownBy wr none)) (fun idx _ => m - (intOf idx).toNat)
    case atStart => exact ⟨0, Nat.zero_le _, rfl, fun j h => by omega, grown_refl _ _⟩
    case round =>
      obtain ⟨i, hi, rfl, HP1, HG⟩ := hrel
      by_cases hlt : i < m
      · obtain ⟨kb, ko, rfl, ck⟩ := H3.out.cells (by omega)
        obtain ⟨sb, so, rfl, cs⟩ := H6.out.cells (by omega)
        obtain ⟨eb, eo, rfl, ce⟩ := H7.out.cells (by omega)
        have n2 := HG.out.cell (ck i hlt) (by simp)
        have n3 := HG.out.cell (cs i hlt) (by simp)
        have n4 := HG.out.cell (ce i hlt) (by simp)
        have him : (i : Int) < (m : Int) := by omega
        clear ck cs ce
        generalize hkj : T.kinds.getD i 0 = kj at *
        generalize hsj : T.st.getD i 0 = sj at *
        generalize hej : T.en.getD i 0 = ej at *
        have HJ := hidg (And.intro hkj (And.intro hsj hej))
        clear hkj hsj hej
        by_cases hk0 : kj = 0
        · subst hk0
          have hkb : kindB 0 = true := rfl
          by_cases hsp : 0 ≤ sj ∧ sj ≤ ej ∧ ej ≤ nt
          · have hb : spanB sj ej nt = true := decide_eq_true hsp
            have HSP := hidg hsp
            clear hsp
            go_wp2_with (go_at_call 22; refine (kind_any _ _).mono ?_; rintro e w' ⟨rfl, rfl⟩)
            go_quiet ((go_at_call 23; exact Calls.quiet_of_same (span_any _ _ _ _)))
            go_wp2
            go_roundw
            case rel =>
              refine ⟨i + 1, by omega, by go_num, fun j hj => ?_, grown_step HG.out (grown_drewN _ _ none)⟩
              by_cases hji : j = i
              · subst hji; rw [HJ.out.1, HJ.out.2.1, HJ.out.2.2, HTL.out]; exact ⟨.inl rfl, fun _ => HSP.out, fun h => absurd rfl h⟩
              · exact HP1.out j (by omega)
            case measure => simp [intOf]; omega
          · have hb : spanB sj ej nt = false := decide_eq_false hsp
            clear hsp
            go_wp2_with (go_at_call 22; refine (kind_any _ _).mono ?_; rintro e w' ⟨rfl, rfl⟩)
            go_quiet ((go_at_call 23; exact Calls.quiet_of_same (span_any _ _ _ _)))
            go_wp2
            go_ret
            exact ⟨boolRes_false _, grown_step HG.out (grown_drewN _ _ none)⟩
        · have ek : (kj == 0) = false := by simp [hk0]
          by_cases hkk : kj = 91 ∨ kj = 123
          · have hkb : kindB kj = true := decide_eq_true (.inr hkk)
            have HKK := hidg (And.intro hk0 hkk)
            clear hk0 hkk
            by_cases hsp : 0 ≤ sj ∧ sj ≤ ej ∧ ej ≤ i
            · have hb : spanB sj ej i = true := decide_eq_true hsp
              have HSP := hidg hsp
              clear hsp
              go_wp2_with (go_at_call 22; refine (kind_any _ _).mono ?_; rintro e w' ⟨rfl, rfl⟩)
              go_quiet ((go_at_call 23; exact Calls.quiet_of_same (span_any _ _ _ _)))
              go_wp2
              go_roundw
              case rel =>
                refine ⟨i + 1, by omega, by go_num, fun j hj => ?_, grown_step HG.out (grown_drewN _ _ none)⟩
                by_cases hji : j = i
                · subst hji; rw [HJ.out.1, HJ.out.2.1, HJ.out.2.2]; exact ⟨.inr HKK.out.2, fun h => absurd h HKK.out.1, fun _ => HSP.out⟩
                · exact HP1.out j (by omega)
              case measure => simp [intOf]; omega
            · have hb : spanB sj ej i = false := decide_eq_false hsp
              clear hsp
              go_wp2_with (go_at_call 22; refine (kind_any _ _).mono ?_; rintro e w' ⟨rfl, rfl⟩)
              go_quiet ((go_at_call 23; exact Calls.quiet_of_same (span_any _ _ _ _)))
              go_wp2
              go_ret
              exact ⟨boolRes_false _, grown_step HG.out (grown_drewN _ _ none)⟩
          · have hkb : kindB kj = false := decide_eq_false (fun h => h.elim hk0 hkk)
            clear hk0 hkk
            go_wp2_with (go_at_call 22; refine (kind_any _ _).mono ?_; rintro e w' ⟨rfl, rfl⟩)
            go_ret
            exact ⟨boolRes_false _, HG.out⟩
      · obtain rfl : m = i := by omega
        have hgw := HG.out.size
        go_wp2_with (at_make; refine Hid.out ?_)
        refine hidg ?_
        refine wpList_make_full _ rfl _ _ 43 rfl wr.heap.size 4 i0 (.bool false) 1 Try.underlying43 hi0 hz0 hz1 _ _ _ _ m rfl rfl rfl rfl (by rw [hz2]; omega) (by unfold maxLen; omega) (Nat.le_refl _) ?_
        intro w1 hown1 hgrow1
        have M1 := hidg (marks_new hown1 (fun j hj => made_false m j hj))
        have HG1 := hidg (grown_step HG.out hgrow1)
        clear hown1 hgrow1 HG
        generalize wr.heap.size = g at *
        go_wp2
        go_loopw [24] (fun idx wr => ∃ i : Nat, i ≤ m ∧ idx = .int .i64 i ∧ Hid (∃ B, Marks wr g m B ∧ P2 T m 0 s e B i ∧ w'.grownBy wr none)) (fun idx _ => m - (intOf idx).toNat)
        case atStart => exact ⟨0, Nat.zero_le _, rfl, ⟨_, M1.out, ⟨fun x _ j hj => by omega, fun h => absurd rfl h, fun a b _ hb => by omega, fun h => absurd rfl h⟩, HG1.out⟩⟩
        case round =>
          clear M1 HG1
          obtain ⟨i, hi, rfl, HB⟩ := hrel
          obtain ⟨B, hM, hP2, hg2⟩ := HB.out
          have HM := hidg hM
          have HP2 := hidg hP2
          have HG2 := hidg hg2
          clear hM hP2 hg2 HB
          by_cases hlt : i < m
          · obtain ⟨kb, ko, rfl, ck⟩ := H3.out.cells (by omega)
            obtain ⟨sb, so, rfl, cs⟩ := H6.out.cells (by omega)
            obtain ⟨eb, eo, rfl, ce⟩ := H7.out.cells (by omega)
            have n2 := HG2.out.cell (ck i hlt) (by simp)
            have n3 := HG2.out.cell (cs i hlt) (by simp)
            have n4 := HG2.out.cell (ce i hlt) (by simp)
            have b2 := World.block_lt_of_cell? _ _ (ck i hlt)
            have b3 := World.block_lt_of_cell? _ _ (cs i hlt)
            have b4 := World.block_lt_of_cell? _ _ (ce i hlt)
            simp only at b2 b3 b4
            have x2 : some kb ≠ some g := by simp; omega
            have x3 : some sb ≠ some g := by simp; omega
            have x4 : some eb ≠ some g := by simp; omega
            have X2 := hidg x2
            have X3 := hidg x3
            have X4 := hidg x4
            have him : (i : Int) < (m : Int) := by omega
            have hp1 := HP1.out i hlt
            clear ck cs ce b2 b3 b4 x2 x3 x4
            generalize hkj : T.kinds.getD i 0 = kj at *
            generalize hsj : T.st.getD i 0 = sj at *
            generalize hej : T.en.getD i 0 = ej at *
            have HJ := hidg (And.intro hkj (And.intro hsj hej))
            have HPI := hidg hp1
            clear hkj hsj hej hp1
            by_cases hk0 : kj = 0
            · subst hk0
              go_wp2
              go_quiet (fail)
              go_wp2
              go_roundw
              case rel => exact ⟨i + 1, by omega, by go_num, B, HM.out.step (grown_drewN _ _ none), HP2.out.skip HJ.out.1, grown_step HG2.out (grown_drewN _ _ none)⟩
              case measure => simp [intOf]; omega
            · have ek : (kj != 0) = true := by simp [hk0]
              obtain ⟨p0, p1, p2⟩ := HPI.out.2.2 hk0
              obtain ⟨sn, rfl⟩ := Int.eq_ofNat_of_zero_le p0
              obtain ⟨en, rfl⟩ := Int.eq_ofNat_of_zero_le (show (0 : Int) ≤ ej by omega)
              have q1 : sn ≤ en := by omega
              have q2 : en ≤ m := by omega
              clear hk0 p0 p1 p2 HPI
              go_wp2
              go_region_held (fun W => W.cell? ⟨kb, ko + i, none⟩ = some (.int .u8 kj) ∧ W.cell? ⟨sb, so + i, none⟩ = some (.int .i64 sn) ∧ W.cell? ⟨eb, eo + i, none⟩ = some (.int .i64 en)) (go_keep)
                (first | (go_at_call 24; refine (claim_any g m m sn en B _ (by omega) q1 q2 (HM.out.step (grown_drew _ _))).mono ?_; rintro e w3 ⟨b, rfl, hb, hg3⟩; have r2 := hg3.cell (show wr.drew.cell? _ = _ from n2) X2.out; have r3 := hg3.cell (show wr.drew.cell? _ = _ from n3) X3.out; have r4 := hg3.cell (show wr.drew.cell? _ = _ from n4) X4.out))
              have HB3 := hidg hb
              have HG3 := hidg (grown_new (grown_step HG2.out (grown_drew _ _)) hg3 hgw)
              clear hb hg3 r2 r3 r4 n2 n3 n4
              cases b with
              | true =>
                go_wp2
                go_roundw
                case rel => exact ⟨i + 1, by omega, by go_num, _, (HB3.out rfl).2, HP2.out.claim sn en HJ.out.2.1 HJ.out.2.2 (HB3.out rfl).1, HG3.out⟩
                case measure => simp [intOf]; omega
              | false =>
                go_wp2
                go_ret
                exact ⟨boolRes_false _, HG3.out⟩
          · obtain rfl : m = i := by omega
            have HP2m : Hid (∃ B, P2 T m 0 s e B m) := ⟨B, HP2.out⟩
            clear HM HP2
            go_wp2
            go_loopw [25, 27] (fun u idx wr => ∃ (i : Nat) (x : Int), i ≤ m ∧ idx = .int .i64 i ∧ u = .int .i64 x ∧ 0 ≤ x ∧ x ≤ 1048576 ∧ Hid (P3 T i) ∧ Hid (w'.grownBy wr none)) (fun _ idx _ => m - (intOf idx).toNat)
            case atStart => exact ⟨0, e - s, Nat.zero_le _, rfl, by first | rfl | go_num, by omega, by omega, fun j h => by omega, HG2.out⟩
            case round =>
              clear HG2
              obtain ⟨i, x, hi, rfl, rfl, hx0, hx1, HP3, HG4⟩ := hrel
              by_cases hlt : i < m
              · obtain ⟨kb, ko, rfl, ck⟩ := H3.out.cells (by omega)
                obtain ⟨sb, so, rfl, cs⟩ := H6.out.cells (by omega)
                obtain ⟨eb, eo, rfl, ce⟩ := H7.out.cells (by omega)
                have n2 := HG4.out.cell (ck i hlt) (by simp)
                have n3 := HG4.out.cell (cs i hlt) (by simp)
                have n4 := HG4.out.cell (ce i hlt) (by simp)
                have him : (i : Int) < (m : Int) := by omega
                have hp1 := HP1.out i hlt
                clear ck cs ce
                generalize hkj : T.kinds.getD i 0 = kj at *
                generalize hsj : T.st.getD i 0 = sj at *
                generalize hej : T.en.getD i 0 = ej at *
                have HJ := hidg (And.intro hkj (And.intro hsj hej))
                have HPI := hidg hp1
                clear hkj hsj hej hp1
                by_cases hk0 : kj = 0
                · subst hk0
                  obtain ⟨p0, p1, p2⟩ := HPI.out.2.1 rfl
                  have p3 : ej ≤ nt := by rw [← HTL.out]; exact p2
                  clear HPI p2
                  by_cases hov : x + (ej - sj) ≤ 1048576
                  · go_wp2
                    go_quiet (fail)
                    go_wp2
                    go_roundw
                    case rel =>
                      refine ⟨i + 1, x + (ej - sj), by omega, by go_num, rfl, by omega, hov, fun j hj hkj => ?_, grown_step HG4.out (grown_drewN _ _ none)⟩
                      by_cases hji : j = i
                      · subst hji; rw [HJ.out.1] at hkj; exact absurd hkj (by decide)
                      · exact HP3.out j (by omega) hkj
                    case measure => simp [intOf]; omega
                  · go_wp2
                    go_quiet (fail)
                    go_wp2
                    go_ret
                    exact ⟨boolRes_false _, grown_step HG4.out (grown_drewN _ _ none)⟩
                · have ek : (kj == 0) = false := by simp [hk0]
                  by_cases hk3 : kj = 123
                  · subst hk3
                    obtain ⟨p0, p1, p2⟩ := HPI.out.2.2 (by decide)
                    obtain ⟨sn, rfl⟩ := Int.eq_ofNat_of_zero_le p0
                    obtain ⟨en, rfl⟩ := Int.eq_ofNat_of_zero_le (show (0 : Int) ≤ ej by omega)
                    have q1 : sn ≤ en := by omega
                    have q2 : en ≤ m := by omega
                    clear hk0 p0 p1 p2 HPI ek
                    go_wp2
                    go_region_held (fun W => W.cell? ⟨kb, ko + i, none⟩ = some (.int .u8 123) ∧ W.cell? ⟨sb, so + i, none⟩ = some (.int .i64 sn) ∧ W.cell? ⟨eb, eo + i, none⟩ = some (.int .i64 en)) (go_keep)
                      (first | (go_at_call 25; refine (add_any T m an nn cn nsa nsc nea nec sn en x _ (by omega) q1 q2 ((H2.out.step0 HG4.out).step0 (grown_drew _ _)) hnn ((H4.out.step0 HG4.out).step0 (grown_drew _ _)) ((H5.out.step0 HG4.out).step0 (grown_drew _ _)) hx0 hx1).mono ?_; rintro e w3 ⟨u, ok, rfl, hb, hg3⟩; have r2 := hg3.cell (show wr.drew.cell? _ = _ from n2) (by simp); have r3 := hg3.cell (show wr.drew.cell? _ = _ from n3) (by simp); have r4 := hg3.cell (show wr.drew.cell? _ = _ from n4) (by simp)))
                    have HB3 := hidg hb
                    have HG5 := hidg (grown_step (grown_step HG4.out (grown_drew _ _)) hg3)
                    clear hb hg3 r2 r3 r4 n2 n3 n4
                    cases ok with
                    | true =>
                      obtain ⟨u0, u1, u2⟩ := HB3.out rfl
                      have HU2 := hidg u2
                      clear HB3 u2
                      go_wp2
                      go_roundw
                      case rel =>
                        refine ⟨i + 1, u, by omega, by go_num, rfl, u0, u1, fun j hj hkj => ?_, HG5.out⟩
                        by_cases hji : j = i
                        · subst hji; rw [HJ.out.2.1, HJ.out.2.2]; exact HU2.out
                        · exact HP3.out j (by omega) hkj
                      case measure => simp [intOf]; omega
                    | false =>
                      go_wp2
                      go_ret
                      exact ⟨boolRes_false _, HG5.out⟩
                  · have ek3 : (kj == 123) = false := by simp [hk3]
                    have HK3 := hidg hk3
                    clear hk3 hk0 HPI
                    go_wp2
                    go_roundw
                    case rel =>
                      refine ⟨i + 1, x, by omega, by go_num, rfl, hx0, hx1, fun j hj hkj => ?_, HG4.out⟩
                      by_cases hji : j = i
                      · subst hji; rw [HJ.out.1] at hkj; exact absurd hkj HK3.out
                      · exact HP3.out j (by omega) hkj
                    case measure => simp [intOf]; omega
              · obtain rfl : m = i := by omega
                go_wp2
                go_ret
                refine ⟨boolRes_true ?_, HG4.out⟩
                obtain ⟨B, hP2⟩ := HP2m.out
                exact ⟨rfl, rfl, rfl, rfl, shape_of H3.out.hlen HP1.out hP2 HP3.out, ⟨.inl rfl, fun _ => by rw [HTL.out]; exact HSP0.out, fun h => absurd rfl h, fun h => absurd rfl h, fun h => absurd h (by decide)⟩⟩
  · have hb0 : spanB s e nt = false := decide_eq_false hsp0
    clear hsp0
    go_enter Try.func15, Try.ntmps15
    go_wp2_with (first | (go_at_call 22; refine (kind_any _ _).mono ?_; rintro e w' ⟨rfl, rfl⟩) | (go_at_call 23; refine (span_any _ _ _ _).mono ?_; rintro e w' ⟨rfl, rfl⟩))
    go_ret
    exact ⟨boolRes_false _, grown_refl _ _⟩
end Go.Proofs.Qxb6603741a
