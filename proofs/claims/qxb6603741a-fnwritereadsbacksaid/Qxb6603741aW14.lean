import Derived.Test.Qxb6603741aW11
namespace Go.Proofs.Qxb6603741a
open Go.RowKit

def freeB (c : Int) : Bool := c != 34 && c != 91 && c != 93 && c != 123 && c != 125 && c != 44
theorem freeB_iff (c : Int) : freeB c = true ↔ free c := by simp [freeB, free, and_assoc]
def tokB (Z : List Int) : Bool := decide (0 < Z.length) && (if Z.getD 0 0 = 34 then decide (scanR Z 0 = (Z.length : Int)) else Z.all freeB)
theorem all_getD (Z : List Int) (p : Int → Bool) : Z.all p = true ↔ ∀ j, j < Z.length → p (Z.getD j 0) = true := by
  rw [List.all_eq_true]
  constructor
  · intro h j hj
    refine h _ ?_
    simp [List.getD, hj]
  · intro h x hx
    obtain ⟨j, hj, rfl⟩ := List.getElem_of_mem hx
    have := h j hj
    simpa [List.getD, hj] using this
theorem tokB_tok (Z : List Int) (h : tokB Z = true) : Tok Z := by
  unfold tokB at h
  rw [Bool.and_eq_true, decide_eq_true_eq] at h
  obtain ⟨h1, h2⟩ := h
  refine ⟨h1, fun h34 => ?_, fun h34 => ?_⟩
  · rw [if_pos h34, decide_eq_true_eq] at h2; exact h2
  · rw [if_neg h34, all_getD] at h2
    exact fun j hj => (freeB_iff _).1 (h2 j hj)

set_option maxHeartbeats 1600000 in
theorem tok_q (a : Option Addr) (n cap : Nat) (Z : List Int) (w : World) (hZ : Sl w .u8 a n cap Z) :
    Calls Try.prog 26 #[.slice a n cap] w fun e w' => e = .returned (.bool (tokB Z)) ∧ w' = w := by
  have lz := hZ.hlen
  have mz := hZ.hlim
  have HZ := hidg hZ.cells
  have HS := hidg hZ
  have LZ := hidg lz
  clear hZ lz
  by_cases h0 : n = 0
  · subst h0
    have hr : tokB Z = false := by unfold tokB; rw [LZ.out]; rfl
    have HR := hidg hr
    clear hr
    go_enter Try.func26, Try.ntmps26
    go_wp2
    go_ret
    exact ⟨ret_bool HR.out.symm, rfl⟩
  · obtain ⟨b, off, rfl, hc⟩ := HZ.out (by omega)
    have c0 : w.cell? ⟨b, off, none⟩ = some (.int .u8 (Z.getD 0 0)) := by simpa using hc 0 (by omega)
    have HC := hidg hc
    clear hc HZ
    generalize hx : Z.getD 0 0 = x at *
    have HX := hidg hx
    clear hx
    have hn0 : 0 < n := by omega
    by_cases hq : x = 34
    · subst hq
      have hr : tokB Z = decide (scanR Z 0 = (Z.length : Int)) := by unfold tokB; rw [if_pos HX.out, decide_eq_true (show 0 < Z.length by have := LZ.out; omega)]; simp
      have HR := hidg hr
      clear hr
      go_enter Try.func26, Try.ntmps26
      go_wp2_with (go_at_call 10; refine (scan_any _ _ _ Z _ _ HS.out (by omega) (by omega)).mono ?_; rintro e w' ⟨rfl, rfl⟩)
      go_ret
      refine ⟨ret_bool ?_, rfl⟩
      rw [HR.out, LZ.out]
      rw [Bool.eq_iff_iff]; simp
    · have e1 : (x == 34) = false := by simp [hq]
      have hr : tokB Z = Z.all freeB := by unfold tokB; rw [if_neg (by rw [HX.out]; exact hq), decide_eq_true (show 0 < Z.length by have := LZ.out; omega)]; simp
      have HR := hidg hr
      clear hq hr
      have en : ((n : Int) == 0) = false := by simp; omega
      clear h0
      go_enter Try.func26, Try.ntmps26
      go_wp2
      go_loop [3] (fun i => ∃ k : Nat, k ≤ n ∧ i = .int .i64 k ∧ Hid (∀ j, j < k → free (Z.getD j 0))) (fun i => n - (intOf i).toNat)
      case atStart => exact ⟨0, Nat.zero_le _, rfl, fun j h => by omega⟩
      case round =>
        obtain ⟨k, hk, rfl, HF⟩ := hrel
        by_cases hlt : k < n
        · have ck := HC.out k hlt
          generalize hy : Z.getD k 0 = y at *
          have HY := hidg hy
          clear hy
          by_cases hf : free y
          · have HFY := hidg hf
            obtain ⟨f1, f2, f3, f4, f5, f6⟩ := hf
            have g1 : (y == 34) = false := by simp [f1]
            have g2 : (y == 91) = false := by simp [f2]
            have g3 : (y == 93) = false := by simp [f3]
            have g4 : (y == 123) = false := by simp [f4]
            have g5 : (y == 125) = false := by simp [f5]
            have g6 : (y == 44) = false := by simp [f6]
            clear f1 f2 f3 f4 f5 f6
            go_wp2
            go_round
            case rel =>
              refine ⟨k + 1, by omega, by go_num, fun j hj => ?_⟩
              by_cases hjk : j = k
              · rw [hjk, HY.out]; exact HFY.out
              · exact HF.out j (by omega)
            case measure => simp [intOf]; omega
          · have hor : y = 34 ∨ y = 91 ∨ y = 93 ∨ y = 123 ∨ y = 125 ∨ y = 44 := by unfold free at hf; omega
            have hall : tokB Z = false := by
              rw [HR.out]
              cases hh : Z.all freeB with
              | false => rfl
              | true => exact absurd ((freeB_iff _).1 (HY.out ▸ (all_getD Z freeB).1 hh k (by have := LZ.out; omega))) hf
            have HALL := hidg hall
            clear hf HY hall
            rcases hor with rfl | rfl | rfl | rfl | rfl | rfl
            all_goals
              go_wp2
              go_ret
              exact ⟨ret_bool HALL.out.symm, rfl⟩
        · go_wp2
          go_ret
          refine ⟨ret_bool ?_, rfl⟩
          symm
          rw [HR.out, all_getD]
          exact fun j hj => (freeB_iff _).2 (HF.out j (by have := LZ.out; omega))

/-- What tokensOK finds. -/
structure Toks (T : Tree) (m : Nat) (k s e : Int) : Prop where
  root : k = 0 → Tok (sub T.text s e)
  node : ∀ j, j < m → T.kinds.getD j 0 = 0 → Tok (sub T.text (T.st.getD j 0) (T.en.getD j 0))

set_option maxHeartbeats 3200000 in
theorem toks_any (T : Tree) (m : Nat) (ta : Option Addr) (nt ct : Nat) (ka : Option Addr) (kc : Nat) (sa : Option Addr) (sc : Nat) (ea : Option Addr) (ec : Nat) (k s e : Int) (w : World)
    (hta : Sl w .u8 ta nt ct T.text) (hka : Sl w .u8 ka m kc T.kinds) (hsa : Sl w .i64 sa m sc T.st) (hea : Sl w .i64 ea m ec T.en)
    (hroot : k = 0 → 0 ≤ s ∧ s ≤ e ∧ e ≤ T.text.length) (hsc : ∀ j, j < m → T.kinds.getD j 0 = 0 → 0 ≤ T.st.getD j 0 ∧ T.st.getD j 0 ≤ T.en.getD j 0 ∧ T.en.getD j 0 ≤ T.text.length) :
    Calls Try.prog 16 #[.slice ta nt ct, .slice ka m kc, .slice sa m sc, .slice ea m ec, .int .u8 k, .int .i64 s, .int .i64 e] w fun e' w' => BoolRes (Toks T m k s e) e' ∧ w.grownBy w' none := by
  have H1 := hidg hta
  have H2 := hidg hka
  have H3 := hidg hsa
  have H4 := hidg hea
  have HSC := hidg hsc
  have hmm := hka.hlim
  have htl := hta.hlen
  have htc := hta.hcap
  clear hta hka hsa hea hsc
  by_cases hk : k = 0
  · subst hk
    obtain ⟨z0, z1, z2⟩ := hroot rfl
    have z3 : e ≤ nt := by omega
    have z4 : e ≤ ct := by omega
    have HR1 := hidg (H1.out.cut s e z0 z1 z3)
    have HR2 := hidg (fun hz => H1.out.cut0 s e z0 z1 z3 hz)
    clear hroot
    cases hb : tokB (sub T.text s e) with
    | false =>
      go_enter Try.func16, Try.ntmps16
      go_wp2_with fail
      · refine (tok_q _ _ _ (sub T.text s e) _ (HR2.out (by assumption))).mono ?_
        rintro e w' ⟨rfl, rfl⟩
        go_wp2
        go_ret
        exact ⟨boolRes_false _, grown_refl _ _⟩
      · refine (tok_q _ _ _ (sub T.text s e) _ HR1.out).mono ?_
        rintro e w' ⟨rfl, rfl⟩
        go_wp2
        go_ret
        exact ⟨boolRes_false _, grown_refl _ _⟩
    | true =>
      have HRT : Hid ((0 : Int) = 0 → Tok (sub T.text s e)) := fun _ => tokB_tok _ hb
      go_enter Try.func16, Try.ntmps16
      go_wp2_with fail
      · exfalso
        have hz : ct = s.toNat := by assumption
        have hl := sub_len T.text s e z0 z1 z2
        have hlt := (tokB_tok _ hb).pos
        omega
      · refine (tok_q _ _ _ (sub T.text s e) _ HR1.out).mono ?_
        rintro e w' ⟨rfl, rfl⟩
        clear HR1 HR2
        go_wp2
        go_loopw [15] (fun i wr => ∃ n : Nat, n ≤ m ∧ i = .int .i64 n ∧ Hid (∀ j, j < n → T.kinds.getD j 0 = 0 → Tok (sub T.text (T.st.getD j 0) (T.en.getD j 0))) ∧ Hid (w'.grownBy wr none)) (fun i _ => m - (intOf i).toNat)
        case atStart => exact ⟨0, Nat.zero_le _, rfl, fun j h => by omega, grown_refl _ _⟩
        case round =>
          obtain ⟨n, hn, rfl, HF, HG⟩ := hrel
          by_cases hlt : n < m
          · obtain ⟨kb, ko, rfl, ck⟩ := H2.out.cells (by omega)
            obtain ⟨sb, so, rfl, cs⟩ := H3.out.cells (by omega)
            obtain ⟨eb, eo, rfl, ce⟩ := H4.out.cells (by omega)
            have n2 := HG.out.cell (ck n hlt) (by simp)
            have n3 := HG.out.cell (cs n hlt) (by simp)
            have n4 := HG.out.cell (ce n hlt) (by simp)
            have hsn := HSC.out n hlt
            have hni : (n : Int) < (m : Int) := by omega
            clear ck cs ce
            generalize hkj : T.kinds.getD n 0 = kj at *
            generalize hsj : T.st.getD n 0 = sj at *
            generalize hej : T.en.getD n 0 = ej at *
            have HJ := hidg (And.intro hkj (And.intro hsj hej))
            have HSN := hidg hsn
            clear hkj hsj hej hsn
            by_cases hk0 : kj = 0
            · subst hk0
              obtain ⟨z0, z1, z2⟩ := HSN.out rfl
              have z3 : ej ≤ nt := by omega
              have z4 : ej ≤ ct := by omega
              have HSL := hidg (fun nq => ((H1.out.step0 HG.out).step0 (grown_drewN _ nq none)).cutIf sj ej z0 z1 z3)
              cases hb : tokB (sub T.text sj ej) with
              | true =>
                have HB := hidg hb
                go_wp2
                go_quiet ((go_at_call 26; refine Calls.quiet_of_same (tok_q _ _ _ (sub T.text sj ej) _ (HSL.out _))))
                generalize (if ct = sj.toNat then ta else Option.map (fun x => x.add sj.toNat) ta) = ta5
                clear hb
                go_wp2
                go_roundw
                case rel =>
                  refine ⟨n + 1, by omega, by go_num, fun j hj hkj => ?_, grown_step HG.out (grown_drewN _ _ _)⟩
                  by_cases hjn : j = n
                  · subst hjn; rw [HJ.out.2.1, HJ.out.2.2]; exact tokB_tok _ HB.out
                  · exact HF.out j (by omega) hkj
                case measure => simp [intOf]; omega
              | false =>
                go_wp2
                go_quiet ((go_at_call 26; refine Calls.quiet_of_same (tok_q _ _ _ (sub T.text sj ej) _ (HSL.out _))))
                generalize (if ct = sj.toNat then ta else Option.map (fun x => x.add sj.toNat) ta) = ta5
                go_wp2
                go_ret
                exact ⟨boolRes_false _, grown_step HG.out (grown_drewN _ _ _)⟩
            · have e0 : (kj == 0) = false := by simp [hk0]
              have HK0 := hidg hk0
              clear hk0
              go_wp2
              go_quiet (fail)
              go_wp2
              go_roundw
              case rel =>
                refine ⟨n + 1, by omega, by go_num, fun j hj hkj => ?_, grown_step HG.out (grown_drewN _ _ _)⟩
                by_cases hjn : j = n
                · subst hjn; rw [HJ.out.1] at hkj; exact absurd hkj HK0.out
                · exact HF.out j (by omega) hkj
              case measure => simp [intOf]; omega
          · go_wp2
            go_ret
            exact ⟨boolRes_true ⟨fun h => HRT.out (by first | exact h | trivial), fun j hj => HF.out j (by omega)⟩, HG.out⟩
  · have e1 : (k == 0) = false := by simp [hk]
    have HRT : Hid (k = 0 → Tok (sub T.text s e)) := fun h => absurd h hk
    clear hroot hk
    go_enter Try.func16, Try.ntmps16
    go_wp2
    go_loopw [15] (fun i wr => ∃ n : Nat, n ≤ m ∧ i = .int .i64 n ∧ Hid (∀ j, j < n → T.kinds.getD j 0 = 0 → Tok (sub T.text (T.st.getD j 0) (T.en.getD j 0))) ∧ Hid (w.grownBy wr none)) (fun i _ => m - (intOf i).toNat)
    case atStart => exact ⟨0, Nat.zero_le _, rfl, fun j h => by omega, grown_refl _ _⟩
    case round =>
      obtain ⟨n, hn, rfl, HF, HG⟩ := hrel
      by_cases hlt : n < m
      · obtain ⟨kb, ko, rfl, ck⟩ := H2.out.cells (by omega)
        obtain ⟨sb, so, rfl, cs⟩ := H3.out.cells (by omega)
        obtain ⟨eb, eo, rfl, ce⟩ := H4.out.cells (by omega)
        have n2 := HG.out.cell (ck n hlt) (by simp)
        have n3 := HG.out.cell (cs n hlt) (by simp)
        have n4 := HG.out.cell (ce n hlt) (by simp)
        have hsn := HSC.out n hlt
        have hni : (n : Int) < (m : Int) := by omega
        clear ck cs ce
        generalize hkj : T.kinds.getD n 0 = kj at *
        generalize hsj : T.st.getD n 0 = sj at *
        generalize hej : T.en.getD n 0 = ej at *
        have HJ := hidg (And.intro hkj (And.intro hsj hej))
        have HSN := hidg hsn
        clear hkj hsj hej hsn
        by_cases hk0 : kj = 0
        · subst hk0
          obtain ⟨z0, z1, z2⟩ := HSN.out rfl
          have z3 : ej ≤ nt := by omega
          have z4 : ej ≤ ct := by omega
          have HSL := hidg (fun nq => ((H1.out.step0 HG.out).step0 (grown_drewN _ nq none)).cutIf sj ej z0 z1 z3)
          cases hb : tokB (sub T.text sj ej) with
          | true =>
            have HB := hidg hb
            go_wp2
            go_quiet ((go_at_call 26; refine Calls.quiet_of_same (tok_q _ _ _ (sub T.text sj ej) _ (HSL.out _))))
            generalize (if ct = sj.toNat then ta else Option.map (fun x => x.add sj.toNat) ta) = ta5
            clear hb
            go_wp2
            go_roundw
            case rel =>
              refine ⟨n + 1, by omega, by go_num, fun j hj hkj => ?_, grown_step HG.out (grown_drewN _ _ _)⟩
              by_cases hjn : j = n
              · subst hjn; rw [HJ.out.2.1, HJ.out.2.2]; exact tokB_tok _ HB.out
              · exact HF.out j (by omega) hkj
            case measure => simp [intOf]; omega
          | false =>
            go_wp2
            go_quiet ((go_at_call 26; refine Calls.quiet_of_same (tok_q _ _ _ (sub T.text sj ej) _ (HSL.out _))))
            generalize (if ct = sj.toNat then ta else Option.map (fun x => x.add sj.toNat) ta) = ta5
            go_wp2
            go_ret
            exact ⟨boolRes_false _, grown_step HG.out (grown_drewN _ _ _)⟩
        · have e0 : (kj == 0) = false := by simp [hk0]
          have HK0 := hidg hk0
          clear hk0
          go_wp2
          go_quiet (fail)
          go_wp2
          go_roundw
          case rel =>
            refine ⟨n + 1, by omega, by go_num, fun j hj hkj => ?_, grown_step HG.out (grown_drewN _ _ _)⟩
            by_cases hjn : j = n
            · subst hjn; rw [HJ.out.1] at hkj; exact absurd hkj HK0.out
            · exact HF.out j (by omega) hkj
          case measure => simp [intOf]; omega
      · go_wp2
        go_ret
        exact ⟨boolRes_true ⟨fun h => HRT.out (by first | exact h | trivial), fun j hj => HF.out j (by omega)⟩, HG.out⟩
end Go.Proofs.Qxb6603741a
