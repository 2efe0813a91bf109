import Derived.Test.Qxb6603741aW14
namespace Go.Proofs.Qxb6603741a
open Go.RowKit

theorem Try.info4 : (Try.prog.info? 4).map (fun i => (i.zero, i.size, i.bytes)) = some (some (.bool false), 1, 1) := by kernel_rfl

/-- The marks: a row of bools that the call owns. -/
structure Marks (w : World) (g m : Nat) (B : Nat → Bool) : Prop where
  cell : ∀ o, o < m → w.cell? ⟨g, o, none⟩ = some (.bool (B o))
  free : ∀ o, o < m → w.frozen? ⟨g, o, none⟩ = false
theorem Marks.set {w : World} {g m : Nat} {B : Nat → Bool} (h : Marks w g m B) (o : Nat) (ho : o < m) (v : Bool) : Marks (w.setCell ⟨g, o, none⟩ (.bool v)) g m (fun j => if j = o then v else B j) := by
  refine ⟨fun j hj => ?_, fun j hj => ?_⟩
  · by_cases hjo : j = o
    · subst hjo; rw [if_pos rfl]; exact World.cell?_setCell_same _ _ _ (h.cell j hj)
    · rw [if_neg hjo, set_oth _ hjo]; exact h.cell j hj
  · simpa using h.free j hj
theorem Marks.step {w w' : World} {g m : Nat} {B : Nat → Bool} (h : Marks w g m B) (hg : w.grownBy w' none) : Marks w' g m B := by
  refine ⟨fun o ho => hg.cell (h.cell o ho) (by simp), fun o ho => ?_⟩
  have hl := World.block_lt_of_cell? _ _ (h.cell o ho)
  have := hg.block g hl (by simp)
  rw [World.frozen?_of_block (w := w) (w' := w') this]
  exact h.free o ho

/-- claimSpan: where it says yes none of the span was marked, and now all of it is. -/
def ClaimRes (w : World) (g m s e : Nat) (B : Nat → Bool) (e' : Ending) (w' : World) : Prop :=
  ∃ b, e' = .returned (.bool b) ∧ (b = true → (∀ j, s ≤ j → j < e → B j = false) ∧ Marks w' g m (fun j => decide (s ≤ j ∧ j < e) || B j)) ∧ w.grownBy w' (some g)

set_option maxHeartbeats 800000 in
theorem claim_any (g m : Nat) (cap : Nat) (s e : Nat) (B : Nat → Bool) (w : World) (hm : m ≤ 1048576) (hse : s ≤ e) (hem : e ≤ m) (hM : Marks w g m B) :
    Calls Try.prog 24 #[.slice (some ⟨g, 0, none⟩) m cap, .int .i64 s, .int .i64 e] w fun e' w' => ClaimRes w g m s e B e' w' := by
  have HM := hidg hM
  clear hM
  go_enter Try.func24, Try.ntmps24
  go_wp2
  go_loopw [7] (fun k wr => ∃ i : Nat, s ≤ i ∧ i ≤ e ∧ k = .int .i64 i ∧ Hid ((∀ j, s ≤ j → j < i → B j = false) ∧ Marks wr g m (fun j => decide (s ≤ j ∧ j < i) || B j) ∧ w.grownBy wr (some g))) (fun k _ => e - (intOf k).toNat)
  case atStart =>
    refine ⟨s, Nat.le_refl _, hse, rfl, fun j h1 h2 => by omega, ?_, grown_refl _ _⟩
    have : (fun j => decide (s ≤ j ∧ j < s) || B j) = B := by funext j; rw [decide_eq_false (by omega)]; rfl
    rw [this]; exact HM.out
  case round =>
    obtain ⟨i, hi1, hi2, rfl, HR⟩ := hrel
    by_cases hlt : i < e
    · have ci := HR.out.2.1.cell i (by omega)
      have fi := HR.out.2.1.free i (by omega)
      have hbi : (decide (s ≤ i ∧ i < i) || B i) = B i := by rw [decide_eq_false (by omega)]; rfl
      rw [hbi] at ci
      have him : (i : Int) < (m : Int) := by omega
      clear hbi
      cases hb : B i with
      | true =>
        rw [hb] at ci
        have HG := hidg HR.out.2.2
        clear HR hb
        go_wp2
        go_ret
        exact ⟨false, rfl, (fun h => by cases h), HG.out⟩
      | false =>
        rw [hb] at ci
        have HB := hidg hb
        have R : Hid ((∀ j, s ≤ j → j < i + 1 → B j = false) ∧ Marks (wr.setCell ⟨g, i, none⟩ (.bool true)) g m (fun j => decide (s ≤ j ∧ j < i + 1) || B j) ∧ w.grownBy (wr.setCell ⟨g, i, none⟩ (.bool true)) (some g)) := by
          refine ⟨fun j h1 h2 => ?_, ?_, ?_⟩
          · by_cases hji : j = i
            · rw [hji]; exact hb
            · exact HR.out.1 j h1 (by omega)
          · have h := HR.out.2.1.set i (by omega) true
            have hf : (fun j => if j = i then true else (decide (s ≤ j ∧ j < i) || B j)) = (fun j => decide (s ≤ j ∧ j < i + 1) || B j) := by
              funext j
              by_cases hji : j = i
              · subst hji; rw [if_pos rfl, decide_eq_true (by omega)]; rfl
              · rw [if_neg hji]
                congr 1
                rw [Bool.eq_iff_iff]; simp; omega
            rw [hf] at h; exact h
          · have h := HR.out.2.2
            refine ⟨h.os, h.tape, h.output, by have := h.size; simpa [World.setCell] using this, fun k hk hne => ?_⟩
            rw [Below.heap_setCell _ _ _ _ (by intro hh; exact hne (by rw [hh]))]
            exact h.block k hk hne
        clear HR hb
        go_wp2
        go_roundw
        case rel => exact ⟨i + 1, by omega, by omega, by go_num, R.out⟩
        case measure => simp [intOf]; omega
    · obtain rfl : i = e := by omega
      go_wp2
      go_ret
      exact ⟨true, rfl, fun _ => ⟨HR.out.1, HR.out.2.1⟩, HR.out.2.2⟩

def NamesOK (T : Tree) (s e : Nat) : Prop := ∀ j, s ≤ j → j < e → 0 ≤ T.nS.getD j 0 ∧ T.nS.getD j 0 ≤ T.nE.getD j 0 ∧ T.nE.getD j 0 ≤ T.names.length
def AddRes (T : Tree) (w : World) (s e : Nat) (e' : Ending) (w' : World) : Prop :=
  ∃ u ok, e' = .returned (.tuple #[.int .i64 u, .bool ok]) ∧ (ok = true → 0 ≤ u ∧ u ≤ 1048576 ∧ NamesOK T s e) ∧ w.grownBy w' none
theorem addRes_false (T : Tree) (w : World) (s e : Nat) (u : Int) (w' : World) (hg : w.grownBy w' none) : AddRes T w s e (.returned (.tuple #[.int .i64 u, .bool false])) w' := ⟨u, false, rfl, (fun h => by cases h), hg⟩

set_option maxHeartbeats 1600000 in
theorem add_any (T : Tree) (m : Nat) (an : Option Addr) (nn cn : Nat) (nsa : Option Addr) (nsc : Nat) (nea : Option Addr) (nec : Nat) (s e : Nat) (unf : Int) (w : World) (hm : m ≤ 1048576) (hse : s ≤ e) (hem : e ≤ m)
    (han : Sl w .u8 an nn cn T.names) (hnn : nn ≤ 1048576) (hnsa : Sl w .i64 nsa m nsc T.nS) (hnea : Sl w .i64 nea m nec T.nE) (hu0 : 0 ≤ unf) (hu1 : unf ≤ 1048576) :
    Calls Try.prog 25 #[.slice an nn cn, .slice nsa m nsc, .slice nea m nec, .int .i64 s, .int .i64 e, .int .i64 unf] w fun e' w' => AddRes T w s e e' w' := by
  have H2 := hidg hnsa
  have H3 := hidg hnea
  have HNL := hidg han.hlen
  clear hnsa hnea han
  go_enter Try.func25, Try.ntmps25
  go_wp2
  go_loopw [14, 5] (fun k u wr => ∃ (i : Nat) (x : Int), s ≤ i ∧ i ≤ e ∧ k = .int .i64 i ∧ u = .int .i64 x ∧ 0 ≤ x ∧ x ≤ 1048576 ∧ Hid (NamesOK T s i) ∧ Hid (w.grownBy wr none)) (fun k _ _ => e - (intOf k).toNat)
  case atStart => exact ⟨s, unf, Nat.le_refl _, hse, rfl, rfl, hu0, hu1, fun j h1 h2 => by omega, grown_refl _ _⟩
  case round =>
    obtain ⟨i, x, hi1, hi2, rfl, rfl, hx0, hx1, HN, HG⟩ := hrel
    by_cases hlt : i < e
    · obtain ⟨sb, so, rfl, cs⟩ := H2.out.cells (by omega)
      obtain ⟨eb, eo, rfl, ce⟩ := H3.out.cells (by omega)
      have n2 := HG.out.cell (cs i (by omega)) (by simp)
      have n3 := HG.out.cell (ce i (by omega)) (by simp)
      have him : (i : Int) < (m : Int) := by omega
      clear cs ce
      generalize hsj : T.nS.getD i 0 = sj at *
      generalize hej : T.nE.getD i 0 = ej at *
      have HJ := hidg (And.intro hsj hej)
      clear hsj hej
      by_cases hsp : 0 ≤ sj ∧ sj ≤ ej ∧ ej ≤ nn
      · have hb : spanB sj ej nn = true := decide_eq_true hsp
        have HSP := hidg hsp
        obtain ⟨p0, p1, p2⟩ := hsp
        by_cases hov : x + (ej - sj) ≤ 1048576
        · go_wp2
          go_quiet ((go_at_call 23; exact Calls.quiet_of_same (span_any _ _ _ _)))
          go_wp2
          go_quiet (fail)
          go_wp2
          go_roundw
          case rel =>
            refine ⟨i + 1, x + (ej - sj), by omega, by omega, by go_num, rfl, by omega, hov, fun j h1 h2 => ?_, ?_⟩
            · by_cases hji : j = i
              · subst hji; rw [HJ.out.1, HJ.out.2, HNL.out]; exact HSP.out
              · exact HN.out j h1 (by omega)
            · exact grown_step HG.out (grown_drewN _ _ none)
          case measure => simp [intOf]; omega
        · go_wp2
          go_quiet ((go_at_call 23; exact Calls.quiet_of_same (span_any _ _ _ _)))
          go_wp2
          go_quiet (fail)
          go_wp2
          go_ret2
          exact addRes_false T w s e _ _ (grown_step HG.out (grown_drewN _ _ none))
      · have hb : spanB sj ej nn = false := decide_eq_false hsp
        clear hsp
        go_wp2
        go_quiet ((go_at_call 23; exact Calls.quiet_of_same (span_any _ _ _ _)))
        go_wp2
        go_ret2
        exact addRes_false T w s e _ _ (grown_step HG.out (grown_drewN _ _ none))
    · obtain rfl : i = e := by omega
      go_wp2
      go_ret2
      exact ⟨x, true, rfl, fun _ => ⟨hx0, hx1, HN.out⟩, HG.out⟩
end Go.Proofs.Qxb6603741a
