import Derived.Test.Qxb6604255aW5
import Derived.Lib.AppendZeros
namespace Go.Proofs.Qxb6604255a
open Go.RowKit
set_option linter.unusedVariables false

theorem grow_own {w : World} (n : Nat) (h0 : 0 < n) (hn : n ≤ 10000) : (w.drew.alloc (.cells (Builtin.zeroCells (Value.int .i64 0).cells n ++ Builtin.zeroCells (Value.int .i64 0).cells (grownCap w n 0 3 - n)) 3)).ownsRow w.heap.size 3 1 (.slice (some ⟨w.heap.size, 0, none⟩) 0 (grownCap w n 0 3)) 0 [] := by
  have hge := grownCap_ge w n 0 3
  have hle := grownCap_le_maxLen w n 0 3 (by unfold maxLen; omega)
  refine ⟨rfl, .inr ⟨_, _, _, rfl, Nat.le_refl _, heap_alloc_new w.drew _, Nat.zero_le _, hle, ?_, by simp⟩⟩
  have hc : (Value.int .i64 0).cells = #[.int .i64 0] := rfl
  rw [hc]
  simp [Builtin.zeroCells]
  omega

set_option maxHeartbeats 1600000 in
theorem grow25 (n : Nat) (h0 : 0 < n) (hn : n ≤ 10000) (w : World) :
    Calls Try.prog 25 #[.slice none 0 0, .int .i64 n] w fun e w' => ∃ v, e = .returned v ∧ w'.ownsRow w.heap.size 3 1 v 0 [] ∧ w.grownBy w' none := by
  obtain ⟨i0, hi0, hz0, hz1, hz2⟩ := info_parts Try.info3
  have hr : ∀ ty, (Builtin.append_ #[26, 3] ty #[.slice none 0 0, .int .i64 n]).run Try.prog w = .ok (.slice (some ⟨w.heap.size, 0, none⟩) n (grownCap w n 0 3)) (w.drew.alloc (.cells (Builtin.zeroCells (Value.int .i64 0).cells n ++ Builtin.zeroCells (Value.int .i64 0).cells (grownCap w n 0 3 - n)) 3)) :=
    fun ty => Lib.run_append_nil_zeros w 26 3 ty 3 i0 (.int .i64 0) .i64 .i64 Try.underlying26 Try.underlying3 hi0 hz0 n h0 (by omega) (by omega) (by rw [hz2]; omega)
  have HO := hidg (grow_own (w := w) n h0 hn)
  have hge := grownCap_ge w n 0 3
  have hle := grownCap_le_maxLen w n 0 3 (by unfold maxLen; omega)
  unfold maxLen at hle
  have HG : Hid (w.grownBy (w.drew.alloc (.cells (Builtin.zeroCells (Value.int .i64 0).cells n ++ Builtin.zeroCells (Value.int .i64 0).cells (grownCap w n 0 3 - n)) 3)) none) := grown_alloc (grown_drew w none) _
  generalize hw2 : (w.drew.alloc (.cells (Builtin.zeroCells (Value.int .i64 0).cells n ++ Builtin.zeroCells (Value.int .i64 0).cells (grownCap w n 0 3 - n)) 3)) = w2 at *
  generalize grownCap w n 0 3 = gc at *
  clear hw2
  have hp : (0 : Int) < n := by omega
  go_enter Try.func25, Try.ntmps25
  go_wp2_with (at_builtin; refine Lib.wpList_append_run _ rfl _ _ _ _ rfl _ _ rfl rfl _ _ (hr _) ?_)
  go_ret
  exact ⟨_, rfl, HO.out, HG.out⟩

/-- What Concat has gathered before its i-th slice. -/
def cS (n1 n2 i : Nat) : Nat := if i = 0 then 0 else if i = 1 then n1 else n1 + n2
def cL (X Y : List Value) (i : Nat) : List Value := if i = 0 then [] else if i = 1 then X else X ++ Y

set_option maxHeartbeats 3200000 in
set_option maxRecDepth 100000 in
theorem concat24 (pb pc n1 n2 c1 c2 : Nat) (a1 a2 : Addr) (X Y : List Value) (w : World) (hX : X.length = n1) (hY : Y.length = n2) (hn : 0 < n1 + n2) (hl : n1 + n2 ≤ 10000)
    (p0 : w.cell? ⟨pb, 0, none⟩ = some (.slice (some a1) n1 c1)) (p1 : w.cell? ⟨pb, 1, none⟩ = some (.slice (some a2) n2 c2))
    (hX1 : ∀ j u, X[j]? = some u → w.cell? (a1.add j) = some u) (hY1 : ∀ j u, Y[j]? = some u → w.cell? (a2.add j) = some u) (oX : ∀ u ∈ X, u.oneCell' = true) (oY : ∀ u ∈ Y, u.oneCell' = true)
    (hb1 : a1.block < w.heap.size) (hb2 : a2.block < w.heap.size) :
    Calls Try.prog 24 #[.slice (some ⟨pb, 0, none⟩) 2 pc] w fun e w' => ∃ v, e = .returned v ∧ w'.ownsRow w.heap.size 3 1 v (n1 + n2) (X ++ Y) ∧ w.grownBy w' none := by
  obtain ⟨i0, hi0, hz0, hz1, hz2⟩ := info_parts Try.info3
  have HX := hidg hX1
  have HY := hidg hY1
  have HL := hidg (And.intro hX hY)
  have OX := hidg oX
  have OY := hidg oY
  have hpb : pb < w.heap.size := World.block_lt_of_cell? _ _ p0
  clear hX hY hX1 hY1 oX oY
  go_enter Try.func24, Try.ntmps24
  go_wp2
  go_loopg [3, 11] 2 (fun q sz iv wr => ∃ i : Nat, i ≤ 2 ∧ q = 2 - i ∧ iv = .int .i64 i ∧ sz = .int .i64 (cS n1 n2 i) ∧ wr = w)
  case atStart => exact ⟨0, by omega, rfl, rfl, rfl, rfl⟩
  case round =>
    obtain ⟨i, hi, rfl, rfl, rfl, rfl⟩ := hrel
    by_cases h0 : i = 0
    · subst h0
      have e0 : cS n1 n2 0 = 0 := rfl
      rw [e0]
      clear e0
      go_wp2
      go_roundg 1
      case rel => exact ⟨1, by omega, rfl, rfl, by simp [cS], rfl⟩
      case measure => omega
    · by_cases h1 : i = 1
      · subst h1
        have e0 : cS n1 n2 1 = n1 := rfl
        rw [e0]
        clear e0
        go_wp2
        go_roundg 0
        case rel => exact ⟨2, by omega, rfl, rfl, by simp [cS], rfl⟩
        case measure => omega
      · obtain rfl : i = 2 := by omega
        have e0 : cS n1 n2 2 = n1 + n2 := rfl
        rw [e0]
        clear e0 h0 h1
        go_wp2_with fail
        refine (grow25 (n1 + n2) hn hl wr).mono ?_
        rintro e w1 ⟨v, rfl, hown, hg⟩
        have E1 := hidg (And.intro hown hg)
        clear hown hg
        go_wp2
        obtain ⟨wo, rfl⟩ : ∃ wo : World, wo = wr := ⟨_, rfl⟩
        go_loopg [6, 27] 2 (fun q vs iv wr => ∃ i : Nat, i ≤ 2 ∧ q = 2 - i ∧ iv = .int .i64 i ∧ Hid (wr.ownsRow wo.heap.size 3 1 vs (cS n1 n2 i) (cL X Y i) ∧ wo.grownBy wr none))
        case atStart => exact ⟨0, by omega, rfl, rfl, E1.out⟩
        case round =>
          clear E1
          obtain ⟨i, hi, rfl, rfl, E⟩ := hrel
          have q0 := E.out.2.cell p0 (by simp)
          have q1 := E.out.2.cell p1 (by simp)
          by_cases h0 : i = 0
          · subst h0
            have hv := E.out.1
            obtain ⟨v', cap, rfl, _, hcp, _, _⟩ := owns_shape hv
            clear hv
            go_wp2_with (at_builtin; refine Hid.out ?_)
            refine hidg ?_
            refine wpList_of rfl fun K hK => ?_
            refine op_app _ _ _ 26 rfl wo.heap.size 3 i0 (.int .i64 0) 8 Try.underlying26 hi0 hz0 hz1 hz2 rfl _ (cS n1 n2 0) (cL X Y 0) E.out.1 rfl (some a1) n1 c1 X rfl HL.out.1 (fun h => by cases h) ?_ OX.out (by unfold maxLen; simp [cS]; omega) (by simp [cS]; omega) E.out.2.size ?_
            · intro ad had j u hu
              cases had
              exact E.out.2.cell (HX.out j u hu) (by simp)
            intro v3 w3 hown3 hgr3 _
            refine hK _ _ ?_
            have E3 : Hid (w3.ownsRow wo.heap.size 3 1 v3 (cS n1 n2 1) (cL X Y 1) ∧ wo.grownBy w3 none) := by
              refine ⟨?_, ?_⟩
              · simpa [cS, cL] using hown3
              · refine grown_trans E.out.2 hgr3.frame ?_
                cases ho : (Value.slice v' (cS n1 n2 0) cap).ownBlock with
                | none => exact .inl rfl
                | some g => exact .inr (.inr ⟨g, rfl, owns_ge E.out.1 ho⟩)
            clear hown3 hgr3 hK
            go_wp2
            go_roundg 1
            case rel => exact ⟨1, by omega, rfl, rfl, E3.out⟩
            case measure => omega
          · by_cases h1 : i = 1
            · subst h1
              have hv := E.out.1
              obtain ⟨v', cap, rfl, _, hcp, _, _⟩ := owns_shape hv
              clear hv
              go_wp2_with (at_builtin; refine Hid.out ?_)
              refine hidg ?_
              refine wpList_of rfl fun K hK => ?_
              refine op_app _ _ _ 26 rfl wo.heap.size 3 i0 (.int .i64 0) 8 Try.underlying26 hi0 hz0 hz1 hz2 rfl _ (cS n1 n2 1) (cL X Y 1) E.out.1 rfl (some a2) n2 c2 Y rfl HL.out.2 (fun h => by cases h) ?_ OY.out (by unfold maxLen; simp [cS]; omega) (by simp [cS]; omega) E.out.2.size ?_
              · intro ad had j u hu
                cases had
                exact E.out.2.cell (HY.out j u hu) (by simp)
              intro v3 w3 hown3 hgr3 _
              refine hK _ _ ?_
              have E3 : Hid (w3.ownsRow wo.heap.size 3 1 v3 (cS n1 n2 2) (cL X Y 2) ∧ wo.grownBy w3 none) := by
                refine ⟨?_, ?_⟩
                · simpa [cS, cL] using hown3
                · refine grown_trans E.out.2 hgr3.frame ?_
                  cases ho : (Value.slice v' (cS n1 n2 1) cap).ownBlock with
                  | none => exact .inl rfl
                  | some g => exact .inr (.inr ⟨g, rfl, owns_ge E.out.1 ho⟩)
              clear hown3 hgr3 hK
              go_wp2
              go_roundg 0
              case rel => exact ⟨2, by omega, rfl, rfl, E3.out⟩
              case measure => omega
            · obtain rfl : i = 2 := by omega
              go_wp2
              go_ret
              exact ⟨_, rfl, E.out.1, E.out.2⟩
end Go.Proofs.Qxb6604255a
