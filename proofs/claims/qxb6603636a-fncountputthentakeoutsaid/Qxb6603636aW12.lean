import Derived.Test.Qxb6603636aW13
import Derived.Deep.QuietTactic
import Derived.BigQuiet
import Derived.Deep.RegionWith
namespace Go.Proofs.Qxb6603636a
open Go.RowKit

/-- Block b holds a 'values' with these tallies. -/
structure Vals (w : World) (b : Nat) (live data : Int) : Prop where
  c1 : w.cell? ⟨b, 1, none⟩ = some (.int .i64 live)
  c2 : w.cell? ⟨b, 2, none⟩ = some (.int .i64 data)
  f1 : w.frozen? ⟨b, 1, none⟩ = false
  f2 : w.frozen? ⟨b, 2, none⟩ = false

theorem cell_drew (w : World) (a : Addr) : w.drew.cell? a = w.cell? a := rfl
theorem vals_set {w : World} {b : Nat} {l d : Int} (hv : Vals w b l d) (l' d' : Int) :
    Vals ((w.setCell ⟨b, 1, none⟩ (.int .i64 l')).setCell ⟨b, 2, none⟩ (.int .i64 d')).drew b l' d' ∧ Below b w ((w.setCell ⟨b, 1, none⟩ (.int .i64 l')).setCell ⟨b, 2, none⟩ (.int .i64 d')).drew := by
  obtain ⟨c1, c2, f1, f2⟩ := hv
  refine ⟨⟨?_, ?_, ?_, ?_⟩, ?_⟩
  · exact (World.cell?_setCell_other _ _ _ _ (by simp)).trans (World.cell?_setCell_same _ _ _ c1)
  · exact World.cell?_setCell_same _ _ _ ((World.cell?_setCell_other _ _ _ _ (by simp)).trans c2)
  · simpa using f1
  · simpa using f2
  · exact (((Below.refl b w).setCell (Nat.le_refl _) _).setCell (Nat.le_refl _) _).drew

set_option maxHeartbeats 400000 in
theorem count_any (b : Nat) (ks : Nat) (ao : Option Addr) (len cap : Nat) (by_ : Int) (w : World) (live data : Int) (h1 : ks < 4294967296) (h2 : len < 4294967296) (h3 : ao = none → len = 0 ∧ cap = 0)
    (hv : Vals w b live data) :
    Calls Try.prog 12 #[.pointer (some ⟨b, 0, none⟩), .int .i64 ks, .slice ao len cap, .int .i64 by_] w fun e w' => e = .returned (.tuple #[]) ∧
      Vals w' b (wrap64 (live + wrap64 (by_ * (ws ao.isNone ks len)))) (wrap64 (data + wrap64 (by_ * (ks + len)))) ∧ Below b w w' := by
  have hfin := vals_set hv (wrap64 (live + wrap64 (by_ * (ws ao.isNone ks len)))) (wrap64 (data + wrap64 (by_ * (ks + len))))
  have HF := hidg hfin
  clear hfin
  obtain ⟨c1, c2, f1, f2⟩ := hv
  go_enter Try.func12, Try.ntmps12
  go_wp2
  go_region_with (go_at_call 13; refine (ws_any _ _ _ _ _ (by omega) (by omega) h3).mono ?_; rintro e w' ⟨rfl, rfl⟩)
  all_goals (go_wp2; go_end0; exact ⟨rfl, HF.out⟩)
end Go.Proofs.Qxb6603636a
