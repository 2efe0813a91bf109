import Derived.Test.Qxb6603741aW5
import Derived.Test.Qxb6603741aPlain2
namespace Go.Proofs.Qxb6603741a
open Go.RowKit

/-- A slice of a slice that is only read. -/
theorem Sl.cut {w : World} {k : IntKind} {ao : Option Addr} {n cap : Nat} {zs : List Int} (h : Sl w k ao n cap zs) (s e : Int) (h0 : 0 ≤ s) (h1 : s ≤ e) (h2 : e ≤ n) :
    Sl w k (ao.map (·.add s.toNat)) (e.toNat - s.toNat) (cap - s.toNat) (sub zs s e) := by
  have hl := h.hlen
  have hc := h.hcap
  have hm := h.hlim
  refine ⟨sub_len zs s e h0 h1 (by omega), by omega, ?_, by omega, ?_⟩
  · intro hn
    have : ao = none := by cases ao with
      | none => rfl
      | some a => cases hn
    have := h.hnil this
    omega
  · intro hpos
    obtain ⟨b, off, hao, hcell⟩ := h.cells (by omega)
    subst hao
    refine ⟨b, off + s.toNat, by simp [Addr.add_lit], fun j hj => ?_⟩
    rw [sub_getD zs s e j (by omega), Nat.add_assoc]
    exact hcell _ (by omega)
theorem Sl.cut0 {w : World} {k : IntKind} {ao : Option Addr} {n cap : Nat} {zs : List Int} (h : Sl w k ao n cap zs) (s e : Int) (h0 : 0 ≤ s) (h1 : s ≤ e) (h2 : e ≤ n) (hz : cap = s.toNat) :
    Sl w k ao (e.toNat - s.toNat) 0 (sub zs s e) := by
  have hl := h.hlen
  have hc := h.hcap
  refine ⟨sub_len zs s e h0 h1 (by omega), by omega, fun _ => rfl, by omega, fun hpos => by omega⟩
/-- The slice's address lies in block b. -/
def At (ao : Option Addr) (b : Nat) : Prop := ∃ ad, ao = some ad ∧ ad.block = b
/-- Every address of the first lies in the second's block. -/
def Within (a' ao : Option Addr) : Prop := ∀ b off, a' = some ⟨b, off, none⟩ → At ao b
theorem within_refl (ao : Option Addr) : Within ao ao := fun b off h => ⟨⟨b, off, none⟩, h, rfl⟩
theorem cut_block {ao : Option Addr} {s : Nat} : Within (ao.map (·.add s)) ao := by
  intro b off h
  cases ao with
  | none => cases h
  | some a =>
    refine ⟨a, rfl, ?_⟩
    simp only [Option.map_some, Option.some.injEq] at h
    have := congrArg Addr.block h
    simp only at this
    rw [← this]
    unfold Addr.add
    split <;> rfl

set_option maxHeartbeats 800000 in
theorem name_any (cb : Nat) (k nS nE s e : Int) (an : Option Addr) (nn cn : Nat) (N : List Int) (w : World) (hcell : w.cell? ⟨cb, 3, none⟩ = some (.slice an nn cn)) (hN : Sl w .u8 an nn cn N)
    (h0 : 0 ≤ nS) (h1 : nS ≤ nE) (h2 : nE ≤ nn) :
    Calls Try.prog 29 #[.pointer (some ⟨cb, 0, none⟩), .agg #[.int .u8 k, .int .i64 nS, .int .i64 nE, .int .i64 s, .int .i64 e]] w fun e' w' => ∃ a' n' c', e' = .returned (.slice a' n' c') ∧ Sl w' .u8 a' n' c' (sub N nS nE) ∧ Within a' an ∧ w.grownBy w' none := by
  have hl := hN.hlen
  have hcap := hN.hcap
  have hlim := hN.hlim
  have HN := hidg hN
  clear hN
  have hc2 : ∀ o, (w.alloc o).cell? ⟨cb, 3, none⟩ = some (.slice an nn cn) := fun o => by rw [World.cell?_alloc_lt _ _ _ (World.block_lt_of_cell? _ _ hcell)]; exact hcell
  go_enter Try.func29, Try.ntmps29
  go_wp2
  go_quiet (fail)
  have hg : ∀ o nq, w.grownBy ((w.alloc o).drewN nq) none := fun o nq => grown_step (World.grownBy_alloc w o none) (grown_drewN _ _ _)
  have H1 := hidg (fun o nq => (HN.out.step0 (hg o nq)).cut nS nE h0 h1 h2)
  have H2 := hidg (fun o nq hz => (HN.out.step0 (hg o nq)).cut0 nS nE h0 h1 h2 hz)
  have HG := hidg hg
  clear hg
  go_wp2
  all_goals go_ret
  · refine ⟨_, _, _, rfl, H2.out _ _ (by assumption), within_refl _, HG.out _ _⟩
  · refine ⟨_, _, _, rfl, H1.out _ _, cut_block, HG.out _ _⟩
end Go.Proofs.Qxb6603741a
