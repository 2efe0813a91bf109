import Derived.Test.Qxb6604255aW8
namespace Go.Proofs.Qxb6604255a
open Go.RowKit
set_option linter.unusedVariables false

def Plainly (sa : Option Addr) : Prop := sa = none ∨ ∃ b off, sa = some ⟨b, off, none⟩
/-- What successors hands back. -/
def SuccRes (sa : Option Addr) (j0 j1 : Nat) (w : World) (e : Ending) (w' : World) : Prop :=
  ∃ a c, e = .returned (.slice a (j1 - j0) c) ∧ (j0 < j1 → ∀ sb so, sa = some ⟨sb, so, none⟩ → a = some ⟨sb, so + j0, none⟩) ∧ w.grownBy w' none

set_option maxHeartbeats 3200000 in
set_option maxRecDepth 100000 in
theorem successors19 (G : Gr) (u db : Nat) (fa sa : Option Addr) (fc ns sc : Nat) (w : World) (hD : DgAt G w db fa sa fc ns sc) (hG : GrAt G w fa sa fc ns sc) (hP : Plainly sa) (hu : u < G.n) (j0 j1 : Nat) (e0 : G.first.getD u 0 = (j0 : Int)) (e1 : G.first.getD (u + 1) 0 = (j1 : Int)) :
    Calls Try.prog 19 #[.pointer (some ⟨db, 0, none⟩), .int .i64 u] w fun e w' => SuccRes sa j0 j1 w e w' := by
  obtain ⟨d0, d1, d2⟩ := hD
  obtain ⟨fb, fo, j0', j1', rfl, hj, hjn, e0', e1', c0, c1⟩ := hG.node u hu
  obtain rfl : j0 = j0' := by omega
  obtain rfl : j1 = j1' := by omega
  have hnn := hG.hn
  have hns := hG.hs
  have hcap := hG.S.hcap
  have hnil := hG.S.hnil
  have q1 : (u : Int) < G.n := by omega
  clear hG e0 e1 e0' e1' d0
  rcases hP with rfl | ⟨sb, so, rfl⟩
  · have h0 := hnil rfl
    obtain rfl : ns = 0 := by omega
    obtain rfl : j1 = 0 := by omega
    obtain rfl : j0 = 0 := by omega
    subst h0
    go_enter Try.func19, Try.ntmps19
    go_wp2
    go_quiet (fail)
    go_wp2
    go_ret
    exact ⟨_, _, rfl, (fun _ _ _ h => by cases h), grown_drewN _ _ none⟩
  · have q2 : (j0 : Int) ≤ j1 := by omega
    have q3 : (j1 : Int) ≤ sc := by omega
    have q4 : j1 ≤ sc := by omega
    clear hnil
    go_enter Try.func19, Try.ntmps19
    go_wp2
    go_quiet (fail)
    go_wp2
    · go_ret
      exact ⟨_, _, rfl, (fun h0 _ _ h => by omega), grown_drewN _ _ none⟩
    · go_ret
      exact ⟨_, _, rfl, (fun _ _ _ h => by cases h; rfl), grown_drewN _ _ none⟩
end Go.Proofs.Qxb6604255a
