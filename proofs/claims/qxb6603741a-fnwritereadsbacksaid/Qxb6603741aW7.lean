import Derived.Test.Qxb6603741aW6
namespace Go.Proofs.Qxb6603741a
open Go.RowKit

/-- The canonicalizer in block cb, its nodes in block gN, its texts. -/
structure Env (w : World) (T : Tree) (m cb gN : Nat) (ta : Option Addr) (nt ct : Nat) (an : Option Addr) (nn cn : Nat) : Prop where
  ctext : w.cell? ⟨cb, 2, none⟩ = some (.slice ta nt ct)
  cnames : w.cell? ⟨cb, 3, none⟩ = some (.slice an nn cn)
  cnodes : w.cell? ⟨cb, 4, none⟩ = some (.slice (some ⟨gN, 0, none⟩) m m)
  text : Sl w .u8 ta nt ct T.text
  names : Sl w .u8 an nn cn T.names
  clt : cb < w.heap.size
  glt : gN < w.heap.size
  tlt : ∀ g, At ta g → g < w.heap.size
  nlt : ∀ g, At an g → g < w.heap.size
  node : ∀ j, j < m → w.cell? ⟨gN, 5 * j, none⟩ = some (.int .u8 (T.kinds.getD j 0)) ∧ w.cell? ⟨gN, 5 * j + 1, none⟩ = some (.int .i64 (T.nS.getD j 0)) ∧ w.cell? ⟨gN, 5 * j + 2, none⟩ = some (.int .i64 (T.nE.getD j 0)) ∧ w.cell? ⟨gN, 5 * j + 3, none⟩ = some (.int .i64 (T.st.getD j 0)) ∧ w.cell? ⟨gN, 5 * j + 4, none⟩ = some (.int .i64 (T.en.getD j 0))

def Apart (r : Option Nat) (cb gN : Nat) (ta an : Option Addr) : Prop := ∀ g, r = some g → g ≠ cb ∧ g ≠ gN ∧ ¬ At ta g ∧ ¬ At an g
theorem apart_none (cb gN : Nat) (ta an : Option Addr) : Apart none cb gN ta an := fun g h => by cases h

theorem Env.step {w w' : World} {T : Tree} {m cb gN : Nat} {ta : Option Addr} {nt ct : Nat} {an : Option Addr} {nn cn : Nat} {r : Option Nat} (h : Env w T m cb gN ta nt ct an nn cn) (hg : w.grownBy w' r) (ha : Apart r cb gN ta an) : Env w' T m cb gN ta nt ct an nn cn := by
  have c1 : ∀ o v, w.cell? ⟨cb, o, none⟩ = some v → w'.cell? ⟨cb, o, none⟩ = some v := fun o v hv => hg.cell hv (fun e => (ha cb e.symm).1 rfl)
  have c2 : ∀ o v, w.cell? ⟨gN, o, none⟩ = some v → w'.cell? ⟨gN, o, none⟩ = some v := fun o v hv => hg.cell hv (fun e => (ha gN e.symm).2.1 rfl)
  refine ⟨c1 _ _ h.ctext, c1 _ _ h.cnames, c1 _ _ h.cnodes, h.text.step hg ?_, h.names.step hg ?_, ?_, ?_, ?_, ?_, fun j hj => ?_⟩
  · intro g hr b off hb hbg
    exact (ha g hr).2.2.1 ⟨⟨b, off, none⟩, hb, hbg⟩
  · intro g hr b off hb hbg
    exact (ha g hr).2.2.2 ⟨⟨b, off, none⟩, hb, hbg⟩
  · exact Nat.lt_of_lt_of_le h.clt hg.size
  · exact Nat.lt_of_lt_of_le h.glt hg.size
  · exact fun g hg' => Nat.lt_of_lt_of_le (h.tlt g hg') hg.size
  · exact fun g hg' => Nat.lt_of_lt_of_le (h.nlt g hg') hg.size
  · obtain ⟨h1, h2, h3, h4, h5⟩ := h.node j hj
    exact ⟨c2 _ _ h1, c2 _ _ h2, c2 _ _ h3, c2 _ _ h4, c2 _ _ h5⟩

theorem Apart.next {w w1 : World} {T : Tree} {m cb gN : Nat} {ta : Option Addr} {nt ct : Nat} {an : Option Addr} {nn cn : Nat} {e : TypeId} {v v1 : Value} {n : Nat} (hA : Apart v.ownBlock cb gN ta an) (hE : Env w T m cb gN ta nt ct an nn cn) (hg : Grew e w v n w1 v1) : Apart v1.ownBlock cb gN ta an := by
  rcases hg.place with h | ⟨g, h, hge⟩
  · rw [h]; exact hA
  · intro g' hg'
    rw [h] at hg'
    cases hg'
    exact ⟨by have := hE.clt; omega, by have := hE.glt; omega, fun h' => by have := hE.tlt g h'; omega, fun h' => by have := hE.nlt g h'; omega⟩

set_option maxHeartbeats 1600000 in
set_option maxRecDepth 100000 in
theorem write_scalar (T : Tree) (m cb gN : Nat) (ta : Option Addr) (nt ct : Nat) (an : Option Addr) (nn cn : Nat) (nS nE s e : Int) (B : Nat) (v : Value) (n : Nat) (xs : List Value) (w : World)
    (hE : Env w T m cb gN ta nt ct an nn cn) (hown : w.ownsRow B 5 1 v n xs) (hB : B ≤ w.heap.size) (h0 : 0 ≤ s) (h1 : s < e) (h2 : e ≤ T.text.length) (hlim : n + (sub T.text s e).length ≤ 70368744177664) :
    Calls Try.prog 27 #[.pointer (some ⟨cb, 0, none⟩), v, .agg #[.int .u8 0, .int .i64 nS, .int .i64 nE, .int .i64 s, .int .i64 e]] w fun e' w' => ∃ v', e' = .returned v' ∧ w'.ownsRow B 5 1 v' (n + (sub T.text s e).length) (xs ++ I8 (sub T.text s e)) ∧ Grew 5 w v n w' v' := by
  obtain ⟨i0, hi, hz0, hz1, hz2⟩ := info_parts Try.info5
  have hc2 : ∀ o, (w.alloc o).cell? ⟨cb, 2, none⟩ = some (.slice ta nt ct) := fun o => by rw [World.cell?_alloc_lt _ _ _ (World.block_lt_of_cell? _ _ hE.ctext)]; exact hE.ctext
  have hl := hE.text.hlen
  have hcap := hE.text.hcap
  have hse : e ≤ ct := by omega
  have hsl := sub_len T.text s e h0 (by omega) h2
  rw [hsl] at hlim
  have hE' : ∀ o, Sl ((w.alloc o).drew) .u8 (ta.map (·.add s.toNat)) (e.toNat - s.toNat) (ct - s.toNat) (sub T.text s e) := fun o => (hE.text.step0 (grown_step (World.grownBy_alloc w o none) (grown_drew _ _))).cut s e h0 (by omega) (by omega)
  have hnn : ta.map (·.add s.toNat) ≠ none := by
    obtain ⟨b, off, hao, _⟩ := hE.text.cells (by omega)
    rw [hao]; simp
  have hz : ¬ ct = s.toNat := by omega
  have h1' : s ≤ e := by omega
  have HT := hidg hE'
  have HL := hidg hsl
  have HNN := hidg hnn
  clear hE hE' hl hsl h2 hnn
  go_enter Try.func27, Try.ntmps27
  go_wp2
  go_region_law (refine step_of rfl (op_app _ (.tmp 12) (.tmp 21) 22 rfl B 5 i0 (.int .u8 0) 1 Try.underlying22 hi hz0 hz1 hz2 rfl _ n xs (hown.alloc _).drew rfl _ _ _ (I8 (sub T.text s e)) rfl (by rw [I8_len]; exact HL.out) (fun h => absurd h HNN.out) (HT.out _).src (ints_oneCell _ _) (by unfold maxLen; omega) (by omega) (by simp; omega) ?_); intro v1 w1 hown1 hg1 _)
  all_goals
    have hg2 := hg1.of_drew.of_alloc
    rw [← HL.out] at hown1
    clear hg1 HT HL HNN
    go_wp2
    go_ret
    exact ⟨v1, rfl, hown1, hg2⟩

end Go.Proofs.Qxb6603741a
