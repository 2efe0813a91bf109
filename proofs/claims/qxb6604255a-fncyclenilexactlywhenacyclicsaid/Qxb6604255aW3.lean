import Derived.Test.Qxb6604255aW2
import Derived.Test.Qxb6604255aKit2
import Derived.Test.Qxb6604255aPlain2
namespace Go.Proofs.Qxb6604255a
open Go.RowKit
set_option linter.unusedVariables false

theorem Try.info3 : (Try.prog.info? 3).map (fun i => (i.zero, i.size, i.bytes)) = some (some (.int .i64 0), 1, 8) := by kernel_rfl
theorem Try.info4 : (Try.prog.info? 4).map (fun i => (i.zero, i.size, i.bytes)) = some (some (.bool false), 1, 1) := by kernel_rfl
theorem Try.info21 : (Try.prog.info? 21).map (fun i => (i.zero, i.size, i.bytes)) = some (some (.int .i32 0), 1, 4) := by kernel_rfl

/-- A row of the call's own, told by the index. -/
structure Rw (w : World) (g m : Nat) (V : Nat → Value) : Prop where
  cell : ∀ o, o < m → w.cell? ⟨g, o, none⟩ = some (V o)
  free : ∀ o, o < m → w.frozen? ⟨g, o, none⟩ = false
/-- .. of integers, of bools. -/
def IR (w : World) (k : IntKind) (g m : Nat) (f : Nat → Int) : Prop := Rw w g m (fun o => .int k (f o))
def BR (w : World) (g m : Nat) (f : Nat → Bool) : Prop := Rw w g m (fun o => .bool (f o))

theorem set_oth {w : World} {g o j : Nat} (v : Value) (h : j ≠ o) : (w.setCell ⟨g, o, none⟩ v).cell? ⟨g, j, none⟩ = w.cell? ⟨g, j, none⟩ :=
  World.cell?_setCell_other _ _ _ _ (by simp <;> omega)
theorem set_oblk {w : World} {g b o j : Nat} (v : Value) (h : b ≠ g) : (w.setCell ⟨b, o, none⟩ v).cell? ⟨g, j, none⟩ = w.cell? ⟨g, j, none⟩ :=
  World.cell?_setCell_other _ _ _ _ (by simp <;> omega)

theorem Rw.set {w : World} {g m : Nat} {V : Nat → Value} (h : Rw w g m V) (o : Nat) (ho : o < m) (v : Value) : Rw (w.setCell ⟨g, o, none⟩ v) g m (upd V o v) := by
  refine ⟨fun j hj => ?_, fun j hj => ?_⟩
  · by_cases hjo : j = o
    · subst hjo; rw [upd_same]; exact World.cell?_setCell_same _ _ _ (h.cell j hj)
    · rw [upd_other _ _ hjo, set_oth _ hjo]; exact h.cell j hj
  · simpa using h.free j hj
theorem Rw.setO {w : World} {g m b : Nat} {V : Nat → Value} (h : Rw w g m V) (hb : b ≠ g) (o : Nat) (v : Value) : Rw (w.setCell ⟨b, o, none⟩ v) g m V := by
  refine ⟨fun j hj => ?_, fun j hj => ?_⟩
  · rw [set_oblk _ hb]; exact h.cell j hj
  · simpa using h.free j hj
theorem Rw.stepR {w w' : World} {g m : Nat} {V : Nat → Value} {r : Option Nat} (h : Rw w g m V) (hg : w.grownBy w' r) (hr : r ≠ some g) : Rw w' g m V := by
  refine ⟨fun o ho => hg.cell (h.cell o ho) (fun e => hr e.symm), fun o ho => ?_⟩
  have hl := World.block_lt_of_cell? _ _ (h.cell o ho)
  have := hg.block g hl (fun e => hr e.symm)
  rw [World.frozen?_of_block (w := w) (w' := w') this]
  exact h.free o ho
theorem Rw.step {w w' : World} {g m : Nat} {V : Nat → Value} (h : Rw w g m V) (hg : w.grownBy w' none) : Rw w' g m V := h.stepR hg (by simp)

theorem IR.set {w : World} {k : IntKind} {g m : Nat} {f : Nat → Int} (h : IR w k g m f) (o : Nat) (ho : o < m) (x : Int) : IR (w.setCell ⟨g, o, none⟩ (.int k x)) k g m (upd f o x) := by
  have := Rw.set h o ho (.int k x)
  have e : upd (fun o => Value.int k (f o)) o (.int k x) = fun j => Value.int k (upd f o x j) := by funext j; unfold upd; split <;> rfl
  rw [e] at this; exact this
theorem BR.set {w : World} {g m : Nat} {f : Nat → Bool} (h : BR w g m f) (o : Nat) (ho : o < m) (x : Bool) : BR (w.setCell ⟨g, o, none⟩ (.bool x)) g m (upd f o x) := by
  have := Rw.set h o ho (.bool x)
  have e : upd (fun o => Value.bool (f o)) o (.bool x) = fun j => Value.bool (upd f o x j) := by funext j; unfold upd; split <;> rfl
  rw [e] at this; exact this
theorem IR.cell {w : World} {k : IntKind} {g m : Nat} {f : Nat → Int} (h : IR w k g m f) (o : Nat) (ho : o < m) : w.cell? ⟨g, o, none⟩ = some (.int k (f o)) := Rw.cell h o ho
theorem BR.cell {w : World} {g m : Nat} {f : Nat → Bool} (h : BR w g m f) (o : Nat) (ho : o < m) : w.cell? ⟨g, o, none⟩ = some (.bool (f o)) := Rw.cell h o ho
theorem IR.step {w w' : World} {k : IntKind} {g m : Nat} {f : Nat → Int} (h : IR w k g m f) (hg : w.grownBy w' none) : IR w' k g m f := Rw.step h hg
theorem BR.step {w w' : World} {g m : Nat} {f : Nat → Bool} (h : BR w g m f) (hg : w.grownBy w' none) : BR w' g m f := Rw.step h hg
theorem IR.setO {w : World} {k : IntKind} {g m b : Nat} {f : Nat → Int} (h : IR w k g m f) (hb : b ≠ g) (o : Nat) (v : Value) : IR (w.setCell ⟨b, o, none⟩ v) k g m f := Rw.setO h hb o v
theorem BR.setO {w : World} {g m b : Nat} {f : Nat → Bool} (h : BR w g m f) (hb : b ≠ g) (o : Nat) (v : Value) : BR (w.setCell ⟨b, o, none⟩ v) g m f := Rw.setO h hb o v
theorem IR.lt {w : World} {k : IntKind} {g m : Nat} {f : Nat → Int} (h : IR w k g m f) (hm : 0 < m) : g < w.heap.size := World.block_lt_of_cell? _ _ (h.cell 0 hm)
theorem IR.stepR {w w' : World} {k : IntKind} {g m : Nat} {f : Nat → Int} {r : Option Nat} (h : IR w k g m f) (hg : w.grownBy w' r) (hr : r ≠ some g) : IR w' k g m f := Rw.stepR h hg hr
theorem BR.stepR {w w' : World} {g m : Nat} {f : Nat → Bool} {r : Option Nat} (h : BR w g m f) (hg : w.grownBy w' r) (hr : r ≠ some g) : BR w' g m f := Rw.stepR h hg hr

/-- A row that make has laid. -/
theorem rw_new {w : World} {base g m cap : Nat} {e : TypeId} {xs : List Value} {z : Value} (h : w.ownsRow base e 1 (.slice (some ⟨g, 0, none⟩) m cap) m xs) (hx : ∀ j, j < m → xs[j]? = some z) : Rw w g m (fun _ => z) := by
  refine ⟨fun o ho => ?_, fun o ho => ?_⟩
  · have := h.cells (g := g) rfl o _ (hx o ho)
    rwa [Addr.add_lit, Nat.zero_add] at this
  · rcases h.2 with ⟨hv, _⟩ | ⟨g', cap', cur, hv, _, hh, _⟩
    · cases hv
    · cases hv
      simp [World.frozen?, hh]
theorem made_one (z : Value) (hz : z.cells = #[z]) (m j : Nat) (h : j < m) : (madeCells z.cells (m * 1)).toList[j]? = some z := by
  rw [hz]
  simp [madeCells, h, Nat.mod_one]
theorem ir_new {w : World} {k : IntKind} {base g m cap : Nat} {e : TypeId} (h : w.ownsRow base e 1 (.slice (some ⟨g, 0, none⟩) m cap) m (madeCells (Value.int k 0).cells (m * 1)).toList) : IR w k g m (fun _ => 0) :=
  rw_new h (fun j hj => made_one (.int k 0) rfl m j hj)
theorem br_new {w : World} {base g m cap : Nat} {e : TypeId} (h : w.ownsRow base e 1 (.slice (some ⟨g, 0, none⟩) m cap) m (madeCells (Value.bool false).cells (m * 1)).toList) : BR w g m (fun _ => false) :=
  rw_new h (fun j hj => made_one (.bool false) rfl m j hj)
theorem grown_new {a b c : World} {g : Nat} (h : a.grownBy b none) (k : b.grownBy c (some g)) (hg : a.heap.size ≤ g) : a.grownBy c none := grown_trans h k (.inr (.inr ⟨g, rfl, hg⟩))
theorem grown_setR {a b : World} {g : Nat} (h : a.grownBy b (some g)) (o : Nat) (u : Value) : a.grownBy (b.setCell ⟨g, o, none⟩ u) (some g) := by
  refine ⟨h.os, h.tape, h.output, by have := h.size; simpa [World.setCell] using this, fun k hk hne => ?_⟩
  rw [Below.heap_setCell _ _ _ _ (by intro hh; exact hne (by rw [hh]))]
  exact h.block k hk hne

/-- The head of an owned row. -/
theorem owns_take {w : World} {base : Nat} {e : TypeId} {ao : Option Addr} {n cap : Nat} {xs : List Value} (h : w.ownsRow base e 1 (.slice ao n cap) n xs) (m : Nat) (hm : m ≤ n) (hao : ao ≠ none) : w.ownsRow base e 1 (.slice ao m cap) m (xs.take m) := by
  obtain ⟨h1, h2⟩ := h
  refine ⟨by simp; omega, ?_⟩
  rcases h2 with ⟨hv, _⟩ | ⟨g, cap', cur, hv, hg, hh, hnc, hcm, hcs, ht⟩
  · injection hv with e1 e2 e3
    exact absurd e1 hao
  · injection hv with e1 e2 e3
    subst e1 e3
    refine .inr ⟨g, cap, cur, rfl, hg, hh, by omega, hcm, hcs, ?_⟩
    rw [Nat.mul_one] at ht ⊢
    rw [← ht, List.take_take, Nat.min_eq_left hm]

/-- The ints of a list of nodes. -/
def I64 (K : List Nat) : List Value := K.map (fun (x : Nat) => Value.int .i64 (x : Int))
def I32 (K : List Nat) : List Value := K.map (fun (x : Nat) => Value.int .i32 (x : Int))
theorem I64_len (K : List Nat) : (I64 K).length = K.length := by simp [I64]
theorem I32_len (K : List Nat) : (I32 K).length = K.length := by simp [I32]
theorem I64_app (K : List Nat) (v : Nat) : I64 K ++ [.int .i64 (v : Int)] = I64 (K ++ [v]) := by simp [I64]
theorem I32_app (K : List Nat) (v : Nat) : I32 K ++ [.int .i32 (v : Int)] = I32 (K ++ [v]) := by simp [I32]
theorem I64_take (K : List Nat) (m : Nat) : (I64 K).take m = I64 (K.take m) := by simp [I64, List.map_take]
theorem I64_get (K : List Nat) (j : Nat) (h : j < K.length) : (I64 K)[j]? = some (.int .i64 (K.getD j 0)) := by simp [I64, h]
theorem I32_get (K : List Nat) (j : Nat) (h : j < K.length) : (I32 K)[j]? = some (.int .i32 (K.getD j 0)) := by simp [I32, h]
/-- A cell of an owned row. -/
theorem owns_cell {w : World} {base : Nat} {e : TypeId} {b n cap : Nat} {xs : List Value} (h : w.ownsRow base e 1 (.slice (some ⟨b, 0, none⟩) n cap) n xs) (j : Nat) (u : Value) (hu : xs[j]? = some u) : w.cell? ⟨b, j, none⟩ = some u := by
  have := h.cells (g := b) rfl j u hu
  rwa [Addr.add_lit, Nat.zero_add] at this
theorem owns_ao {w : World} {base : Nat} {e : TypeId} {v : Value} {n : Nat} {xs : List Value} (h : w.ownsRow base e 1 v n xs) (hn : 0 < n) : ∃ b cap, v = .slice (some ⟨b, 0, none⟩) n cap ∧ base ≤ b ∧ b < w.heap.size ∧ n ≤ cap := by
  obtain ⟨ao, cap, rfl, _, hc, h0, hb⟩ := owns_shape h
  cases ao with
  | none => have := (h0 rfl).1; omega
  | some a =>
    obtain ⟨b, off, sp⟩ := a
    obtain ⟨h1, h2, rfl, rfl⟩ := hb b off sp rfl
    exact ⟨b, cap, rfl, h1, h2, hc⟩
end Go.Proofs.Qxb6604255a
