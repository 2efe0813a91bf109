import Derived.Test.Qxb6604255aW9
namespace Go.Proofs.Qxb6604255a
open Go.RowKit
set_option linter.unusedVariables false

/-! ### plain -/
def Gr.bpart (G : Gr) (s : Nat) (cost : Nat → Int) (c u j : Nat) : Prop := ∀ i x : Nat, G.first.getD u 0 ≤ i → i < j → G.succ.getD i 0 = (x : Int) → x ≠ s ∧ 0 ≤ cost x ∧ cost x ≤ c + G.wt x
theorem Gr.bpart_zero {G : Gr} {s c u j : Nat} {cost : Nat → Int} (hj : G.first.getD u 0 = (j : Int)) : G.bpart s cost c u j := by
  intro i x h1 h2; omega
theorem Gr.bpart_step {G : Gr} {s c u j v : Nat} {cost : Nat → Int} (h : G.bpart s cost c u j) (hv : G.succ.getD j 0 = (v : Int)) (h1 : v ≠ s) (h2 : 0 ≤ cost v) (h3 : cost v ≤ c + G.wt v) : G.bpart s cost c u (j + 1) := by
  intro i x h4 h5 h6
  by_cases hij : i = j
  · subst hij
    obtain rfl : x = v := by omega
    exact ⟨h1, h2, h3⟩
  · exact h i x h4 (by omega) h6
theorem Gr.bpart_upd {G : Gr} {s c u j v : Nat} {cost : Nat → Int} (h : G.bpart s cost c u j) (hv : cost v = -1) (y : Int) : G.bpart s (upd cost v y) c u j := by
  intro i x h4 h5 h6
  obtain ⟨h1, h2, h3⟩ := h i x h4 h5 h6
  have : x ≠ v := fun e => by subst e; omega
  rw [upd_other _ _ this]
  exact ⟨h1, h2, h3⟩
theorem Gr.bpart_proc {G : Gr} {s c u j : Nat} {cost : Nat → Int} (h : G.bpart s cost c u j) (hj : G.first.getD (u + 1) 0 = (j : Int)) (hc : cost u = c) : G.proc s cost u := by
  rintro x ⟨_, i, h1, h2, h3⟩
  rw [hc]
  exact h i x h1 (by omega) h3
theorem unseen_drop {cost : Nat → Int} {n v : Nat} {y : Int} (hv : v < n) (h : cost v = -1) (hy : 0 ≤ y) : cnt (unseen (upd cost v y)) n + 1 = cnt (unseen cost) n :=
  cnt_drop n v hv (by simp [unseen, h]) (by simp [unseen, upd_same]; omega) (fun i hi => by simp [unseen, upd_other _ _ hi])

/-! ### memory -/
theorem IR.congr {w : World} {k : IntKind} {g m : Nat} {f f' : Nat → Int} (h : IR w k g m f) (e : ∀ o, o < m → f o = f' o) : IR w k g m f' := ⟨fun o ho => by rw [← e o ho]; exact Rw.cell h o ho, Rw.free h⟩
theorem owns_step {w w' : World} {base : Nat} {e : TypeId} {v : Value} {n : Nat} {xs : List Value} {r : Option Nat} (h : w.ownsRow base e 1 v n xs) (hg : w.grownBy w' r) (hr : ∀ g, v.ownBlock = some g → r ≠ some g) : w'.ownsRow base e 1 v n xs := by
  refine ⟨h.1, ?_⟩
  rcases h.2 with h2 | ⟨g, cap, cur, rfl, hb, hh, h3⟩
  · exact .inl h2
  · refine .inr ⟨g, cap, cur, rfl, hb, ?_, h3⟩
    rw [hg.block g (Array.getElem?_eq_some_iff.1 hh).1 (fun e => hr g rfl e.symm)]
    exact hh
theorem owns_lt {w : World} {base : Nat} {e : TypeId} {v : Value} {n : Nat} {xs : List Value} (h : w.ownsRow base e 1 v n xs) {g : Nat} (hg : v.ownBlock = some g) : g < w.heap.size := by
  rcases h.2 with ⟨rfl, _⟩ | ⟨g', cap, cur, rfl, hb, hh, _⟩
  · cases hg
  · cases hg; exact (Array.getElem?_eq_some_iff.1 hh).1
theorem owns_nil {w : World} {base : Nat} {e : TypeId} : w.ownsRow base e 1 (.slice none 0 0) 0 [] := ⟨rfl, .inl ⟨rfl, rfl⟩⟩
theorem owns_lit (w : World) (u : Value) (e : TypeId) : (w.alloc (.cells #[u] e)).ownsRow w.heap.size e 1 (.slice (some ⟨w.heap.size, 0, none⟩) 1 1) 1 [u] :=
  ⟨rfl, .inr ⟨_, 1, #[u], rfl, Nat.le_refl _, heap_alloc_new w _, Nat.le_refl _, by unfold maxLen; omega, rfl, rfl⟩⟩

structure SS (G : Gr) (cg rg B1 : Nat) (w wr : World) (vl vn : Value) (L N : List Nat) (cost frm : Nat → Int) : Prop where
  ol : wr.ownsRow B1 21 1 vl L.length (I32 L)
  on : wr.ownsRow B1 21 1 vn N.length (I32 N)
  sep : ∀ g, vl.ownBlock = some g → vn.ownBlock ≠ some g
  rc : IR wr .i32 cg G.n cost
  rf : IR wr .i32 rg G.n frm
  fr : w.grownBy wr none
  sz : B1 ≤ wr.heap.size
  lo1 : w.heap.size ≤ cg
  lo2 : w.heap.size ≤ rg
  lt1 : cg < B1
  lt2 : rg < B1
  ne : cg ≠ rg

theorem SS.step {G : Gr} {cg rg B1 : Nat} {w wr wr' : World} {vl vn : Value} {L N : List Nat} {cost frm : Nat → Int} (h : SS G cg rg B1 w wr vl vn L N cost frm) (hg : wr.grownBy wr' none) : SS G cg rg B1 w wr' vl vn L N cost frm :=
  ⟨owns_step h.ol hg (fun _ _ => by simp), owns_step h.on hg (fun _ _ => by simp), h.sep, h.rc.step hg, h.rf.step hg, grown_step h.fr hg, Nat.le_trans h.sz hg.size, h.lo1, h.lo2, h.lt1, h.lt2, h.ne⟩
theorem SS.set {G : Gr} {cg rg B1 : Nat} {w wr : World} {vl vn : Value} {L N : List Nat} {cost frm : Nat → Int} (h : SS G cg rg B1 w wr vl vn L N cost frm) (v : Nat) (hv : v < G.n) (x y : Int) : SS G cg rg B1 w ((wr.setCell ⟨cg, v, none⟩ (.int .i32 x)).setCell ⟨rg, v, none⟩ (.int .i32 y)) vl vn L N (upd cost v x) (upd frm v y) := by
  have h1 := h.lt1
  have h2 := h.lt2
  have hne := h.ne
  refine ⟨ownsRow_setCell_below (ownsRow_setCell_below h.ol h1 _) h2 _, ownsRow_setCell_below (ownsRow_setCell_below h.on h1 _) h2 _, h.sep, ?_, ?_, ?_, ?_, h.lo1, h.lo2, h1, h2, hne⟩
  · exact (h.rc.set v hv x).setO (fun e => hne e.symm) v _
  · exact (h.rf.setO hne v _).set v hv y
  · exact grown_set (grown_set h.fr _ _ h.lo1) _ _ h.lo2
  · have := h.sz; simpa [World.setCell] using this
theorem SS.appL {G : Gr} {cg rg B1 : Nat} {w wr w' : World} {vl vn vl' : Value} {L N : List Nat} {cost frm : Nat → Int} (h : SS G cg rg B1 w wr vl vn L N cost frm) (v : Nat) (ho : w'.ownsRow B1 21 1 vl' (L.length + 1) (I32 L ++ [.int .i32 (v : Int)])) (hg : Grew 21 wr vl L.length w' vl') : SS G cg rg B1 w w' vl' vn (L ++ [v]) N cost frm := by
  have h1 := h.lt1
  have h2 := h.lt2
  have hB : ∀ g, vl.ownBlock = some g → B1 ≤ g := fun g e => owns_ge h.ol e
  refine ⟨?_, owns_step h.on hg.frame (fun g e he => h.sep g he e), fun g e => ?_, h.rc.stepR hg.frame (fun e => by have := hB _ e; omega), h.rf.stepR hg.frame (fun e => by have := hB _ e; omega), ?_, Nat.le_trans h.sz hg.frame.size, h.lo1, h.lo2, h1, h2, h.ne⟩
  · rw [I32_app] at ho
    simpa using ho
  · rcases hg.place with hp | ⟨g', hp, hp2⟩
    · exact h.sep g (hp ▸ e)
    · rw [hp] at e
      cases e
      intro he
      have := owns_lt h.on he
      omega
  · refine grown_trans h.fr hg.frame ?_
    cases hob : vl.ownBlock with
    | none => exact .inl rfl
    | some g => exact .inr (.inr ⟨g, rfl, by have := hB g hob; have := h.lo1; omega⟩)
theorem SS.appN {G : Gr} {cg rg B1 : Nat} {w wr w' : World} {vl vn vn' : Value} {L N : List Nat} {cost frm : Nat → Int} (h : SS G cg rg B1 w wr vl vn L N cost frm) (v : Nat) (ho : w'.ownsRow B1 21 1 vn' (N.length + 1) (I32 N ++ [.int .i32 (v : Int)])) (hg : Grew 21 wr vn N.length w' vn') : SS G cg rg B1 w w' vl vn' L (N ++ [v]) cost frm := by
  have h1 := h.lt1
  have h2 := h.lt2
  have hB : ∀ g, vn.ownBlock = some g → B1 ≤ g := fun g e => owns_ge h.on e
  refine ⟨owns_step h.ol hg.frame (fun g e he => h.sep g e he), ?_, fun g e => ?_, h.rc.stepR hg.frame (fun e => by have := hB _ e; omega), h.rf.stepR hg.frame (fun e => by have := hB _ e; omega), ?_, Nat.le_trans h.sz hg.frame.size, h.lo1, h.lo2, h1, h2, h.ne⟩
  · rw [I32_app] at ho
    simpa using ho
  · rcases hg.place with hp | ⟨g', hp, hp2⟩
    · rw [hp]; exact h.sep g e
    · rw [hp]
      intro he
      cases he
      have := owns_lt h.ol e
      omega
  · refine grown_trans h.fr hg.frame ?_
    cases hob : vn.ownBlock with
    | none => exact .inl rfl
    | some g => exact .inr (.inr ⟨g, rfl, by have := hB g hob; have := h.lo1; omega⟩)
/-- level = next; var next = nil. -/
theorem SS.turn {G : Gr} {cg rg B1 : Nat} {w wr : World} {vl vn : Value} {L N : List Nat} {cost frm : Nat → Int} (h : SS G cg rg B1 w wr vl vn L N cost frm) : SS G cg rg B1 w wr vn (.slice none 0 0) N [] cost frm :=
  ⟨h.on, owns_nil, (fun g _ => by simp [Value.ownBlock]), h.rc, h.rf, h.fr, h.sz, h.lo1, h.lo2, h.lt1, h.lt2, h.ne⟩

/-- What shortestCycle hands back. -/
def ShortRes (G : Gr) (s : Nat) (w : World) (e : Ending) (w' : World) : Prop :=
  ∃ v C, e = .returned v ∧ w'.ownsRow w.heap.size 3 1 v C.length (I64 C) ∧ G.Valid C ∧ s ∈ C ∧ G.least s C.length ∧ w.grownBy w' none
theorem short_of {G : Gr} {s c : Nat} {w wr : World} {e : Ending} {w' : World} (hg : w.grownBy wr none) (h : CycRes G s (c + 1) wr e w') (hmin : ∀ C, G.closed s C → c + 1 ≤ C) : ShortRes G s w e w' := by
  obtain ⟨v, C, h1, h2, h3, h4, h5, h6⟩ := h
  refine ⟨v, C, h1, owns_base h2 hg.size, h3, h4, ⟨h3.closed s h4, ?_⟩, grown_step hg h6⟩
  rw [h5]; exact hmin
end Go.Proofs.Qxb6604255a
