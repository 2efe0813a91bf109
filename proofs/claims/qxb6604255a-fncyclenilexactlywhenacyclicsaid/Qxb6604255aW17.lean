import Derived.Test.Qxb6604255aW11
import Derived.Test.Qxb6604255aPlain7
namespace Go.Proofs.Qxb6604255a
open Go.RowKit
set_option linter.unusedVariables false

theorem Try.info5 : (Try.prog.info? 5).map (fun i => (i.zero, i.size, i.bytes)) = some (some (.int .u8 0), 1, 1) := by kernel_rfl
theorem Try.info43 : (Try.prog.info? 43).map (fun i => (i.zero, i.size, i.bytes)) = some (some (.agg #[.int .i32 0, .int .i32 0]), 2, 8) := by kernel_rfl

/-- The cells of a path. -/
def F2 : List (Nat × Nat) → List Value
  | [] => []
  | f :: K => .int .i32 (f.1 : Int) :: .int .i32 (f.2 : Int) :: F2 K
theorem F2_len (K : List (Nat × Nat)) : (F2 K).length = K.length * 2 := by
  induction K with
  | nil => rfl
  | cons f K ih => simp only [F2, List.length_cons, ih]; omega
theorem F2_app (K L : List (Nat × Nat)) : F2 (K ++ L) = F2 K ++ F2 L := by
  induction K with
  | nil => rfl
  | cons f K ih => simp only [F2, List.cons_append, ih]
theorem F2_get0 (K : List (Nat × Nat)) (i : Nat) (f : Nat × Nat) (h : K[i]? = some f) : (F2 K)[i * 2]? = some (.int .i32 (f.1 : Int)) := by
  induction K generalizing i with
  | nil => simp at h
  | cons g K ih =>
    cases i with
    | zero => simp at h; subst h; rfl
    | succ i =>
      rw [show (i + 1) * 2 = i * 2 + 1 + 1 by omega]
      simp only [F2, List.getElem?_cons_succ]
      exact ih i (by simpa using h)
theorem F2_get1 (K : List (Nat × Nat)) (i : Nat) (f : Nat × Nat) (h : K[i]? = some f) : (F2 K)[i * 2 + 1]? = some (.int .i32 (f.2 : Int)) := by
  induction K generalizing i with
  | nil => simp at h
  | cons g K ih =>
    cases i with
    | zero => simp at h; subst h; rfl
    | succ i =>
      rw [show (i + 1) * 2 + 1 = i * 2 + 1 + 1 + 1 by omega]
      simp only [F2, List.getElem?_cons_succ]
      exact ih i (by simpa using h)
theorem F2_one (K : List (Nat × Nat)) : ∀ u ∈ F2 K, u.oneCell' = true := by
  induction K with
  | nil => intro u hu; cases hu
  | cons f K ih =>
    intro u hu
    simp only [F2, List.mem_cons] at hu
    rcases hu with rfl | rfl | hu
    · rfl
    · rfl
    · exact ih u hu
theorem F2_set (K : List (Nat × Nat)) (u j j' : Nat) : (F2 (K ++ [(u, j)])).set (K.length * 2 + 1) (.int .i32 (j' : Int)) = F2 (K ++ [(u, j')]) := by
  rw [F2_app, F2_app, List.set_append_right _ _ (by rw [F2_len]; omega), F2_len, show K.length * 2 + 1 - K.length * 2 = 1 by omega]
  rfl
theorem F2_take (K : List (Nat × Nat)) (f : Nat × Nat) : (F2 (K ++ [f])).take (K.length * 2) = F2 K := by
  rw [F2_app, List.take_left' (F2_len K)]

/-! ### append at two cells an element -/
theorem op_app2 {P : Program} (w : World) {o : Oper} {a : Act} {K : Act → World → Prop} {Q : Exit → Act → World → Prop} (s x : Operand) (t : TypeId)
    (ho : o.op = .call { callee := .builtin .append, args := #[s, x], argTypes := #[t, t] })
    (base : Nat) (e : TypeId) (i : TypeInfo) (z : Value) (bytes : Nat) (ht : P.underlying t = some (.slice e)) (hi : P.info? e = some i) (hz : i.zero = some z)
    (hsize : i.size = 2) (hby : i.bytes = bytes) (hzs : z.cells.size = 2)
    (v : Value) (n : Nat) (xs : List Value) (hown : w.ownsRow base e 2 v n xs) (hs : a.eval s = v)
    (ad : Addr) (c : Nat) (news : List Value) (hx : a.eval x = .slice (some ad) 1 c) (hl : news.length = 2) (hnews : ∀ j u, news[j]? = some u → w.cell? (ad.add j) = some u) (h1 : ∀ u ∈ news, u.oneCell' = true)
    (h63 : n + 1 ≤ maxLen) (hbytes : (n + 1) * bytes ≤ 140737488355328) (hbase : base ≤ w.heap.size)
    (h : ∀ v' w', w'.ownsRow base e 2 v' (n + 1) (xs ++ news) → w.grownBy w' v.ownBlock → K (a.put o.dst v') w') : o.wp P a w K Q := by
  obtain ⟨v', w', hr, h2, h3, h4⟩ := run_append_own (P := P) w base t o.type e i z 2 bytes ht hi hz hsize hby hzs (by decide) v n xs hown ad 1 c news (by omega) hnews h1 h63 hbytes hbase
  unfold Oper.wp execOp
  simp only [ho, resolve, invoke, builtin, Sem.run_bind, Sem.run_pure, Result.andThen_ok, List.map_toArray, List.map_cons, List.map_nil, hs, hx, hr]
  exact h v' w' h2 h3

theorem owns2_alloc {w : World} {base : Nat} {e : TypeId} {v : Value} {n : Nat} {xs : List Value} (h : w.ownsRow base e 2 v n xs) (o : Obj) : (w.alloc o).ownsRow base e 2 v n xs := h.alloc o

theorem wpList_app2 {P : Program} (wr : World) {ops : Array Oper} {rest : List Oper} {o : Oper} {a : Act} {Q : Exit → Act → World → Prop} (hgd : o.guard = none) (s x : Operand) (t : TypeId)
    (ho : o.op = .call { callee := .builtin .append, args := #[s, x], argTypes := #[t, t] })
    (base : Nat) (e : TypeId) (i : TypeInfo) (z : Value) (bytes : Nat) (ht : P.underlying t = some (.slice e)) (hi : P.info? e = some i) (hz : i.zero = some z)
    (hsize : i.size = 2) (hby : i.bytes = bytes) (hzs : z.cells.size = 2)
    (v : Value) (n : Nat) (xs : List Value) (hown : wr.ownsRow base e 2 v n xs) (arr : Array Value) (gq : Nat) (hs : a.eval s = v) (hm : arr.size = 2) (hx : a.eval x = .slice (some ⟨gq, 0, none⟩) 1 1) (hgq : gq = wr.heap.size) (h1 : ∀ u ∈ arr.toList, u.oneCell' = true)
    (h63 : n + 1 ≤ maxLen) (hbytes : (n + 1) * bytes ≤ 140737488355328) (hbase : base ≤ wr.heap.size)
    (h : ∀ v' w', w'.ownsRow base e 2 v' (n + 1) (xs ++ arr.toList) → wr.grownBy w' v.ownBlock → wpList P ops Q rest (a.put o.dst v') w') : wpList P ops Q (o :: rest) a (wr.alloc (.cells arr e)) := by
  subst hgq
  refine wpList_of hgd fun K hK => ?_
  refine op_app2 _ s x t ho base e i z bytes ht hi hz hsize hby hzs v n xs (hown.alloc _) hs _ 1 arr.toList hx (by simpa using hm) ?_ h1 h63 hbytes (by simp; omega) ?_
  · intro j u hu
    exact cell_new hu
  · intro v' w' h2 h3
    exact hK _ _ (h v' w' h2 (grown_trans (World.grownBy_alloc wr _ _) h3 (.inr (.inl rfl))))

theorem step_app2 {P : Program} (wr : World) {ops : Array Oper} {o : Oper} {a : Act} {K : Act → World → Prop} {Q : Exit → Act → World → Prop} {E : Prop} (hgd : o.guard = none) (s x : Operand) (t : TypeId)
    (ho : o.op = .call { callee := .builtin .append, args := #[s, x], argTypes := #[t, t] })
    (base : Nat) (e : TypeId) (i : TypeInfo) (z : Value) (bytes : Nat) (ht : P.underlying t = some (.slice e)) (hi : P.info? e = some i) (hz : i.zero = some z)
    (hsize : i.size = 2) (hby : i.bytes = bytes) (hzs : z.cells.size = 2)
    (v : Value) (n : Nat) (xs : List Value) (hown : wr.ownsRow base e 2 v n xs) (arr : Array Value) (gq : Nat) (hs : a.eval s = v) (hm : arr.size = 2) (hx : a.eval x = .slice (some ⟨gq, 0, none⟩) 1 1) (hgq : gq = wr.heap.size) (h1 : ∀ u ∈ arr.toList, u.oneCell' = true)
    (h63 : n + 1 ≤ maxLen) (hbytes : (n + 1) * bytes ≤ 140737488355328) (hbase : base ≤ wr.heap.size)
    (h : ∀ v' w', w'.ownsRow base e 2 v' (n + 1) (xs ++ arr.toList) → wr.grownBy w' v.ownBlock → K (a.put o.dst v') w') :
    if Region.wanted o (yielded ops a.tmps) = true then Oper.wp P o a (wr.alloc (.cells arr e)).drew K Q else E := by
  subst hgq
  refine step_of hgd ?_
  refine op_app2 _ s x t ho base e i z bytes ht hi hz hsize hby hzs v n xs (hown.alloc _).drew hs _ 1 arr.toList hx (by simpa using hm) ?_ h1 h63 hbytes (by simp; omega) ?_
  · intro j u hu
    exact cell_new (w := wr) hu
  · intro v' w' h2 h3
    exact h v' w' h2 (grown_trans (grown_step (World.grownBy_alloc wr _ _) (grown_drew _ _)) h3 (.inr (.inl rfl)))

/-! ### the search's state in memory -/
structure PS (G : Gr) (sg B : Nat) (w wr : World) (vp : Value) (K : List (Nat × Nat)) (st : Nat → Int) : Prop where
  own : wr.ownsRow B 43 2 vp K.length (F2 K)
  row : IR wr .u8 sg G.n st
  fr : w.grownBy wr none
  lo : w.heap.size ≤ sg
  lt : sg < B
  sz : B ≤ wr.heap.size
theorem owns2_ge {w : World} {base : Nat} {e : TypeId} {v : Value} {n : Nat} {xs : List Value} (h : w.ownsRow base e 2 v n xs) {g : Nat} (hg : v.ownBlock = some g) : base ≤ g := by
  rcases h.2 with ⟨rfl, _⟩ | ⟨g', cap, cur, rfl, hb, _⟩
  · cases hg
  · cases hg; exact hb
theorem owns2_step {w w' : World} {base : Nat} {e : TypeId} {v : Value} {n : Nat} {xs : List Value} {r : Option Nat} (h : w.ownsRow base e 2 v n xs) (hg : w.grownBy w' r) (hr : ∀ g, v.ownBlock = some g → r ≠ some g) : w'.ownsRow base e 2 v n xs := by
  refine ⟨h.1, ?_⟩
  rcases h.2 with h2 | ⟨g, cap, cur, rfl, hb, hh, h3⟩
  · exact .inl h2
  · refine .inr ⟨g, cap, cur, rfl, hb, ?_, h3⟩
    rw [hg.block g (Array.getElem?_eq_some_iff.1 hh).1 (fun e => hr g rfl e.symm)]
    exact hh
theorem owns2_shape {w : World} {base : Nat} {e : TypeId} {v : Value} {n : Nat} {xs : List Value} (h : w.ownsRow base e 2 v n xs) : (v = .slice none 0 0 ∧ n = 0) ∨ ∃ b cap, v = .slice (some ⟨b, 0, none⟩) n cap ∧ base ≤ b ∧ b < w.heap.size ∧ n ≤ cap ∧ cap ≤ 9223372036854775807 := by
  rcases h.2 with h2 | ⟨g, cap, cur, rfl, hb, hh, h3, h4, _⟩
  · exact .inl h2
  · exact .inr ⟨g, cap, rfl, hb, (Array.getElem?_eq_some_iff.1 hh).1, h3, h4⟩
theorem owns2_take {w : World} {base : Nat} {e : TypeId} {b n cap : Nat} {xs : List Value} (h : w.ownsRow base e 2 (.slice (some ⟨b, 0, none⟩) n cap) n xs) (m : Nat) (hm : m ≤ n) : w.ownsRow base e 2 (.slice (some ⟨b, 0, none⟩) m cap) m (xs.take (m * 2)) := by
  obtain ⟨h1, h2⟩ := h
  refine ⟨by simp; omega, ?_⟩
  rcases h2 with ⟨hv, _⟩ | ⟨g, cap', cur, hv, hg, hh, hnc, hcm, hcs, ht⟩
  · cases hv
  · cases hv
    refine .inr ⟨b, cap, cur, rfl, hg, hh, by omega, hcm, hcs, ?_⟩
    rw [← ht, List.take_take, Nat.min_eq_left (by omega)]
theorem owns2_cell {w : World} {base : Nat} {e : TypeId} {b n cap : Nat} {xs : List Value} (h : w.ownsRow base e 2 (.slice (some ⟨b, 0, none⟩) n cap) n xs) (j : Nat) (u : Value) (hu : xs[j]? = some u) : w.cell? ⟨b, j, none⟩ = some u := by
  have := h.cells (g := b) rfl j u hu
  rwa [Addr.add_lit, Nat.zero_add] at this

theorem PS.step {G : Gr} {sg B : Nat} {w wr wr' : World} {vp : Value} {K : List (Nat × Nat)} {st : Nat → Int} (h : PS G sg B w wr vp K st) (hg : wr.grownBy wr' none) : PS G sg B w wr' vp K st :=
  ⟨owns2_step h.own hg (fun _ _ => by simp), h.row.step hg, grown_step h.fr hg, h.lo, h.lt, Nat.le_trans h.sz hg.size⟩
theorem PS.setS {G : Gr} {sg B : Nat} {w wr : World} {vp : Value} {K : List (Nat × Nat)} {st : Nat → Int} (h : PS G sg B w wr vp K st) (v : Nat) (hv : v < G.n) (x : Int) : PS G sg B w (wr.setCell ⟨sg, v, none⟩ (.int .u8 x)) vp K (upd st v x) :=
  ⟨ownsRow_setCell_below h.own h.lt _, h.row.set v hv x, grown_set h.fr _ _ h.lo, h.lo, h.lt, by have := h.sz; simpa [World.setCell] using this⟩
theorem PS.app {G : Gr} {sg B : Nat} {w wr w' : World} {vp vp' : Value} {K : List (Nat × Nat)} {st : Nat → Int} (h : PS G sg B w wr vp K st) (f : Nat × Nat) (ho : w'.ownsRow B 43 2 vp' (K.length + 1) (F2 K ++ [.int .i32 (f.1 : Int), .int .i32 (f.2 : Int)])) (hg : wr.grownBy w' vp.ownBlock) : PS G sg B w w' vp' (K ++ [f]) st := by
  have hl := h.lt
  have hlo := h.lo
  have hB : ∀ g, vp.ownBlock = some g → B ≤ g := fun g e => owns2_ge h.own e
  refine ⟨?_, h.row.stepR hg (fun e => by have := hB _ e; omega), ?_, hlo, hl, Nat.le_trans h.sz hg.size⟩
  · rw [F2_app, List.length_append]
    exact ho
  · refine grown_trans h.fr hg ?_
    cases hob : vp.ownBlock with
    | none => exact .inl rfl
    | some g => exact .inr (.inr ⟨g, rfl, by have := hB g hob; omega⟩)
/-- top.next = j'. -/
theorem PS.adv {G : Gr} {sg B pb cap u j : Nat} {w wr : World} {K : List (Nat × Nat)} {st : Nat → Int} (h : PS G sg B w wr (.slice (some ⟨pb, 0, none⟩) (K.length + 1) cap) (K ++ [(u, j)]) st) (j' : Nat) : PS G sg B w (wr.setCell ⟨pb, K.length * 2 + 1, none⟩ (.int .i32 (j' : Int))) (.slice (some ⟨pb, 0, none⟩) (K.length + 1) cap) (K ++ [(u, j')]) st := by
  have hl := h.lt
  have hlo := h.lo
  have hpb : B ≤ pb := owns2_ge h.own rfl
  have ho := h.own
  rw [List.length_append] at ho
  have hst := World.ownsRow.stored ho (K.length * 2 + 1) (.int .i32 (j' : Int))
  refine ⟨?_, h.row.setO (by omega) _ _, grown_set h.fr _ _ (by show w.heap.size ≤ pb; omega), hlo, hl, Nat.le_trans h.sz hst.2.size⟩
  have := hst.1
  rw [F2_set] at this
  rw [List.length_append]
  exact this
/-- path = path[:len(path)-1]. -/
theorem PS.pop {G : Gr} {sg B pb cap : Nat} {w wr : World} {K : List (Nat × Nat)} {f : Nat × Nat} {st : Nat → Int} (h : PS G sg B w wr (.slice (some ⟨pb, 0, none⟩) (K.length + 1) cap) (K ++ [f]) st) : PS G sg B w wr (.slice (some ⟨pb, 0, none⟩) K.length cap) K st := by
  have ho := h.own
  rw [List.length_append] at ho
  have := owns2_take ho K.length (by omega)
  rw [F2_take] at this
  exact ⟨this, h.row, h.fr, h.lo, h.lt, h.sz⟩
theorem PS.top {G : Gr} {sg B pb cap u j : Nat} {w wr : World} {K : List (Nat × Nat)} {st : Nat → Int} (h : PS G sg B w wr (.slice (some ⟨pb, 0, none⟩) (K.length + 1) cap) (K ++ [(u, j)]) st) : wr.cell? ⟨pb, K.length * 2, none⟩ = some (.int .i32 (u : Int)) ∧ wr.cell? ⟨pb, K.length * 2 + 1, none⟩ = some (.int .i32 (j : Int)) ∧ wr.frozen? ⟨pb, K.length * 2 + 1, none⟩ = false := by
  have ho := h.own
  rw [List.length_append] at ho
  exact ⟨owns2_cell ho _ _ (F2_get0 _ K.length (u, j) (by simp)), owns2_cell ho _ _ (F2_get1 _ K.length (u, j) (by simp)), World.ownsRow.frozenAt ho _⟩
theorem PS.at {G : Gr} {sg B pb n cap : Nat} {w wr : World} {K : List (Nat × Nat)} {st : Nat → Int} (h : PS G sg B w wr (.slice (some ⟨pb, 0, none⟩) n cap) K st) (hn : n = K.length) (i : Nat) (f : Nat × Nat) (hf : K[i]? = some f) : wr.cell? ⟨pb, i * 2, none⟩ = some (.int .i32 (f.1 : Int)) ∧ wr.cell? ⟨pb, i * 2 + 1, none⟩ = some (.int .i32 (f.2 : Int)) := by
  subst hn
  have ho := h.own
  exact ⟨owns2_cell ho _ _ (F2_get0 _ i f hf), owns2_cell ho _ _ (F2_get1 _ i f hf)⟩
end Go.Proofs.Qxb6604255a
