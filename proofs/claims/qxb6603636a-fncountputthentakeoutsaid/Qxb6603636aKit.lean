/-
  SMALL LAWS OF THE WALK, turned to this seat's use: one element appended to a row that the call owns.
-/
import Derived.WalkKit
namespace Go.Proofs.Qxb6603636a
open Go.RowKit
theorem hidg {p : Prop} (h : p) : Hid p := h

theorem grown_trans {a b c : World} {row : Option Nat} (h : a.grownBy b row) (k : b.grownBy c row) : a.grownBy c row :=
  ⟨k.os.trans h.os, k.tape.trans h.tape, k.output.trans h.output, Nat.le_trans h.size k.size, fun i hi hr => (k.block i (Nat.lt_of_lt_of_le hi h.size) hr).trans (h.block i hi hr)⟩

/-- 'b = append(b, x)', b owned by the call, in the world in which x has just been laid. -/
theorem wpList_append1 {P : Program} (wr : World) {ops : Array Oper} {rest : List Oper} {o : Oper} {a : Act} {Q : Exit → Act → World → Prop} (hgd : o.guard = none) (s x : Operand) (t : TypeId)
    (ho : o.op = .call { callee := .builtin .append, args := #[s, x], argTypes := #[t, t] })
    (base : Nat) (e : TypeId) (i : TypeInfo) (z : Value) (bytes : Nat) (ht : P.underlying t = some (.slice e)) (hi : P.info? e = some i) (hz : i.zero = some z)
    (hsize : i.size = 1) (hby : i.bytes = bytes) (hzs : z.cells.size = 1)
    (v : Value) (n : Nat) (xs : List Value) (hown : wr.ownsRow base e 1 v n xs) (u : Value) (hs : a.eval s = v) (hx : a.eval x = .slice (some ⟨wr.heap.size, 0, none⟩) 1 1) (h1 : u.oneCell' = true)
    (h63 : n + 1 ≤ maxLen) (hbytes : (n + 1) * bytes ≤ 140737488355328) (hbase : base ≤ wr.heap.size)
    (h : ∀ v' w', w'.ownsRow base e 1 v' (n + 1) (xs ++ [u]) → wr.grownBy w' v.ownBlock → wpList P ops Q rest (a.put o.dst v') w') : wpList P ops Q (o :: rest) a (wr.alloc (.cells #[u] e)) := by
  refine wpList_append_own _ hgd s x t ho base e i z 1 bytes ht hi hz hsize hby hzs (by decide) v n xs hs (hown.alloc _) ⟨wr.heap.size, 0, none⟩ 1 1 [u] hx rfl ?_ ?_ h63 hbytes (by simp; omega) ?_
  · intro j u' hj
    match j, hj with
    | 0, hj => simp at hj; subst hj; simp [Addr.add]
  · intro u' hu
    simp at hu; subst hu; exact h1
  · intro v' w' h2 h3 _
    exact h v' w' h2 (grown_trans (World.grownBy_alloc _ _ _) h3)

/-- 'append([]T{}, src...)', src not nil: a row of the call's own that holds what src held. -/
theorem wpList_clone {P : Program} (wr : World) {ops : Array Oper} {rest : List Oper} {o : Oper} {a : Act} {Q : Exit → Act → World → Prop} (hgd : o.guard = none) (s x : Operand) (t : TypeId)
    (ho : o.op = .call { callee := .builtin .append, args := #[s, x], argTypes := #[t, t] })
    (e : TypeId) (i : TypeInfo) (z : Value) (bytes : Nat) (ht : P.underlying t = some (.slice e)) (hi : P.info? e = some i) (hz : i.zero = some z)
    (hsize : i.size = 1) (hby : i.bytes = bytes) (hzs : z.cells.size = 1)
    (ad : Addr) (m c : Nat) (news : List Value) (hs : a.eval s = .slice (some ⟨wr.heap.size, 0, none⟩) 0 0) (hx : a.eval x = .slice (some ad) m c) (hl : news.length = m)
    (hnews : ∀ j u, news[j]? = some u → wr.cell? (ad.add j) = some u) (h1 : ∀ u ∈ news, u.oneCell' = true)
    (h63 : m ≤ maxLen) (hbytes : m * bytes ≤ 140737488355328)
    (h : ∀ g cap w', w'.ownsRow wr.heap.size e 1 (.slice (some ⟨g, 0, none⟩) m cap) m news → wr.heap.size ≤ g → Below wr.heap.size wr w' → wpList P ops Q rest (a.put o.dst (.slice (some ⟨g, 0, none⟩) m cap)) w') : wpList P ops Q (o :: rest) a (wr.alloc (.cells #[] e)) := by
  have hown := World.ownsRow_made (base := wr.heap.size) (e := e) (size := 1) wr #[] 0 (Nat.le_refl _) (by simp) rfl
  refine wpList_append_own _ hgd s x t ho wr.heap.size e i z 1 bytes ht hi hz hsize hby hzs (by decide) _ 0 [] hs hown ad m c news hx (by simp [hl]) ?_ h1 (by omega) (by simpa using hbytes) (by simp) ?_
  · intro j u hj
    have := hnews j u hj
    rw [World.cell?_alloc_lt _ _ _ (World.block_lt_of_cell? _ _ this)]
    exact this
  · intro v' w' h2 h3 h4
    simp only [Nat.zero_add, List.nil_append] at h2
    obtain ⟨hxl, hsh⟩ := h2
    rcases hsh with ⟨hv, _⟩ | ⟨g, cap, cur, hv, hg, hrest⟩
    · exact absurd (h4.1 hv).1 (by simp)
    · subst hv
      refine h g cap w' ⟨hxl, .inr ⟨g, cap, cur, rfl, hg, hrest⟩⟩ hg ?_
      exact ((Below.refl _ _).alloc (Nat.le_refl _) _).grown h3 (by simp) (fun k hk => by simp [Value.ownBlock] at hk; omega)

/-- What an owned slice of at least one element looks like. -/
theorem owns_shape {w : World} {base : Nat} {e : TypeId} {v : Value} {n : Nat} {xs : List Value} (h : w.ownsRow base e 1 v n xs) (hn : 0 < n) : ∃ g cap, v = .slice (some ⟨g, 0, none⟩) n cap ∧ base ≤ g ∧ xs.length = n := by
  obtain ⟨hxl, hsh⟩ := h
  rcases hsh with ⟨_, hb⟩ | ⟨g, cap, cur, hv, hg, _⟩
  · omega
  · exact ⟨g, cap, hv, hg, by omega⟩

/-- What is owned below B stays owned while only blocks from B on turn. -/
theorem owns_below {w w' : World} {base B : Nat} {e : TypeId} {v : Value} {n : Nat} {xs : List Value} (h : w.ownsRow base e 1 v n xs) (hb : Below B w w') (hB : w.heap.size ≤ B) : w'.ownsRow base e 1 v n xs := by
  obtain ⟨h1, h2⟩ := h
  refine ⟨h1, ?_⟩
  rcases h2 with h2 | ⟨g, cap, cur, hv, hg, hh, r⟩
  · exact Or.inl h2
  · exact Or.inr ⟨g, cap, cur, hv, hg, by rw [hb.block g (by have := (Array.getElem?_eq_some_iff.1 hh).1; omega)]; exact hh, r⟩
end Go.Proofs.Qxb6603636a
