/-
  LAWS OF MEMORY FOR THIS SEAT: a slice that the call owns and that grows by append ('Grew': what is told of the world behind it); read-only slices of integers ('Sl'). No project text.
-/
import Derived.WalkKit
import Derived.Lib.AppendStr
import Derived.Deep.QuietTactic
import Derived.BigQuiet
import Derived.WalkSpells
import Derived.Laws.CopyOwn
import Derived.Deep.RegionWith
namespace Go.Proofs.Qxb6604255a
open Go.RowKit

theorem hidg {p : Prop} (h : p) : Hid p := h
theorem ret_int {k : IntKind} {a b : Int} (h : a = b) : Ending.returned (.int k a) = .returned (.int k b) := by rw [h]
theorem ret_bool {a b : Bool} (h : a = b) : Ending.returned (.bool a) = .returned (.bool b) := by rw [h]

/-- A bool comes back, and where it is true p holds. -/
def BoolRes (p : Prop) (e : Ending) : Prop := ∃ b, e = .returned (.bool b) ∧ (b = true → p)
theorem boolRes_false (p : Prop) : BoolRes p (.returned (.bool false)) := ⟨false, rfl, fun h => by cases h⟩
theorem boolRes_true {p : Prop} (h : p) : BoolRes p (.returned (.bool true)) := ⟨true, rfl, fun _ => h⟩

/-! ### frames -/
theorem grown_refl (w : World) (r : Option Nat) : w.grownBy w r := ⟨rfl, rfl, rfl, Nat.le_refl _, fun _ _ _ => rfl⟩
theorem grown_drew (w : World) (r : Option Nat) : w.grownBy w.drew r := ⟨rfl, rfl, rfl, Nat.le_refl _, fun _ _ _ => rfl⟩
theorem grown_drewN (w : World) (n : Nat) (r : Option Nat) : w.grownBy (w.drewN n) r := ⟨rfl, rfl, rfl, Nat.le_refl _, fun _ _ _ => rfl⟩
/-- Two steps: the second may write the first's row, or a row that is new since. -/
theorem grown_trans {a b c : World} {r s : Option Nat} (h : a.grownBy b r) (k : b.grownBy c s) (hs : s = none ∨ s = r ∨ ∃ g, s = some g ∧ a.heap.size ≤ g) : a.grownBy c r := by
  refine ⟨k.os.trans h.os, k.tape.trans h.tape, k.output.trans h.output, Nat.le_trans h.size k.size, fun i hi hr => ?_⟩
  refine (k.block i (Nat.lt_of_lt_of_le hi h.size) ?_).trans (h.block i hi hr)
  rcases hs with rfl | rfl | ⟨g, rfl, hg⟩
  · simp
  · exact hr
  · simp; omega
theorem grown_step {a b c : World} {r : Option Nat} (h : a.grownBy b r) (k : b.grownBy c none) : a.grownBy c r := grown_trans h k (.inl rfl)
theorem grown_weak {a b : World} (r : Option Nat) (h : a.grownBy b none) : a.grownBy b r := ⟨h.os, h.tape, h.output, h.size, fun i hi _ => h.block i hi (by simp)⟩
theorem grown_below {a b : World} (h : a.grownBy b none) : Below a.heap.size a b := ⟨h.os, h.tape, h.output, h.size, fun i hi => h.block i hi (by simp)⟩
theorem grown_alloc {a b : World} {r : Option Nat} (h : a.grownBy b r) (o : Obj) : a.grownBy (b.alloc o) r := grown_step h (World.grownBy_alloc _ _ _)
theorem grown_set {a b : World} {r : Option Nat} (h : a.grownBy b r) (p : Addr) (u : Value) (hp : a.heap.size ≤ p.block) : a.grownBy (b.setCell p u) r := by
  refine ⟨h.os, h.tape, h.output, ?_, fun i hi hr => ?_⟩
  · have := h.size; simpa [World.setCell] using this
  · rw [Below.heap_setCell _ _ _ _ (by omega)]; exact h.block i hi hr

/-! ### a slice that grows -/
structure Grew (e : TypeId) (w : World) (v : Value) (n : Nat) (w' : World) (v' : Value) : Prop where
  frame : w.grownBy w' v.ownBlock
  place : v'.ownBlock = v.ownBlock ∨ ∃ g, v'.ownBlock = some g ∧ w.heap.size ≤ g
  kept : ∀ g cur, v.ownBlock = some g → w.heap[g]? = some (.cells cur e (0, 0)) → ∃ cur', w'.heap[g]? = some (.cells cur' e (0, 0)) ∧ cur'.size = cur.size ∧ cur'.toList.take n = cur.toList.take n

theorem Grew.refl (e : TypeId) (w : World) (v : Value) (n : Nat) : Grew e w v n w v := ⟨grown_refl _ _, .inl rfl, fun _ cur _ h => ⟨cur, h, rfl, rfl⟩⟩

theorem Grew.trans {e : TypeId} {w w1 w2 : World} {v v1 v2 : Value} {n n1 : Nat} (h : Grew e w v n w1 v1) (k : Grew e w1 v1 n1 w2 v2) (hn : n ≤ n1) : Grew e w v n w2 v2 := by
  refine ⟨grown_trans h.frame k.frame ?_, ?_, ?_⟩
  · rcases h.place with h1 | ⟨g, h1, h2⟩
    · exact .inr (.inl h1)
    · exact .inr (.inr ⟨g, h1, h2⟩)
  · rcases k.place with h1 | ⟨g, h1, h2⟩
    · rw [h1]; exact h.place
    · exact .inr ⟨g, h1, Nat.le_trans h.frame.size h2⟩
  · intro g cur hg hc
    obtain ⟨c1, h1, h2, h3⟩ := h.kept g cur hg hc
    have hlt : g < w.heap.size := (Array.getElem?_eq_some_iff.1 hc).1
    by_cases hb : v1.ownBlock = some g
    · obtain ⟨c2, k1, k2, k3⟩ := k.kept g c1 hb h1
      refine ⟨c2, k1, k2.trans h2, ?_⟩
      have : c2.toList.take n = c1.toList.take n := by
        have := congrArg (List.take n) k3
        rwa [List.take_take, List.take_take, Nat.min_eq_left hn] at this
      rw [this, h3]
    · refine ⟨c1, ?_, h2, h3⟩
      rw [k.frame.block g (Nat.lt_of_lt_of_le hlt h.frame.size) (fun e => hb e.symm)]
      exact h1

/-- A step that turns no old block but for a row that is new. -/
theorem Grew.step {e : TypeId} {w w1 w2 : World} {v v1 : Value} {n : Nat} (h : Grew e w v n w1 v1) (k : w1.grownBy w2 none) : Grew e w v n w2 v1 :=
  h.trans (n1 := n) ⟨grown_weak _ k, .inl rfl, fun g cur _ hc => ⟨cur, by rw [k.block g (Array.getElem?_eq_some_iff.1 hc).1 (by simp)]; exact hc, rfl, rfl⟩⟩ (Nat.le_refl _)

/-- What was owned stays owned as the old value. -/
theorem Grew.old {e : TypeId} {w w' : World} {v v' : Value} {n base : Nat} {xs : List Value} (h : Grew e w v n w' v') (hown : w.ownsRow base e 1 v n xs) : w'.ownsRow base e 1 v n xs := by
  obtain ⟨h1, h2⟩ := hown
  refine ⟨h1, ?_⟩
  rcases h2 with h2 | ⟨g, cap, cur, rfl, hg, hh, r1, r2, r3, r4⟩
  · exact .inl h2
  · obtain ⟨c', k1, k2, k3⟩ := h.kept g cur rfl hh
    exact .inr ⟨g, cap, c', rfl, hg, k1, r1, r2, k2.trans r3, by rw [Nat.mul_one] at r4 ⊢; rw [k3]; exact r4⟩

section
variable {P : Program} (w : World)

theorem run_append_grew (base : Nat) (t ty e : TypeId) (i : TypeInfo) (z : Value) (bytes : Nat) (ht : P.underlying t = some (.slice e)) (hi : P.info? e = some i) (hz : i.zero = some z)
    (hsize : i.size = 1) (hby : i.bytes = bytes) (hzs : z.cells.size = 1)
    (v : Value) (n : Nat) (xs : List Value) (hown : w.ownsRow base e 1 v n xs)
    (a : Addr) (m c : Nat) (news : List Value) (hl : news.length = m) (hnews : ∀ j u, news[j]? = some u → w.cell? (a.add j) = some u) (h1 : ∀ u ∈ news, u.oneCell' = true)
    (h63 : n + m ≤ maxLen) (hbytes : (n + m) * bytes ≤ 140737488355328) (hbase : base ≤ w.heap.size) :
    ∃ v' w', (Builtin.append_ #[t, t] ty #[v, .slice (some a) m c]).run P w = .ok v' w' ∧ w'.ownsRow base e 1 v' (n + m) (xs ++ news) ∧ Grew e w v n w' v' ∧
      (v' = .slice none 0 0 ↔ v = .slice none 0 0 ∧ m = 0) := by
  have hl' : news.length = m * 1 := by omega
  obtain ⟨v', w', hr, h2, h3, h4⟩ := run_append_own (P := P) w base t ty e i z 1 bytes ht hi hz hsize hby hzs (by decide) v n xs hown a m c news hl' hnews h1 h63 hbytes hbase
  refine ⟨v', w', hr, h2, ⟨h3, ?_, ?_⟩, h4⟩
  · -- where it lies
    rcases hown.2 with ⟨rfl, rfl⟩ | ⟨g, cap, cur, rfl, hbg, hg, hnc, hcm, hcs, htake⟩
    · by_cases hm : m = 0
      · exact .inl (by rw [h4.2 ⟨rfl, hm⟩])
      · have hr2 := run_append_nil (P := P) w t ty e i z ht hi hz a m c news (by rw [hsize]; exact hl') hnews (by omega) (by unfold maxLen at h63; omega) (by rw [hby]; simp only [Nat.zero_add] at hbytes; omega)
        rw [hr] at hr2
        injection hr2 with e1 e2
        exact .inr ⟨w.heap.size, by rw [e1]; rfl, Nat.le_refl _⟩
    · by_cases hroom : n + m ≤ cap
      · have hr2 := run_append_room (P := P) w t ty e i ht hi g n cap cur hg a m c news (by rw [hsize]; exact hl') hnews h1 hroom (by rw [hsize]; omega)
        rw [hr] at hr2
        injection hr2 with e1 e2
        exact .inl (by rw [e1]; rfl)
      · have holds : ∀ j u, xs[j]? = some u → w.cell? ((⟨g, 0, none⟩ : Addr).add j) = some u := hown.cells (g := g) rfl
        have hr2 := run_append_grow (P := P) w t ty e i z ht hi hz ⟨g, 0, none⟩ n cap xs (by rw [hsize]; exact hown.1) holds a m c news (by rw [hsize]; exact hl') hnews (by omega) (by unfold maxLen at h63; omega) (by rw [hby]; exact growslice_fits (by omega) hbytes)
        rw [hr] at hr2
        injection hr2 with e1 e2
        exact .inr ⟨w.heap.size, by rw [e1]; rfl, Nat.le_refl _⟩
  · intro g cur hvg hcur
    rcases hown.2 with ⟨rfl, rfl⟩ | ⟨g', cap, cur', rfl, hbg, hg, hnc, hcm, hcs, htake⟩
    · simp [Value.ownBlock] at hvg
    · simp [Value.ownBlock] at hvg
      subst hvg
      rw [hg] at hcur
      simp at hcur
      subst hcur
      by_cases hroom : n + m ≤ cap
      · have hr2 := run_append_room (P := P) w t ty e i ht hi g' n cap cur' hg a m c news (by rw [hsize]; exact hl') hnews h1 hroom (by rw [hsize]; omega)
        rw [hr] at hr2
        injection hr2 with e1 e2
        subst e2
        refine ⟨_, setRow_heap w g' cur' _ e _ hg, ?_, ?_⟩
        · simp only [List.size_toArray, List.length_append, List.length_take, List.length_drop, Array.length_toList, hsize]; omega
        · simp only [hsize, Nat.mul_one, List.append_assoc]
          rw [List.take_append_of_le_length (by simp; omega), List.take_take, Nat.min_self]
      · have holds : ∀ j u, xs[j]? = some u → w.cell? ((⟨g', 0, none⟩ : Addr).add j) = some u := hown.cells (g := g') rfl
        have hr2 := run_append_grow (P := P) w t ty e i z ht hi hz ⟨g', 0, none⟩ n cap xs (by rw [hsize]; exact hown.1) holds a m c news (by rw [hsize]; exact hl') hnews (by omega) (by unfold maxLen at h63; omega) (by rw [hby]; exact growslice_fits (by omega) hbytes)
        rw [hr] at hr2
        injection hr2 with e1 e2
        subst e2
        refine ⟨cur', ?_, rfl, rfl⟩
        rw [Below.heap_alloc w.drew _ g' (Array.getElem?_eq_some_iff.1 hg).1]
        exact hg

theorem run_appendS_grew (base : Nat) (t u ty e : TypeId) (i : TypeInfo) (ht : P.underlying t = some (.slice e)) (hu : P.underlying u = some .string) (hi : P.info? e = some i) (hz : i.zero = some (.int .u8 0))
    (hsize : i.size = 1) (hby : i.bytes = 1)
    (v : Value) (n : Nat) (xs : List Value) (hown : w.ownsRow base e 1 v n xs) (s : ByteArray) (h0 : 0 < s.size)
    (h63 : n + s.size ≤ maxLen) (hbytes : n + s.size ≤ 140737488355328) (hbase : base ≤ w.heap.size) :
    ∃ v' w', (Builtin.append_ #[t, u] ty #[v, .string s]).run P w = .ok v' w' ∧ w'.ownsRow base e 1 v' (n + s.size) (xs ++ Lib.strCells s) ∧ Grew e w v n w' v' := by
  obtain ⟨v', w', hr, h2, h3, h4⟩ := Lib.run_append_own_string (P := P) w base t u ty e i ht hu hi hz hsize hby v n xs hown s h63 hbytes hbase
  refine ⟨v', w', hr, h2, ⟨h3, ?_, ?_⟩⟩
  · rcases hown.2 with ⟨rfl, rfl⟩ | ⟨g, cap, cur, rfl, hbg, hg, hnc, hcm, hcs, htake⟩
    · have hr2 := run_append_nil_string (P := P) w t u ty e i (.int .u8 0) ht hu hi hz s (by omega) (by unfold maxLen at h63; omega) (by rw [hby]; omega)
      rw [hr] at hr2
      injection hr2 with e1 e2
      exact .inr ⟨w.heap.size, by rw [e1]; rfl, Nat.le_refl _⟩
    · by_cases hroom : n + s.size ≤ cap
      · have hr2 := Lib.run_append_room_string (P := P) w t u ty e i ht hu hi hsize g n cap cur hg s hroom (by omega)
        rw [hr] at hr2
        injection hr2 with e1 e2
        exact .inl (by rw [e1]; rfl)
      · have holds : ∀ j u, xs[j]? = some u → w.cell? ((⟨g, 0, none⟩ : Addr).add j) = some u := hown.cells (g := g) rfl
        have hr2 := Lib.run_append_grow_string (P := P) w t u ty e i (.int .u8 0) ht hu hi hz ⟨g, 0, none⟩ n cap xs (by rw [hsize]; exact hown.1) holds s (by omega) (by unfold maxLen at h63; omega) (by rw [hby]; exact growslice_fits (by omega) (by omega))
        rw [hr] at hr2
        injection hr2 with e1 e2
        exact .inr ⟨w.heap.size, by rw [e1]; rfl, Nat.le_refl _⟩
  · intro g cur hvg hcur
    rcases hown.2 with ⟨rfl, rfl⟩ | ⟨g', cap, cur', rfl, hbg, hg, hnc, hcm, hcs, htake⟩
    · simp [Value.ownBlock] at hvg
    · simp [Value.ownBlock] at hvg
      subst hvg
      rw [hg] at hcur
      simp at hcur
      subst hcur
      by_cases hroom : n + s.size ≤ cap
      · have hr2 := Lib.run_append_room_string (P := P) w t u ty e i ht hu hi hsize g' n cap cur' hg s hroom (by omega)
        rw [hr] at hr2
        injection hr2 with e1 e2
        subst e2
        refine ⟨_, setRow_heap w g' cur' _ e _ hg, ?_, ?_⟩
        · simp only [List.size_toArray, List.length_append, List.length_take, List.length_drop, Array.length_toList, Lib.strCells_length]; omega
        · simp only [List.append_assoc]
          rw [List.take_append_of_le_length (by simp; omega), List.take_take, Nat.min_self]
      · have holds : ∀ j u, xs[j]? = some u → w.cell? ((⟨g', 0, none⟩ : Addr).add j) = some u := hown.cells (g := g') rfl
        have hr2 := Lib.run_append_grow_string (P := P) w t u ty e i (.int .u8 0) ht hu hi hz ⟨g', 0, none⟩ n cap xs (by rw [hsize]; exact hown.1) holds s (by omega) (by unfold maxLen at h63; omega) (by rw [hby]; exact growslice_fits (by omega) (by omega))
        rw [hr] at hr2
        injection hr2 with e1 e2
        subst e2
        refine ⟨cur', ?_, rfl, rfl⟩
        rw [Below.heap_alloc w.drew _ g' (Array.getElem?_eq_some_iff.1 hg).1]
        exact hg

/-! ### the operations -/
/-- 'b = append(b, src...)': src a slice of whatever make. -/
theorem op_app {o : Oper} {a : Act} {K : Act → World → Prop} {Q : Exit → Act → World → Prop} (s x : Operand) (t : TypeId)
    (ho : o.op = .call { callee := .builtin .append, args := #[s, x], argTypes := #[t, t] })
    (base : Nat) (e : TypeId) (i : TypeInfo) (z : Value) (bytes : Nat) (ht : P.underlying t = some (.slice e)) (hi : P.info? e = some i) (hz : i.zero = some z)
    (hsize : i.size = 1) (hby : i.bytes = bytes) (hzs : z.cells.size = 1)
    (v : Value) (n : Nat) (xs : List Value) (hown : w.ownsRow base e 1 v n xs) (hs : a.eval s = v)
    (ao : Option Addr) (m c : Nat) (news : List Value) (hx : a.eval x = .slice ao m c) (hl : news.length = m) (hnone : ao = none → m = 0 ∧ c = 0) (hnews : ∀ ad, ao = some ad → ∀ j u, news[j]? = some u → w.cell? (ad.add j) = some u) (h1 : ∀ u ∈ news, u.oneCell' = true)
    (h63 : n + m ≤ maxLen) (hbytes : (n + m) * bytes ≤ 140737488355328) (hbase : base ≤ w.heap.size)
    (h : ∀ v' w', w'.ownsRow base e 1 v' (n + m) (xs ++ news) → Grew e w v n w' v' → (v' = .slice none 0 0 ↔ v = .slice none 0 0 ∧ m = 0) → K (a.put o.dst v') w') : o.wp P a w K Q := by
  cases ao with
  | some ad =>
    obtain ⟨v', w', hr, h2, h3, h4⟩ := run_append_grew (P := P) w base t o.type e i z bytes ht hi hz hsize hby hzs v n xs hown ad m c news hl (hnews ad rfl) h1 h63 hbytes hbase
    unfold Oper.wp execOp
    simp only [ho, resolve, invoke, builtin, Sem.run_bind, Sem.run_pure, Result.andThen_ok, List.map_toArray, List.map_cons, List.map_nil, hs, hx, hr]
    exact h v' w' h2 h3 h4
  | none =>
    obtain ⟨rfl, rfl⟩ := hnone rfl
    obtain rfl : news = [] := List.eq_nil_of_length_eq_zero hl
    have hr := run_append_owned_none (P := P) (w := w) base t o.type e i 1 ht hi v n xs hown
    unfold Oper.wp execOp
    simp only [ho, resolve, invoke, builtin, Sem.run_bind, Sem.run_pure, Result.andThen_ok, List.map_toArray, List.map_cons, List.map_nil, hs, hx, hr]
    exact h v w (by simpa using hown) (Grew.refl _ _ _ _) (by simp)

/-- 'b = append(b, "..."...)'. -/
theorem op_appS {o : Oper} {a : Act} {K : Act → World → Prop} {Q : Exit → Act → World → Prop} (s x : Operand) (t u : TypeId)
    (ho : o.op = .call { callee := .builtin .append, args := #[s, x], argTypes := #[t, u] })
    (base : Nat) (e : TypeId) (i : TypeInfo) (ht : P.underlying t = some (.slice e)) (hu : P.underlying u = some .string) (hi : P.info? e = some i) (hz : i.zero = some (.int .u8 0))
    (hsize : i.size = 1) (hby : i.bytes = 1)
    (v : Value) (n : Nat) (xs : List Value) (hown : w.ownsRow base e 1 v n xs) (hs : a.eval s = v) (str : ByteArray) (hx : a.eval x = .string str) (h0 : 0 < str.size)
    (h63 : n + str.size ≤ maxLen) (hbytes : n + str.size ≤ 140737488355328) (hbase : base ≤ w.heap.size)
    (h : ∀ v' w', w'.ownsRow base e 1 v' (n + str.size) (xs ++ Lib.strCells str) → Grew e w v n w' v' → K (a.put o.dst v') w') : o.wp P a w K Q := by
  obtain ⟨v', w', hr, h2, h3⟩ := run_appendS_grew (P := P) w base t u o.type e i ht hu hi hz hsize hby v n xs hown str h0 h63 hbytes hbase
  unfold Oper.wp execOp
  simp only [ho, resolve, invoke, builtin, Sem.run_bind, Sem.run_pure, Result.andThen_ok, List.map_toArray, List.map_cons, List.map_nil, hs, hx, hr]
  exact h v' w' h2 h3
end

/-- An operation's law in a list of operations. -/
theorem wpList_of {P : Program} {ops : Array Oper} {rest : List Oper} {o : Oper} {a : Act} {w : World} {Q : Exit → Act → World → Prop} (hgd : o.guard = none)
    (h : ∀ K : Act → World → Prop, (∀ a' w', wpList P ops Q rest a' w' → K a' w') → o.wp P a w K Q) : wpList P ops Q (o :: rest) a w :=
  wpList_plain hgd fun K hK => h K hK
/-- An operation's law as one step of a region that draws. -/
theorem step_of {P : Program} {ops : Array Oper} {o : Oper} {a : Act} {w : World} {K : Act → World → Prop} {Q : Exit → Act → World → Prop} {E : Prop} (hg : o.guard = none)
    (h : o.wp P a w K Q) : if Region.wanted o (yielded ops a.tmps) = true then Oper.wp P o a w K Q else E := by
  have hw : Region.wanted o (yielded ops a.tmps) = true := by simp [Region.wanted, hg]
  rw [if_pos hw]
  exact h

theorem Grew.of_alloc {e : TypeId} {w w' : World} {v v' : Value} {n : Nat} {o : Obj} (h : Grew e (w.alloc o) v n w' v') : Grew e w v n w' v' := by
  refine ⟨grown_trans (World.grownBy_alloc w o _) h.frame (.inr (.inl rfl)), ?_, ?_⟩
  · rcases h.place with h1 | ⟨g, h1, h2⟩
    · exact .inl h1
    · exact .inr ⟨g, h1, by simp at h2; omega⟩
  · intro g cur hg hc
    exact h.kept g cur hg (by rw [Below.heap_alloc _ _ _ (Array.getElem?_eq_some_iff.1 hc).1]; exact hc)

theorem cell_new {w : World} {arr : Array Value} {e : TypeId} {j : Nat} {u : Value} (h : arr.toList[j]? = some u) : (w.alloc (.cells arr e)).cell? ((⟨w.heap.size, 0, none⟩ : Addr).add j) = some u := by
  rw [Addr.add_lit, Nat.zero_add]
  rw [cell_of_row _ w.heap.size j arr e (0, 0) (heap_alloc_new w _)]
  simpa using h

/-- 'b = append(b, x, y, ..)' in the world in which the new elements have just been laid. -/
theorem wpList_appK {P : Program} (wr : World) {ops : Array Oper} {rest : List Oper} {o : Oper} {a : Act} {Q : Exit → Act → World → Prop} (hgd : o.guard = none) (s x : Operand) (t : TypeId)
    (ho : o.op = .call { callee := .builtin .append, args := #[s, x], argTypes := #[t, t] })
    (base : Nat) (e : TypeId) (i : TypeInfo) (z : Value) (bytes : Nat) (ht : P.underlying t = some (.slice e)) (hi : P.info? e = some i) (hz : i.zero = some z)
    (hsize : i.size = 1) (hby : i.bytes = bytes) (hzs : z.cells.size = 1)
    (v : Value) (n : Nat) (xs : List Value) (hown : wr.ownsRow base e 1 v n xs) (m : Nat) (arr : Array Value) (hs : a.eval s = v) (hm : arr.size = m) (hx : a.eval x = .slice (some ⟨wr.heap.size, 0, none⟩) m m) (h1 : ∀ u ∈ arr.toList, u.oneCell' = true)
    (h63 : n + m ≤ maxLen) (hbytes : (n + m) * bytes ≤ 140737488355328) (hbase : base ≤ wr.heap.size)
    (h : ∀ v' w', w'.ownsRow base e 1 v' (n + m) (xs ++ arr.toList) → Grew e wr v n w' v' → wpList P ops Q rest (a.put o.dst v') w') : wpList P ops Q (o :: rest) a (wr.alloc (.cells arr e)) := by
  refine wpList_of hgd fun K hK => ?_
  refine op_app _ s x t ho base e i z bytes ht hi hz hsize hby hzs v n xs (hown.alloc _) hs _ m m arr.toList hx (by simpa using hm) (fun h => by cases h) ?_ h1 h63 hbytes (by simp; omega) ?_
  · intro ad had j u hu
    obtain rfl := Option.some.inj had
    exact cell_new hu
  · intro v' w' h2 h3 _
    exact hK _ _ (h v' w' h2 h3.of_alloc)

/-- The same with one element. -/
theorem wpList_app1 {P : Program} (wr : World) {ops : Array Oper} {rest : List Oper} {o : Oper} {a : Act} {Q : Exit → Act → World → Prop} (hgd : o.guard = none) (s x : Operand) (t : TypeId)
    (ho : o.op = .call { callee := .builtin .append, args := #[s, x], argTypes := #[t, t] })
    (base : Nat) (e : TypeId) (i : TypeInfo) (z : Value) (bytes : Nat) (ht : P.underlying t = some (.slice e)) (hi : P.info? e = some i) (hz : i.zero = some z)
    (hsize : i.size = 1) (hby : i.bytes = bytes) (hzs : z.cells.size = 1)
    (v : Value) (n : Nat) (xs : List Value) (hown : wr.ownsRow base e 1 v n xs) (u : Value) (hs : a.eval s = v) (hx : a.eval x = .slice (some ⟨wr.heap.size, 0, none⟩) 1 1) (h1 : u.oneCell' = true)
    (h63 : n + 1 ≤ maxLen) (hbytes : (n + 1) * bytes ≤ 140737488355328) (hbase : base ≤ wr.heap.size)
    (h : ∀ v' w', w'.ownsRow base e 1 v' (n + 1) (xs ++ [u]) → Grew e wr v n w' v' → wpList P ops Q rest (a.put o.dst v') w') : wpList P ops Q (o :: rest) a (wr.alloc (.cells #[u] e)) :=
  wpList_appK wr hgd s x t ho base e i z bytes ht hi hz hsize hby hzs v n xs hown 1 #[u] hs rfl hx (by simpa using h1) h63 hbytes hbase h

/-- 'b = append(b, "..."...)'. -/
theorem wpList_appS {P : Program} (w : World) {ops : Array Oper} {rest : List Oper} {o : Oper} {a : Act} {Q : Exit → Act → World → Prop} (hgd : o.guard = none) (s x : Operand) (t u : TypeId)
    (ho : o.op = .call { callee := .builtin .append, args := #[s, x], argTypes := #[t, u] })
    (base : Nat) (e : TypeId) (i : TypeInfo) (ht : P.underlying t = some (.slice e)) (hu : P.underlying u = some .string) (hi : P.info? e = some i) (hz : i.zero = some (.int .u8 0))
    (hsize : i.size = 1) (hby : i.bytes = 1)
    (v : Value) (n : Nat) (xs : List Value) (hown : w.ownsRow base e 1 v n xs) (str : ByteArray) (hs : a.eval s = v) (hx : a.eval x = .string str) (h0 : 0 < str.size)
    (h63 : n + str.size ≤ maxLen) (hbytes : n + str.size ≤ 140737488355328) (hbase : base ≤ w.heap.size)
    (h : ∀ v' w', w'.ownsRow base e 1 v' (n + str.size) (xs ++ Lib.strCells str) → Grew e w v n w' v' → wpList P ops Q rest (a.put o.dst v') w') : wpList P ops Q (o :: rest) a w :=
  wpList_of hgd fun _ hK => op_appS _ s x t u ho base e i ht hu hi hz hsize hby v n xs hown hs str hx h0 h63 hbytes hbase fun v' w' h2 h3 => hK _ _ (h v' w' h2 h3)

/-! ### slices of integers that are only read -/
structure Sl (w : World) (k : IntKind) (ao : Option Addr) (n cap : Nat) (zs : List Int) : Prop where
  hlen : zs.length = n
  hcap : n ≤ cap
  hnil : ao = none → cap = 0
  hlim : n ≤ 70368744177664
  cells : 0 < n → ∃ b off, ao = some ⟨b, off, none⟩ ∧ ∀ j, j < n → w.cell? ⟨b, off + j, none⟩ = some (.int k (zs.getD j 0))

theorem Sl.nil' (w : World) (k : IntKind) : Sl w k none 0 0 [] := ⟨rfl, Nat.le_refl _, fun _ => rfl, by omega, fun h => by omega⟩

/-- A read-only slice through a step that does not write its block. -/
theorem Sl.step {w w' : World} {k : IntKind} {ao : Option Addr} {n cap : Nat} {zs : List Int} {r : Option Nat} (h : Sl w k ao n cap zs) (hg : w.grownBy w' r) (hne : ∀ g, r = some g → ∀ b off, ao = some ⟨b, off, none⟩ → b ≠ g) : Sl w' k ao n cap zs := by
  refine ⟨h.hlen, h.hcap, h.hnil, h.hlim, fun hn => ?_⟩
  obtain ⟨b, off, hao, hc⟩ := h.cells hn
  refine ⟨b, off, hao, fun j hj => ?_⟩
  refine hg.cell (hc j hj) ?_
  intro hr
  exact hne b hr.symm b off hao rfl
theorem Sl.step0 {w w' : World} {k : IntKind} {ao : Option Addr} {n cap : Nat} {zs : List Int} (h : Sl w k ao n cap zs) (hg : w.grownBy w' none) : Sl w' k ao n cap zs := h.step hg (fun g hg => by cases hg)

/-- What is owned can be read. -/
theorem Sl.of_owns {w : World} {k : IntKind} {base : Nat} {e : TypeId} {ao : Option Addr} {n cap : Nat} {zs : List Int} (h : w.ownsRow base e 1 (.slice ao n cap) n (zs.map (Value.int k))) (hl : n ≤ 70368744177664) : Sl w k ao n cap zs := by
  have hz : zs.length = n := by simpa using h.1
  rcases h.2 with ⟨hv, rfl⟩ | ⟨g, cap', cur, hv, hg, hh, hnc, r⟩
  · injection hv with h1 h2 h3
    subst h1 h3
    exact ⟨hz, Nat.le_refl _, fun _ => rfl, by omega, fun h => by omega⟩
  · injection hv with h1 h2 h3
    subst h1 h3
    refine ⟨hz, hnc, (fun h => by cases h), hl, fun _ => ⟨g, 0, rfl, fun j hj => ?_⟩⟩
    have := h.cells (g := g) rfl j (.int k (zs.getD j 0)) (by simp [List.getD, show j < zs.length by omega])
    rw [Addr.add_lit, Nat.zero_add] at this
    rwa [Nat.zero_add]

/-- A row of the call's own, by its shape. -/
theorem owns_shape {w : World} {base : Nat} {e : TypeId} {v : Value} {n : Nat} {xs : List Value} (h : w.ownsRow base e 1 v n xs) : ∃ ao cap, v = .slice ao n cap ∧ xs.length = n ∧ n ≤ cap ∧ (ao = none → n = 0 ∧ cap = 0) ∧ ∀ b off sp, ao = some ⟨b, off, sp⟩ → base ≤ b ∧ b < w.heap.size ∧ off = 0 ∧ sp = none := by
  obtain ⟨hxl, hsh⟩ := h
  rcases hsh with ⟨rfl, rfl⟩ | ⟨g, cap, cur, rfl, hg, hh, hnc, r⟩
  · exact ⟨none, 0, rfl, by omega, Nat.le_refl _, fun _ => ⟨rfl, rfl⟩, fun _ _ _ h => by cases h⟩
  · refine ⟨_, cap, rfl, by omega, hnc, (fun h => by cases h), fun b off sp he => ?_⟩
    cases he
    exact ⟨hg, (Array.getElem?_eq_some_iff.1 hh).1, rfl, rfl⟩

/-- 'copy(c, b)', c a row of n elements that the call has just made, b of the same length. -/
theorem wpList_copied {P : Program} (w : World) {ops : Array Oper} {rest : List Oper} {o : Oper} {a : Act} {Q : Exit → Act → World → Prop} (hgd : o.guard = none) (d s : Operand) (t : TypeId)
    (ho : o.op = .call { callee := .builtin .copy, args := #[d, s], argTypes := #[t, t] }) (base : Nat) (e : TypeId) (i : TypeInfo) (hu : P.underlying t = some (.slice e)) (hi : P.info? e = some i) (hsize : i.size = 1)
    (g n cap : Nat) (xs : List Value) (hown : w.ownsRow base e 1 (.slice (some ⟨g, 0, none⟩) n cap) n xs) (ao : Option Addr) (c : Nat) (cs : List Value)
    (hd : a.eval d = .slice (some ⟨g, 0, none⟩) n cap) (hs : a.eval s = .slice ao n c) (hn : cs.length = n)
    (hsrc : ∀ ad, ao = some ad → ∀ j v, cs[j]? = some v → w.cell? (ad.add j) = some v) (hnil : ao = none → n = 0) (h1 : ∀ v ∈ cs, v.oneCell' = true)
    (h : ∀ w', w'.ownsRow base e 1 (.slice (some ⟨g, 0, none⟩) n cap) n cs → w.grownBy w' (some g) → wpList P ops Q rest (a.put o.dst (goInt n)) w') : wpList P ops Q (o :: rest) a w := by
  have hsz : (P.info? e).map (·.size) = some 1 := by rw [hi]; simp [hsize]
  refine wpList_of hgd fun K hK => ?_
  by_cases h0 : n = 0
  · subst h0
    obtain rfl : cs = [] := List.eq_nil_of_length_eq_zero hn
    have hrun := run_copy_none (P := P) w t t o.type e (some ⟨g, 0, none⟩) ao 0 cap 0 c hu hsz (by simp)
    unfold Oper.wp
    simp [execOp, ho, resolve, invoke, builtin, hd, hs, hrun, Result.andThen]
    refine hK _ _ (h w ?_ (grown_refl _ _))
    have hx : xs = [] := List.eq_nil_of_length_eq_zero (by simpa using hown.1)
    rwa [hx] at hown
  · cases ao with
    | none => exact absurd (hnil rfl) h0
    | some ad =>
      rcases hown.2 with ⟨hv, _⟩ | ⟨g', cap', cur, hv, hbg, hg, hnc, hcm, hcs, htake⟩
      · cases hv
      · cases hv
        have hrun := run_copy_row (P := P) w t t o.type e g 0 n cap ad n c cur e cs hu hsz hg (by simp [hn]) (hsrc ad rfl) (by omega) h1
        unfold Oper.wp
        simp [execOp, ho, resolve, invoke, builtin, hd, hs, hrun, Result.andThen]
        rw [hn]
        refine hK _ _ (h _ ⟨by omega, .inr ⟨g, cap, _, rfl, hbg, setRow_heap w g cur _ e _ hg, hnc, hcm, ?_, ?_⟩⟩ ⟨rfl, rfl, rfl, by simp, fun k _ hk => setRow_other w g k _ (fun e => hk (by simp [e]))⟩)
        · simp; omega
        · simp [← hn]

theorem Grew.of_drew {e : TypeId} {w w' : World} {v v' : Value} {n : Nat} (h : Grew e w.drew v n w' v') : Grew e w v n w' v' := ⟨⟨h.frame.os, h.frame.tape, h.frame.output, h.frame.size, h.frame.block⟩, h.place, h.kept⟩

/-- 'wpList_appK' as one step of a region that draws. -/
theorem step_appK {P : Program} (wr : World) {ops : Array Oper} {o : Oper} {a : Act} {K : Act → World → Prop} {Q : Exit → Act → World → Prop} {E : Prop} (hgd : o.guard = none) (s x : Operand) (t : TypeId)
    (ho : o.op = .call { callee := .builtin .append, args := #[s, x], argTypes := #[t, t] })
    (base : Nat) (e : TypeId) (i : TypeInfo) (z : Value) (bytes : Nat) (ht : P.underlying t = some (.slice e)) (hi : P.info? e = some i) (hz : i.zero = some z)
    (hsize : i.size = 1) (hby : i.bytes = bytes) (hzs : z.cells.size = 1)
    (v : Value) (n : Nat) (xs : List Value) (hown : wr.ownsRow base e 1 v n xs) (m : Nat) (arr : Array Value) (hs : a.eval s = v) (hm : arr.size = m) (hx : a.eval x = .slice (some ⟨wr.heap.size, 0, none⟩) m m) (h1 : ∀ u ∈ arr.toList, u.oneCell' = true)
    (h63 : n + m ≤ maxLen) (hbytes : (n + m) * bytes ≤ 140737488355328) (hbase : base ≤ wr.heap.size)
    (h : ∀ v' w', w'.ownsRow base e 1 v' (n + m) (xs ++ arr.toList) → Grew e wr v n w' v' → K (a.put o.dst v') w') :
    if Region.wanted o (yielded ops a.tmps) = true then Oper.wp P o a (wr.alloc (.cells arr e)).drew K Q else E := by
  refine step_of hgd ?_
  refine op_app _ s x t ho base e i z bytes ht hi hz hsize hby hzs v n xs (hown.alloc _).drew hs _ m m arr.toList hx (by simpa using hm) (fun h => by cases h) ?_ h1 h63 hbytes (by simp; omega) ?_
  · intro ad had j u hu
    obtain rfl := Option.some.inj had
    exact cell_new (w := wr) hu
  · intro v' w' h2 h3 _
    exact h v' w' h2 h3.of_drew.of_alloc
end Go.Proofs.Qxb6604255a
