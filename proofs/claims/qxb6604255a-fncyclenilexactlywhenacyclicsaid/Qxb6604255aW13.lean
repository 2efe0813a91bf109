import Derived.Test.Qxb6604255aW11
namespace Go.Proofs.Qxb6604255a
open Go.RowKit
set_option linter.unusedVariables false

theorem new_cell (w : World) (c : Array Value) (t : TypeId) (j : Nat) (v : Value) (h : c[j]? = some v) : (w.alloc (.cells c t)).cell? ⟨w.heap.size, j, none⟩ = some v := by
  have hh : (w.alloc (.cells c t)).heap[w.heap.size]? = some (.cells c t) := by
    show (w.heap.push (.cells c t))[w.heap.size]? = _
    exact Array.getElem?_push_size
  unfold World.cell?
  rw [hh]
  simpa using h

set_option maxHeartbeats 3200000 in
set_option maxRecDepth 100000 in
theorem zz9 (G : Gr) (s : Nat) (fa sa : Option Addr) (fc ns sc : Nat) (w : World) (hG : GrAt G w fa sa fc ns sc) (hP : Plainly sa) (hs : s < G.nreal) (C0 : Nat) (hcl : G.closed s C0) :
    Calls Try.prog 9 #[.int .i64 G.nreal, .slice fa (G.n + 1) fc, .slice sa ns sc, .int .i64 s] w fun e w' => ShortRes G s w e w' := by
  have hg : w.grownBy (w.alloc (.cells #[.int .i64 G.nreal, .slice fa (G.n + 1) fc, .slice sa ns sc] 34)) none := World.grownBy_alloc _ _ _
  have hD : DgAt G (w.alloc (.cells #[.int .i64 G.nreal, .slice fa (G.n + 1) fc, .slice sa ns sc] 34)) w.heap.size fa sa fc ns sc := ⟨new_cell _ _ _ _ _ rfl, new_cell _ _ _ _ _ rfl, new_cell _ _ _ _ _ rfl⟩
  have H := hidg (short16 G s w.heap.size fa sa fc ns sc _ hD (hG.step0 hg) hP hs C0 hcl)
  have HG := hidg hg
  clear hg hD hG hP hcl
  go_enter Try.func9, Try.ntmps9
  go_wp2_with fail
  refine H.out.mono ?_
  rintro e w' ⟨v, C, rfl, h2, h3, h4, h5, h6⟩
  have E : Hid (ShortRes G s w (.returned v) w') := ⟨v, C, rfl, owns_base h2 HG.out.size, h3, h4, h5, grown_step HG.out h6⟩
  clear h2 h3 h4 h5 h6 H HG
  go_wp2
  go_ret
  exact E.out

/-- A copy of a slice of int32. -/
theorem copy_sl {w : World} {base g n cap : Nat} {F : List Int} (h : w.ownsRow base 21 1 (.slice (some ⟨g, 0, none⟩) n cap) n (F.map (Value.int .i32))) (hn : n ≤ 5000) : Sl w .i32 (some ⟨g, 0, none⟩) n cap F := Sl.of_owns h (by omega)
theorem i32_one (F : List Int) : ∀ v ∈ F.map (Value.int .i32), v.oneCell' = true := by
  intro u hu
  obtain ⟨x, _, rfl⟩ := List.mem_map.1 hu
  rfl
theorem sl_src {w : World} {fa : Option Addr} {n cap : Nat} {F : List Int} (h : Sl w .i32 fa n cap F) : ∀ ad, fa = some ad → ∀ (j : Nat) (v : Value), (F.map (Value.int .i32))[j]? = some v → w.cell? (ad.add j) = some v := by
  intro ad had j v hv
  have hj : j < F.length := by have := (List.getElem?_eq_some_iff.1 hv).1; rwa [List.length_map] at this
  have hl := h.hlen
  obtain ⟨b, off, hao, hc⟩ := h.cells (by omega)
  rw [hao] at had
  cases had
  rw [Addr.add_lit, hc j (by omega), ← hv]
  simp [hj]

theorem lawtail_len {G : Gr} {s m n : Nat} (h1 : G.least s m) (h2 : G.least s n) : m = n := Nat.le_antisymm (h1.2 n h2.1) (h2.2 m h1.1)
end Go.Proofs.Qxb6604255a
