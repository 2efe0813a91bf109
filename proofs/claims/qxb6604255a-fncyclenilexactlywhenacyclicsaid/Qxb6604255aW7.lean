import Derived.Test.Qxb6604255aW6
import Derived.Test.Qxb6604255aPlain4
import Derived.Test.Qxb6604255aShelf
import Derived.Laws.IdiomCopy
namespace Go.Proofs.Qxb6604255a
open Go.RowKit
set_option linter.unusedVariables false

/-! ### what Min and Index answer -/
theorem foldl_min (zs : List Int) : ∀ a : Int, (zs.foldl min a ≤ a ∧ ∀ z, z ∈ zs → zs.foldl min a ≤ z) ∧ (zs.foldl min a = a ∨ zs.foldl min a ∈ zs) := by
  induction zs with
  | nil => intro a; exact ⟨⟨Int.le_refl _, fun z hz => by cases hz⟩, .inl rfl⟩
  | cons y ys ih =>
    intro a
    obtain ⟨⟨h1, h2⟩, h3⟩ := ih (min a y)
    rw [List.foldl_cons]
    refine ⟨⟨by omega, fun z hz => ?_⟩, ?_⟩
    · rcases List.mem_cons.1 hz with rfl | hz
      · omega
      · exact h2 z hz
    · rcases h3 with h3 | h3
      · rw [h3]
        by_cases h : a ≤ y
        · exact .inl (by omega)
        · exact .inr (by rw [show min a y = y by omega]; simp)
      · exact .inr (by simp [h3])
theorem minOf_spec (zs : List Int) (h : 0 < zs.length) : Lib.minOf zs ∈ zs ∧ ∀ z, z ∈ zs → Lib.minOf zs ≤ z := by
  cases zs with
  | nil => simp at h
  | cons y ys =>
    obtain ⟨⟨h1, h2⟩, h3⟩ := foldl_min (y :: ys) y
    have e : Lib.minOf (y :: ys) = (y :: ys).foldl min y := rfl
    rw [e]
    refine ⟨?_, h2⟩
    rcases h3 with h3 | h3
    · rw [h3]; simp
    · exact h3
theorem idxOf_spec (zs : List Int) (x : Int) (h : x ∈ zs) : ∃ t, t < zs.length ∧ zs.getD t 0 = x ∧ Lib.idxOf zs x = t := by
  have hex : ∃ t, t < zs.length ∧ zs.getD t 0 = x := by
    obtain ⟨t, ht, hx⟩ := List.getElem_of_mem h
    exact ⟨t, ht, by rw [List.getD_eq_getElem?_getD, List.getElem?_eq_getElem ht]; exact hx⟩
  obtain ⟨t, ⟨ht, hx⟩, hmin⟩ := exists_least hex
  have := Lib.idxOf_hit zs zs.length t x ht (Nat.le_refl _) hx (fun j hj he => by have := hmin j ⟨by omega, he⟩; omega)
  rw [List.take_length] at this
  exact ⟨t, ht, hx, this⟩

def IntsOf (B : List Nat) : List Int := B.map (fun (x : Nat) => (x : Int))
theorem intsOf_len (B : List Nat) : (IntsOf B).length = B.length := by simp [IntsOf]
theorem intsOf_get (B : List Nat) (j : Nat) : (IntsOf B).getD j 0 = ((B.getD j 0 : Nat) : Int) := by
  simp only [IntsOf, List.getD_eq_getElem?_getD, List.getElem?_map]
  cases B[j]? <;> rfl
/-- The place of the smallest. -/
theorem small_spec (B : List Nat) (h : 0 < B.length) : ∃ t, t < B.length ∧ Lib.idxOf (IntsOf B) (Lib.minOf (IntsOf B)) = t ∧ ∀ x, x ∈ B → B.getD t 0 ≤ x := by
  obtain ⟨h1, h2⟩ := minOf_spec (IntsOf B) (by rw [intsOf_len]; exact h)
  obtain ⟨t, ht, hx, hi⟩ := idxOf_spec _ _ h1
  rw [intsOf_len] at ht
  refine ⟨t, ht, hi, fun x hxB => ?_⟩
  have := h2 (x : Int) (List.mem_map.2 ⟨x, hxB, rfl⟩)
  rw [← hx, intsOf_get] at this
  omega

/-! ### Reverse -/
theorem setCells_grown (b : Nat) : ∀ (vs : List Value) (o : Nat) (a w : World), a.grownBy w (some b) → a.grownBy (w.setCells b o vs) (some b)
  | [], o, a, w, h => h
  | v :: vs, o, a, w, h => setCells_grown b vs (o + 1) a (w.setCell ⟨b, o, none⟩ v) (grown_setR h o v)

/-- The row behind slices.Reverse. -/
def RevRes (w : World) (b : Nat) (B : List Nat) (e : Ending) (w' : World) : Prop := e = .returned (.tuple #[]) ∧ ListAt w' b B.reverse ∧ w.grownBy w' (some b)

theorem reverse21 (b c : Nat) (B : List Nat) (w : World) (hl : B.length ≤ 10000) (hc : ListAt w b B) (hf : ∀ j, j < B.length → w.frozen? ⟨b, j, none⟩ = false) :
    Calls Try.prog 21 #[.slice (some ⟨b, 0, none⟩) B.length c] w fun e w' => RevRes w b B e w' := by
  refine (Try.slices_Reverse_int_cells b 0 B.length c (IntsOf B) w (by rw [intsOf_len]; exact Nat.le_refl _) (by omega) (fun j hj => ?_) (fun j hj => by rw [Nat.zero_add]; exact hf j hj)).mono ?_
  · rw [Nat.zero_add, intsOf_get]; exact hc j (by rw [intsOf_len] at hj; exact hj)
  · rintro e w' ⟨rfl, q, rfl⟩
    have ht : (IntsOf B).take B.length = IntsOf B := by rw [← intsOf_len B, List.take_length]
    have hr : (IntsOf B).reverse = IntsOf B.reverse := by simp [IntsOf]
    rw [ht, hr]
    have hlen : ((IntsOf B.reverse).map (Value.int .i64)).length = B.length := by rw [List.length_map, intsOf_len, List.length_reverse]
    refine ⟨rfl, fun j hj => ?_, setCells_grown b _ _ _ _ (grown_drewN w q _)⟩
    rw [List.length_reverse] at hj
    have := World.cell?_setCells_in b ((IntsOf B.reverse).map (Value.int .i64)) 0 (w.drewN q) (fun i hi => by
      rw [hlen] at hi
      have hi2 := hc i hi
      rw [Nat.zero_add]
      have : (w.drewN q).cell? ⟨b, i, none⟩ = w.cell? ⟨b, i, none⟩ := rfl
      rw [this, hi2]; rfl) j (by rw [hlen]; exact hj)
    rw [Nat.zero_add] at this
    rw [this]
    congr 1
    rw [List.getElem_map]
    congr 1
    rw [← intsOf_get, List.getD_eq_getElem?_getD, List.getElem?_eq_getElem]
    rfl
end Go.Proofs.Qxb6604255a
