import Derived.Test.Qxb6604255aPlain2
namespace Go.Proofs.Qxb6604255a
set_option linter.unusedVariables false

/-! ### rotated -/
/-- The nodes below nr on the way back from u to s. -/
def back (nr s : Nat) (frm : Nat → Int) : Nat → Nat → List Nat
  | 0, _ => [s]
  | d + 1, u => if u < nr then u :: back nr s frm d (frm u).toNat else back nr s frm d (frm u).toNat

structure BackOk (G : Gr) (s : Nat) (cost : Nat → Int) (u : Nat) (B : List Nat) : Prop where
  len : (B.length : Int) = cost u + 1
  real : ∀ x, x ∈ B → x < G.nreal
  low : ∀ x, x ∈ B → cost x ≤ cost u
  nodup : B.Nodup
  chain : ∀ i, i + 1 < B.length → G.link (B.getD (i + 1) 0) (B.getD i 0)
  head : ∃ k, G.thru (B.getD 0 0) k u
  last : B.getD (B.length - 1) 0 = s

theorem back_ok {G : Gr} {s : Nat} {cost frm : Nat → Int} {d : Nat → Nat} (ht : G.tree s cost frm d) (hs : s < G.nreal) (hc : cost s = 0) :
    ∀ k u, u < G.n → 0 ≤ cost u → d u = k → BackOk G s cost u (back G.nreal s frm k u) := by
  intro k
  induction k with
  | zero =>
    intro u hu h0 hd
    by_cases hus : u = s
    · subst hus
      refine ⟨by simp [back, hc], fun x hx => ?_, fun x hx => ?_, by simp [back], fun i hi => ?_, ⟨0, by simp [back, Gr.thru]⟩, by simp [back]⟩
      · obtain rfl : x = u := by simpa [back] using hx
        exact hs
      · obtain rfl : x = u := by simpa [back] using hx
        exact Int.le_refl _
      · simp [back] at hi
    · obtain ⟨p, _, _, _, _, _, h5⟩ := ht.2 u hu hus h0
      omega
  | succ k ih =>
    intro u hu h0 hd
    have hus : u ≠ s := fun e => by subst e; have := ht.1; omega
    obtain ⟨p, hp, hf, he, hp0, hcp, hdp⟩ := ht.2 u hu hus h0
    have hft : (frm u).toNat = p := by rw [hf]; simp
    have hB := ih p hp hp0 (by omega)
    unfold back
    rw [hft]
    by_cases hr : u < G.nreal
    · rw [if_pos hr]
      rw [Gr.wt_real hr] at hcp
      have hposB : 0 < (back G.nreal s frm k p).length := by have := hB.len; omega
      refine ⟨?_, ?_, ?_, ?_, ?_, ⟨0, by simp [Gr.thru]⟩, ?_⟩
      · simp only [List.length_cons]; have := hB.len; omega
      · intro x hx
        rcases List.mem_cons.1 hx with rfl | hx
        · exact hr
        · exact hB.real x hx
      · intro x hx
        rcases List.mem_cons.1 hx with rfl | hx
        · exact Int.le_refl _
        · have := hB.low x hx; omega
      · refine List.nodup_cons.2 ⟨fun hm => ?_, hB.nodup⟩
        have := hB.low u hm
        omega
      · intro i hi
        cases i with
        | zero =>
          obtain ⟨j, hj⟩ := hB.head
          exact ⟨j, p, by simpa using hj, by simpa using he⟩
        | succ i =>
          have := hB.chain i (by simpa using hi)
          simpa using this
      · have := hB.last
        simp only [List.length_cons, Nat.add_sub_cancel]
        obtain ⟨m, hm⟩ : ∃ m, (back G.nreal s frm k p).length = m + 1 := ⟨_, (Nat.succ_pred_eq_of_pos hposB).symm⟩
        rw [hm] at this ⊢
        simpa using this
    · rw [if_neg hr]
      rw [Gr.wt_other hr] at hcp
      obtain ⟨j, hj⟩ := hB.head
      exact ⟨by have := hB.len; omega, hB.real, fun x hx => by have := hB.low x hx; omega, hB.nodup, hB.chain, ⟨j + 1, p, hj, he, hr⟩, hB.last⟩

/-- A ring of nodes below nreal, each linked to the next. -/
structure Gr.Ring (G : Gr) (C : List Nat) : Prop where
  pos : 0 < C.length
  real : ∀ x, x ∈ C → x < G.nreal
  nodup : C.Nodup
  link : ∀ i, i < C.length → G.link (C.getD i 0) (C.getD ((i + 1) % C.length) 0)

theorem rev_get (B : List Nat) (i : Nat) (h : i < B.length) : B.reverse.getD i 0 = B.getD (B.length - 1 - i) 0 := by
  rw [List.getD_eq_getElem?_getD, List.getD_eq_getElem?_getD, List.getElem?_reverse h]

theorem ring_of {G : Gr} {s u : Nat} {cost : Nat → Int} {B : List Nat} (h : BackOk G s cost u B) (h0 : 0 ≤ cost u) (he : G.edge u s) : G.Ring B.reverse := by
  have hlen := h.len
  have hpos : 0 < B.length := by omega
  refine ⟨by simpa using hpos, fun x hx => h.real x (by simpa using hx), ((List.reverse_perm B).nodup_iff).2 h.nodup, fun i hi => ?_⟩
  rw [List.length_reverse] at hi ⊢
  rw [rev_get _ _ hi, rev_get _ _ (Nat.mod_lt _ hpos)]
  by_cases hl : i + 1 < B.length
  · rw [Nat.mod_eq_of_lt hl]
    have := h.chain (B.length - 1 - (i + 1)) (by omega)
    rw [show B.length - 1 - (i + 1) + 1 = B.length - 1 - i by omega] at this
    exact this
  · have e : i + 1 = B.length := by omega
    rw [e, Nat.mod_self, Nat.sub_zero, h.last, show B.length - 1 - i = 0 by omega]
    obtain ⟨j, hj⟩ := h.head
    exact ⟨j, u, hj, he⟩

theorem rot_len (C : List Nat) (t : Nat) (ht : t ≤ C.length) : (C.drop t ++ C.take t).length = C.length := by simp; omega
theorem rot_get (C : List Nat) (t i : Nat) (ht : t < C.length) (hi : i < C.length) : (C.drop t ++ C.take t).getD i 0 = C.getD ((i + t) % C.length) 0 := by
  rw [List.getD_eq_getElem?_getD, List.getD_eq_getElem?_getD]
  by_cases h : i + t < C.length
  · rw [Nat.mod_eq_of_lt h, List.getElem?_append_left (by simp; omega), List.getElem?_drop, Nat.add_comm]
  · rw [Nat.mod_eq_sub_mod (by omega), Nat.mod_eq_of_lt (by omega), List.getElem?_append_right (by simp; omega), List.length_drop, List.getElem?_take_of_lt (by omega), show i - (C.length - t) = i + t - C.length by omega]
theorem rot_valid {G : Gr} {C : List Nat} (h : G.Ring C) (t : Nat) (ht : t < C.length) (hm : ∀ x, x ∈ C → C.getD t 0 ≤ x) : G.Valid (C.drop t ++ C.take t) := by
  have hl := rot_len C t (by omega)
  have hmem : ∀ x, x ∈ C.drop t ++ C.take t ↔ x ∈ C := by
    intro x
    rw [List.mem_append, Or.comm, ← List.mem_append, List.take_append_drop]
  refine ⟨by rw [hl]; exact h.pos, fun x hx => h.real x ((hmem x).1 hx), ?_, fun x hx => ?_, fun i hi => ?_⟩
  · have := h.nodup
    rw [← List.take_append_drop t C] at this
    exact (List.perm_append_comm.nodup_iff).1 this
  · rw [rot_get C t 0 ht h.pos, Nat.zero_add, Nat.mod_eq_of_lt ht]
    exact hm x ((hmem x).1 hx)
  · rw [hl] at hi ⊢
    rw [rot_get C t i ht hi, rot_get C t _ ht (Nat.mod_lt _ h.pos)]
    have := h.link ((i + t) % C.length) (Nat.mod_lt _ h.pos)
    rw [show ((i + 1) % C.length + t) % C.length = ((i + t) % C.length + 1) % C.length by rw [Nat.mod_add_mod, Nat.mod_add_mod]; congr 1; omega]
    exact this
end Go.Proofs.Qxb6604255a
