/-
  THE PLAIN LAWS OF READING BACK. No Go in sight.
-/
import Derived.Test.Qxb6603741aPlain2
namespace Go.Proofs.Qxb6603741a

theorem scanL_append : ∀ (A B : List Int) (n : Nat), scanL A = some n → scanL (A ++ B) = some n := by
  intro A
  induction A using scanL.induct with
  | case1 => intro B n h; simp [scanL] at h
  | case2 => intro B n h; simp [scanL] at h; subst h; exact scanL_quote B
  | case3 c hc => intro B n h; simp [scanL, hc] at h
  | case4 d r => intro B n h; rw [scanL_quote] at h; rw [← h]; exact scanL_quote _
  | case5 d r _ ih =>
    intro B n h
    rw [scanL_back] at h
    simp only [List.drop_succ_cons, List.drop_zero, Option.map_eq_some_iff] at h
    obtain ⟨q, hq, rfl⟩ := h
    rw [List.cons_append, List.cons_append, scanL_back]
    simp only [List.drop_succ_cons, List.drop_zero]
    rw [ih B q hq]; rfl
  | case6 c d r h1 h2 ih =>
    intro B n h
    rw [scanL_other c _ h1 h2] at h
    simp only [Option.map_eq_some_iff] at h
    obtain ⟨q, hq, rfl⟩ := h
    rw [List.cons_append, scanL_other c _ h1 h2, ih B q hq]; rfl

/-- O from p on is D. -/
theorem at_drop {O D : List Int} {p : Nat} (h : O.drop p = D) (j : Nat) : O.getD (p + j) 0 = D.getD j 0 := by rw [← h, getD_drop]
theorem len_drop {O D : List Int} {p : Nat} (h : O.drop p = D) (hD : D ≠ []) : O.length = p + D.length := by
  have h1 := congrArg List.length h
  rw [List.length_drop] at h1
  have : 0 < D.length := List.length_pos_iff.2 hD
  omega
theorem drop_app {O A B : List Int} {p : Nat} (h : O.drop p = A ++ B) : O.drop (p + A.length) = B := by
  rw [← List.drop_drop, h, List.drop_left]
theorem sub_drop {O A B : List Int} {p : Nat} (h : O.drop p = A ++ B) : sub O p ((p : Int) + (A.length : Int)) = A := by
  unfold sub
  rw [show ((p : Int) + (A.length : Int)).toNat = p + A.length by omega, Int.toNat_natCast, List.drop_take, h, Nat.add_sub_cancel_left, List.take_left]
theorem take_drop_len {O D : List Int} {p : Nat} (h : O.drop p = D) (hD : D ≠ []) : (O.take p).length = p := by
  have := len_drop h hD
  simp; omega

theorem scanR_drop_quote {O S B : List Int} {p : Nat} (h : O.drop p = quote S ++ B) (hb : ∀ b ∈ S, 0 ≤ b) : scanR O p = ((p + (quote S).length : Nat) : Int) := by
  have hne : quote S ++ B ≠ [] := by simp [quote]
  have h1 := scanR_quote (O.take p) S B hb
  rw [take_drop_len h hne, List.append_assoc, ← h, List.take_append_drop] at h1
  exact h1
theorem scanR_drop_tok {O A B : List Int} {p : Nat} (h : O.drop p = A ++ B) (hA : 0 < A.length) (h34 : A.getD 0 0 = 34) (hs : scanR A 0 = (A.length : Int)) : scanR O p = ((p + A.length : Nat) : Int) := by
  have hne : A ++ B ≠ [] := by intro hh; have := congrArg List.length hh; simp at this; rw [this.1] at hA; simp at hA
  have hl := len_drop h hne
  rw [List.length_append] at hl
  have h0 : O.getD p 0 = 34 := by
    have := at_drop h 0
    rw [Nat.add_zero] at this
    rw [this, ← h34]
    unfold List.getD
    rw [List.getElem?_append_left hA]
  rw [scanR_eq, if_pos ⟨by omega, h0⟩]
  rw [scanR_eq, if_pos ⟨hA, h34⟩] at hs
  have h1 : O.drop (p + 1) = A.drop 1 ++ B := by
    rw [← List.drop_drop, h, List.drop_append_of_le_length (by omega)]
  unfold scanAt at hs ⊢
  rw [h1]
  cases hq : scanL (A.drop 1) with
  | none => rw [Nat.zero_add, hq] at hs; simp [optI] at hs
  | some q =>
    rw [Nat.zero_add, hq] at hs
    simp [optI] at hs
    rw [scanL_append _ _ _ hq]
    simp [optI]; omega

/-- What follows the member j, d more behind it. -/
def restOf (g : Nat → List Int) (fin : List Int) : Nat → Nat → List Int
  | _, 0 => fin
  | j, d + 1 => 44 :: (g (j + 1) ++ restOf g fin (j + 1) d)
theorem kidsTo_rest (g : Nat → List Int) (fin : List Int) (s : Nat) : ∀ d c, kidsTo g s (c + 1 + d) ++ fin = kidsTo g s (c + 1) ++ restOf g fin (s + c) d := by
  intro d
  induction d with
  | zero => intro c; rfl
  | succ d ih =>
    intro c
    have h := ih (c + 1)
    rw [show c + 1 + (d + 1) = c + 1 + 1 + d by omega, h, kidsTo, if_neg (by omega), restOf]
    simp [List.append_assoc, Nat.add_assoc]
theorem kids_all (g : Nat → List Int) (fin : List Int) (s n : Nat) (h : 0 < n) : kidsTo g s n ++ fin = g s ++ restOf g fin s (n - 1) := by
  have h1 := kidsTo_rest g fin s (n - 1) 0
  rw [show 0 + 1 + (n - 1) = n by omega, Nat.add_zero] at h1
  rw [h1]
  simp [kidsTo]

/-- What may stand behind a value. -/
def EndOK (l : List Int) : Prop := l = [] ∨ l.getD 0 0 = 44 ∨ l.getD 0 0 = 93 ∨ l.getD 0 0 = 125
theorem end_rest (g : Nat → List Int) (k : Int) (post : List Int) (j d : Nat) : EndOK (restOf g (clo k :: post) j d) := by
  cases d with
  | zero => right; right; unfold restOf clo; split <;> simp
  | succ d => right; left; simp [restOf]
end Go.Proofs.Qxb6603741a
